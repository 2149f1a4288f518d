import Derived.Test.Qxb6600977aW4
set_option linter.unusedVariables false
set_option linter.unusedSimpArgs false
namespace Go.Proofs.Qxb6600977a
open Go.RowKit

/-! ### The four addresses that set was handed, in variables of its own -/
structure Boxes (w : World) (B fh fl lh ll oh ol ih il : Nat) : Prop where
  b0 : w.heap[B]? = some (.cells #[.int .u64 (fh : Int), .int .u64 (fl : Int)] 62 (0, 0))
  b1 : w.heap[B + 1]? = some (.cells #[.int .u64 (lh : Int), .int .u64 (ll : Int)] 62 (0, 0))
  b2 : w.heap[B + 2]? = some (.cells #[.int .u64 (oh : Int), .int .u64 (ol : Int)] 62 (0, 0))
  b3 : w.heap[B + 3]? = some (.cells #[.int .u64 (ih : Int), .int .u64 (il : Int)] 62 (0, 0))

section
variable {w w' : World} {B fh fl lh ll oh ol ih il : Nat}
theorem Boxes.lt (h : Boxes w B fh fl lh ll oh ol ih il) : B + 3 < w.heap.size := lt_of_heap h.b3
theorem Boxes.below (h : Boxes w B fh fl lh ll oh ol ih il) (hb : Below w.heap.size w w') : Boxes w' B fh fl lh ll oh ol ih il := by
  have := h.lt
  exact ⟨by rw [hb.block _ (by omega)]; exact h.b0, by rw [hb.block _ (by omega)]; exact h.b1, by rw [hb.block _ (by omega)]; exact h.b2, by rw [hb.block _ (by omega)]; exact h.b3⟩
theorem Boxes.step {own own' : Nat → Prop} (h : Boxes w B fh fl lh ll oh ol ih il) (hs : Step own own' w w') (ho : ∀ k, own k → k < B ∨ B + 3 < k) : Boxes w' B fh fl lh ll oh ol ih il := by
  have := h.lt
  have ne : ∀ j, j ≤ 3 → ¬ own (B + j) := fun j hj h' => by have := ho _ h'; omega
  exact ⟨by rw [hs.block B (by omega) (ne 0 (by omega))]; exact h.b0, by rw [hs.block _ (by omega) (ne 1 (by omega))]; exact h.b1, by rw [hs.block _ (by omega) (ne 2 (by omega))]; exact h.b2, by rw [hs.block _ (by omega) (ne 3 (by omega))]; exact h.b3⟩
theorem Boxes.cells (h : Boxes w B fh fl lh ll oh ol ih il) :
    w.cell? ⟨B, 0, none⟩ = some (.int .u64 (fh : Int)) ∧ w.cell? ⟨B, 1, none⟩ = some (.int .u64 (fl : Int)) ∧ w.cell? ⟨B + 1, 0, none⟩ = some (.int .u64 (lh : Int)) ∧ w.cell? ⟨B + 1, 1, none⟩ = some (.int .u64 (ll : Int)) ∧
    w.cell? ⟨B + 2, 0, none⟩ = some (.int .u64 (oh : Int)) ∧ w.cell? ⟨B + 2, 1, none⟩ = some (.int .u64 (ol : Int)) ∧ w.cell? ⟨B + 3, 0, none⟩ = some (.int .u64 (ih : Int)) ∧ w.cell? ⟨B + 3, 1, none⟩ = some (.int .u64 (il : Int)) :=
  ⟨by rw [cell_of_heap h.b0]; rfl, by rw [cell_of_heap h.b0]; rfl, by rw [cell_of_heap h.b1]; rfl, by rw [cell_of_heap h.b1]; rfl, by rw [cell_of_heap h.b2]; rfl, by rw [cell_of_heap h.b2]; rfl, by rw [cell_of_heap h.b3]; rfl, by rw [cell_of_heap h.b3]; rfl⟩
end

def boxWorld (w : World) (fh fl lh ll oh ol ih il : Nat) : World :=
  (((w.alloc (.cells #[.int .u64 (fh : Int), .int .u64 (fl : Int)] 62)).alloc (.cells #[.int .u64 (lh : Int), .int .u64 (ll : Int)] 62)).alloc (.cells #[.int .u64 (oh : Int), .int .u64 (ol : Int)] 62)).alloc (.cells #[.int .u64 (ih : Int), .int .u64 (il : Int)] 62)
theorem boxWorld_boxes (w : World) (fh fl lh ll oh ol ih il : Nat) : Boxes (boxWorld w fh fl lh ll oh ol ih il) w.heap.size fh fl lh ll oh ol ih il := by
  constructor
  all_goals
    show ((((w.heap.push _).push _).push _).push _)[_]? = _
    simp only [Array.getElem?_push, Array.size_push]
  · rw [if_neg (by omega), if_neg (by omega), if_neg (by omega), if_pos trivial]
  · rw [if_neg (by omega), if_neg (by omega), if_pos trivial]
  · rw [if_neg (by omega), if_pos trivial]
  · rw [if_pos trivial]
theorem boxWorld_below (w : World) (fh fl lh ll oh ol ih il : Nat) : Below w.heap.size w (boxWorld w fh fl lh ll oh ol ih il) := by
  unfold boxWorld
  repeat (first | exact Below.refl _ _ | refine Below.alloc ?_ (by simp <;> omega) _)

theorem less_w (x y xh xl yh yl : Nat) (hx : U x = .agg #[.int .u64 (xh : Int), .int .u64 (xl : Int)]) (hy : U y = .agg #[.int .u64 (yh : Int), .int .u64 (yl : Int)]) (w : World) :
    Calls Try.prog 39 #[.agg #[.int .u64 (xh : Int), .int .u64 (xl : Int)], .agg #[.int .u64 (yh : Int), .int .u64 (yl : Int)]] w fun e w' => e = .returned (.bool (decide (x < y))) ∧ Below w.heap.size w w' := by
  rw [← hx, ← hy]; exact less_any x y w

structure Words (first last lo hi fh fl lh ll oh ol ih il : Nat) : Prop where
  f : U first = .agg #[.int .u64 (fh : Int), .int .u64 (fl : Int)]
  l : U last = .agg #[.int .u64 (lh : Int), .int .u64 (ll : Int)]
  o : U lo = .agg #[.int .u64 (oh : Int), .int .u64 (ol : Int)]
  i : U hi = .agg #[.int .u64 (ih : Int), .int .u64 (il : Int)]

set_option maxHeartbeats 1000000 in
/-- The range misses the subtree. -/
theorem set_miss (t r d lf first last lo hi fh fl lh ll oh ol ih il : Nat) (W : Words first last lo hi fh fl lh ll oh ol ih il) (hm : hi < first ∨ last < lo) (w : World) :
    Calls Try.prog 35 #[.pointer (some ⟨t, 0, none⟩), .int .u32 (r : Int), .int .i64 (d : Int), .agg #[.int .u64 (fh : Int), .int .u64 (fl : Int)], .agg #[.int .u64 (lh : Int), .int .u64 (ll : Int)], .agg #[.int .u64 (oh : Int), .int .u64 (ol : Int)], .agg #[.int .u64 (ih : Int), .int .u64 (il : Int)], .int .u32 (lf : Int)] w fun e w' =>
      e = .returned (.int .u32 (r : Int)) ∧ Below w.heap.size w w' := by
  obtain ⟨hF, hL, hO, hI⟩ := W
  have HW := hide (And.intro hF (And.intro hL (And.intro hO hI)))
  clear hF hL hO hI
  by_cases h1 : hi < first
  · have hd : decide (hi < first) = true := decide_eq_true h1
    clear hm h1
    go_enter Try.func35, Try.ntmps35
    go_wp2_with fail
    refine (less_w hi first ih il fh fl HW.out.2.2.2 HW.out.1 _).mono ?_
    rintro e w1 ⟨rfl, hb⟩
    have B1 := (boxWorld_boxes w fh fl lh ll oh ol ih il).below hb
    obtain ⟨k0, k1, k2, k3, k4, k5, k6, k7⟩ := B1.cells
    go_wp2_with fail
    go_ret
    exact ⟨rfl, (boxWorld_below w fh fl lh ll oh ol ih il).trans (hb.mono (boxWorld_below w fh fl lh ll oh ol ih il).size)⟩
  · have hd : decide (hi < first) = false := decide_eq_false h1
    have hd2 : decide (last < lo) = true := decide_eq_true (by omega)
    clear hm h1
    go_enter Try.func35, Try.ntmps35
    go_wp2_with fail
    refine (less_w hi first ih il fh fl HW.out.2.2.2 HW.out.1 _).mono ?_
    rintro e w1 ⟨rfl, hb⟩
    have B1 := (boxWorld_boxes w fh fl lh ll oh ol ih il).below hb
    obtain ⟨k0, k1, k2, k3, k4, k5, k6, k7⟩ := B1.cells
    go_wp2_with fail
    refine (less_w last lo lh ll oh ol HW.out.2.1 HW.out.2.2.1 _).mono ?_
    rintro e w2 ⟨rfl, hb2⟩
    go_wp2_with fail
    go_ret
    exact ⟨rfl, ((boxWorld_below w fh fl lh ll oh ol ih il).trans (hb.mono (boxWorld_below w fh fl lh ll oh ol ih il).size)).trans (hb2.mono (Nat.le_trans (boxWorld_below w fh fl lh ll oh ol ih il).size hb.size))⟩

/-- Where a call has only made blocks, what follows leaves the same of the world as it lay before. -/
theorem Leaves.from_below {own : Nat → Prop} {t : Nat} {S : Pl.St} {w w1 w' : World} (h : Leaves own t S w1 w') (hs : Below w.heap.size w w1) : Leaves own t S w w' := by
  obtain ⟨o, h1, h2⟩ := h
  exact ⟨o, h1, (Step.below hs).trans h2⟩
theorem Rep.below {w w' : World} {t : Nat} {S : Pl.St} {own : Nat → Prop} (h : Rep w t S own) (hb : Below w.heap.size w w') : Rep w' t S own := by
  obtain ⟨pa, np, pc, fa, fc, pb, h⟩ := h
  exact ⟨pa, np, pc, fa, fc, pb, h.below hb⟩

set_option maxHeartbeats 1000000 in
/-- The range covers the subtree. -/
theorem set_cover (t r d lf first last lo hi fh fl lh ll oh ol ih il : Nat) (W : Words first last lo hi fh fl lh ll oh ol ih il) (h1 : ¬ hi < first) (h2 : ¬ last < lo) (h3 : ¬ first < lo) (h4 : ¬ hi < last) (own : Nat → Prop) (S S' : Pl.St) (w : World) (hR : Rep w t S own)
    (hrel : ∀ w1, Rep w1 t S own → Calls Try.prog 40 #[.pointer (some ⟨t, 0, none⟩), .int .u32 (r : Int)] w1 fun e w' => e = .returned (.tuple #[]) ∧ Leaves own t S' w1 w') :
    Calls Try.prog 35 #[.pointer (some ⟨t, 0, none⟩), .int .u32 (r : Int), .int .i64 (d : Int), .agg #[.int .u64 (fh : Int), .int .u64 (fl : Int)], .agg #[.int .u64 (lh : Int), .int .u64 (ll : Int)], .agg #[.int .u64 (oh : Int), .int .u64 (ol : Int)], .agg #[.int .u64 (ih : Int), .int .u64 (il : Int)], .int .u32 (lf : Int)] w fun e w' =>
      e = .returned (.int .u32 (lf : Int)) ∧ Leaves own t S' w w' := by
  obtain ⟨hF, hL, hO, hI⟩ := W
  have HW := hide (And.intro hF (And.intro hL (And.intro hO hI)))
  have HR := hide hR
  have HC := hide hrel
  have d1 : decide (hi < first) = false := decide_eq_false h1
  have d2 : decide (last < lo) = false := decide_eq_false h2
  have d3 : decide (first < lo) = false := decide_eq_false h3
  have d4 : decide (hi < last) = false := decide_eq_false h4
  clear hF hL hO hI h1 h2 h3 h4 hR hrel
  go_enter Try.func35, Try.ntmps35
  go_wp2_with fail
  refine (less_w hi first ih il fh fl HW.out.2.2.2 HW.out.1 _).mono ?_
  rintro e w1 ⟨rfl, hb⟩
  have B1 := (boxWorld_boxes w fh fl lh ll oh ol ih il).below hb
  have L1 := hide ((boxWorld_below w fh fl lh ll oh ol ih il).trans (hb.mono (boxWorld_below w fh fl lh ll oh ol ih il).size))
  obtain ⟨k0, k1, k2, k3, k4, k5, k6, k7⟩ := B1.cells
  clear hb
  go_wp2_with fail
  refine (less_w last lo lh ll oh ol HW.out.2.1 HW.out.2.2.1 _).mono ?_
  rintro e w2 ⟨rfl, hb⟩
  have B2 := B1.below hb
  have L2 := hide (L1.out.trans (hb.mono L1.out.size))
  clear k0 k1 k2 k3 k4 k5 k6 k7 hb B1 L1
  obtain ⟨k0, k1, k2, k3, k4, k5, k6, k7⟩ := B2.cells
  go_wp2_with fail
  refine (less_w first lo fh fl oh ol HW.out.1 HW.out.2.2.1 _).mono ?_
  rintro e w3 ⟨rfl, hb⟩
  have B3 := B2.below hb
  have L3 := hide (L2.out.trans (hb.mono L2.out.size))
  clear k0 k1 k2 k3 k4 k5 k6 k7 hb B2 L2
  obtain ⟨k0, k1, k2, k3, k4, k5, k6, k7⟩ := B3.cells
  go_wp2_with fail
  refine (less_w hi last ih il lh ll HW.out.2.2.2 HW.out.2.1 _).mono ?_
  rintro e w4 ⟨rfl, hb⟩
  have L4 := hide (L3.out.trans (hb.mono L3.out.size))
  clear k0 k1 k2 k3 k4 k5 k6 k7 hb B3 L3
  go_wp2_with fail
  refine (HC.out _ (HR.out.below L4.out)).mono ?_
  rintro e w5 ⟨rfl, hlv⟩
  have HL := hide hlv
  clear hlv
  go_wp2_with fail
  go_ret
  exact ⟨rfl, HL.out.from_below L4.out⟩
end Go.Proofs.Qxb6600977a
