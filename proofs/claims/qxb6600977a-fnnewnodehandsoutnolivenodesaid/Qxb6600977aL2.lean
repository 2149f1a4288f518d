import Derived.Test.Qxb6600977aL1
set_option linter.unusedVariables false
set_option linter.unusedSimpArgs false
namespace Go.Proofs.Qxb6600977a
open Go.RowKit

/-- A slice of bytes that the call made: what each holds. -/
structure MarkAt (w : World) (mb c : Nat) (mk : Nat → Nat) : Prop where
  row : ∃ cur : Array Value, w.heap[mb]? = some (.cells cur 5 (0, 0)) ∧ cur.size = c ∧ ∀ i, i < c → cur[i]? = some (.int .u8 (mk i : Int))

theorem MarkAt.cell {w : World} {mb c : Nat} {mk : Nat → Nat} (h : MarkAt w mb c mk) {i : Nat} (hi : i < c) : w.cell? ⟨mb, i, none⟩ = some (.int .u8 (mk i : Int)) ∧ w.frozen? ⟨mb, i, none⟩ = false := by
  obtain ⟨cur, h1, h2, h3⟩ := h.row
  exact ⟨by rw [cell_of_heap h1]; exact h3 i hi, frozen_of_heap h1⟩
theorem MarkAt.lt {w : World} {mb c : Nat} {mk : Nat → Nat} (h : MarkAt w mb c mk) : mb < w.heap.size := by
  obtain ⟨cur, h1, _⟩ := h.row
  exact lt_of_heap h1
theorem MarkAt.keep {w w' : World} {mb c : Nat} {mk : Nat → Nat} (h : MarkAt w mb c mk) (hb : w'.heap[mb]? = w.heap[mb]?) : MarkAt w' mb c mk := by
  obtain ⟨cur, h1, r⟩ := h.row
  exact ⟨cur, by rw [hb]; exact h1, r⟩
theorem MarkAt.below {w w' : World} {mb c : Nat} {mk : Nat → Nat} (h : MarkAt w mb c mk) (hb : Below w.heap.size w w') : MarkAt w' mb c mk := h.keep (hb.block _ h.lt)
theorem MarkAt.set {w : World} {mb c : Nat} {mk : Nat → Nat} (h : MarkAt w mb c mk) {i : Nat} (hi : i < c) (v : Nat) : MarkAt (w.setCell ⟨mb, i, none⟩ (.int .u8 (v : Int))) mb c (fun j => if j = i then v else mk j) := by
  obtain ⟨cur, h1, h2, h3⟩ := h.row
  refine ⟨_, heap_set_same _ h1, by simpa using h2, fun j hj => ?_⟩
  by_cases e : j = i
  · subst e; rw [Array.getElem?_setIfInBounds_self_of_lt (by omega)]; simp
  · rw [Array.getElem?_setIfInBounds_ne (by omega)]; simp [e, h3 j hj]
theorem MarkAt.congr {w : World} {mb c : Nat} {mk mk' : Nat → Nat} (h : MarkAt w mb c mk) (he : ∀ i, i < c → mk i = mk' i) : MarkAt w mb c mk' := by
  obtain ⟨cur, h1, h2, h3⟩ := h.row
  exact ⟨cur, h1, h2, fun i hi => by rw [← he i hi]; exact h3 i hi⟩

/-- The marks behind a walk over the nodes l. -/
def marked (l : List Nat) (mk : Nat → Nat) : Nat → Nat := fun i => if i ∈ l then 1 else mk i

theorem ret_pair {a b : Int} {c : Bool} (h : a = b) : Ending.returned (.tuple #[.int .i64 a, .bool c]) = .returned (.tuple #[.int .i64 b, .bool c]) := by rw [h]

/-- Rep of a world that parts from the first outside the tree's blocks. -/
theorem Rep.step {own own1 own2 : Nat → Prop} {w w' : World} {t : Nat} {S : Pl.St} (h : Rep w t S own) (hs : Step own1 own2 w w') (ho : ∀ k, own k → ¬ own1 k) : Rep w' t S own := by
  obtain ⟨pa, np, pc, fa, fc, pb, h⟩ := h
  exact ⟨pa, np, pc, fa, fc, pb, h.keep hs.size (fun k hk => hs.block k (h.size k hk) (ho k hk))⟩

set_option maxHeartbeats 1000000 in
theorem mark_leaf_walk (t r d c cp : Nat) (ma : Option Addr) (hr : r < 4294967296) (hl : Pl.leaf r = true) (w : World) :
    Calls Try.prog 18 #[.pointer (some ⟨t, 0, none⟩), .int .u32 (r : Int), .int .i64 (d : Int), .slice ma c cp] w fun e w' => e = .returned (.tuple #[.int .i64 0, .bool true]) ∧ w = w' := by
  go_enter Try.func18, Try.ntmps18
  go_wp2_with (go_at_call 20; refine (isLeaf_any r hr _).mono ?_; rintro e w' ⟨rfl, rfl⟩)
  go_ret2
  exact ⟨rfl, rfl⟩

set_option maxHeartbeats 2000000 in
theorem mark_any (t mb : Nat) : ∀ (n : Nat) (S : Pl.St) (r d : Nat) (mk : Nat → Nat) (own : Nat → Prop) (w : World), Rep w t S own → MarkAt w mb S.cnt mk → ¬ own mb → Pl.deep S.mem n r → (∀ i, i ∈ Pl.nodes S.mem n r → i < S.cnt ∧ mk i = 0) → (∀ a, (Pl.nodes S.mem n r).count a ≤ 1) → S.cnt < 2147483648 → d + n = 128 →
    Calls Try.prog 18 #[.pointer (some ⟨t, 0, none⟩), .int .u32 (r : Int), .int .i64 (d : Int), .slice (some ⟨mb, 0, none⟩) S.cnt S.cnt] w fun e w' => e = .returned (.tuple #[.int .i64 ((Pl.nodes S.mem n r).length : Int), .bool true]) ∧
      MarkAt w' mb S.cnt (marked (Pl.nodes S.mem n r) mk) ∧ Step (fun k => k = mb) (fun k => k = mb) w w' := by
  intro n
  induction n with
  | zero =>
    intro S r d mk own w h hM _ hd _ _ _ _
    refine (mark_leaf_walk t r d S.cnt S.cnt _ (Pl.deep_lt hd) hd.1 w).mono ?_
    rintro e w' ⟨rfl, rfl⟩
    exact ⟨rfl, hM.congr (fun i _ => by simp [marked, Pl.nodes]), Step.refl _ _⟩
  | succ n ih =>
    intro S r d mk own w h hM hno hd hlt hone hc hdn
    have hr := Pl.deep_lt hd
    cases hl : Pl.leaf r with
    | true =>
      rw [Pl.nodes_leaf hl]
      refine (mark_leaf_walk t r d S.cnt S.cnt _ hr hl w).mono ?_
      rintro e w' ⟨rfl, rfl⟩
      exact ⟨rfl, hM.congr (fun i _ => by simp [marked]), Step.refl _ _⟩
    | false =>
      rw [Pl.nodes_node hl] at hlt hone ⊢
      obtain ⟨hrc, hm0⟩ := hlt r (by simp)
      obtain ⟨d1, d2⟩ := Pl.deep_node hl hd
      have hl0 := Pl.deep_lt d1
      have hdi : decide ((128 : Int) ≤ (d : Int)) = false := decide_eq_false (by omega)
      have hri0 : decide ((r : Int) < 0) = false := decide_eq_false (by omega)
      have hri : decide ((S.cnt : Int) ≤ (r : Int)) = false := decide_eq_false (by omega)
      have hri2 : (r : Int) < (S.cnt : Int) := by omega
      obtain ⟨cm, zm⟩ := hM.cell hrc
      rw [hm0] at cm
      have M1 : MarkAt (w.setCell ⟨mb, r, none⟩ (.int .u8 1)) mb S.cnt (fun j => if j = r then 1 else mk j) := hM.set hrc 1
      have S1 : Step (fun k => k = mb) (fun k => k = mb) w (w.setCell ⟨mb, r, none⟩ (.int .u8 1)) := Step.set rfl
      have R1 : Rep (w.setCell ⟨mb, r, none⟩ (.int .u8 1)) t S own := h.step S1 (fun k hk e => hno (e ▸ hk))
      have HN := hide (zzNode_any R1 r hrc hc)
      have HD := hide (And.intro M1 (And.intro S1 R1))
      have IH := hide ih
      generalize hmem : S.mem r = q at *
      obtain ⟨l, t0⟩ := q
      dsimp only at *
      have HX := hide (And.intro d1 (And.intro d2 (And.intro hlt (And.intro hone (And.intro hno hdn)))))
      have HL := hide hl
      have hmbl := hM.lt
      have nl : (Pl.nodes S.mem n l).length ≤ S.cnt := len_le _ _ (fun a => by
        have h1 := hone a
        simp only [List.count_cons, List.count_append] at h1
        by_cases ha : a ∈ Pl.nodes S.mem n l
        · rw [if_pos (hlt a (by simp [ha])).1]; omega
        · rw [List.count_eq_zero_of_not_mem ha]; omega)
      have nr : (Pl.nodes S.mem n t0).length ≤ S.cnt := len_le _ _ (fun a => by
        have h1 := hone a
        simp only [List.count_cons, List.count_append] at h1
        by_cases ha : a ∈ Pl.nodes S.mem n t0
        · rw [if_pos (hlt a (by simp [ha])).1]; omega
        · rw [List.count_eq_zero_of_not_mem ha]; omega)
      clear ih d1 d2 hlt hone hd hmem M1 S1 R1 h hM hdn hm0
      go_enter Try.func18, Try.ntmps18
      go_wp2_with fail
      refine (isLeaf_any r hr _).mono ?_
      rintro e w0 ⟨rfl, rfl⟩
      go_wp2_with fail
      refine HN.out.mono ?_
      rintro e w1 ⟨rfl, hb1⟩
      obtain ⟨M1, S1, R1⟩ := HD.out
      obtain ⟨d1, d2, hlt, hone, hno', hdn⟩ := HX.out
      have hb2 : Below (w.setCell ⟨mb, r, none⟩ (.int .u8 1)).heap.size (w.setCell ⟨mb, r, none⟩ (.int .u8 1)) (w1.alloc (.cells #[.int .u32 (l : Int), .int .u32 (t0 : Int)] 51)) := hb1.alloc hb1.size _
      have hN : mb < w1.heap.size := by have := hb1.size; simp only [World.size_setCell] at this; omega
      have hcnt0 : ∀ i, i ∈ Pl.nodes S.mem n l → i ≠ r ∧ i ∉ Pl.nodes S.mem n t0 := fun i hi => by
        have h1 := hone i
        have h2 := Pl.count_pos_of_mem hi
        simp only [List.count_cons, List.count_append] at h1
        refine ⟨fun e => ?_, fun h3 => ?_⟩
        · subst e; simp at h1; omega
        · have := Pl.count_pos_of_mem h3; omega
      have hcnt1 : ∀ i, i ∈ Pl.nodes S.mem n t0 → i ≠ r := fun i hi e => by
        have h1 := hone i
        have h2 := Pl.count_pos_of_mem hi
        simp only [List.count_cons, List.count_append] at h1
        subst e; simp at h1; omega
      have hone1 : ∀ a, (Pl.nodes S.mem n l).count a ≤ 1 := fun a => by have h1 := hone a; simp only [List.count_cons, List.count_append] at h1; omega
      have hone2 : ∀ a, (Pl.nodes S.mem n t0).count a ≤ 1 := fun a => by have h1 := hone a; simp only [List.count_cons, List.count_append] at h1; omega
      have hleft := IH.out S l (d + 1) _ own _ (R1.below hb2) (M1.below hb2) hno' d1 (fun i hi => ⟨(hlt i (by simp [hi])).1, by simp only [(hcnt0 i hi).1, if_false]; exact (hlt i (by simp [hi])).2⟩) hone1 hc (by omega)
      have HLe := hide hleft
      have HS2 := hide (S1.trans (Step.below hb2))
      have HR2 := hide (R1.below hb2)
      have HF := hide (And.intro hcnt0 (And.intro hcnt1 hone2))
      have hd1 : (d : Int) ≤ 127 := by omega
      clear hleft hb1 hb2 M1 S1 R1 hcnt0 hcnt1 hone1 hone2 d1 d2 hlt hone hno' hdn HN cm zm HL hl hri hri0 hdi
      go_wp2_with fail
      refine HLe.out.mono ?_
      rintro e w3 ⟨rfl, M3, S3⟩
      have q1 : w3.cell? ⟨w1.heap.size, 1, none⟩ = some (.int .u32 (t0 : Int)) := by
        rw [S3.cell (by simp) (by dsimp only; omega), World.cell?_alloc_new]; rfl
      have hright := IH.out S t0 (d + 1) _ own w3 (HR2.out.step S3 (fun k hk e => HX.out.2.2.2.2.1 (e ▸ hk))) M3 HX.out.2.2.2.2.1 HX.out.2.1
        (fun i hi => ⟨(HX.out.2.2.1 i (by simp [hi])).1, by
          have h1 : i ∉ Pl.nodes S.mem n l := fun h2 => (HF.out.1 i h2).2 hi
          simp only [marked, h1, if_false, HF.out.2.1 i hi]; exact (HX.out.2.2.1 i (by simp [hi])).2⟩) HF.out.2.2 hc (by have := HX.out.2.2.2.2.2; omega)
      have HRi := hide hright
      have HS3 := hide (HS2.out.trans S3)
      clear hright M3 S3 HLe HS2 HR2 IH
      go_wp2_with fail
      refine HRi.out.mono ?_
      rintro e w4 ⟨rfl, M4, S4⟩
      have HM4 := hide M4
      have HS4 := hide (HS3.out.trans S4)
      clear M4 S4 HRi HS3 q1 HD HX HF
      go_wp2_with fail
      go_ret2
      refine ⟨?_, ?_, HS4.out⟩
      · exact ret_pair (by simp only [List.length_cons, List.length_append]; omega)
      · exact HM4.out.congr (fun i _ => by simp only [marked, List.mem_cons, List.mem_append]; by_cases h1 : i = r <;> by_cases h2 : i ∈ Pl.nodes S.mem n l <;> by_cases h3 : i ∈ Pl.nodes S.mem n t0 <;> simp [h1, h2, h3])
end Go.Proofs.Qxb6600977a
