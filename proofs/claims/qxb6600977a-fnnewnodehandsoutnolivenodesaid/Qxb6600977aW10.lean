import Derived.Test.Qxb6600977aW9
set_option linter.unusedVariables false
set_option linter.unusedSimpArgs false
namespace Go.Proofs.Qxb6600977a
open Go.RowKit

def Sp.lo (s : Sp) : Nat := s.oh * 18446744073709551616 + s.ol
def Sp.hi (s : Sp) : Nat := s.ih * 18446744073709551616 + s.il
def leafOf (v : Nat) : Nat := v % 2147483648 + 2147483648
theorem leafOf_leaf (v : Nat) : Pl.leaf (leafOf v) = true := Pl.leaf_true_of_ge (by unfold leafOf; omega)
theorem leafOf_lt (v : Nat) : leafOf v < 4294967296 := by unfold leafOf; omega

/-- What the fields of a range write can be. -/
structure SpOk (s : Sp) : Prop where
  oh : s.oh < 18446744073709551616
  ol : s.ol < 18446744073709551616
  ih : s.ih < 18446744073709551616
  il : s.il < 18446744073709551616
  v : s.v < 4294967296

/-- zzBuild, behind k rounds. -/
def buildTo (v0 : Nat) (sp : Nat → Sp) : Nat → Nat × Pl.St
  | 0 => (leafOf v0, { cnt := 0, mem := fun _ => (0, 0), free := [] })
  | k + 1 => Pl.set (sp k).lo (sp k).hi (leafOf (sp k).v) 128 (buildTo v0 sp k).2 (buildTo v0 sp k).1 0 340282366920938463463374607431768211455

theorem build_inv (v0 : Nat) (sp : Nat → Sp) : ∀ k, k ≤ 4096 → Pl.Inv 128 (buildTo v0 sp k).2 (buildTo v0 sp k).1 (fun _ => 0) ∧ (buildTo v0 sp k).2.cnt ≤ 256 * k
  | 0, _ => ⟨⟨Pl.deep_leaf (leafOf_leaf v0) (leafOf_lt v0), fun a => by simp only [buildTo]; rw [Pl.nodes_leaf (leafOf_leaf v0)]; simp⟩, by simp [buildTo]⟩
  | k + 1, hk => by
    obtain ⟨h1, h2⟩ := build_inv v0 sp k (by omega)
    have hc := Pl.set_cost (sp k).lo (sp k).hi (leafOf (sp k).v) 128 (buildTo v0 sp k).2 (buildTo v0 sp k).1 0 340282366920938463463374607431768211455 (by decide)
    have hl := Pl.cost_le (sp k).lo (sp k).hi 128 0 340282366920938463463374607431768211455
    have hcnt : (buildTo v0 sp (k + 1)).2.cnt ≤ 256 * (k + 1) := by simp only [buildTo]; omega
    refine ⟨?_, hcnt⟩
    exact (Pl.set_done (sp k).lo (sp k).hi (leafOf (sp k).v) (leafOf_leaf _) (leafOf_lt _) 128 _ _ 0 340282366920938463463374607431768211455 _ h1 (by decide) (by decide) (by simp only [buildTo] at hcnt; omega)).inv

structure BuildRel (w wr : World) (v0 : Nat) (sp : Nat → Sp) (k : Nat) (own : Nat → Prop) : Prop where
  rep : Rep wr w.heap.size (buildTo v0 sp k).2 own
  above : ∀ x, own x → w.heap.size ≤ x
  low : Below w.heap.size w wr

def zeroTree : Array Value := #[.int .i64 0, .slice none 0 0, .int .i64 0, .slice none 0 0, .int .u32 0, .int .u64 0, .int .u64 0, .slice none 0 0]

theorem build_start (w : World) (v0 : Nat) (sp : Nat → Sp) : BuildRel w (w.alloc (.cells zeroTree 64)) v0 sp 0 (fun k => k = w.heap.size) := by
  refine ⟨⟨none, 0, 0, none, 0, fun _ => 0, ?_⟩, fun x hx => by omega, (Below.refl _ _).alloc (Nat.le_refl _) _⟩
  refine ⟨fun k hk => by subst hk; simp, rfl, heap_alloc_new' _ _, World.ownsRow_nil _ _ _ _, fun g hg => by simp [Value.ownBlock] at hg, fun i hi => by omega, fun i j hi => by omega, World.ownsRow_nil _ _ _ _, fun g hg => by simp [Value.ownBlock] at hg, by simp [buildTo], by simp⟩

/-- The span of the round, in a variable of its own. -/
theorem span_box (W : World) (s : Sp) : SpanCells (W.alloc (.cells #[.int .u64 (s.oh : Int), .int .u64 (s.ol : Int), .int .u64 (s.ih : Int), .int .u64 (s.il : Int), .int .u32 (s.v : Int)] 59)) W.heap.size 0 s := by
  simp only [SpanCells, World.cell?_alloc_new, Nat.zero_add]
  exact ⟨rfl, rfl, rfl, rfl, rfl⟩

/-- The world of a round, its span laid in block N. -/
structure RoundRel (w W : World) (v0 : Nat) (sp : Nat → Sp) (k : Nat) (own : Nat → Prop) (N : Nat) : Prop where
  rel : BuildRel w W v0 sp k own
  lt : N < W.heap.size
  not : ¬ own N
  le : w.heap.size ≤ N

theorem round_start {w wr : World} {v0 : Nat} {sp : Nat → Sp} {k : Nat} {own : Nat → Prop} (h : BuildRel w wr v0 sp k own) (s : Sp) :
    RoundRel w (wr.alloc (.cells #[.int .u64 (s.oh : Int), .int .u64 (s.ol : Int), .int .u64 (s.ih : Int), .int .u64 (s.il : Int), .int .u32 (s.v : Int)] 59)) v0 sp k own wr.heap.size := by
  have hb : Below wr.heap.size wr (wr.alloc (.cells #[.int .u64 (s.oh : Int), .int .u64 (s.ol : Int), .int .u64 (s.ih : Int), .int .u64 (s.il : Int), .int .u32 (s.v : Int)] 59)) := (Below.refl _ _).alloc (Nat.le_refl _) _
  refine ⟨⟨h.rep.below hb, h.above, h.low.alloc h.low.size _⟩, by simp, fun h' => ?_, h.low.size⟩
  obtain ⟨pa, np, pc, fa, fc, pb, hr⟩ := h.rep
  have := hr.size _ h'
  omega

theorem round_call {w W : World} {v0 : Nat} {sp : Nat → Sp} {k : Nat} {own : Nat → Prop} {N len : Nat} (h : RoundRel w W v0 sp k own N) (hlt : k < len) (hlen : len ≤ 4096) (ok : SpOk (sp k)) :
    Calls Try.prog 28 #[.pointer (some ⟨w.heap.size, 0, none⟩), .int .u32 ((buildTo v0 sp k).1 : Int), .int .i64 0, .int .u64 0, .int .u64 0, .int .u64 18446744073709551615, .int .u64 18446744073709551615, .int .u64 ((sp k).oh : Int), .int .u64 ((sp k).ol : Int), .int .u64 ((sp k).ih : Int), .int .u64 ((sp k).il : Int), .int .u32 (((sp k).v % 2147483648 + 2147483648 : Nat) : Int)] W.drew fun e w' =>
      e = .returned (.int .u32 ((buildTo v0 sp (k + 1)).1 : Int)) ∧ ∃ own', BuildRel w w' v0 sp (k + 1) own' ∧ (SpanCells W N 0 (sp k) → SpanCells w' N 0 (sp k)) := by
  have hc := (build_inv v0 sp (k + 1) (by omega)).2
  have hd : Below W.heap.size W W.drew := (Below.refl _ _).drew
  refine (zzSet_any w.heap.size (leafOf (sp k).v) (buildTo v0 sp k).1 (sp k).oh (sp k).ol (sp k).ih (sp k).il (leafOf_leaf _) (leafOf_lt _) ok.oh ok.ol ok.ih ok.il (buildTo v0 sp k).2 (fun _ => 0) own W.drew (h.rel.rep.below hd) (build_inv v0 sp k (by omega)).1 (by simp only [buildTo, Sp.lo, Sp.hi] at hc; omega)).mono ?_
  rintro e w' ⟨rfl, own', h1, h2⟩
  refine ⟨rfl, own', ⟨h1, fun x hx => ?_, ?_⟩, fun hs => ?_⟩
  · rcases h2.grow x hx with h3 | h3
    · exact h.rel.above x h3
    · exact Nat.le_trans h.rel.low.size h3
  · exact h.rel.low.drew.trans (h2.toBelow h.rel.low.size h.rel.above)
  · obtain ⟨s0, s1, s2, s3, s4⟩ := hs
    have q : ∀ o, w'.cell? ⟨N, o, none⟩ = W.cell? ⟨N, o, none⟩ := fun o => h2.cell h.lt h.not
    exact ⟨(q _).trans s0, (q _).trans s1, (q _).trans s2, (q _).trans s3, (q _).trans s4⟩

set_option maxHeartbeats 2000000 in
theorem build_any (v0 len cap : Nat) (a : Option Addr) (sp : Nat → Sp) (w : World) (hv0 : v0 < 4294967296) (hlen : len ≤ 4096) (hok : ∀ i, i < len → SpOk (sp i)) (h : SpansAt w a len sp) :
    Calls Try.prog 11 #[.int .u32 (v0 : Int), .slice a len cap] w fun e w' => e = .returned (.tuple #[.pointer (some ⟨w.heap.size, 0, none⟩), .int .u32 ((buildTo v0 sp len).1 : Int)]) ∧ ∃ own, BuildRel w w' v0 sp len own := by
  have HS := hide h
  have HK := hide hok
  clear h hok
  go_enter Try.func11, Try.ntmps11
  go_wp2_with (go_at_call 27; refine (zzLeaf_any v0 hv0 _).mono ?_; rintro e w' ⟨rfl, rfl⟩)
  go_loopw [7, 8] (fun root i wr => ∃ k : Nat, k ≤ len ∧ i = .int .i64 k ∧ root = .int .u32 ((buildTo v0 sp k).1 : Int) ∧ ∃ own, BuildRel w wr v0 sp k own) (fun _ i _ => len - (intOf i).toNat)
  case atStart => exact ⟨0, Nat.zero_le _, rfl, rfl, _, build_start w v0 sp⟩
  case round =>
    obtain ⟨k, hk, rfl, rfl, own, hrel⟩ := hrel
    have HR := hide hrel
    clear hrel
    by_cases hlt : k < len
    · obtain ⟨b, off, rfl, hbl, c0, c1, c2, c3, c4⟩ := HS.out k hlt
      have HB := hide hbl
      rw [← HR.out.low.cell hbl] at c0 c1 c2 c3 c4
      clear hbl
      go_wp2_with fail
      have hbox := span_box wr (sp k)
      have HN := hide (round_start HR.out (sp k))
      generalize wr.alloc (.cells #[.int .u64 ((sp k).oh : Int), .int .u64 ((sp k).ol : Int), .int .u64 ((sp k).ih : Int), .int .u64 ((sp k).il : Int), .int .u32 ((sp k).v : Int)] 59) = W at hbox HN ⊢
      generalize wr.heap.size = N at hbox HN ⊢
      have hd0 := hbox
      unfold SpanCells at hd0
      simp only [Nat.zero_add] at hd0
      have HX := hide hbox
      clear hbox c0 c1 c2 c3 c4
      have ok := HK.out k hlt
      go_region_held3 (fun w' => w'.cell? ⟨N, 0, none⟩ = some (.int .u64 ((sp k).oh : Int)) ∧ w'.cell? ⟨N, 1, none⟩ = some (.int .u64 ((sp k).ol : Int)) ∧ w'.cell? ⟨N, 2, none⟩ = some (.int .u64 ((sp k).ih : Int)) ∧ w'.cell? ⟨N, 3, none⟩ = some (.int .u64 ((sp k).il : Int)) ∧ w'.cell? ⟨N, 4, none⟩ = some (.int .u32 ((sp k).v : Int))) (first | exact hd0 | exact hd1)
        (first
          | (go_at_call 27; refine (zzLeaf_any (sp k).v ok.v _).mono ?_; rintro e w' ⟨rfl, rfl⟩)
          | (go_at_call 28; refine (round_call HN.out hlt hlen ok).mono ?_; rintro e w1 ⟨rfl, own', hn, hcells⟩; have hd1 := hcells HX.out; have HN1 := hide hn; clear hn hcells))
      go_wp2_with fail
      go_roundw
      case rel => exact ⟨k + 1, by omega, by go_num, rfl, own', HN1.out⟩
      case measure => simp [intOf]; omega
    · obtain rfl : len = k := by omega
      go_wp2_with fail
      go_ret2
      exact ⟨rfl, own, HR.out⟩
end Go.Proofs.Qxb6600977a
