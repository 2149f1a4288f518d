import Derived.Test.Qxb6600977aW6
set_option linter.unusedVariables false
set_option linter.unusedSimpArgs false
namespace Go.Proofs.Qxb6600977a
open Go.RowKit

set_option maxHeartbeats 4000000 in
theorem set_leaf_a (t r d lf n first last lo hi fh fl lh ll oh ol ih il : Nat) (S S0 S1 S2 : Pl.St) (r0 l0 t0 L R : Nat) (c : Calls2 t d lf n first last lo hi fh fl lh ll oh ol ih il S0 S1 S2 r0 l0 t0 L R) (hnn : Pl.newNode S (r, r) = (r0, S0)) (hcS : S.cnt < 2147483648) (hfS : ∀ q, q ∈ S.free → q < S.cnt) (hlS : S.free.length < 2147483648) (hr : r < 4294967296)
    (h1 : ¬ hi < first) (h2 : ¬ last < lo) (h3 : first < lo) (own : Nat → Prop) (w : World) (hR : Rep w t S own) (hl : Pl.leaf r = true) :
    Calls Try.prog 35 #[.pointer (some ⟨t, 0, none⟩), .int .u32 (r : Int), .int .i64 (d : Int), .agg #[.int .u64 (fh : Int), .int .u64 (fl : Int)], .agg #[.int .u64 (lh : Int), .int .u64 (ll : Int)], .agg #[.int .u64 (oh : Int), .int .u64 (ol : Int)], .agg #[.int .u64 (ih : Int), .int .u64 (il : Int)], .int .u32 (lf : Int)] w fun e w' =>
      e = .returned (.int .u32 ((Pl.fin r0 L R S2).1 : Int)) ∧ Leaves own t (Pl.fin r0 L R S2).2 w w' := by
  have HC := hide c
  have HR := hide hR
  have d1 : decide (hi < first) = false := decide_eq_false h1
  have d2 : decide (last < lo) = false := decide_eq_false h2
  have d3 : decide (first < lo) = true := decide_eq_true h3
  have hd : (d : Int) ≤ 127 := by have := c.dn; omega
  have HN := hide (fun (wq : World) (hq : Rep wq t S own) => newNode_any hq hcS hfS hlS r r)
  rw [hnn] at HN
  have hwd : IntKind.i64.wrap ((d : Int) + 1) = (d : Int) + 1 := by rw [IntKind.wrap_i64]; omega
  clear hnn hcS hfS hlS
  clear h1 h2 h3 hR c
  go_enter Try.func35, Try.ntmps35
  go_wp2_with fail
  refine (less_w hi first ih il fh fl HC.out.words.i HC.out.words.f _).mono ?_
  rintro e w1 ⟨rfl, hb⟩
  have B1 := (boxWorld_boxes w fh fl lh ll oh ol ih il).below hb
  have L1 := hide ((boxWorld_below w fh fl lh ll oh ol ih il).trans (hb.mono (boxWorld_below w fh fl lh ll oh ol ih il).size))
  obtain ⟨k0, k1, k2, k3, k4, k5, k6, k7⟩ := B1.cells
  clear hb
  go_wp2_with fail
  refine (less_w last lo lh ll oh ol HC.out.words.l HC.out.words.o _).mono ?_
  rintro e w2 ⟨rfl, hb⟩
  have B2 := B1.below hb
  have L2 := hide (L1.out.trans (hb.mono L1.out.size))
  clear k0 k1 k2 k3 k4 k5 k6 k7 hb B1 L1
  obtain ⟨k0, k1, k2, k3, k4, k5, k6, k7⟩ := B2.cells
  go_wp2_with fail
  refine (less_w first lo fh fl oh ol HC.out.words.f HC.out.words.o _).mono ?_
  rintro e wz ⟨rfl, hb⟩
  have Bz := B2.below hb
  have Lz := hide (L2.out.trans (hb.mono L2.out.size))
  clear k0 k1 k2 k3 k4 k5 k6 k7 hb B2 L2
  obtain ⟨k0, k1, k2, k3, k4, k5, k6, k7⟩ := Bz.cells
  go_wp2_with fail
  refine (isLeaf_any r hr _).mono ?_
  rintro e w4 ⟨rfl, rfl⟩
  go_wp2_with fail
  refine (HN.out _ (HR.out.below Lz.out)).mono ?_
  rintro e w5 ⟨rfl, own1, hr5, hs5⟩
  have hlt : ∀ k, own k → k < w.heap.size := fun k hk => by obtain ⟨pa', np', pc', fa', fc', pb', h'⟩ := HR.out; exact h'.size k hk
  have Bz5 := Bz.step hs5 (fun k hk => Or.inl (hlt k hk))
  have Hs5 := hide ((Step.below (own := own) Lz.out).trans hs5)
  have ho5 := hide (show ∀ k, own1 k → k < w.heap.size ∨ w.heap.size + 3 < k from fun k hk => by
    rcases hs5.grow k hk with h | h
    · exact Or.inl (hlt k h)
    · exact Or.inr (by have := Bz.lt; omega))
  have HR5 := hide hr5
  clear k0 k1 k2 k3 k4 k5 k6 k7 hs5 hr5 hlt Bz Lz HN
  obtain ⟨k0, k1, k2, k3, k4, k5, k6, k7⟩ := Bz5.cells
  go_wp2_with fail
  -- the node is read
  obtain ⟨pa, np, pc, fa, fc, pb, hz⟩ := HR5.out
  obtain ⟨pg, v0, v1, rfl, A, hv⟩ := hz.at' HC.out.lt0
  obtain ⟨rfl, rfl⟩ := hv HC.out.lt0
  obtain ⟨hp, f2, f3, f4, f5, g4, g5, n1, n2, n3, op, _⟩ := A
  rw [HC.out.here] at f4 f5
  refine (node_cells t r0 pg np pc (pb (r0 / 4096)) _ (by have := HC.out.lt0; have := HC.out.cnt0; omega) hp f2 f3).mono ?_
  rintro e w6 ⟨rfl, rfl⟩
  generalize pb (r0 / 4096) = p at *
  go_wp2_with fail
  have H9 := hide (Here.start (own := own) (l0 := l0) (t0 := t0) Bz5 Hs5.out HR5.out ho5.out)
  generalize w5.alloc (.cells #[.int .u32 (l0 : Int), .int .u32 (t0 : Int)] 51) = W9 at H9 ⊢
  generalize w5.heap.size = N at H9 ⊢
  have hd9 := H9.out.held
  clear k0 k1 k2 k3 k4 k5 k6 k7 f2 f3 f4 f5 g4 g5 n1 n2 n3 op hz hv hp Bz5 Hs5 HR5 ho5
  go_region_held3 (fun w' => w'.cell? ⟨w.heap.size, 0, none⟩ = some (.int .u64 (fh : Int)) ∧ w'.cell? ⟨w.heap.size, 1, none⟩ = some (.int .u64 (fl : Int)) ∧ w'.cell? ⟨w.heap.size + 1, 0, none⟩ = some (.int .u64 (lh : Int)) ∧ w'.cell? ⟨w.heap.size + 1, 1, none⟩ = some (.int .u64 (ll : Int)) ∧
    w'.cell? ⟨w.heap.size + 1 + 1, 0, none⟩ = some (.int .u64 (oh : Int)) ∧ w'.cell? ⟨w.heap.size + 1 + 1, 1, none⟩ = some (.int .u64 (ol : Int)) ∧ w'.cell? ⟨w.heap.size + 1 + 1 + 1, 0, none⟩ = some (.int .u64 (ih : Int)) ∧ w'.cell? ⟨w.heap.size + 1 + 1 + 1, 1, none⟩ = some (.int .u64 (il : Int)) ∧
    w'.cell? ⟨N, 0, none⟩ = some (.int .u32 (l0 : Int)) ∧ w'.cell? ⟨N, 1, none⟩ = some (.int .u32 (t0 : Int))) (first | exact hd9 | exact hdb | exact hda)
    (first
      | (go_at_call 41; refine (withoutBit_w last d n lh ll HC.out.words.l HC.out.lastLt HC.out.dn HC.out.lastBit _).mono ?_; rintro e wa ⟨rfl, hb⟩; have Ha := hide (H9.out.drew.below hb); have hda := Ha.out.held; clear hb)
      | (go_at_call 35; refine (HC.out.left' own1 _ Ha.out.rep).mono ?_; rintro e wb ⟨rfl, hlv⟩; obtain ⟨own2, Hb'⟩ := Ha.out.leaves hlv; have Hb := hide Hb'; have hdb := Hb'.held; clear hlv Hb'))
  clear hd9 hda H9 Ha
  go_wp2_with fail
  go_region_held3 (fun w' => w'.cell? ⟨w.heap.size, 0, none⟩ = some (.int .u64 (fh : Int)) ∧ w'.cell? ⟨w.heap.size, 1, none⟩ = some (.int .u64 (fl : Int)) ∧ w'.cell? ⟨w.heap.size + 1, 0, none⟩ = some (.int .u64 (lh : Int)) ∧ w'.cell? ⟨w.heap.size + 1, 1, none⟩ = some (.int .u64 (ll : Int)) ∧
    w'.cell? ⟨w.heap.size + 1 + 1, 0, none⟩ = some (.int .u64 (oh : Int)) ∧ w'.cell? ⟨w.heap.size + 1 + 1, 1, none⟩ = some (.int .u64 (ol : Int)) ∧ w'.cell? ⟨w.heap.size + 1 + 1 + 1, 0, none⟩ = some (.int .u64 (ih : Int)) ∧ w'.cell? ⟨w.heap.size + 1 + 1 + 1, 1, none⟩ = some (.int .u64 (il : Int)) ∧
    w'.cell? ⟨N, 0, none⟩ = some (.int .u32 (l0 : Int)) ∧ w'.cell? ⟨N, 1, none⟩ = some (.int .u32 (t0 : Int))) (first | exact hdb | exact hdd | exact hdc)
    (first
      | (go_at_call 42; refine (withBit_w first d n fh fl HC.out.words.f HC.out.firstLt HC.out.dn HC.out.firstBit _).mono ?_; rintro e wc ⟨rfl, hb⟩; have Hc := hide (Hb.out.drew.below hb); have hdc := Hc.out.held; clear hb)
      | (go_at_call 35; refine (HC.out.right' own2 _ Hc.out.rep).mono ?_; rintro e wd ⟨rfl, hlv⟩; obtain ⟨own3, Hd'⟩ := Hc.out.leaves hlv; have Hd := hide Hd'; have hdd := Hd'.held; clear hlv Hd'))
  clear hdb hdc Hb Hc hdd
  -- the two halves are there
  have R3 := Hd.out.rep
  have S3 := hide Hd.out.step
  clear Hd
  by_cases hm : L = R ∧ Pl.leaf L = true
  · obtain ⟨rfl, hLl⟩ := hm
    have hfin : Pl.fin r0 L L S2 = (L, { cnt := S2.cnt, mem := S2.mem, free := S2.free ++ [r0] }) := by simp [Pl.fin, hLl]
    have HF := hide hfin
    obtain ⟨pa2, np2, pc2, fa2, fc2, pb2, h3⟩ := R3
    have q3 : wd.cell? ⟨t, 3, none⟩ = some (.slice fa2 S2.free.length fc2) := by rw [cell_of_heap h3.tree]; rfl
    have H3 := hide h3
    have hl3 : t < wd.heap.size := h3.size t h3.ownT
    have b1 : S2.free.length + 1 ≤ maxLen := by have := HC.out.len; unfold maxLen; omega
    have b2 : (S2.free.length + 1) * 4 ≤ 140737488355328 := by have := HC.out.len; omega
    clear h3 hfin
    obtain ⟨i0, hi0, hz0, hz1, hz2⟩ := info_parts info29
    go_wp2_with (first
      | (go_at_call 20; refine (isLeaf_any L HC.out.lLt _).mono ?_; rintro e w' ⟨rfl, rfl⟩)
      | (at_builtin; go_must (refine wpList_append_one rfl (.tmp 92) (.tmp 94) 43 rfl 29 i0 (.int .u32 0) 4 Try.underlying43 hi0 hz0 hz1 hz2 rfl (.slice fa2 S2.free.length fc2) S2.free.length _ rfl (H3.out.alloc _).free ⟨wd.heap.size, 0, none⟩ 1 (.int .u32 (r0 : Int)) rfl (one_new _ _ _) rfl b1 b2 ?_); intro g cap w3 how hgr hat; go_must (have PF := (H3.out.alloc _).pushFree (r := r0) how hgr hat; have q5 := PF.2.2.1; have q6 := PF.2.2.2; have HPF := hide PF; clear PF how hgr hat)))
    go_ret
    rw [HF.out]
    refine ⟨rfl, ?_⟩
    obtain ⟨r1, r2, _, _⟩ := HPF.out
    exact ⟨_, ⟨pa2, np2, pc2, _, cap, pb2, r1⟩, S3.out.trans ((Step.alloc _ _ _).trans r2)⟩
  · have hfin : Pl.fin r0 L R S2 = (r0, { cnt := S2.cnt, mem := Pl.upd S2.mem r0 (L, R), free := S2.free }) := by simp [Pl.fin, hm]
    have HF := hide hfin
    obtain ⟨pa2, np2, pc2, fa2, fc2, pb2, h3⟩ := R3
    obtain ⟨pg2, v0, v1, rfl, A, hv⟩ := h3.at' HC.out.lt2
    have hst := hide (And.intro (h3.storeNode HC.out.lt2 L R) S3.out)
    obtain ⟨hp, f2, f3, f4, f5, g4, g5, n1, n2, n3, op, _⟩ := A
    have hr31 : r0 < 2147483648 := by have := HC.out.lt0; have := HC.out.cnt0; omega
    generalize hpp : pb2 (r0 / 4096) = p2 at *
    have Hop := hide op
    clear op hpp hv h3 hfin
    by_cases hLR : L = R
    · subst hLR
      have hLl : Pl.leaf L = false := by cases h : Pl.leaf L with | true => exact absurd ⟨rfl, h⟩ hm | false => rfl
      clear hm
      go_wp2_with (first
        | (go_at_call 20; refine (isLeaf_any L HC.out.lLt _).mono ?_; rintro e w' ⟨rfl, rfl⟩)
        | (go_at_call 34; refine (node_cells t r0 pg2 np2 pc2 p2 _ hr31 hp ?_ ?_).mono ?_; exact f2; exact f3; rintro e w' ⟨rfl, rfl⟩))
      go_ret
      rw [HF.out]
      refine ⟨rfl, _, ⟨_, np2, pc2, fa2, fc2, pb2, hst.out.1.weaken (fun i hi => Or.inl hi)⟩, ?_⟩
      exact (hst.out.2.trans (Step.set Hop.out)).trans (Step.set Hop.out)
    · have hne : ((L : Int) == (R : Int)) = false := by rw [beq_eq_false_iff_ne]; omega
      clear hm hLR
      go_wp2_with (first
        | (go_at_call 34; refine (node_cells t r0 pg2 np2 pc2 p2 _ hr31 hp ?_ ?_).mono ?_; exact f2; exact f3; rintro e w' ⟨rfl, rfl⟩))
      go_ret
      rw [HF.out]
      refine ⟨rfl, _, ⟨_, np2, pc2, fa2, fc2, pb2, hst.out.1.weaken (fun i hi => Or.inl hi)⟩, ?_⟩
      exact (hst.out.2.trans (Step.set Hop.out)).trans (Step.set Hop.out)

set_option maxHeartbeats 4000000 in
theorem set_leaf_b (t r d lf n first last lo hi fh fl lh ll oh ol ih il : Nat) (S S0 S1 S2 : Pl.St) (r0 l0 t0 L R : Nat) (c : Calls2 t d lf n first last lo hi fh fl lh ll oh ol ih il S0 S1 S2 r0 l0 t0 L R) (hnn : Pl.newNode S (r, r) = (r0, S0)) (hcS : S.cnt < 2147483648) (hfS : ∀ q, q ∈ S.free → q < S.cnt) (hlS : S.free.length < 2147483648) (hr : r < 4294967296)
    (h1 : ¬ hi < first) (h2 : ¬ last < lo) (h3 : ¬ first < lo) (h4 : hi < last) (own : Nat → Prop) (w : World) (hR : Rep w t S own) (hl : Pl.leaf r = true) :
    Calls Try.prog 35 #[.pointer (some ⟨t, 0, none⟩), .int .u32 (r : Int), .int .i64 (d : Int), .agg #[.int .u64 (fh : Int), .int .u64 (fl : Int)], .agg #[.int .u64 (lh : Int), .int .u64 (ll : Int)], .agg #[.int .u64 (oh : Int), .int .u64 (ol : Int)], .agg #[.int .u64 (ih : Int), .int .u64 (il : Int)], .int .u32 (lf : Int)] w fun e w' =>
      e = .returned (.int .u32 ((Pl.fin r0 L R S2).1 : Int)) ∧ Leaves own t (Pl.fin r0 L R S2).2 w w' := by
  have HC := hide c
  have HR := hide hR
  have d1 : decide (hi < first) = false := decide_eq_false h1
  have d2 : decide (last < lo) = false := decide_eq_false h2
  have d3 : decide (first < lo) = false := decide_eq_false h3
  have d4 : decide (hi < last) = true := decide_eq_true h4
  have hd : (d : Int) ≤ 127 := by have := c.dn; omega
  have HN := hide (fun (wq : World) (hq : Rep wq t S own) => newNode_any hq hcS hfS hlS r r)
  rw [hnn] at HN
  have hwd : IntKind.i64.wrap ((d : Int) + 1) = (d : Int) + 1 := by rw [IntKind.wrap_i64]; omega
  clear hnn hcS hfS hlS
  clear h1 h2 h3 h4 hR c
  go_enter Try.func35, Try.ntmps35
  go_wp2_with fail
  refine (less_w hi first ih il fh fl HC.out.words.i HC.out.words.f _).mono ?_
  rintro e w1 ⟨rfl, hb⟩
  have B1 := (boxWorld_boxes w fh fl lh ll oh ol ih il).below hb
  have L1 := hide ((boxWorld_below w fh fl lh ll oh ol ih il).trans (hb.mono (boxWorld_below w fh fl lh ll oh ol ih il).size))
  obtain ⟨k0, k1, k2, k3, k4, k5, k6, k7⟩ := B1.cells
  clear hb
  go_wp2_with fail
  refine (less_w last lo lh ll oh ol HC.out.words.l HC.out.words.o _).mono ?_
  rintro e w2 ⟨rfl, hb⟩
  have B2 := B1.below hb
  have L2 := hide (L1.out.trans (hb.mono L1.out.size))
  clear k0 k1 k2 k3 k4 k5 k6 k7 hb B1 L1
  obtain ⟨k0, k1, k2, k3, k4, k5, k6, k7⟩ := B2.cells
  go_wp2_with fail
  refine (less_w first lo fh fl oh ol HC.out.words.f HC.out.words.o _).mono ?_
  rintro e w3 ⟨rfl, hb⟩
  have B3 := B2.below hb
  have L3 := hide (L2.out.trans (hb.mono L2.out.size))
  clear k0 k1 k2 k3 k4 k5 k6 k7 hb B2 L2
  obtain ⟨k0, k1, k2, k3, k4, k5, k6, k7⟩ := B3.cells
  go_wp2_with fail
  refine (less_w hi last ih il lh ll HC.out.words.i HC.out.words.l _).mono ?_
  rintro e wz ⟨rfl, hb⟩
  have Bz := B3.below hb
  have Lz := hide (L3.out.trans (hb.mono L3.out.size))
  clear k0 k1 k2 k3 k4 k5 k6 k7 hb B3 L3
  obtain ⟨k0, k1, k2, k3, k4, k5, k6, k7⟩ := Bz.cells
  go_wp2_with fail
  refine (isLeaf_any r hr _).mono ?_
  rintro e w4 ⟨rfl, rfl⟩
  go_wp2_with fail
  refine (HN.out _ (HR.out.below Lz.out)).mono ?_
  rintro e w5 ⟨rfl, own1, hr5, hs5⟩
  have hlt : ∀ k, own k → k < w.heap.size := fun k hk => by obtain ⟨pa', np', pc', fa', fc', pb', h'⟩ := HR.out; exact h'.size k hk
  have Bz5 := Bz.step hs5 (fun k hk => Or.inl (hlt k hk))
  have Hs5 := hide ((Step.below (own := own) Lz.out).trans hs5)
  have ho5 := hide (show ∀ k, own1 k → k < w.heap.size ∨ w.heap.size + 3 < k from fun k hk => by
    rcases hs5.grow k hk with h | h
    · exact Or.inl (hlt k h)
    · exact Or.inr (by have := Bz.lt; omega))
  have HR5 := hide hr5
  clear k0 k1 k2 k3 k4 k5 k6 k7 hs5 hr5 hlt Bz Lz HN
  obtain ⟨k0, k1, k2, k3, k4, k5, k6, k7⟩ := Bz5.cells
  go_wp2_with fail
  -- the node is read
  obtain ⟨pa, np, pc, fa, fc, pb, hz⟩ := HR5.out
  obtain ⟨pg, v0, v1, rfl, A, hv⟩ := hz.at' HC.out.lt0
  obtain ⟨rfl, rfl⟩ := hv HC.out.lt0
  obtain ⟨hp, f2, f3, f4, f5, g4, g5, n1, n2, n3, op, _⟩ := A
  rw [HC.out.here] at f4 f5
  refine (node_cells t r0 pg np pc (pb (r0 / 4096)) _ (by have := HC.out.lt0; have := HC.out.cnt0; omega) hp f2 f3).mono ?_
  rintro e w6 ⟨rfl, rfl⟩
  generalize pb (r0 / 4096) = p at *
  go_wp2_with fail
  have H9 := hide (Here.start (own := own) (l0 := l0) (t0 := t0) Bz5 Hs5.out HR5.out ho5.out)
  generalize w5.alloc (.cells #[.int .u32 (l0 : Int), .int .u32 (t0 : Int)] 51) = W9 at H9 ⊢
  generalize w5.heap.size = N at H9 ⊢
  have hd9 := H9.out.held
  clear k0 k1 k2 k3 k4 k5 k6 k7 f2 f3 f4 f5 g4 g5 n1 n2 n3 op hz hv hp Bz5 Hs5 HR5 ho5
  go_region_held3 (fun w' => w'.cell? ⟨w.heap.size, 0, none⟩ = some (.int .u64 (fh : Int)) ∧ w'.cell? ⟨w.heap.size, 1, none⟩ = some (.int .u64 (fl : Int)) ∧ w'.cell? ⟨w.heap.size + 1, 0, none⟩ = some (.int .u64 (lh : Int)) ∧ w'.cell? ⟨w.heap.size + 1, 1, none⟩ = some (.int .u64 (ll : Int)) ∧
    w'.cell? ⟨w.heap.size + 1 + 1, 0, none⟩ = some (.int .u64 (oh : Int)) ∧ w'.cell? ⟨w.heap.size + 1 + 1, 1, none⟩ = some (.int .u64 (ol : Int)) ∧ w'.cell? ⟨w.heap.size + 1 + 1 + 1, 0, none⟩ = some (.int .u64 (ih : Int)) ∧ w'.cell? ⟨w.heap.size + 1 + 1 + 1, 1, none⟩ = some (.int .u64 (il : Int)) ∧
    w'.cell? ⟨N, 0, none⟩ = some (.int .u32 (l0 : Int)) ∧ w'.cell? ⟨N, 1, none⟩ = some (.int .u32 (t0 : Int))) (first | exact hd9 | exact hdb | exact hda)
    (first
      | (go_at_call 41; refine (withoutBit_w last d n lh ll HC.out.words.l HC.out.lastLt HC.out.dn HC.out.lastBit _).mono ?_; rintro e wa ⟨rfl, hb⟩; have Ha := hide (H9.out.drew.below hb); have hda := Ha.out.held; clear hb)
      | (go_at_call 35; refine (HC.out.left' own1 _ Ha.out.rep).mono ?_; rintro e wb ⟨rfl, hlv⟩; obtain ⟨own2, Hb'⟩ := Ha.out.leaves hlv; have Hb := hide Hb'; have hdb := Hb'.held; clear hlv Hb'))
  clear hd9 hda H9 Ha
  go_wp2_with fail
  go_region_held3 (fun w' => w'.cell? ⟨w.heap.size, 0, none⟩ = some (.int .u64 (fh : Int)) ∧ w'.cell? ⟨w.heap.size, 1, none⟩ = some (.int .u64 (fl : Int)) ∧ w'.cell? ⟨w.heap.size + 1, 0, none⟩ = some (.int .u64 (lh : Int)) ∧ w'.cell? ⟨w.heap.size + 1, 1, none⟩ = some (.int .u64 (ll : Int)) ∧
    w'.cell? ⟨w.heap.size + 1 + 1, 0, none⟩ = some (.int .u64 (oh : Int)) ∧ w'.cell? ⟨w.heap.size + 1 + 1, 1, none⟩ = some (.int .u64 (ol : Int)) ∧ w'.cell? ⟨w.heap.size + 1 + 1 + 1, 0, none⟩ = some (.int .u64 (ih : Int)) ∧ w'.cell? ⟨w.heap.size + 1 + 1 + 1, 1, none⟩ = some (.int .u64 (il : Int)) ∧
    w'.cell? ⟨N, 0, none⟩ = some (.int .u32 (l0 : Int)) ∧ w'.cell? ⟨N, 1, none⟩ = some (.int .u32 (t0 : Int))) (first | exact hdb | exact hdd | exact hdc)
    (first
      | (go_at_call 42; refine (withBit_w first d n fh fl HC.out.words.f HC.out.firstLt HC.out.dn HC.out.firstBit _).mono ?_; rintro e wc ⟨rfl, hb⟩; have Hc := hide (Hb.out.drew.below hb); have hdc := Hc.out.held; clear hb)
      | (go_at_call 35; refine (HC.out.right' own2 _ Hc.out.rep).mono ?_; rintro e wd ⟨rfl, hlv⟩; obtain ⟨own3, Hd'⟩ := Hc.out.leaves hlv; have Hd := hide Hd'; have hdd := Hd'.held; clear hlv Hd'))
  clear hdb hdc Hb Hc hdd
  -- the two halves are there
  have R3 := Hd.out.rep
  have S3 := hide Hd.out.step
  clear Hd
  by_cases hm : L = R ∧ Pl.leaf L = true
  · obtain ⟨rfl, hLl⟩ := hm
    have hfin : Pl.fin r0 L L S2 = (L, { cnt := S2.cnt, mem := S2.mem, free := S2.free ++ [r0] }) := by simp [Pl.fin, hLl]
    have HF := hide hfin
    obtain ⟨pa2, np2, pc2, fa2, fc2, pb2, h3⟩ := R3
    have q3 : wd.cell? ⟨t, 3, none⟩ = some (.slice fa2 S2.free.length fc2) := by rw [cell_of_heap h3.tree]; rfl
    have H3 := hide h3
    have hl3 : t < wd.heap.size := h3.size t h3.ownT
    have b1 : S2.free.length + 1 ≤ maxLen := by have := HC.out.len; unfold maxLen; omega
    have b2 : (S2.free.length + 1) * 4 ≤ 140737488355328 := by have := HC.out.len; omega
    clear h3 hfin
    obtain ⟨i0, hi0, hz0, hz1, hz2⟩ := info_parts info29
    go_wp2_with (first
      | (go_at_call 20; refine (isLeaf_any L HC.out.lLt _).mono ?_; rintro e w' ⟨rfl, rfl⟩)
      | (at_builtin; go_must (refine wpList_append_one rfl (.tmp 92) (.tmp 94) 43 rfl 29 i0 (.int .u32 0) 4 Try.underlying43 hi0 hz0 hz1 hz2 rfl (.slice fa2 S2.free.length fc2) S2.free.length _ rfl (H3.out.alloc _).free ⟨wd.heap.size, 0, none⟩ 1 (.int .u32 (r0 : Int)) rfl (one_new _ _ _) rfl b1 b2 ?_); intro g cap w3 how hgr hat; go_must (have PF := (H3.out.alloc _).pushFree (r := r0) how hgr hat; have q5 := PF.2.2.1; have q6 := PF.2.2.2; have HPF := hide PF; clear PF how hgr hat)))
    go_ret
    rw [HF.out]
    refine ⟨rfl, ?_⟩
    obtain ⟨r1, r2, _, _⟩ := HPF.out
    exact ⟨_, ⟨pa2, np2, pc2, _, cap, pb2, r1⟩, S3.out.trans ((Step.alloc _ _ _).trans r2)⟩
  · have hfin : Pl.fin r0 L R S2 = (r0, { cnt := S2.cnt, mem := Pl.upd S2.mem r0 (L, R), free := S2.free }) := by simp [Pl.fin, hm]
    have HF := hide hfin
    obtain ⟨pa2, np2, pc2, fa2, fc2, pb2, h3⟩ := R3
    obtain ⟨pg2, v0, v1, rfl, A, hv⟩ := h3.at' HC.out.lt2
    have hst := hide (And.intro (h3.storeNode HC.out.lt2 L R) S3.out)
    obtain ⟨hp, f2, f3, f4, f5, g4, g5, n1, n2, n3, op, _⟩ := A
    have hr31 : r0 < 2147483648 := by have := HC.out.lt0; have := HC.out.cnt0; omega
    generalize hpp : pb2 (r0 / 4096) = p2 at *
    have Hop := hide op
    clear op hpp hv h3 hfin
    by_cases hLR : L = R
    · subst hLR
      have hLl : Pl.leaf L = false := by cases h : Pl.leaf L with | true => exact absurd ⟨rfl, h⟩ hm | false => rfl
      clear hm
      go_wp2_with (first
        | (go_at_call 20; refine (isLeaf_any L HC.out.lLt _).mono ?_; rintro e w' ⟨rfl, rfl⟩)
        | (go_at_call 34; refine (node_cells t r0 pg2 np2 pc2 p2 _ hr31 hp ?_ ?_).mono ?_; exact f2; exact f3; rintro e w' ⟨rfl, rfl⟩))
      go_ret
      rw [HF.out]
      refine ⟨rfl, _, ⟨_, np2, pc2, fa2, fc2, pb2, hst.out.1.weaken (fun i hi => Or.inl hi)⟩, ?_⟩
      exact (hst.out.2.trans (Step.set Hop.out)).trans (Step.set Hop.out)
    · have hne : ((L : Int) == (R : Int)) = false := by rw [beq_eq_false_iff_ne]; omega
      clear hm hLR
      go_wp2_with (first
        | (go_at_call 34; refine (node_cells t r0 pg2 np2 pc2 p2 _ hr31 hp ?_ ?_).mono ?_; exact f2; exact f3; rintro e w' ⟨rfl, rfl⟩))
      go_ret
      rw [HF.out]
      refine ⟨rfl, _, ⟨_, np2, pc2, fa2, fc2, pb2, hst.out.1.weaken (fun i hi => Or.inl hi)⟩, ?_⟩
      exact (hst.out.2.trans (Step.set Hop.out)).trans (Step.set Hop.out)
end Go.Proofs.Qxb6600977a
