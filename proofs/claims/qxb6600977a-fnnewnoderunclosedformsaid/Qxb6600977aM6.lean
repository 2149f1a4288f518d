import Derived.Test.Qxb6600977aEq
set_option linter.unusedVariables false
set_option linter.unusedSimpArgs false
namespace Go.Proofs.Qxb6600977a
open Go.RowKit

set_option maxHeartbeats 1000000 in
theorem bytes21 (v0 : Nat) (a1 a2 : Option Addr) (len1 cap1 len2 cap2 : Nat) (hm1 : len1 ≤ maxLen) (hm2 : len2 ≤ maxLen) (w : World) :
    Calls Try.prog 21 #[.int .u32 (v0 : Int), .slice a1 len1 cap1, .slice a2 len2 cap2] w fun e w' => (∃ b : Bool, e = .returned (.bool b)) ∧ w = w' := by
  unfold maxLen at hm1 hm2
  by_cases h1 : len1 ≤ 1048576
  · by_cases h2 : len2 ≤ 1048576
    · by_cases h3 : len1 + len2 ≤ 1048576
      · have t3 : decide ((1048576 : Int) < (len1 : Int) + (len2 : Int)) = false := decide_eq_false (by omega)
        go_enter Try.func21, Try.ntmps21
        go_wp2
        go_ret
        exact ⟨⟨_, rfl⟩, rfl⟩
      · have t3 : decide ((1048576 : Int) < (len1 : Int) + (len2 : Int)) = true := decide_eq_true (by omega)
        go_enter Try.func21, Try.ntmps21
        go_wp2
        go_ret
        exact ⟨⟨_, rfl⟩, rfl⟩
    · have t2 : decide ((1048576 : Int) < (len2 : Int)) = true := decide_eq_true (by omega)
      go_enter Try.func21, Try.ntmps21
      go_wp2
      go_ret
      exact ⟨⟨_, rfl⟩, rfl⟩
  · have t1 : decide ((1048576 : Int) < (len1 : Int)) = true := decide_eq_true (by omega)
    go_enter Try.func21, Try.ntmps21
    go_wp2
    go_ret
    exact ⟨⟨_, rfl⟩, rfl⟩

theorem spans_below6 {w w' : World} {len : Nat} {a : Option Addr} {sp : Nat → Sp} (hs : SpansAt w a len sp) (h : Below w.heap.size w w') : SpansAt w' a len sp :=
  hs.below h (fun i b off hi ha => by obtain ⟨b', off', ha', hlt, _⟩ := hs i hi; rw [ha] at ha'; simp at ha'; omega)

structure SnapRel (w wr : World) (own : Nat → Prop) (fa : Option Addr) (S : Pl.St) (k : Nat) : Prop where
  snap : RefsAt wr w.heap.size S.free.length (fun i => if i < k then S.free.getD i 0 else 0)
  fr : FreeAt wr own fa S.free
  step : Step (fun k => k = w.heap.size) (fun k => k = w.heap.size) w wr
  not : ¬ own w.heap.size

theorem SnapRel.start {w : World} {own : Nat → Prop} {fa : Option Addr} {S : Pl.St} {t : Nat} {cur : Array Value} (h : Rep w t S own) (hF : FreeAt w own fa S.free) (h1 : cur.size = S.free.length) (h2 : ∀ i, i < S.free.length → cur[i]? = some (.int .u32 0)) : SnapRel w (w.alloc (.cells cur 29)) own fa S 0 := by
  have hno : ¬ own w.heap.size := fun h' => by obtain ⟨pa, np, pc, fa, fc, pb, hr⟩ := h; have := hr.size _ h'; omega
  exact ⟨(RefsAt.made h1 h2).congr (fun i _ => by simp), hF.step (Step.alloc (fun k => k = w.heap.size) w _) (fun q hq e => hno (e ▸ hq)), Step.alloc _ _ _, hno⟩

theorem SnapRel.store {w wr : World} {own : Nat → Prop} {fa : Option Addr} {S : Pl.St} {t k : Nat} (h : SnapRel w wr own fa S k) (hr : Rep w t S own) (hk : k < S.free.length) : SnapRel w (wr.setCell ⟨w.heap.size, k, none⟩ (.int .u32 (S.free.getD k 0 : Int))) own fa S (k + 1) := by
  refine ⟨(h.snap.set hk _).congr (fun i _ => ?_), h.fr.step (Step.set (own := fun b => b = w.heap.size) rfl) (fun q hq e => h.not (e ▸ hq)), h.step.trans (Step.set rfl), h.not⟩
  by_cases e : i = k
  · subst e; simp
  · by_cases e2 : i < k
    · simp [e, e2, show i < k + 1 from by omega]
    · simp [e, e2, show ¬ i < k + 1 from by omega]

theorem SnapRel.done {w wr : World} {own : Nat → Prop} {fa : Option Addr} {S : Pl.St} {f : Nat} (h : SnapRel w wr own fa S f) (hf : f = S.free.length) : RefsAt wr w.heap.size f (fun i => S.free.getD i 0) := by
  subst hf
  exact h.snap.congr (fun i hi => by simp [hi])

theorem got_low {w2 w3 w5 W : World} {own own' : Nat → Prop} {t len2 k : Nat} {S : Pl.St} {pr : Nat → Nat × Nat} {cur : Array Value} (h1 : Below w2.heap.size w2 w3) (h2 : ∀ k, own k → w2.heap.size ≤ k) (h3 : Step (fun k => k = w3.heap.size) (fun k => k = w3.heap.size) w3 w5) (hg : GotRel (w5.alloc (.cells cur 29)) W own own' t w5.heap.size len2 S pr k) : Below w2.heap.size w2 W := by
  have s1 := h1.size
  have s2 := h3.size
  have b3 := h3.toBelow (B := w2.heap.size) s1 (fun k hk => by omega)
  have b4 : Below w2.heap.size w5 (w5.alloc (.cells cur 29)) := (Below.refl _ _).alloc (by omega) _
  have b5 := hg.step.toBelow (B := w2.heap.size) (by simp; omega) (fun k hk => by rcases hk with h | h; exact h2 k h; omega)
  exact ((h1.trans b3).trans b4).trans b5

theorem got_snap {w3 w5 W : World} {own own' : Nat → Prop} {t len2 k f : Nat} {S : Pl.St} {pr : Nat → Nat × Nat} {cur : Array Value} {mk : Nat → Nat} (h1 : RefsAt w5 w3.heap.size f mk) (h2 : ¬ own w3.heap.size) (hg : GotRel (w5.alloc (.cells cur 29)) W own own' t w5.heap.size len2 S pr k) : RefsAt W w3.heap.size f mk := by
  have hlt := h1.lt
  have h3 : RefsAt (w5.alloc (.cells cur 29)) w3.heap.size f mk := h1.keep (heap_alloc_lt hlt)
  exact h3.keep (hg.step.block _ h3.lt (fun h => by rcases h with h | h; exact h2 h; omega))

set_option maxHeartbeats 4000000 in
set_option maxRecDepth 20000 in
theorem law6 (v0 : Nat) (a1 a2 : Option Addr) (len1 cap1 len2 cap2 : Nat) (sp : Nat → Sp) (pr : Nat → Nat × Nat) (w : World) (hv0 : v0 < 4294967296) (hm1 : len1 ≤ maxLen) (hm2 : len2 ≤ maxLen) (hnil1 : a1 = none → len1 = 0 ∧ cap1 = 0) (hnil2 : a2 = none → len2 = 0 ∧ cap2 = 0) (hok : ∀ i, i < len1 → SpOk (sp i)) (hpr : ∀ i, i < len2 → (pr i).1 < 4294967296 ∧ (pr i).2 < 4294967296) (h : SpansAt w a1 len1 sp) (hp : TwosAt w .u32 a2 len2 pr) :
    Calls Try.prog 6 #[.int .u32 (v0 : Int), .slice a1 len1 cap1, .slice a2 len2 cap2] w fun e w' => e = .returned (.bool true) ∧ Below w.heap.size w w' := by
  have HB := hide (bytes21 v0 a1 a2 len1 cap1 len2 cap2 hm1 hm2 w)
  have HS := hide (And.intro hnil1 (And.intro hok h))
  have HP := hide (And.intro hnil2 (And.intro hpr hp))
  unfold maxLen at hm1 hm2
  clear hnil1 hok h hnil2 hpr hp
  by_cases h1 : len1 ≤ 4096
  · have t1 : decide ((4096 : Int) < (len1 : Int)) = false := decide_eq_false (by omega)
    by_cases h2 : len2 ≤ 4096
    · have t2 : decide ((4096 : Int) < (len2 : Int)) = false := decide_eq_false (by omega)
      by_cases h3 : len1 * 40 + len2 * 8 ≤ 1048576
      · have t3 : decide ((1048576 : Int) < (len1 : Int) * 40 + (len2 : Int) * 8) = false := decide_eq_false (by omega)
        go_enter Try.func6, Try.ntmps6
        go_wp2_with fail
        refine HB.out.mono ?_
        rintro e w0 ⟨⟨b, rfl⟩, rfl⟩
        cases b
        · go_wp2_with fail
          go_ret
          exact ⟨rfl, Below.refl _ _⟩
        · go_wp2_with fail
          refine (copySpans_any a1 len1 cap1 sp _ h1 HS.out.1 HS.out.2.2).mono ?_
          rintro e w1 ⟨b1, cap1', rfl, hs1, hb1⟩
          have H1 := hide (And.intro hs1 (And.intro hb1 (HP.out.2.2.below hb1)))
          clear hs1 hb1 HB
          go_wp2_with fail
          refine (copyPairs_any a2 len2 cap2 pr _ h2 HP.out.1 H1.out.2.2).mono ?_
          rintro e w2 ⟨b2, cap2', rfl, hs2, hb2⟩
          have H2 := hide (And.intro (spans_below6 H1.out.1 hb2) (And.intro (H1.out.2.1.trans (hb2.mono H1.out.2.1.size)) hs2))
          clear hs2 hb2 H1
          go_wp2_with fail
          refine (build_any v0 len1 cap1' b1 sp _ hv0 h1 HS.out.2.1 H2.out.1).mono ?_
          rintro e w3 ⟨rfl, own, hr⟩
          have hinv := build_inv v0 sp len1 h1
          have hok' : RunOk (buildTo v0 sp len1).2 (fun a => (Pl.nodes (buildTo v0 sp len1).2.mem 128 (buildTo v0 sp len1).1).count a) := ⟨fun a => by have := hinv.1.once a; omega, by have := hinv.2; omega⟩
          have H3 := hide (And.intro hr.rep (And.intro hr.low hr.above))
          clear hr hinv
          generalize (buildTo v0 sp len1).1 = root at hok' ⊢
          generalize (buildTo v0 sp len1).2 = S at H3 hok' ⊢
          generalize (fun a => (Pl.nodes S.mem 128 root).count a) = y at hok'
          have hcb := hok'.cnt
          have hfl := hok'.len
          have HO := hide hok'
          clear hok'
          have HW := hide (show w2.heap.size ≤ w3.heap.size from H3.out.2.1.size)
          have HT := hide (And.intro H3.out.1 (show w2.heap.size < w3.heap.size by obtain ⟨pa, np, pc, fa, fc, pb, hh⟩ := H3.out.1; exact hh.size _ hh.ownT))
          obtain ⟨t, ht⟩ : ∃ t, t = w2.heap.size := ⟨_, rfl⟩
          rw [← ht] at HT ⊢
          clear ht
          go_wp2_with fail
          refine (zzCount_any HT.out.1).mono ?_
          rintro e w4 ⟨rfl, rfl⟩
          have t3 : decide ((S.cnt : Int) < 0) = false := decide_eq_false (by omega)
          have t4 : decide ((16777216 : Int) < (S.cnt : Int)) = false := decide_eq_false (by omega)
          go_wp2_with fail
          refine (zzFree_any HT.out.1).mono ?_
          rintro e w4 ⟨fa, fc, rfl, hF, rfl⟩
          have HF := hide hF
          clear hF
          obtain ⟨f, hf⟩ : ∃ f, f = S.free.length := ⟨_, rfl⟩
          rw [← hf] at hfl ⊢
          have t5 : decide ((S.cnt : Int) < (f : Int)) = false := decide_eq_false (by omega)
          have t5n : decide (S.cnt < f) = false := decide_eq_false (by omega)
          obtain ⟨cur1, hc1, hz1, hmk1⟩ := make_refs f (by omega)
          have HC1 := hide (And.intro hc1 hz1)
          clear hc1 hz1
          have HFE := hide hf
          clear hf
          go_wp2_with fail
          go_loopw [13] (fun i wr => ∃ k : Nat, k ≤ f ∧ i = .int .i64 k ∧ SnapRel w3 wr own fa S k) (fun i _ => f - (intOf i).toNat)
          case atStart => exact ⟨0, Nat.zero_le _, rfl, SnapRel.start HT.out.1 HF.out (by rw [← HFE.out]; exact HC1.out.1) (by rw [← HFE.out]; exact HC1.out.2)⟩
          case round =>
            obtain ⟨k, hk, rfl, hs⟩ := hrel
            have HS1 := hide hs
            clear hs
            by_cases hlt : k < f
            · obtain ⟨fb, rfl, hof, hfb, cx⟩ := HS1.out.fr.cell k (by rw [← HFE.out]; exact hlt)
              obtain ⟨cm, zm⟩ := HS1.out.snap.cell (i := k) (by rw [← HFE.out]; exact hlt)
              clear hof hfb
              go_wp2_with fail
              go_roundw
              case rel => exact ⟨k + 1, by omega, by go_num, HS1.out.store HT.out.1 (by rw [← HFE.out]; exact hlt)⟩
              case measure => simp [intOf]; omega
            · obtain rfl : f = k := by omega
              clear hlt hk
              have HS2 := hide (HS1.out.done HFE.out)
              have HRW := hide (Rep.step HT.out.1 HS1.out.step (fun q hq e => HS1.out.not (e ▸ hq)))
              have hsz : w3.heap.size < wr.heap.size := HS1.out.snap.lt
              obtain ⟨cur2, hc2, hz2, hmk2⟩ := make_refs len2 (by omega)
              have HC2 := hide (And.intro hc2 hz2)
              clear hc2 hz2 hmk1 HC1
              go_wp2_with fail
              rename World => w5
              have HG0 := hide (GotRel.start (pr := pr) HRW.out HC2.out.1 HC2.out.2)
              have HLOW := hide (fun (W : World) (own' : Nat → Prop) (k : Nat) (hg : GotRel (w5.alloc (.cells cur2 29)) W own own' t w5.heap.size len2 S pr k) => got_low H3.out.2.1 H3.out.2.2 HS1.out.step hg)
              have HS3 := hide (fun (W : World) (own' : Nat → Prop) (k : Nat) (hg : GotRel (w5.alloc (.cells cur2 29)) W own own' t w5.heap.size len2 S pr k) => got_snap HS2.out HS1.out.not hg)
              clear HS1 HRW HT HF HC2
              generalize w5.alloc (.cells cur2 29) = w6 at HG0 HLOW HS3 ⊢
              generalize w5.heap.size = N at HG0 HLOW HS3 ⊢
              generalize w3.heap.size = N1 at HS3 HS2 hsz ⊢
              clear hmk2 HS2 hsz
              go_loopw [16] (fun i wr => ∃ k : Nat, k ≤ len2 ∧ i = .int .i64 k ∧ ∃ own', GotRel w6 wr own own' t N len2 S pr k) (fun i _ => len2 - (intOf i).toNat)
              case atStart => exact ⟨0, Nat.zero_le _, rfl, own, HG0.out⟩
              case round =>
                obtain ⟨k, hk, rfl, own', hg⟩ := hrel
                have HG := hide hg
                clear hg
                by_cases hlt : k < len2
                · obtain ⟨b, off, rfl, hbl, c0, c1⟩ := H2.out.2.2 k hlt
                  rw [← (HLOW.out _ _ _ HG.out).cell hbl] at c0 c1
                  clear hbl
                  go_wp2_with fail
                  refine (nodeOf_any _ _ _).mono ?_
                  rintro e w7 ⟨rfl, hb7⟩
                  have HG7 := hide (HG.out.below hb7)
                  clear hb7 HG c0 c1
                  go_wp2_with fail
                  refine (got_call HG7.out HO.out hlt h2).mono ?_
                  rintro e w8 ⟨rfl, zm, own2, hg2, cm⟩
                  have HG8 := hide hg2
                  clear hg2 HG7
                  go_wp2_with fail
                  go_roundw
                  case rel => exact ⟨k + 1, by omega, by go_num, own2, HG8.out⟩
                  case measure => simp [intOf]; omega
                · obtain rfl : len2 = k := by omega
                  clear hlt hk
                  rename World => w7
                  have HSN := hide (HS3.out _ _ _ HG.out)
                  have HLO := hide (HLOW.out _ _ _ HG.out)
                  have HR := hide HG.out.rep
                  have HGO := hide HG.out.got
                  clear HG0 HLOW HS3 HG
                  go_wp2_with fail
                  go_loop [17] (fun i => ∃ k : Nat, k ≤ len2 ∧ i = .int .i64 k) (fun i => len2 - (intOf i).toNat)
                  case atStart => exact ⟨0, Nat.zero_le _, rfl⟩
                  case round =>
                    obtain ⟨k, hk, rfl⟩ := hrel
                    by_cases hlt : k < len2
                    · obtain ⟨cg, zg⟩ := HGO.out.cell hlt
                      have hgs := Pl.got_shape S pr k
                      rw [← HFE.out] at hgs
                      simp only [gotTo, if_pos hlt] at cg
                      have hgl : Pl.gotAt S pr k < 2147483648 := by have h1 := HO.out.got_lt pr hlt; have h2 := (HO.out.at pr len2 h2).1; omega
                      by_cases hkf : k < f
                      · rw [if_pos hkf] at hgs
                        obtain ⟨j, hj⟩ : ∃ j, f - 1 - k = j := ⟨_, rfl⟩
                        rw [hj] at hgs
                        obtain ⟨cs, zs⟩ := HSN.out.cell (i := j) (by omega)
                        rw [← hgs] at cs
                        have hji : (f : Int) - 1 - (k : Int) = (j : Int) := by omega
                        have hjf : (j : Int) < (f : Int) := by omega
                        clear hgs hj
                        generalize Pl.gotAt S pr k = g at *
                        go_wp2_with fail
                        go_round
                        case rel => exact ⟨k + 1, by omega, by go_num⟩
                        case measure => simp [intOf]; omega
                      · rw [if_neg hkf] at hgs
                        have t7 : decide ((k : Int) < (f : Int)) = false := decide_eq_false (by omega)
                        have hji : (S.cnt : Int) + ((k : Int) - (f : Int)) = (Pl.gotAt S pr k : Int) := by omega
                        clear hgs
                        generalize Pl.gotAt S pr k = g at *
                        go_wp2_with fail
                        go_round
                        case rel => exact ⟨k + 1, by omega, by go_num⟩
                        case measure => simp [intOf]; omega
                    · obtain rfl : len2 = k := by omega
                      clear hlt hk
                      obtain ⟨hsf, hsc⟩ := Pl.nn_shape S pr len2
                      have hlf : (Pl.nnTo S pr len2).free.length = f - len2 := by rw [hsf, List.length_take, ← HFE.out]; omega
                      rw [← HFE.out] at hsc
                      by_cases hnf : f < len2
                      · have t8 : decide ((f : Int) < (len2 : Int)) = true := decide_eq_true (by omega)
                        have e1 : (S.cnt : Int) + ((len2 : Int) - (f : Int)) = ((Pl.nnTo S pr len2).cnt : Int) := by omega
                        have e2 : (Pl.nnTo S pr len2).free.length = 0 := by omega
                        clear hsf hsc hlf
                        go_wp2_with fail
                        refine (zzCount_any HR.out).mono ?_
                        rintro e w9 ⟨rfl, rfl⟩
                        go_wp2_with fail
                        refine (zzFree_any HR.out).mono ?_
                        rintro e w9 ⟨fa2, fc2, rfl, _, rfl⟩
                        rw [e2]
                        go_wp2_with fail
                        go_loopw [21] (fun i wr => ∃ k : Nat, k ≤ len2 ∧ i = .int .i64 k ∧ Below w7.heap.size w7 wr) (fun i _ => len2 - (intOf i).toNat)
                        case atStart => exact ⟨0, Nat.zero_le _, rfl, Below.refl _ _⟩
                        case round =>
                          obtain ⟨k, hk, rfl, hb⟩ := hrel
                          have HB := hide hb
                          clear hb
                          by_cases hlt : k < len2
                          · obtain ⟨b, off, rfl, hbl, c0, c1⟩ := H2.out.2.2 k hlt
                            rw [← HLO.out.cell hbl] at c0 c1
                            have cg := (HGO.out.cell hlt).1
                            simp only [gotTo, if_pos hlt] at cg
                            have hm := (Pl.nn_mem S pr y HO.out.once len2).2 k hlt
                            have hgl := HO.out.got_lt pr hlt
                            have HN := hide (fun (W : World) (hW : Below w7.heap.size w7 W) => zzNode_any (HR.out.below hW) (Pl.gotAt S pr k) hgl (HO.out.at pr len2 h2).1)
                            rw [hm] at HN
                            have HC := hide (fun (W : World) (hW : Below w7.heap.size w7 W) => And.intro ((hW.cell HGO.out.lt).trans cg) (And.intro ((hW.cell (Nat.lt_of_lt_of_le hbl HLO.out.size)).trans c0) ((hW.cell (Nat.lt_of_lt_of_le hbl HLO.out.size)).trans c1)))
                            have hd0 := HC.out _ HB.out
                            have heq := eq51 (pr k).1 (pr k).2 (HP.out.2.1 k hlt).1 (HP.out.2.1 k hlt).2
                            clear hm hgl hbl c0 c1 cg
                            generalize (pr k).1 = p1 at *
                            generalize (pr k).2 = p2 at *
                            generalize Pl.gotAt S pr k = g at *
                            go_wp2_with fail
                            go_region_held3 (fun w' => w'.cell? ⟨N, k, none⟩ = some (.int .u32 (g : Int)) ∧ w'.cell? ⟨b, off + k * 2, none⟩ = some (.int .u32 (p1 : Int)) ∧ w'.cell? ⟨b, off + k * 2 + 1, none⟩ = some (.int .u32 (p2 : Int))) (first | exact hd2 | exact hd1 | exact hd0)
                              (first
                                | (go_at_call 25; refine (HN.out _ HB.out.drew).mono ?_; rintro e w8 ⟨rfl, hb8⟩; have HB8 := hide (HB.out.drew.trans (hb8.mono HB.out.drew.size)); clear hb8; have hd1 := HC.out _ HB8.out)
                                | (go_at_call 24; refine (nodeOf_any _ _ _).mono ?_; rintro e w9 ⟨rfl, hb9⟩; have HB9 := hide (HB8.out.trans (hb9.mono HB8.out.size)); clear hb9; have hd2 := HC.out _ HB9.out))
                            go_wp2_with fail
                            go_roundw
                            case rel => exact ⟨k + 1, by omega, by go_num, HB9.out⟩
                            case measure => simp [intOf]; omega
                          · obtain rfl : len2 = k := by omega
                            go_wp2_with fail
                            go_ret
                            refine ⟨rfl, ?_⟩
                            have b1 := H2.out.2.1
                            have b2 := HLO.out
                            exact (b1.trans (b2.mono b1.size)).trans (HB.out.mono (Nat.le_trans b1.size b2.size))
                      · have t8 : decide ((f : Int) < (len2 : Int)) = false := decide_eq_false (by omega)
                        have e1 : (Pl.nnTo S pr len2).cnt = S.cnt := by omega
                        have e2 : (f : Int) - (len2 : Int) = ((Pl.nnTo S pr len2).free.length : Int) := by omega
                        clear hsf hsc hlf
                        go_wp2_with fail
                        refine (zzCount_any HR.out).mono ?_
                        rintro e w9 ⟨rfl, rfl⟩
                        rw [e1]
                        go_wp2_with fail
                        refine (zzFree_any HR.out).mono ?_
                        rintro e w9 ⟨fa2, fc2, rfl, _, rfl⟩
                        go_wp2_with fail
                        go_loopw [21] (fun i wr => ∃ k : Nat, k ≤ len2 ∧ i = .int .i64 k ∧ Below w7.heap.size w7 wr) (fun i _ => len2 - (intOf i).toNat)
                        case atStart => exact ⟨0, Nat.zero_le _, rfl, Below.refl _ _⟩
                        case round =>
                          obtain ⟨k, hk, rfl, hb⟩ := hrel
                          have HB := hide hb
                          clear hb
                          by_cases hlt : k < len2
                          · obtain ⟨b, off, rfl, hbl, c0, c1⟩ := H2.out.2.2 k hlt
                            rw [← HLO.out.cell hbl] at c0 c1
                            have cg := (HGO.out.cell hlt).1
                            simp only [gotTo, if_pos hlt] at cg
                            have hm := (Pl.nn_mem S pr y HO.out.once len2).2 k hlt
                            have hgl := HO.out.got_lt pr hlt
                            have HN := hide (fun (W : World) (hW : Below w7.heap.size w7 W) => zzNode_any (HR.out.below hW) (Pl.gotAt S pr k) hgl (HO.out.at pr len2 h2).1)
                            rw [hm] at HN
                            have HC := hide (fun (W : World) (hW : Below w7.heap.size w7 W) => And.intro ((hW.cell HGO.out.lt).trans cg) (And.intro ((hW.cell (Nat.lt_of_lt_of_le hbl HLO.out.size)).trans c0) ((hW.cell (Nat.lt_of_lt_of_le hbl HLO.out.size)).trans c1)))
                            have hd0 := HC.out _ HB.out
                            have heq := eq51 (pr k).1 (pr k).2 (HP.out.2.1 k hlt).1 (HP.out.2.1 k hlt).2
                            clear hm hgl hbl c0 c1 cg
                            generalize (pr k).1 = p1 at *
                            generalize (pr k).2 = p2 at *
                            generalize Pl.gotAt S pr k = g at *
                            go_wp2_with fail
                            go_region_held3 (fun w' => w'.cell? ⟨N, k, none⟩ = some (.int .u32 (g : Int)) ∧ w'.cell? ⟨b, off + k * 2, none⟩ = some (.int .u32 (p1 : Int)) ∧ w'.cell? ⟨b, off + k * 2 + 1, none⟩ = some (.int .u32 (p2 : Int))) (first | exact hd2 | exact hd1 | exact hd0)
                              (first
                                | (go_at_call 25; refine (HN.out _ HB.out.drew).mono ?_; rintro e w8 ⟨rfl, hb8⟩; have HB8 := hide (HB.out.drew.trans (hb8.mono HB.out.drew.size)); clear hb8; have hd1 := HC.out _ HB8.out)
                                | (go_at_call 24; refine (nodeOf_any _ _ _).mono ?_; rintro e w9 ⟨rfl, hb9⟩; have HB9 := hide (HB8.out.trans (hb9.mono HB8.out.size)); clear hb9; have hd2 := HC.out _ HB9.out))
                            go_wp2_with fail
                            go_roundw
                            case rel => exact ⟨k + 1, by omega, by go_num, HB9.out⟩
                            case measure => simp [intOf]; omega
                          · obtain rfl : len2 = k := by omega
                            go_wp2_with fail
                            go_ret
                            refine ⟨rfl, ?_⟩
                            have b1 := H2.out.2.1
                            have b2 := HLO.out
                            exact (b1.trans (b2.mono b1.size)).trans (HB.out.mono (Nat.le_trans b1.size b2.size))
      · have t3 : decide ((1048576 : Int) < (len1 : Int) * 40 + (len2 : Int) * 8) = true := decide_eq_true (by omega)
        go_enter Try.func6, Try.ntmps6
        go_wp2_with fail
        refine HB.out.mono ?_
        rintro e w0 ⟨⟨b, rfl⟩, rfl⟩
        cases b
        · go_wp2_with fail
          go_ret
          exact ⟨rfl, Below.refl _ _⟩
        · go_wp2_with fail
          go_ret
          exact ⟨rfl, Below.refl _ _⟩
    · have t2 : decide ((4096 : Int) < (len2 : Int)) = true := decide_eq_true (by omega)
      go_enter Try.func6, Try.ntmps6
      go_wp2_with fail
      refine HB.out.mono ?_
      rintro e w0 ⟨⟨b, rfl⟩, rfl⟩
      cases b
      · go_wp2_with fail
        go_ret
        exact ⟨rfl, Below.refl _ _⟩
      · go_wp2_with fail
        go_ret
        exact ⟨rfl, Below.refl _ _⟩
  · have t1 : decide ((4096 : Int) < (len1 : Int)) = true := decide_eq_true (by omega)
    go_enter Try.func6, Try.ntmps6
    go_wp2_with fail
    refine HB.out.mono ?_
    rintro e w0 ⟨⟨b, rfl⟩, rfl⟩
    cases b
    · go_wp2_with fail
      go_ret
      exact ⟨rfl, Below.refl _ _⟩
    · go_wp2_with fail
      go_ret
      exact ⟨rfl, Below.refl _ _⟩
end Go.Proofs.Qxb6600977a
