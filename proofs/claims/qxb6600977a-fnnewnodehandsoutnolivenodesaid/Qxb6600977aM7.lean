import Derived.Test.Qxb6600977aL9
set_option linter.unusedVariables false
set_option linter.unusedSimpArgs false
namespace Go.Proofs.Qxb6600977a
open Go.RowKit

set_option maxHeartbeats 1000000 in
theorem bytes26 (v0 : Nat) (a1 a2 a3 : Option Addr) (len1 cap1 len2 cap2 len3 cap3 : Nat) (hm1 : len1 ≤ maxLen) (hm2 : len2 ≤ maxLen) (hm3 : len3 ≤ maxLen) (w : World) :
    Calls Try.prog 26 #[.int .u32 (v0 : Int), .slice a1 len1 cap1, .slice a2 len2 cap2, .slice a3 len3 cap3] w fun e w' => (∃ b : Bool, e = .returned (.bool b)) ∧ w = w' := by
  unfold maxLen at hm1 hm2 hm3
  by_cases h1 : len1 ≤ 1048576
  · by_cases h2 : len2 ≤ 1048576
    · by_cases h4 : len1 + len2 ≤ 1048576
      · have t4 : decide ((1048576 : Int) < (len1 : Int) + (len2 : Int)) = false := decide_eq_false (by omega)
        by_cases h3 : len3 ≤ 1048576
        · by_cases h5 : len1 + len2 + len3 ≤ 1048576
          · have t5 : decide ((1048576 : Int) < (len1 : Int) + (len2 : Int) + (len3 : Int)) = false := decide_eq_false (by omega)
            go_enter Try.func26, Try.ntmps26
            go_wp2
            go_ret
            exact ⟨⟨_, rfl⟩, rfl⟩
          · have t5 : decide ((1048576 : Int) < (len1 : Int) + (len2 : Int) + (len3 : Int)) = true := decide_eq_true (by omega)
            go_enter Try.func26, Try.ntmps26
            go_wp2
            go_ret
            exact ⟨⟨_, rfl⟩, rfl⟩
        · have t3 : decide ((1048576 : Int) < (len3 : Int)) = true := decide_eq_true (by omega)
          go_enter Try.func26, Try.ntmps26
          go_wp2
          go_ret
          exact ⟨⟨_, rfl⟩, rfl⟩
      · have t4 : decide ((1048576 : Int) < (len1 : Int) + (len2 : Int)) = true := decide_eq_true (by omega)
        go_enter Try.func26, Try.ntmps26
        go_wp2
        go_ret
        exact ⟨⟨_, rfl⟩, rfl⟩
    · have t2 : decide ((1048576 : Int) < (len2 : Int)) = true := decide_eq_true (by omega)
      go_enter Try.func26, Try.ntmps26
      go_wp2
      go_ret
      exact ⟨⟨_, rfl⟩, rfl⟩
  · have t1 : decide ((1048576 : Int) < (len1 : Int)) = true := decide_eq_true (by omega)
    go_enter Try.func26, Try.ntmps26
    go_wp2
    go_ret
    exact ⟨⟨_, rfl⟩, rfl⟩

theorem got_low7 {w3 w4 W : World} {own own' : Nat → Prop} {t len2 k : Nat} {S : Pl.St} {pr : Nat → Nat × Nat} {cur : Array Value} (h1 : Below w3.heap.size w3 w4) (h2 : ∀ k, own k → w3.heap.size ≤ k) (hg : GotRel (w4.alloc (.cells cur 29)) W own own' t w4.heap.size len2 S pr k) : Below w3.heap.size w3 W := by
  have s1 := h1.size
  have b4 : Below w3.heap.size w4 (w4.alloc (.cells cur 29)) := (Below.refl _ _).alloc (by omega) _
  have b5 := hg.step.toBelow (B := w3.heap.size) (by simp; omega) (fun k hk => by rcases hk with h | h; exact h2 k h; omega)
  exact (h1.trans b4).trans b5

set_option maxHeartbeats 8000000 in
set_option maxRecDepth 20000 in
theorem law7 (v0 : Nat) (a1 a2 a3 : Option Addr) (len1 cap1 len2 cap2 len3 cap3 : Nat) (sp : Nat → Sp) (pr pb : Nat → Nat × Nat) (w : World) (hv0 : v0 < 4294967296) (hm1 : len1 ≤ maxLen) (hm2 : len2 ≤ maxLen) (hm3 : len3 ≤ maxLen) (hnil1 : a1 = none → len1 = 0 ∧ cap1 = 0) (hnil2 : a2 = none → len2 = 0 ∧ cap2 = 0) (hnil3 : a3 = none → len3 = 0 ∧ cap3 = 0) (hok : ∀ i, i < len1 → SpOk (sp i)) (hpb : ∀ i, i < len3 → (pb i).1 < 18446744073709551616 ∧ (pb i).2 < 18446744073709551616) (h : SpansAt w a1 len1 sp) (hp : TwosAt w .u32 a2 len2 pr) (hq : TwosAt w .u64 a3 len3 pb) :
    Calls Try.prog 7 #[.int .u32 (v0 : Int), .slice a1 len1 cap1, .slice a2 len2 cap2, .slice a3 len3 cap3] w fun e w' => e = .returned (.bool true) ∧ Below w.heap.size w w' := by
  have HB := hide (bytes26 v0 a1 a2 a3 len1 cap1 len2 cap2 len3 cap3 hm1 hm2 hm3 w)
  have HS := hide (And.intro hnil1 (And.intro hok h))
  have HP := hide (And.intro hnil2 hp)
  have HQ := hide (And.intro hnil3 (And.intro hpb hq))
  unfold maxLen at hm1 hm2 hm3
  clear hnil1 hok h hnil2 hp hnil3 hpb hq
  by_cases h1 : len1 ≤ 4096
  · have t1 : decide ((4096 : Int) < (len1 : Int)) = false := decide_eq_false (by omega)
    by_cases h2 : len2 ≤ 4096
    · have t2 : decide ((4096 : Int) < (len2 : Int)) = false := decide_eq_false (by omega)
      by_cases h3 : len3 ≤ 4096
      · have t3 : decide ((4096 : Int) < (len3 : Int)) = false := decide_eq_false (by omega)
        by_cases h4 : len1 * 40 + len2 * 8 + len3 * 16 ≤ 1048576
        · have t4 : decide ((1048576 : Int) < (len1 : Int) * 40 + (len2 : Int) * 8 + (len3 : Int) * 16) = false := decide_eq_false (by omega)
          go_enter Try.func7, Try.ntmps7
          go_wp2_with fail
          refine HB.out.mono ?_
          rintro e w0 ⟨⟨b, rfl⟩, rfl⟩
          cases b
          · go_wp2_with fail
            go_ret
            exact ⟨rfl, Below.refl _ _⟩
          · go_wp2_with fail
            refine (copySpans_any a1 len1 cap1 sp _ h1 HS.out.1 HS.out.2.2).mono ?_
            rintro e w1 ⟨b1, cap1', rfl, hs1, hb1⟩
            have H1 := hide (And.intro hs1 (And.intro hb1 (And.intro (HP.out.2.below hb1) (HQ.out.2.2.below hb1))))
            clear hs1 hb1 HB
            go_wp2_with fail
            refine (copyPairs_any a2 len2 cap2 pr _ h2 HP.out.1 H1.out.2.2.1).mono ?_
            rintro e w2 ⟨b2, cap2', rfl, hs2, hb2⟩
            have H2 := hide (And.intro (spans_below H1.out.1 hb2) (And.intro (H1.out.2.1.trans (hb2.mono H1.out.2.1.size)) (And.intro hs2 (H1.out.2.2.2.below hb2))))
            clear hs2 hb2 H1
            go_wp2_with fail
            refine (copyProbes_any a3 len3 cap3 pb _ h3 HQ.out.1 H2.out.2.2.2).mono ?_
            rintro e w3 ⟨b3, cap3', rfl, hs3, hb3⟩
            have H3 := hide (And.intro (spans_below H2.out.1 hb3) (And.intro (H2.out.2.1.trans (hb3.mono H2.out.2.1.size)) (And.intro (H2.out.2.2.1.below hb3) hs3)))
            clear hs3 hb3 H2
            go_wp2_with fail
            refine (build_any v0 len1 cap1' b1 sp _ hv0 h1 HS.out.2.1 H3.out.1).mono ?_
            rintro e w4 ⟨rfl, own, hr⟩
            have hinv := build_inv v0 sp len1 h1
            have hok' : RunOk (buildTo v0 sp len1).2 (fun a => (Pl.nodes (buildTo v0 sp len1).2.mem 128 (buildTo v0 sp len1).1).count a) := ⟨fun a => by have := hinv.1.once a; omega, by have := hinv.2; omega⟩
            have H4 := hide (And.intro hr.rep (And.intro hr.low hr.above))
            have HD := hide (And.intro hinv.1.deep (fun x hx => build_look v0 sp x hx len1 h1))
            clear hr hinv
            generalize (buildTo v0 sp len1).1 = root at HD hok' ⊢
            generalize (buildTo v0 sp len1).2 = S at H4 HD hok' ⊢
            have hcb := hok'.cnt
            have HO := hide hok'
            clear hok'
            obtain ⟨t, ht⟩ : ∃ t, t = w3.heap.size := ⟨_, rfl⟩
            have HT := hide H4.out.1
            rw [← ht] at HT ⊢
            clear ht
            obtain ⟨cur2, hc2, hz2, hmk2⟩ := make_refs len2 (by omega)
            have HC2 := hide (And.intro hc2 hz2)
            clear hc2 hz2
            go_wp2_with fail
            have HG0 := hide (GotRel.start (pr := pr) HT.out HC2.out.1 HC2.out.2)
            have HLOW := hide (fun (W : World) (own' : Nat → Prop) (k : Nat) (hg : GotRel (w4.alloc (.cells cur2 29)) W own own' t w4.heap.size len2 S pr k) => got_low7 H4.out.2.1 H4.out.2.2 hg)
            clear HT HC2
            generalize w4.alloc (.cells cur2 29) = w6 at HG0 HLOW ⊢
            generalize w4.heap.size = N at HG0 HLOW ⊢
            clear hmk2
            go_loopw [13] (fun i wr => ∃ k : Nat, k ≤ len2 ∧ i = .int .i64 k ∧ ∃ own', GotRel w6 wr own own' t N len2 S pr k) (fun i _ => len2 - (intOf i).toNat)
            case atStart => exact ⟨0, Nat.zero_le _, rfl, own, HG0.out⟩
            case round =>
              obtain ⟨k, hk, rfl, own', hg⟩ := hrel
              have HG := hide hg
              clear hg
              by_cases hlt : k < len2
              · obtain ⟨b, off, rfl, hbl, c0, c1⟩ := H3.out.2.2.1 k hlt
                rw [← (HLOW.out _ _ _ HG.out).cell hbl] at c0 c1
                clear hbl
                go_wp2_with fail
                refine (nodeOf_any _ _ _).mono ?_
                rintro e w7 ⟨rfl, hb7⟩
                have HG7 := hide (HG.out.below hb7)
                clear hb7 HG c0 c1
                go_wp2_with fail
                refine (got_call HG7.out HO.out hlt h2).mono ?_
                rintro e w8 ⟨rfl, zm, own2, hg2, cm⟩
                have HG8 := hide hg2
                clear hg2 HG7
                go_wp2_with fail
                go_roundw
                case rel => exact ⟨k + 1, by omega, by go_num, own2, HG8.out⟩
                case measure => simp [intOf]; omega
              · obtain rfl : len2 = k := by omega
                clear hlt hk
                rename World => w7
                have HLO := hide (HLOW.out _ _ _ HG.out)
                have HR := hide HG.out.rep
                have HGO := hide HG.out.got
                clear HG0 HLOW HG
                have hcn : (Pl.nnTo S pr len2).cnt ≤ 1052672 := by have := (Pl.nn_shape S pr len2).2; omega
                have HAG := hide (And.intro (run_agree pr len2 HO.out) (run_lt pr len2 HO.out))
                go_wp2_with fail
                refine (zzCount_any HR.out).mono ?_
                rintro e w8 ⟨rfl, rfl⟩
                generalize hS' : Pl.nnTo S pr len2 = S' at *
                have HE := hide hS'
                clear hS'
                have t5 : decide ((S'.cnt : Int) < 0) = false := decide_eq_false (by omega)
                have t6 : decide ((16777216 : Int) < (S'.cnt : Int)) = false := decide_eq_false (by omega)
                obtain ⟨cur, hcs, hcz, hmk⟩ := make_marks S'.cnt (by omega)
                have HCZ := hide (And.intro hcs hcz)
                clear hcs hcz
                have hno : ¬ own' w7.heap.size := fun h' => by obtain ⟨pa, np, pc, fa, fc, pb, hh⟩ := HR.out; have := hh.size _ h'; omega
                have hnd : Pl.nodes S'.mem 128 root = Pl.nodes S.mem 128 root := HAG.out.1.1
                have hM := mark_any t w7.heap.size 128 S' root 0 (fun _ => 0) own' (w7.alloc (.cells cur 5)) (HR.out.below ((Below.refl _ _).alloc (Nat.le_refl _) _)) ⟨cur, heap_alloc_new' _ _, HCZ.out.1, HCZ.out.2⟩ hno (HAG.out.1.2.1 HD.out.1) (fun i hi => ⟨HAG.out.2 i (by rw [← hnd]; exact hi), rfl⟩) (fun x => by rw [hnd]; have := HO.out.once x; split at this <;> omega) (by omega) rfl
                rw [hnd] at hM
                have HM := hide hM
                clear hM hnd hno
                go_wp2_with fail
                refine HM.out.mono ?_
                rintro e w8 ⟨rfl, M8, S8⟩
                have HM8 := hide M8
                have HS8 := hide S8
                clear M8 S8 hmk HM HCZ
                obtain ⟨cur3, hc3, hz3, hmk3⟩ := make_seen S'.cnt (by omega)
                have HC3 := hide (And.intro hc3 hz3)
                clear hc3 hz3
                generalize (Pl.nodes S.mem 128 root).length = ln at *
                go_wp2_with fail
                have HSE := hide (by rw [← HE.out] at HR HM8 HC3; exact SeenRel.start (root := root) HR.out HGO.out HLO.out HM8.out HS8.out HC3.out.1 HC3.out.2 : SeenRel w3 (w8.alloc (.cells cur3 4)) own' t N w7.heap.size w8.heap.size len2 root S pr 0)
                clear HGO HLO HM8 HS8 HC3 hmk3
                generalize w8.alloc (.cells cur3 4) = w9 at HSE ⊢
                generalize w8.heap.size = Q at HSE ⊢
                generalize w7.heap.size = M at HSE ⊢
                go_loopw [19] (fun i wr => ∃ k : Nat, k ≤ len2 ∧ i = .int .i64 k ∧ SeenRel w3 wr own' t N M Q len2 root S pr k) (fun i _ => len2 - (intOf i).toNat)
                case atStart => exact ⟨0, Nat.zero_le _, rfl, HSE.out⟩
                case round =>
                  obtain ⟨k, hk, rfl, hse⟩ := hrel
                  have HS9 := hide hse
                  clear hse
                  by_cases hlt : k < len2
                  · obtain ⟨f1, f2⟩ := got_fresh pr HO.out hlt
                    have hg0 := HO.out.got_lt pr hlt
                    have cg := (HS9.out.got.cell hlt).1
                    simp only [gotTo, if_pos hlt] at cg
                    have cm := (HS9.out.marks.cell hg0).1
                    obtain ⟨cs, zs⟩ := HS9.out.seen.cell hg0
                    rw [f1] at cm
                    rw [f2] at cs
                    have HN9 := hide (HS9.out.store HO.out hlt)
                    rw [HE.out] at hg0
                    generalize Pl.gotAt S pr k = g at *
                    have hg32 : g < 4294967296 := by omega
                    have hglf : Pl.leaf g = false := Pl.leaf_false_of_lt (by omega)
                    have t7 : decide ((g : Int) < 0) = false := decide_eq_false (by omega)
                    have t8 : decide ((S'.cnt : Int) ≤ (g : Int)) = false := decide_eq_false (by omega)
                    have t8n : decide (S'.cnt ≤ g) = false := decide_eq_false (by omega)
                    have t9 : (g : Int) < (S'.cnt : Int) := by omega
                    clear f1 f2
                    go_wp2_with (go_at_call 20; refine (isLeaf_any g hg32 _).mono ?_; rintro e w' ⟨rfl, rfl⟩)
                    go_roundw
                    case rel => exact ⟨k + 1, by omega, by go_num, HN9.out⟩
                    case measure => simp [intOf]; omega
                  · obtain rfl : len2 = k := by omega
                    clear hlt hk
                    rename World => w10
                    have HTL := hide (show Tells w10 t S' own' root v0 len1 b1 sp by
                      have hr := HS9.out.rep
                      rw [HE.out] at hr
                      have hs : SpansAt w10 b1 len1 sp := spans_below H3.out.1 HS9.out.low
                      exact ⟨hr, hs, HAG.out.1.2.1 HD.out.1, fun i hi => HAG.out.2 i (by rw [← HAG.out.1.1]; exact hi), fun x hx => (HAG.out.1.2.2 x).trans (HD.out.2 x hx)⟩)
                    have HL10 := hide HS9.out.low
                    clear HSE HS9
                    have hc' : S'.cnt < 2147483648 := by omega
                    have HA := hide (fun (W : World) (hW : Below w10.heap.size w10 W) (ah al : Nat) (h1' : ah < 18446744073709551616) (h2' : al < 18446744073709551616) => agrees_any (cap := cap1') (HTL.out.below hW) hv0 h1 HS.out.2.1 hc' ah al h1' h2')
                    go_wp2_with fail
                    go_loopw [21] (fun i wr => ∃ k : Nat, k ≤ len3 ∧ i = .int .i64 k ∧ Below w10.heap.size w10 wr) (fun i _ => len3 - (intOf i).toNat)
                    case atStart => exact ⟨0, Nat.zero_le _, rfl, Below.refl _ _⟩
                    case round =>
                      obtain ⟨k, hk, rfl, hb⟩ := hrel
                      have HB := hide hb
                      clear hb
                      by_cases hlt : k < len3
                      · obtain ⟨b, off, rfl, hbl0, c0, c1⟩ := H3.out.2.2.2 k hlt
                        rw [← HL10.out.cell hbl0] at c0 c1
                        have hbl : b < w10.heap.size := Nat.lt_of_lt_of_le hbl0 HL10.out.size
                        have hd0 := And.intro ((HB.out.cell hbl).trans c0) ((HB.out.cell hbl).trans c1)
                        have hl := HQ.out.2.1 k hlt
                        generalize (pb k).1 = ph at *
                        generalize (pb k).2 = pl at *
                        have HL := hide hbl
                        clear c0 c1 hbl hbl0
                        go_wp2_with fail
                        go_region_held3 (fun w' => w'.cell? ⟨b, off + k * 2, none⟩ = some (.int .u64 (ph : Int)) ∧ w'.cell? ⟨b, off + k * 2 + 1, none⟩ = some (.int .u64 (pl : Int))) (first | exact hd0 | exact hd1)
                          (first | (go_at_call 12; refine (HA.out _ HB.out.drew _ _ hl.1 hl.2).mono ?_; rintro e w11 ⟨rfl, hb4⟩; have H11 := hide (HB.out.drew.trans (hb4.mono HB.out.drew.size)); clear hb4; have hd1 := And.intro ((H11.out.cell HL.out).trans ((HB.out.cell HL.out).symm.trans hd0.1)) ((H11.out.cell HL.out).trans ((HB.out.cell HL.out).symm.trans hd0.2))))
                        go_wp2_with fail
                        go_roundw
                        case rel => exact ⟨k + 1, by omega, by go_num, H11.out⟩
                        case measure => simp [intOf]; omega
                      · obtain rfl : len3 = k := by omega
                        go_wp2_with fail
                        refine (agreesAtEnds_any (cap := cap1') (HTL.out.below HB.out) hv0 h1 HS.out.2.1 hc').mono ?_
                        rintro e w11 ⟨rfl, hb4⟩
                        have H11 := hide hb4
                        clear hb4
                        go_wp2_with fail
                        go_ret
                        refine ⟨rfl, ?_⟩
                        have b1 := H3.out.2.1
                        have b2 := HL10.out
                        have b3 := HB.out
                        have s1 := b1.size
                        have s2 := b2.size
                        have s3 := b3.size
                        exact ((b1.trans (b2.mono s1)).trans (b3.mono (by omega))).trans (H11.out.mono (by omega))
        · have t4 : decide ((1048576 : Int) < (len1 : Int) * 40 + (len2 : Int) * 8 + (len3 : Int) * 16) = true := decide_eq_true (by omega)
          go_enter Try.func7, Try.ntmps7
          go_wp2_with fail
          refine HB.out.mono ?_
          rintro e w0 ⟨⟨b, rfl⟩, rfl⟩
          cases b
          · go_wp2_with fail
            go_ret
            exact ⟨rfl, Below.refl _ _⟩
          · go_wp2_with fail
            go_ret
            exact ⟨rfl, Below.refl _ _⟩
      · have t3 : decide ((4096 : Int) < (len3 : Int)) = true := decide_eq_true (by omega)
        go_enter Try.func7, Try.ntmps7
        go_wp2_with fail
        refine HB.out.mono ?_
        rintro e w0 ⟨⟨b, rfl⟩, rfl⟩
        cases b
        · go_wp2_with fail
          go_ret
          exact ⟨rfl, Below.refl _ _⟩
        · go_wp2_with fail
          go_ret
          exact ⟨rfl, Below.refl _ _⟩
    · have t2 : decide ((4096 : Int) < (len2 : Int)) = true := decide_eq_true (by omega)
      go_enter Try.func7, Try.ntmps7
      go_wp2_with fail
      refine HB.out.mono ?_
      rintro e w0 ⟨⟨b, rfl⟩, rfl⟩
      cases b
      · go_wp2_with fail
        go_ret
        exact ⟨rfl, Below.refl _ _⟩
      · go_wp2_with fail
        go_ret
        exact ⟨rfl, Below.refl _ _⟩
  · have t1 : decide ((4096 : Int) < (len1 : Int)) = true := decide_eq_true (by omega)
    go_enter Try.func7, Try.ntmps7
    go_wp2_with fail
    refine HB.out.mono ?_
    rintro e w0 ⟨⟨b, rfl⟩, rfl⟩
    cases b
    · go_wp2_with fail
      go_ret
      exact ⟨rfl, Below.refl _ _⟩
    · go_wp2_with fail
      go_ret
      exact ⟨rfl, Below.refl _ _⟩
end Go.Proofs.Qxb6600977a
