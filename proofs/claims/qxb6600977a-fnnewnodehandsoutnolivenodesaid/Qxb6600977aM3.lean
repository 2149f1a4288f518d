import Derived.Test.Qxb6600977aL7
import Derived.Test.Qxb6600977aL3
set_option linter.unusedVariables false
set_option linter.unusedSimpArgs false
namespace Go.Proofs.Qxb6600977a
open Go.RowKit

set_option maxHeartbeats 1000000 in
theorem bytes8 (v0 : Nat) (a1 a2 : Option Addr) (len1 cap1 len2 cap2 : Nat) (hm1 : len1 ≤ maxLen) (hm2 : len2 ≤ maxLen) (w : World) :
    Calls Try.prog 8 #[.int .u32 (v0 : Int), .slice a1 len1 cap1, .slice a2 len2 cap2] w fun e w' => (∃ b : Bool, e = .returned (.bool b)) ∧ w = w' := by
  unfold maxLen at hm1 hm2
  by_cases h1 : len1 ≤ 1048576
  · by_cases h2 : len2 ≤ 1048576
    · by_cases h3 : len1 + len2 ≤ 1048576
      · have t3 : decide ((1048576 : Int) < (len1 : Int) + (len2 : Int)) = false := decide_eq_false (by omega)
        go_enter Try.func8, Try.ntmps8
        go_wp2
        go_ret
        exact ⟨⟨_, rfl⟩, rfl⟩
      · have t3 : decide ((1048576 : Int) < (len1 : Int) + (len2 : Int)) = true := decide_eq_true (by omega)
        go_enter Try.func8, Try.ntmps8
        go_wp2
        go_ret
        exact ⟨⟨_, rfl⟩, rfl⟩
    · have t2 : decide ((1048576 : Int) < (len2 : Int)) = true := decide_eq_true (by omega)
      go_enter Try.func8, Try.ntmps8
      go_wp2
      go_ret
      exact ⟨⟨_, rfl⟩, rfl⟩
  · have t1 : decide ((1048576 : Int) < (len1 : Int)) = true := decide_eq_true (by omega)
    go_enter Try.func8, Try.ntmps8
    go_wp2
    go_ret
    exact ⟨⟨_, rfl⟩, rfl⟩

theorem build_tells {w w' : World} {v0 len : Nat} {a : Option Addr} {sp : Nat → Sp} {own : Nat → Prop} (hlen : len ≤ 4096) (hs : SpansAt w a len sp) (h : BuildRel w w' v0 sp len own) : Tells w' w.heap.size (buildTo v0 sp len).2 own (buildTo v0 sp len).1 v0 len a sp := by
  have hi := build_inv v0 sp len hlen
  exact ⟨h.rep, hs.below h.low (fun i b off hi ha => by obtain ⟨b', off', ha', hlt, _⟩ := hs i hi; rw [ha] at ha'; simp at ha'; omega), hi.1.deep, inv_node_lt hi.1, fun x hx => build_look v0 sp x hx len hlen⟩

theorem spans_below {w w' : World} {len : Nat} {a : Option Addr} {sp : Nat → Sp} (hs : SpansAt w a len sp) (h : Below w.heap.size w w') : SpansAt w' a len sp :=
  hs.below h (fun i b off hi ha => by obtain ⟨b', off', ha', hlt, _⟩ := hs i hi; rw [ha] at ha'; simp at ha'; omega)

set_option maxHeartbeats 2000000 in
theorem law3 (v0 : Nat) (a1 a2 : Option Addr) (len1 cap1 len2 cap2 : Nat) (sp : Nat → Sp) (pr : Nat → Nat × Nat) (w : World) (hv0 : v0 < 4294967296) (hm1 : len1 ≤ maxLen) (hm2 : len2 ≤ maxLen) (hnil1 : a1 = none → len1 = 0 ∧ cap1 = 0) (hnil2 : a2 = none → len2 = 0 ∧ cap2 = 0) (hok : ∀ i, i < len1 → SpOk (sp i)) (hpr : ∀ i, i < len2 → (pr i).1 < 18446744073709551616 ∧ (pr i).2 < 18446744073709551616) (h : SpansAt w a1 len1 sp) (hp : TwosAt w .u64 a2 len2 pr) :
    Calls Try.prog 3 #[.int .u32 (v0 : Int), .slice a1 len1 cap1, .slice a2 len2 cap2] w fun e w' => e = .returned (.bool true) ∧ Below w.heap.size w w' := by
  have HB := hide (bytes8 v0 a1 a2 len1 cap1 len2 cap2 hm1 hm2 w)
  have HS := hide (And.intro hnil1 (And.intro hok h))
  have HP := hide (And.intro hnil2 (And.intro hpr hp))
  unfold maxLen at hm1 hm2
  clear hnil1 hok h hnil2 hpr hp
  by_cases h1 : len1 ≤ 4096
  · have t1 : decide ((4096 : Int) < (len1 : Int)) = false := decide_eq_false (by omega)
    by_cases h2 : len2 ≤ 4096
    · have t2 : decide ((4096 : Int) < (len2 : Int)) = false := decide_eq_false (by omega)
      by_cases h3 : len1 * 40 + len2 * 16 ≤ 1048576
      · have t3 : decide ((1048576 : Int) < (len1 : Int) * 40 + (len2 : Int) * 16) = false := decide_eq_false (by omega)
        go_enter Try.func3, Try.ntmps3
        go_wp2_with fail
        refine HB.out.mono ?_
        rintro e w0 ⟨⟨b, rfl⟩, rfl⟩
        cases b
        · go_wp2_with fail
          go_ret
          exact ⟨rfl, Below.refl _ _⟩
        · go_wp2_with fail
          refine (copySpans_any a1 len1 cap1 sp _ h1 HS.out.1 HS.out.2.2).mono ?_
          rintro e w1 ⟨b1, cap1', rfl, hs1, hb1⟩
          have H1 := hide (And.intro hs1 (And.intro hb1 (HP.out.2.2.below hb1)))
          clear hs1 hb1 HB
          go_wp2_with fail
          refine (copyProbes_any a2 len2 cap2 pr _ h2 HP.out.1 H1.out.2.2).mono ?_
          rintro e w2 ⟨b2, cap2', rfl, hs2, hb2⟩
          have H2 := hide (And.intro (spans_below H1.out.1 hb2) (And.intro (H1.out.2.1.trans (hb2.mono H1.out.2.1.size)) hs2))
          clear hs2 hb2 H1
          go_wp2_with fail
          refine (build_any v0 len1 cap1' b1 sp _ hv0 h1 HS.out.2.1 H2.out.1).mono ?_
          rintro e w3 ⟨rfl, own, hr⟩
          have hcnt : (buildTo v0 sp len1).2.cnt < 2147483648 := by have := (build_inv v0 sp len1 h1).2; omega
          have H3 := hide (And.intro (build_tells h1 H2.out.1 hr) (And.intro (H2.out.2.1.trans (hr.low.mono H2.out.2.1.size)) (H2.out.2.2.below hr.low)))
          clear hr H2
          generalize (buildTo v0 sp len1).2 = S at H3 hcnt ⊢
          generalize (buildTo v0 sp len1).1 = root at H3 ⊢
          generalize w2.heap.size = t at H3 ⊢
          have HA := hide (fun (W : World) (hW : Below w3.heap.size w3 W) (ah al : Nat) (h1' : ah < 18446744073709551616) (h2' : al < 18446744073709551616) => agrees_any (cap := cap1') (H3.out.1.below hW) hv0 h1 HS.out.2.1 hcnt ah al h1' h2')
          go_wp2_with fail
          go_loopw [9] (fun i wr => ∃ k : Nat, k ≤ len2 ∧ i = .int .i64 k ∧ Below w3.heap.size w3 wr) (fun i _ => len2 - (intOf i).toNat)
          case atStart => exact ⟨0, Nat.zero_le _, rfl, Below.refl _ _⟩
          case round =>
            obtain ⟨k, hk, rfl, hb⟩ := hrel
            have HB := hide hb
            clear hb
            by_cases hlt : k < len2
            · obtain ⟨b, off, rfl, hbl, c0, c1⟩ := H3.out.2.2 k hlt
              have hd0 := And.intro ((HB.out.cell hbl).trans c0) ((HB.out.cell hbl).trans c1)
              have hl := HP.out.2.1 k hlt
              generalize (pr k).1 = ph at *
              generalize (pr k).2 = pl at *
              have HL := hide hbl
              clear c0 c1 hbl
              go_wp2_with fail
              go_region_held3 (fun w' => w'.cell? ⟨b, off + k * 2, none⟩ = some (.int .u64 (ph : Int)) ∧ w'.cell? ⟨b, off + k * 2 + 1, none⟩ = some (.int .u64 (pl : Int))) (first | exact hd0 | exact hd1)
                (first | (go_at_call 12; refine (HA.out _ HB.out.drew _ _ hl.1 hl.2).mono ?_; rintro e w4 ⟨rfl, hb4⟩; have H4 := hide (HB.out.drew.trans (hb4.mono HB.out.drew.size)); clear hb4; have hd1 := And.intro ((H4.out.cell HL.out).trans ((HB.out.cell HL.out).symm.trans hd0.1)) ((H4.out.cell HL.out).trans ((HB.out.cell HL.out).symm.trans hd0.2))))
              go_wp2_with fail
              go_roundw
              case rel => exact ⟨k + 1, by omega, by go_num, H4.out⟩
              case measure => simp [intOf]; omega
            · obtain rfl : len2 = k := by omega
              go_wp2_with fail
              refine (agreesAtEnds_any (cap := cap1') (H3.out.1.below HB.out) hv0 h1 HS.out.2.1 hcnt).mono ?_
              rintro e w4 ⟨rfl, hb4⟩
              have H4 := hide hb4
              clear hb4
              go_wp2_with fail
              go_ret
              exact ⟨rfl, (H3.out.2.1.trans (HB.out.mono H3.out.2.1.size)).trans (H4.out.mono (Nat.le_trans H3.out.2.1.size HB.out.size))⟩
      · have t3 : decide ((1048576 : Int) < (len1 : Int) * 40 + (len2 : Int) * 16) = true := decide_eq_true (by omega)
        go_enter Try.func3, Try.ntmps3
        go_wp2_with fail
        refine HB.out.mono ?_
        rintro e w0 ⟨⟨b, rfl⟩, rfl⟩
        cases b
        · go_wp2_with fail
          go_ret
          exact ⟨rfl, Below.refl _ _⟩
        · go_wp2_with fail
          go_ret
          exact ⟨rfl, Below.refl _ _⟩
    · have t2 : decide ((4096 : Int) < (len2 : Int)) = true := decide_eq_true (by omega)
      go_enter Try.func3, Try.ntmps3
      go_wp2_with fail
      refine HB.out.mono ?_
      rintro e w0 ⟨⟨b, rfl⟩, rfl⟩
      cases b
      · go_wp2_with fail
        go_ret
        exact ⟨rfl, Below.refl _ _⟩
      · go_wp2_with fail
        go_ret
        exact ⟨rfl, Below.refl _ _⟩
  · have t1 : decide ((4096 : Int) < (len1 : Int)) = true := decide_eq_true (by omega)
    go_enter Try.func3, Try.ntmps3
    go_wp2_with fail
    refine HB.out.mono ?_
    rintro e w0 ⟨⟨b, rfl⟩, rfl⟩
    cases b
    · go_wp2_with fail
      go_ret
      exact ⟨rfl, Below.refl _ _⟩
    · go_wp2_with fail
      go_ret
      exact ⟨rfl, Below.refl _ _⟩
end Go.Proofs.Qxb6600977a
