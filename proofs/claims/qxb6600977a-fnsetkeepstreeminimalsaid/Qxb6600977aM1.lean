import Derived.Test.Qxb6600977aL1
set_option linter.unusedVariables false
set_option linter.unusedSimpArgs false
namespace Go.Proofs.Qxb6600977a
open Go.RowKit

set_option maxHeartbeats 1000000 in
theorem bytes14 (v0 : Nat) (a : Option Addr) (len cap : Nat) (hm : len ≤ maxLen) (w : World) :
    Calls Try.prog 14 #[.int .u32 (v0 : Int), .slice a len cap] w fun e w' => e = .returned (.bool (decide (len ≤ 1048576))) ∧ w = w' := by
  unfold maxLen at hm
  by_cases h : len ≤ 1048576
  · rw [decide_eq_true h]
    go_enter Try.func14, Try.ntmps14
    go_wp2
    go_ret
    exact ⟨rfl, rfl⟩
  · rw [decide_eq_false h]
    go_enter Try.func14, Try.ntmps14
    go_wp2
    go_ret
    exact ⟨rfl, rfl⟩

theorem build_minimal (v0 : Nat) (sp : Nat → Sp) : ∀ k, k ≤ 4096 → Pl.minimal (buildTo v0 sp k).2.mem 128 (buildTo v0 sp k).1
  | 0, _ => Pl.minimal_leaf (leafOf_leaf v0)
  | k + 1, hk => by
    obtain ⟨h1, _⟩ := build_inv v0 sp k (by omega)
    have hcnt := (build_inv v0 sp (k + 1) hk).2
    exact (Pl.set_done (sp k).lo (sp k).hi (leafOf (sp k).v) (leafOf_leaf _) (leafOf_lt _) 128 _ _ 0 340282366920938463463374607431768211455 _ h1 (by decide) (by decide) (by simp only [buildTo] at hcnt; omega)).minl (build_minimal v0 sp k (by omega))

set_option maxHeartbeats 1000000 in
theorem law4 (v0 : Nat) (a : Option Addr) (len cap : Nat) (sp : Nat → Sp) (w : World) (hv0 : v0 < 4294967296) (hm : len ≤ maxLen) (hnil : a = none → len = 0 ∧ cap = 0) (hok : ∀ i, i < len → SpOk (sp i)) (h : SpansAt w a len sp) :
    Calls Try.prog 4 #[.int .u32 (v0 : Int), .slice a len cap] w fun e w' => e = .returned (.bool true) ∧ Below w.heap.size w w' := by
  have HB := hide (bytes14 v0 a len cap hm w)
  have HS := hide (And.intro hnil (And.intro hok h))
  unfold maxLen at hm
  clear hnil hok h
  by_cases h1 : len ≤ 1048576
  · rw [decide_eq_true h1] at HB
    by_cases h2 : len ≤ 4096
    · by_cases h3 : len * 40 ≤ 1048576
      · have t1 : decide ((4096 : Int) < (len : Int)) = false := decide_eq_false (by omega)
        have t2 : decide ((1048576 : Int) < (len : Int) * 40) = false := decide_eq_false (by omega)
        go_enter Try.func4, Try.ntmps4
        go_wp2_with fail
        refine HB.out.mono ?_
        rintro e w0 ⟨rfl, rfl⟩
        go_wp2_with fail
        refine (copySpans_any a len cap sp _ h2 HS.out.1 HS.out.2.2).mono ?_
        rintro e w1 ⟨a1, cap1, rfl, hs1, hb1⟩
        have H1 := hide (And.intro hs1 hb1)
        clear hs1 hb1 HB
        go_wp2_with fail
        refine (build_any v0 len cap1 a1 sp _ hv0 h2 HS.out.2.1 H1.out.1).mono ?_
        rintro e w2 ⟨rfl, own, hr⟩
        have H2 := hide hr
        clear hr
        go_wp2_with fail
        refine (zzCount_any H2.out.rep).mono ?_
        rintro e w3 ⟨rfl, rfl⟩
        go_wp2_with fail
        have hi := build_inv v0 sp len h2
        have hmin := build_minimal v0 sp len h2
        refine (minimal_any _ 128 (buildTo v0 sp len).2 (buildTo v0 sp len).1 0 own _ H2.out.rep hi.1.deep (inv_node_lt hi.1) hmin (by omega) rfl).mono ?_
        rintro e w4 ⟨rfl, hb4⟩
        have H4 := hide hb4
        clear hb4 hi hmin
        go_wp2_with fail
        go_ret
        refine ⟨rfl, ?_⟩
        have b1 := H1.out.2
        have b2 := H2.out.low
        exact (b1.trans (b2.mono b1.size)).trans (H4.out.mono (Nat.le_trans b1.size b2.size))
      · have t1 : decide ((4096 : Int) < (len : Int)) = false := decide_eq_false (by omega)
        have t2 : decide ((1048576 : Int) < (len : Int) * 40) = true := decide_eq_true (by omega)
        go_enter Try.func4, Try.ntmps4
        go_wp2_with fail
        refine HB.out.mono ?_
        rintro e w0 ⟨rfl, rfl⟩
        go_wp2_with fail
        go_ret
        exact ⟨rfl, Below.refl _ _⟩
    · have t1 : decide ((4096 : Int) < (len : Int)) = true := decide_eq_true (by omega)
      go_enter Try.func4, Try.ntmps4
      go_wp2_with fail
      refine HB.out.mono ?_
      rintro e w0 ⟨rfl, rfl⟩
      go_wp2_with fail
      go_ret
      exact ⟨rfl, Below.refl _ _⟩
  · rw [decide_eq_false h1] at HB
    go_enter Try.func4, Try.ntmps4
    go_wp2_with fail
    refine HB.out.mono ?_
    rintro e w0 ⟨rfl, rfl⟩
    go_wp2_with fail
    go_ret
    exact ⟨rfl, Below.refl _ _⟩
end Go.Proofs.Qxb6600977a
