/-
  SEAT b6602785a: the law FnOrgEffectDenyOverridesModel, walked.
-/
import Derived.Test.Qxb6602785aB21
import Derived.Test.Qxb6602785aB28
set_option linter.unusedVariables false
set_option linter.unusedSimpArgs false
namespace Go.Proofs.Qxb6602785a
open Go.RowKit Go.Maps

set_option maxHeartbeats 4000000 in
set_option maxRecDepth 20000 in
theorem law3 (mb : Bool) (a : Option Addr) (len cap : Nat) (rs : Nat → Rl) (x1 x2 : ByteArray) (p1 p2 p3 : Option Addr) (o1 o2 o3 : Option (List Nat)) (w : World) (hm : len ≤ maxLen) (hn : a = none → len = 0 ∧ cap = 0) (hs1 : x1.size ≤ maxLen) (hs2 : x2.size ≤ maxLen) (hok : ∀ i, i < len → RlOk (rs i)) (h : RolesAt w a len rs) (q1 : PtrAt w p1 o1) (q2 : PtrAt w p2 o2) (q3 : PtrAt w p3 o3) :
    Calls Try.prog 3 #[.slice a len cap, .bool mb, .string x1, .string x2, .pointer p1, .pointer p2, .pointer p3] w fun e w' => e = .returned (.bool true) ∧ Below w.heap.size w w' := by
  have HB9 := hide (bytes9 a len cap rs mb x1 x2 p1 p2 p3 w hm hs1 hs2 hok h)
  have HA10 := hide (rolesArgs_any a len cap rs x1 x2 w hm hs1 hs2 hok h)
  have HS := hide h
  have HK := hide hok
  have HQ := hide (And.intro q1 (And.intro q2 q3))
  have HN := hide hn
  unfold maxLen at hm
  clear h hok q1 q2 q3 hn hs1 hs2
  go_enter Try.func3, Try.ntmps3
  go_wp2_with fail
  refine HB9.out.mono ?_
  rintro e w0 ⟨⟨b0, rfl⟩, rfl⟩
  clear HB9
  cases b0 with
  | false =>
    go_wp2_with fail
    go_ret
    exact ⟨rfl, Below.refl _ _⟩
  | true =>
    go_wp2_with fail
    refine HA10.out.mono ?_
    rintro e w0 ⟨r, rfl, hr1, hr2, rfl⟩
    have HR := hide hr2
    clear HA10 hr2
    by_cases hr : r ≤ 1048576
    · have t1 : decide ((1048576 : Int) < (r : Int)) = false := decide_eq_false (by omega)
      obtain ⟨hl, hsm⟩ := HR.out hr
      have HM := hide hsm
      clear hsm
      go_wp2_with fail
      refine (roles_any a len cap rs w hl HN.out HM.out HK.out HS.out).mono ?_
      rintro e w1 ⟨a', cap', rfl, hrm, hb1⟩
      have H1 := hide (And.intro hrm hb1)
      clear hrm hb1
      go_wp2_with fail
      refine (object_any x2 p1 p2 p3 o1 o2 o3 w1 (HQ.out.1.below H1.out.2) (HQ.out.2.1.below H1.out.2) (HQ.out.2.2.below H1.out.2)).mono ?_
      rintro e w2 ⟨No, rfl, hob, hb2⟩
      have H2 := hide (And.intro (H1.out.1.below hb2) (And.intro hob (H1.out.2.trans (hb2.mono H1.out.2.size))))
      clear hob hb2 H1
      go_wp2_with fail
      refine (zzOrg_any mb a' len cap' rs x1 x2 No o1 o2 o3 w2 hl HM.out HK.out H2.out.1 H2.out.2.1).mono ?_
      rintro e w3 ⟨rfl, hb3⟩
      have H3 := hide (H2.out.2.2.trans (hb3.mono H2.out.2.2.size))
      clear hb3 H2
      go_wp2_with fail
      refine (omodel_any mb a len cap rs x1 x2 p1 p3 o1 o3 w3 hl HM.out HK.out (HS.out.below H3.out) (HQ.out.1.below H3.out) (HQ.out.2.2.below H3.out)).mono ?_
      rintro e w4 ⟨rfl, hb4⟩
      have H4 := hide (H3.out.trans (hb4.mono H3.out.size))
      clear hb4 H3
      go_wp2_with fail
      go_ret
      exact ⟨by simp, H4.out⟩
    · have t1 : decide ((1048576 : Int) < (r : Int)) = true := decide_eq_true (by omega)
      go_wp2_with fail
      go_ret
      exact ⟨rfl, Below.refl _ _⟩
end Go.Proofs.Qxb6602785a
