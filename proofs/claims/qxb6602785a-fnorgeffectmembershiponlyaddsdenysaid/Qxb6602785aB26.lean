/-
  SEAT b6602785a: the law FnOrgEffectMembershipOnlyAddsDeny, walked.
-/
import Derived.Test.Qxb6602785aB20
import Derived.Test.Qxb6602785aB25
set_option linter.unusedVariables false
set_option linter.unusedSimpArgs false
namespace Go.Proofs.Qxb6602785a
open Go.RowKit Go.Maps

theorem orgS_mem (rs : Nat → Rl) (act typ : ByteArray) (o1 : Option (List Nat)) (org : List Nat) (k : Nat) : (orgS rs act typ o1 org (k + 1)).1 = ((orgS rs act typ o1 org k).1 || (firstTo (rs k).es org (rs k).ol).isSome) := by
  show (match firstTo (rs k).es org (rs k).ol with | none => orgS rs act typ o1 org k | some j => (true, scan (orgS rs act typ o1 org k).2 (verd ((rs k).es j).ps act typ o1) ((rs k).es j).ll)).1 = _
  cases firstTo (rs k).es org (rs k).ol <;> simp

theorem orgS_not {rs : Nat → Rl} {act typ : ByteArray} {o1 : Option (List Nat)} {org : List Nat} : ∀ {k : Nat}, (orgS rs act typ o1 org k).1 = false → (orgS rs act typ o1 org k).2 = (false, false)
  | 0, _ => rfl
  | k + 1, h => by
    have e : orgS rs act typ o1 org (k + 1) = (match firstTo (rs k).es org (rs k).ol with | none => orgS rs act typ o1 org k | some j => (true, scan (orgS rs act typ o1 org k).2 (verd ((rs k).es j).ps act typ o1) ((rs k).es j).ll)) := rfl
    rw [e] at h ⊢
    cases hf : firstTo (rs k).es org (rs k).ol with
    | none => rw [hf] at h; exact orgS_not h
    | some j => rw [hf] at h; cases h

/-- What the law wants of the two answers. -/
theorem org_two (rs : Nat → Rl) (len : Nat) (act typ : ByteArray) (o1 : Option (List Nat)) (org : List Nat) :
    ((orgS rs act typ o1 org len).1 = false → orgE rs len true act typ o1 (some org) = 2 ∧ orgE rs len false act typ o1 (some org) = 0) ∧
    ((orgS rs act typ o1 org len).1 = true → orgE rs len true act typ o1 (some org) = orgE rs len false act typ o1 (some org)) := by
  refine ⟨fun h => ⟨?_, ?_⟩, fun h => ?_⟩
  · simp [orgE, h]
  · simp [orgE, orgS_not h, code]
  · simp [orgE, h]

set_option maxHeartbeats 4000000 in
set_option maxRecDepth 20000 in
theorem law5 (a : Option Addr) (len cap : Nat) (rs : Nat → Rl) (x1 x2 : ByteArray) (p1 p2 p3 : Option Addr) (o1 o2 o3 : Option (List Nat)) (w : World) (hm : len ≤ maxLen) (hn : a = none → len = 0 ∧ cap = 0) (hs1 : x1.size ≤ maxLen) (hs2 : x2.size ≤ maxLen) (hok : ∀ i, i < len → RlOk (rs i)) (h : RolesAt w a len rs) (q1 : PtrAt w p1 o1) (q2 : PtrAt w p2 o2) (q3 : PtrAt w p3 o3) :
    Calls Try.prog 5 #[.slice a len cap, .string x1, .string x2, .pointer p1, .pointer p2, .pointer p3] w fun e w' => e = .returned (.bool true) ∧ Below w.heap.size w w' := by
  have HB17 := hide (bytes17 a len cap rs x1 x2 p1 p2 p3 w hm hs1 hs2 hok h)
  have HA10 := hide (rolesArgs_any a len cap rs x1 x2 w hm hs1 hs2 hok h)
  have HS := hide h
  have HK := hide hok
  have HQ := hide (And.intro q1 (And.intro q2 q3))
  have HN := hide hn
  unfold maxLen at hm
  clear h hok q1 q2 q3 hn hs1 hs2
  go_enter Try.func5, Try.ntmps5
  go_wp2_with fail
  refine HB17.out.mono ?_
  rintro e w0 ⟨⟨b0, rfl⟩, rfl⟩
  clear HB17
  cases b0 with
  | false =>
    go_wp2_with fail
    go_ret
    exact ⟨rfl, Below.refl _ _⟩
  | true =>
    go_wp2_with fail
    refine HA10.out.mono ?_
    rintro e w0 ⟨r, rfl, hr1, hr2, rfl⟩
    have HR := hide hr2
    clear HA10 hr2
    by_cases hr : r ≤ 1048576
    · have t1 : decide ((1048576 : Int) < (r : Int)) = false := decide_eq_false (by omega)
      obtain ⟨hl, hsm⟩ := HR.out hr
      have HM := hide hsm
      clear hsm
      go_wp2_with fail
      refine (roles_any a len cap rs w hl HN.out HM.out HK.out HS.out).mono ?_
      rintro e w1 ⟨a', cap', rfl, hrm, hb1⟩
      have H1 := hide (And.intro hrm hb1)
      clear hrm hb1
      go_wp2_with fail
      refine (object_any x2 p1 p2 p3 o1 o2 o3 w1 (HQ.out.1.below H1.out.2) (HQ.out.2.1.below H1.out.2) (HQ.out.2.2.below H1.out.2)).mono ?_
      rintro e w2 ⟨No, rfl, hob, hb2⟩
      have H2 := hide (And.intro (H1.out.1.below hb2) (And.intro hob (H1.out.2.trans (hb2.mono H1.out.2.size))))
      clear hob hb2 H1
      go_wp2_with fail
      refine (zzOrg_any true a' len cap' rs x1 x2 No o1 o2 o3 w2 hl HM.out HK.out H2.out.1 H2.out.2.1).mono ?_
      rintro e w3 ⟨rfl, hb3⟩
      have H3 := hide (And.intro (H2.out.1.below hb3) (And.intro (H2.out.2.1.below hb3) (H2.out.2.2.trans (hb3.mono H2.out.2.2.size))))
      clear hb3 H2
      go_wp2_with fail
      refine (zzOrg_any false a' len cap' rs x1 x2 No o1 o2 o3 w3 hl HM.out HK.out H3.out.1 H3.out.2.1).mono ?_
      rintro e w4 ⟨rfl, hb4⟩
      have H4 := hide (H3.out.2.2.trans (hb4.mono H3.out.2.2.size))
      clear hb4 H3
      rcases HQ.out.2.2 with ⟨rfl, rfl⟩ | ⟨bq, oq, org, rfl, rfl, hid, hlt, hrg⟩
      · have e1 : orgE rs len true x1 x2 o1 none = 0 := rfl
        have e2 : orgE rs len false x1 x2 o1 none = 0 := rfl
        rw [e1, e2]
        go_wp2_with fail
        go_ret
        exact ⟨rfl, H4.out⟩
      · have HO := hide (And.intro hid (And.intro hlt hrg))
        have HE := hide (org_two rs len x1 x2 o1 org)
        clear hid hlt hrg
        generalize orgE rs len true x1 x2 o1 (some org) = g1 at *
        generalize orgE rs len false x1 x2 o1 (some org) = g0 at *
        go_wp2_with fail
        go_loopw [17, 18] (fun mv i wr => ∃ k : Nat, k ≤ len ∧ i = .int .i64 k ∧ mv = .bool (orgS rs x1 x2 o1 org k).1 ∧ Below w.heap.size w wr) (fun _ i _ => len - (intOf i).toNat)
        case atStart => exact ⟨0, Nat.zero_le _, rfl, rfl, H4.out⟩
        case round =>
          obtain ⟨k, hk, rfl, rfl, hlow⟩ := hrel
          have HL := hide hlow
          clear hlow
          by_cases hlt : k < len
          · obtain ⟨b, off, rfl, hbl, c0, c1, c2, c3, c4, cp, ce, cq⟩ := HS.out k hlt
            have HF := hide (fun (V : World) (hV : Below wr.heap.size wr V) => firstEntry_any (rs k).oa (rs k).ol (rs k).op (rs k).es org V HO.out.1 (HK.out k hlt).ol (HK.out k hlt).es ((ce.below HL.out).below hV))
            have cc := (HL.out.cell hbl).trans c3
            have hrr := rangeAt_of (fun o => HL.out.cell HO.out.2.1) HO.out.2.2
            have HC := hide (fun (V : World) (hV : Below wr.heap.size wr V) => And.intro ((hV.cell (Nat.lt_of_lt_of_le hbl HL.out.size)).trans cc) (rangeAt_of (fun o => hV.cell (Nat.lt_of_lt_of_le HO.out.2.1 HL.out.size)) hrr))
            have HST := hide (orgS_mem rs x1 x2 o1 org k)
            have hu39 := Try.underlying39
            have hi39 := info39 HO.out.1
            clear c0 c1 c2 c3 c4 cp ce cq hbl
            generalize (orgS rs x1 x2 o1 org k).1 = mem at *
            generalize (rs k).oa = roa at *
            generalize (rs k).ol = rol at *
            generalize (rs k).op = rop at *
            generalize (rs k).es = res at *
            cases hf : firstTo res org rol with
            | none =>
              rw [hf] at HF HST
              simp only [idx] at HF
              go_wp2_with fail
              go_region_held3 (fun w' => w'.cell? ⟨b, off + k * 5 + 3, none⟩ = some (.slice roa rol rop) ∧ w'.rangeAt bq oq (uc org).toList) (first | with_reducible exact hd1 | exact ⟨cc, hrr⟩)
                (first | (go_at_call 18; refine (HF.out _ ((Below.refl _ _).drew)).mono ?_; rintro e w5 ⟨rfl, hb5⟩; have HB5 := hide ((Below.refl wr.heap.size wr).drew.trans hb5); clear hb5; have hd1 := HC.out _ HB5.out))
              go_wp2_with fail
              go_roundw
              case rel => exact ⟨k + 1, by omega, by go_num, by rw [HST.out]; simp, HL.out.trans (HB5.out.mono HL.out.size)⟩
              case measure => simp [intOf]; omega
            | some j =>
              rw [hf] at HF HST
              simp only [idx] at HF
              have t2 : decide ((0 : Int) ≤ (j : Int)) = true := decide_eq_true (by omega)
              go_wp2_with fail
              go_region_held3 (fun w' => w'.cell? ⟨b, off + k * 5 + 3, none⟩ = some (.slice roa rol rop) ∧ w'.rangeAt bq oq (uc org).toList) (first | with_reducible exact hd1 | exact ⟨cc, hrr⟩)
                (first | (go_at_call 18; refine (HF.out _ ((Below.refl _ _).drew)).mono ?_; rintro e w5 ⟨rfl, hb5⟩; have HB5 := hide ((Below.refl wr.heap.size wr).drew.trans hb5); clear hb5; have hd1 := HC.out _ HB5.out))
              go_wp2_with fail
              go_roundw
              case rel => exact ⟨k + 1, by omega, by go_num, by rw [HST.out]; simp, HL.out.trans (HB5.out.mono HL.out.size)⟩
              case measure => simp [intOf]; omega
          · obtain rfl : len = k := by omega
            generalize (orgS rs x1 x2 o1 org len).1 = mem at *
            cases mem with
            | false =>
              obtain ⟨rfl, rfl⟩ := HE.out.1 rfl
              go_wp2_with fail
              go_ret
              exact ⟨rfl, HL.out⟩
            | true =>
              obtain rfl := HE.out.2 rfl
              go_wp2_with fail
              go_ret
              exact ⟨by simp, HL.out⟩
    · have t1 : decide ((1048576 : Int) < (r : Int)) = true := decide_eq_true (by omega)
      go_wp2_with fail
      go_ret
      exact ⟨rfl, Below.refl _ _⟩
end Go.Proofs.Qxb6602785a
