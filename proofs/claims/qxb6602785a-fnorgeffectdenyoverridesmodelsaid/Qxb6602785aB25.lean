/-
  SEAT b6602785a: orgEffect, ZZorgEffect.
-/
import Derived.Test.Qxb6602785aB24
set_option linter.unusedVariables false
set_option linter.unusedSimpArgs false
namespace Go.Proofs.Qxb6602785a
open Go.RowKit Go.Maps

/-- The first k roles: (does one hold an entry for the organization; what their lists say). -/
def orgS (rs : Nat → Rl) (act typ : ByteArray) (o1 : Option (List Nat)) (org : List Nat) : Nat → Bool × (Bool × Bool)
  | 0 => (false, (false, false))
  | k + 1 => match firstTo (rs k).es org (rs k).ol with
    | none => orgS rs act typ o1 org k
    | some j => (true, scan (orgS rs act typ o1 org k).2 (verd ((rs k).es j).ps act typ o1) ((rs k).es j).ll)

/-- What the org level answers. -/
def orgE (rs : Nat → Rl) (len : Nat) (mb : Bool) (act typ : ByteArray) (o1 : Option (List Nat)) : Option (List Nat) → Nat
  | none => 0
  | some org => if mb && !(orgS rs act typ o1 org len).1 then 2 else code (orgS rs act typ o1 org len).2

theorem look_none_ok {w : World} {t e : TypeId} (ht : Try.prog.underlying t = some (.map 44 e)) {z : Value} (hz : (zeroValue e).run Try.prog w = .ok z w) {l : List Nat} (hl : IsId l) :
    (Instr.lookup t (.map none) (.agg (uc l)) true).run Try.prog w = .ok (.tuple #[z, .bool false]) w :=
  Maps.look_nil true law44 ht hz (keyOf_id hl)

theorem org_step (rs : Nat → Rl) (act typ : ByteArray) (o1 : Option (List Nat)) (org : List Nat) (k : Nat) {w : World} {m : Option Nat} (h : OrgMapAt w m (rs k).ol (rs k).es) (hid : IsId org) (sm : RlSmall (rs k)) (ok : RlOk (rs k)) :
    ∃ a ll c ps okb, (∀ n, (Instr.lookup 46 (.map m) (.agg (uc org)) true).run Try.prog (w.drewN n) = .ok (.tuple #[.slice a ll c, .bool okb]) (w.drewN n)) ∧ PermsAt w a ll ps ∧ ll ≤ 1048576 ∧ (∀ i, i < ll → PmOk (ps i)) ∧
      orgS rs act typ o1 org (k + 1) = ((orgS rs act typ o1 org k).1 || okb, scan (orgS rs act typ o1 org k).2 (verd ps act typ o1) ll) := by
  have hz : ∀ n, (zeroValue 45).run Try.prog (w.drewN n) = .ok (.slice none 0 0) (w.drewN n) := fun n => zero45 _
  have hun : orgS rs act typ o1 org (k + 1) = (match firstTo (rs k).es org (rs k).ol with | none => orgS rs act typ o1 org k | some j => (true, scan (orgS rs act typ o1 org k).2 (verd ((rs k).es j).ps act typ o1) ((rs k).es j).ll)) := rfl
  rcases h with ⟨rfl, h0⟩ | ⟨B, f, rfl, hM, hH⟩
  · refine ⟨none, 0, 0, fun _ => pm0, false, fun n => look_none_ok Try.underlying46 (hz n) hid, fun i hi => by omega, by omega, fun i hi => by omega, ?_⟩
    rw [hun, h0]
    simp [firstTo, scan]
  · have hM' : ∀ n, MapIs (w.drewN n) B (rs k).ol f := fun n => hM.keep rfl
    cases hf : firstTo (rs k).es org (rs k).ol with
    | none =>
      have hv := (hH org hid).1 hf
      refine ⟨none, 0, 0, fun _ => pm0, false, fun n => ?_, fun i hi => by omega, by omega, fun i hi => by omega, ?_⟩
      · have := (hM' n).look_ok Try.underlying46 (hz n) hid
        rw [hv] at this
        exact this
      · rw [hun, hf]
        simp [scan]
    | some j =>
      obtain ⟨a, c, hv, hp⟩ := (hH org hid).2 j hf
      have hj := (firstTo_lt hf).1
      refine ⟨a, _, c, _, true, fun n => ?_, hp, sm.ll j hj, (ok.es j hj).ps, ?_⟩
      · have := (hM' n).look_ok Try.underlying46 (hz n) hid
        rw [hv] at this
        exact this
      · rw [hun, hf]
        simp

set_option maxHeartbeats 1000000 in
set_option maxRecDepth 20000 in
theorem org_nil (v mb : Value) (act : ByteArray) (No : Nat) (w : World) (hq : w.cell? ⟨No, 3, none⟩ = some (.pointer none)) :
    Calls Try.prog 33 #[v, mb, .string act, .pointer (some ⟨No, 0, none⟩)] w fun e w' => e = .returned (.int .u8 0) ∧ w = w' := by
  go_enter Try.func33, Try.ntmps33
  go_wp2_with fail
  go_ret
  exact ⟨rfl, rfl⟩

set_option maxHeartbeats 4000000 in
set_option maxRecDepth 20000 in
theorem org_some (mb : Bool) (a : Option Addr) (len cap : Nat) (rs : Nat → Rl) (act typ : ByteArray) (No bq oq : Nat) (o1 o2 : Option (List Nat)) (org : List Nat) (w : World) (hm : len ≤ 1048576) (hsm : ∀ i, i < len → RlSmall (rs i)) (hok : ∀ i, i < len → RlOk (rs i)) (h : RMapAt w a len rs) (ho : ObjAt w No typ o1 o2 (some org))
    (hq : w.cell? ⟨No, 3, none⟩ = some (.pointer (some ⟨bq, oq, none⟩))) (hid : IsId org) (hbq : bq < w.heap.size) (hr : w.rangeAt bq oq (uc org).toList) :
    Calls Try.prog 33 #[.slice a len cap, .bool mb, .string act, .pointer (some ⟨No, 0, none⟩)] w fun e w' => e = .returned (.int .u8 (orgE rs len mb act typ o1 (some org) : Int)) ∧ Below w.heap.size w w' := by
  have HS := hide h
  have HK := hide (And.intro hsm hok)
  have HO := hide ho
  have HQ := hide (And.intro hid (And.intro hbq hr))
  have HNO := hide (And.intro ho.lt hq)
  clear h hsm hok ho hid hbq hr
  go_enter Try.func33, Try.ntmps33
  go_wp2_with fail
  clear hq
  go_loopw [9, 10, 21] (fun ev mv i wr => ∃ k : Nat, k ≤ len ∧ i = .int .i64 k ∧ ev = .int .u8 (code (orgS rs act typ o1 org k).2 : Int) ∧ mv = .bool (orgS rs act typ o1 org k).1 ∧ Below w.heap.size w wr) (fun _ _ i _ => len - (intOf i).toNat)
  case atStart => exact ⟨0, Nat.zero_le _, rfl, rfl, rfl, Below.refl _ _⟩
  case round =>
    obtain ⟨k, hk, rfl, rfl, rfl, hlow⟩ := hrel
    have HL := hide hlow
    clear hlow
    by_cases hlt : k < len
    · obtain ⟨b, off, m, rfl, hbl, hc, hmap⟩ := HS.out k hlt
      have c3 := (HL.out.cell hbl).trans hc
      have hq := (HL.out.cell HNO.out.1).trans HNO.out.2
      obtain ⟨la, ll, lc, lp, okb, hlk, hp, hll, hpo, hst⟩ := org_step rs act typ o1 org k (hmap.below HL.out) HQ.out.1 (HK.out.1 k hlt) (HK.out.2 k hlt)
      have HR := hide (rangeAt_of (fun o => HL.out.cell HQ.out.2.1) HQ.out.2.2)
      have HF := hide (And.intro hp (And.intro hll hpo))
      have HST := hide hst
      clear hbl hc hmap hp hll hpo hst
      generalize orgS rs act typ o1 org k = S at *
      obtain ⟨mem, s⟩ := S
      simp only at HST ⊢
      cases mem with
      | _ =>
        go_wp2_with fail
        refine wp_region_quiet_lit (by kernel_rfl) (by kernel_rfl) ?_
        repeat (go_big_quiet_step (fail))
        refine wpQuiet_load 44 _ rfl rfl bq oq rfl (uc org) _ (fun w hw => by obtain ⟨n, rfl⟩ := hw; exact range_drewN HR.out n) Try.underlying44 rfl (info44 HQ.out.1) ?_
        simp only [Act.put, List.setIfInBounds_toArray, List.set_cons_zero, List.set_cons_succ]
        repeat (go_big_quiet_step (fail))
        refine wpQuiet_nil ?_
        intro _ hw'
        obtain ⟨nq, hw''⟩ := hw'
        subst hw''
        clear hlk c3 hq
        have HB := hide (below_drewN HL.out nq)
        have HW := hide (fold_any s la ll lc lp act typ No o1 o2 (some org) (wr.drewN nq) HF.out.2.1 HF.out.2.2 (HF.out.1.below (below_drewN (Below.refl _ _) nq)) (HO.out.below HB.out))
        go_wp2_with fail
        refine HW.out.mono ?_
        rintro e w1 ⟨rfl, hb⟩
        have HB1 := hide (HB.out.trans (hb.mono HB.out.size))
        clear hb
        go_wp2_with fail
        go_roundw
        case rel => exact ⟨k + 1, by omega, by go_num, by rw [HST.out], by rw [HST.out]; first | rfl | simp, HB1.out⟩
        case measure => simp [intOf]; omega
    · obtain rfl : len = k := by omega
      have HE := hide (show orgE rs len mb act typ o1 (some org) = if mb && !(orgS rs act typ o1 org len).1 then 2 else code (orgS rs act typ o1 org len).2 from rfl)
      generalize orgS rs act typ o1 org len = S at *
      obtain ⟨mem, s⟩ := S
      simp only at HE ⊢
      cases mem with
      | _ =>
        cases mb with
        | _ =>
          go_wp2_with fail
          go_ret
          exact ⟨by rw [HE.out]; first | rfl | simp, HL.out⟩

theorem org_any (mb : Bool) (a : Option Addr) (len cap : Nat) (rs : Nat → Rl) (act typ : ByteArray) (No : Nat) (o1 o2 o3 : Option (List Nat)) (w : World) (hm : len ≤ 1048576) (hsm : ∀ i, i < len → RlSmall (rs i)) (hok : ∀ i, i < len → RlOk (rs i)) (h : RMapAt w a len rs) (ho : ObjAt w No typ o1 o2 o3) :
    Calls Try.prog 33 #[.slice a len cap, .bool mb, .string act, .pointer (some ⟨No, 0, none⟩)] w fun e w' => e = .returned (.int .u8 (orgE rs len mb act typ o1 o3 : Int)) ∧ Below w.heap.size w w' := by
  obtain ⟨q, hq, hp⟩ := ho.org
  rcases hp with ⟨rfl, rfl⟩ | ⟨b, off, id, rfl, rfl, hid, hlt, hr⟩
  · refine (org_nil _ _ act No w hq).mono ?_
    rintro e w' ⟨rfl, rfl⟩
    exact ⟨rfl, Below.refl _ _⟩
  · exact org_some mb a len cap rs act typ No b off o1 o2 id w hm hsm hok h ho hq hid hlt hr

set_option maxHeartbeats 1000000 in
theorem zzOrg_any (mb : Bool) (a : Option Addr) (len cap : Nat) (rs : Nat → Rl) (act typ : ByteArray) (No : Nat) (o1 o2 o3 : Option (List Nat)) (w : World) (hm : len ≤ 1048576) (hsm : ∀ i, i < len → RlSmall (rs i)) (hok : ∀ i, i < len → RlOk (rs i)) (h : RMapAt w a len rs) (ho : ObjAt w No typ o1 o2 o3) :
    Calls Try.prog 11 #[.slice a len cap, .bool mb, .string act, .pointer (some ⟨No, 0, none⟩)] w fun e w' => e = .returned (.int .u8 (orgE rs len mb act typ o1 o3 : Int)) ∧ Below w.heap.size w w' := by
  have HH := hide (org_any mb a len cap rs act typ No o1 o2 o3 w hm hsm hok h ho)
  clear h hsm hok ho
  go_enter Try.func11, Try.ntmps11
  go_wp2_with fail
  refine HH.out.mono ?_
  rintro e w1 ⟨rfl, hb⟩
  have HB := hide hb
  clear hb
  go_wp2_with fail
  go_ret
  exact ⟨rfl, HB.out⟩
end Go.Proofs.Qxb6602785a
