/-
  SEAT b6602785a: zzOrgModel.
-/
import Derived.Test.Qxb6602785aB27
set_option linter.unusedVariables false
set_option linter.unusedSimpArgs false
namespace Go.Proofs.Qxb6602785a
open Go.RowKit Go.Maps

theorem info63s {p : Pm} (h : IsId p.id) : (Try.prog.info? 63).map (·.size) = some (pc p).toList.length := by rw [show (pc p).toList.length = 21 by simp [pc_size h]]; kernel_rfl

set_option maxHeartbeats 1000000 in
set_option maxRecDepth 20000 in
theorem omodel_nil (v mb : Value) (act typ : ByteArray) (q : Value) (w : World) :
    Calls Try.prog 14 #[v, mb, .string act, .string typ, q, .pointer none] w fun e w' => e = .returned (.int .u8 0) ∧ w = w' := by
  go_enter Try.func14, Try.ntmps14
  go_wp2_with fail
  go_ret
  exact ⟨rfl, rfl⟩

set_option maxHeartbeats 8000000 in
set_option maxRecDepth 20000 in
theorem omodel_some (mb : Bool) (a : Option Addr) (len cap : Nat) (rs : Nat → Rl) (act typ : ByteArray) (q : Option Addr) (o1 : Option (List Nat)) (bq oq : Nat) (org : List Nat) (w : World) (hm : len ≤ 1048576) (hsm : ∀ i, i < len → RlSmall (rs i)) (hok : ∀ i, i < len → RlOk (rs i)) (h : RolesAt w a len rs) (hq : PtrAt w q o1) (hid : IsId org) (hbq : bq < w.heap.size) (hr : w.rangeAt bq oq (uc org).toList) :
    Calls Try.prog 14 #[.slice a len cap, .bool mb, .string act, .string typ, .pointer q, .pointer (some ⟨bq, oq, none⟩)] w fun e w' => e = .returned (.int .u8 (orgE rs len mb act typ o1 (some org) : Int)) ∧ Below w.heap.size w w' := by
  have HS := hide h
  have HK := hide (And.intro hsm hok)
  have HP := hide hq
  have HO := hide (And.intro hid (And.intro hbq hr))
  clear h hsm hok hq hid hbq hr
  go_enter Try.func14, Try.ntmps14
  go_wp2_with fail
  go_loopw [13, 14, 15, 16] (fun mv dv av i wr => ∃ k : Nat, k ≤ len ∧ i = .int .i64 k ∧ mv = .bool (orgS rs act typ o1 org k).1 ∧ dv = .bool (orgS rs act typ o1 org k).2.1 ∧ av = .bool (orgS rs act typ o1 org k).2.2 ∧ Below w.heap.size w wr) (fun _ _ _ i _ => len - (intOf i).toNat)
  case atStart => exact ⟨0, Nat.zero_le _, rfl, rfl, rfl, rfl, Below.refl _ _⟩
  case round =>
    obtain ⟨k, hk, rfl, rfl, rfl, rfl, hlow⟩ := hrel
    have HL := hide hlow
    clear hlow
    by_cases hlt : k < len
    · obtain ⟨b, off, rfl, hbl, c0, c1, c2, c3, c4, cp, ce, cq⟩ := HS.out k hlt
      have HF := hide (fun (V : World) (hV : Below wr.heap.size wr V) => firstEntry_any (rs k).oa (rs k).ol (rs k).op (rs k).es org V HO.out.1 (HK.out.2 k hlt).ol (HK.out.2 k hlt).es ((ce.below HL.out).below hV))
      have cc := (HL.out.cell hbl).trans c3
      have hrr := rangeAt_of (fun o => HL.out.cell HO.out.2.1) HO.out.2.2
      have HC := hide (fun (V : World) (hV : Below wr.heap.size wr V) => And.intro ((hV.cell (Nat.lt_of_lt_of_le hbl HL.out.size)).trans cc) (rangeAt_of (fun o => hV.cell (Nat.lt_of_lt_of_le HO.out.2.1 HL.out.size)) hrr))
      have HST := hide (show orgS rs act typ o1 org (k + 1) = (match firstTo (rs k).es org (rs k).ol with | none => orgS rs act typ o1 org k | some j => (true, scan (orgS rs act typ o1 org k).2 (verd ((rs k).es j).ps act typ o1) ((rs k).es j).ll)) from rfl)
      have HE := hide (ce.below HL.out)
      have HKE := hide (And.intro (HK.out.2 k hlt).es (HK.out.1 k hlt))
      have hol := (HK.out.1 k hlt).ol
      have hu39 := Try.underlying39
      have hi39 := info39 HO.out.1
      clear c0 c1 c2 c3 c4 cp ce cq hbl
      generalize hS : orgS rs act typ o1 org k = S at *
      clear hS
      obtain ⟨mem, dn, al⟩ := S
      simp only at HST ⊢
      cases hf : firstTo (rs k).es org (rs k).ol with
      | none =>
        rw [hf] at HF HST
        simp only [idx] at HF
        go_wp2_with fail
        go_region_held3 (fun w' => w'.cell? ⟨b, off + k * 5 + 3, none⟩ = some (.slice (rs k).oa (rs k).ol (rs k).op) ∧ w'.rangeAt bq oq (uc org).toList) (first | with_reducible exact hd1 | exact ⟨cc, hrr⟩)
          (first | (go_at_call 18; refine (HF.out _ ((Below.refl _ _).drew)).mono ?_; rintro e w5 ⟨rfl, hb5⟩; have HB5 := hide ((Below.refl wr.heap.size wr).drew.trans hb5); clear hb5; have hd1 := HC.out _ HB5.out))
        go_wp2_with fail
        go_roundw
        case rel => exact ⟨k + 1, by omega, by go_num, by rw [HST.out], by rw [HST.out], by rw [HST.out], HL.out.trans (HB5.out.mono HL.out.size)⟩
        case measure => simp [intOf]; omega
      | some j =>
        rw [hf] at HF HST
        simp only [idx] at HF
        have hj := (firstTo_lt hf).1
        have t2 : decide ((j : Int) < 0) = false := decide_eq_false (by omega)
        have HJ := hide (And.intro (HKE.out.1 j hj) (HKE.out.2.ll j hj))
        have HEJ := hide (HE.out j hj)
        clear hf
        go_wp2_with fail
        go_region_held3 (fun w' => w'.cell? ⟨b, off + k * 5 + 3, none⟩ = some (.slice (rs k).oa (rs k).ol (rs k).op) ∧ w'.rangeAt bq oq (uc org).toList) (first | with_reducible exact hd1 | exact ⟨cc, hrr⟩)
          (first | (go_at_call 18; refine (HF.out _ ((Below.refl _ _).drew)).mono ?_; rintro e w5 ⟨rfl, hb5⟩; have HB5 := hide ((Below.refl wr.heap.size wr).drew.trans hb5); clear hb5; have hd1 := HC.out _ HB5.out))
        have cc5 := (HC.out _ HB5.out).1
        have HB6 := hide (HL.out.trans (HB5.out.mono HL.out.size))
        obtain ⟨bb, oo, hoa, hbbl, _, ce, hp⟩ := HEJ.out
        rw [hoa] at cc5
        have cl := (HB5.out.cell hbbl).trans ce
        have HPP := hide (hp.below HB5.out)
        clear hbbl ce hp hd1
        have hjl : (j : Int) < ((rs k).ol : Int) := by omega
        have HPQ := hide (HP.out.below HB6.out)
        generalize hes : (rs k).es j = en at *
        clear hes
        obtain ⟨eo, la, ll, lc, ps⟩ := en
        simp only at HST cl HPP HJ
        have HOK := hide HJ.out.1.ps
        have hll := HJ.out.2
        simp only at hll HOK
        go_wp2_with fail
        clear cc5 cl cc hrr HC HF HE HEJ HKE
        generalize (rs k).oa = roa at *
        generalize (rs k).ol = rol at *
        generalize (rs k).op = rop at *
        go_loopw [14, 15, 19] (fun dv av i wi => ∃ n : Nat, n ≤ ll ∧ i = .int .i64 n ∧ dv = .bool (scan (dn, al) (verd ps act typ o1) n).1 ∧ av = .bool (scan (dn, al) (verd ps act typ o1) n).2 ∧ Below w5.heap.size w5 wi) (fun _ _ i _ => ll - (intOf i).toNat)
        case atStart => exact ⟨0, Nat.zero_le _, rfl, rfl, rfl, Below.refl _ _⟩
        case round =>
          rename World => wi
          obtain ⟨n, hn, rfl, rfl, rfl, hlow⟩ := hrel
          have HLI := hide hlow
          clear hlow
          by_cases hlt2 : n < ll
          · obtain ⟨pb, po, rfl, hpb, hpc⟩ := HPP.out n hlt2
            have hpid := (HOK.out n hlt2).id
            have HPC := hide (hpc.of (fun o => HLI.out.cell hpb))
            have HPR := hide (range_of_pm hpid HPC.out)
            have HPI := hide hpid
            have HPB := hide (Nat.lt_of_lt_of_le hpb HLI.out.size)
            have HMM := hide (match_any (ps n) act typ q o1 wi hpid (HPQ.out.below HLI.out))
            have HVS := hide (show scan (dn, al) (verd ps act typ o1) (n + 1) = stp (scan (dn, al) (verd ps act typ o1) n) (if mtch (ps n) act typ o1 then some (ps n).neg else none) from rfl)
            clear hpb hpc hpid
            generalize hsc : scan (dn, al) (verd ps act typ o1) n = sc1 at *
            clear hsc
            obtain ⟨d1, a1⟩ := sc1
            simp only at HVS ⊢
            go_wp2_with (refine wpList_load_mid rfl 63 _ rfl pb (po + n * 21) rfl (pc (ps n)).toList _ HPR.out Try.underlying63 rfl (info63s HPI.out) ?_)
            refine HMM.out.mono ?_
            rintro e w7 ⟨rfl, hb7⟩
            have cn := (hb7.cell HPB.out).trans HPC.out.1
            have HB7 := hide (HLI.out.trans (hb7.mono HLI.out.size))
            clear hb7
            cases hmt : mtch (ps n) act typ o1 with
            | false =>
              rw [hmt] at HVS
              clear hmt
              go_wp2_with fail
              go_roundw
              case rel => exact ⟨n + 1, by omega, by go_num, by rw [HVS.out]; rfl, by rw [HVS.out]; rfl, HB7.out⟩
              case measure => simp [intOf]; omega
            | true =>
              rw [hmt] at HVS
              clear hmt
              cases hng : (ps n).neg with
              | true =>
                rw [hng] at HVS cn
                clear hng
                go_wp2_with fail
                go_roundw
                case rel => exact ⟨n + 1, by omega, by go_num, by rw [HVS.out]; rfl, by rw [HVS.out]; rfl, HB7.out⟩
                case measure => simp [intOf]; omega
              | false =>
                rw [hng] at HVS cn
                clear hng
                go_wp2_with fail
                go_roundw
                case rel => exact ⟨n + 1, by omega, by go_num, by rw [HVS.out]; rfl, by rw [HVS.out]; rfl, HB7.out⟩
                case measure => simp [intOf]; omega
          · obtain rfl : ll = n := by omega
            go_wp2_with fail
            go_roundw
            case rel => exact ⟨k + 1, by omega, by go_num, by rw [HST.out], by rw [HST.out], by rw [HST.out], HB6.out.trans (HLI.out.mono HB6.out.size)⟩
            case measure => simp [intOf]; omega
    · obtain rfl : len = k := by omega
      have HE := hide (show orgE rs len mb act typ o1 (some org) = if mb && !(orgS rs act typ o1 org len).1 then 2 else code (orgS rs act typ o1 org len).2 from rfl)
      generalize orgS rs act typ o1 org len = S at *
      obtain ⟨mem, dn, al⟩ := S
      simp only at HE ⊢
      cases mem with
      | _ =>
        cases mb with
        | _ =>
          cases dn with
          | _ =>
            cases al with
            | _ =>
              go_wp2_with fail
              go_ret
              exact ⟨by rw [HE.out]; first | rfl | simp [code], HL.out⟩

theorem omodel_any (mb : Bool) (a : Option Addr) (len cap : Nat) (rs : Nat → Rl) (act typ : ByteArray) (q q3 : Option Addr) (o1 o3 : Option (List Nat)) (w : World) (hm : len ≤ 1048576) (hsm : ∀ i, i < len → RlSmall (rs i)) (hok : ∀ i, i < len → RlOk (rs i)) (h : RolesAt w a len rs) (hq : PtrAt w q o1) (h3 : PtrAt w q3 o3) :
    Calls Try.prog 14 #[.slice a len cap, .bool mb, .string act, .string typ, .pointer q, .pointer q3] w fun e w' => e = .returned (.int .u8 (orgE rs len mb act typ o1 o3 : Int)) ∧ Below w.heap.size w w' := by
  rcases h3 with ⟨rfl, rfl⟩ | ⟨b, off, id, rfl, rfl, hid, hlt, hr⟩
  · refine (omodel_nil _ _ act typ _ w).mono ?_
    rintro e w' ⟨rfl, rfl⟩
    exact ⟨rfl, Below.refl _ _⟩
  · exact omodel_some mb a len cap rs act typ q o1 b off id w hm hsm hok h hq hid hlt hr
end Go.Proofs.Qxb6602785a
