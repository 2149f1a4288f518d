import Derived.Test.Qxb6600977aL4
set_option linter.unusedVariables false
set_option linter.unusedSimpArgs false
namespace Go.Proofs.Qxb6600977a
open Go.RowKit

/-- The value of the last of the first k range writes that holds x, else v0. -/
def modelTo (v0 : Nat) (sp : Nat → Sp) (x : Nat) : Nat → Nat
  | 0 => v0
  | k + 1 => if (sp k).lo ≤ x ∧ x ≤ (sp k).hi then (sp k).v else modelTo v0 sp x k

theorem modelTo_lt (v0 : Nat) (sp : Nat → Sp) (x len : Nat) (hv : v0 < 4294967296) (hok : ∀ i, i < len → SpOk (sp i)) : ∀ k, k ≤ len → modelTo v0 sp x k < 4294967296
  | 0, _ => hv
  | k + 1, hk => by
    unfold modelTo
    split
    · exact (hok k (by omega)).v
    · exact modelTo_lt v0 sp x len hv hok k (by omega)

theorem build_look (v0 : Nat) (sp : Nat → Sp) (x : Nat) (hx : x < 340282366920938463463374607431768211456) : ∀ k, k ≤ 4096 → Pl.look (buildTo v0 sp k).2.mem 128 (buildTo v0 sp k).1 x = leafOf (modelTo v0 sp x k)
  | 0, _ => by simp only [buildTo, modelTo]; exact Pl.look_leaf (leafOf_leaf v0)
  | k + 1, hk => by
    obtain ⟨h1, _⟩ := build_inv v0 sp k (by omega)
    have hcnt := (build_inv v0 sp (k + 1) hk).2
    have D := (Pl.set_done (sp k).lo (sp k).hi (leafOf (sp k).v) (leafOf_leaf _) (leafOf_lt _) 128 _ _ 0 340282366920938463463374607431768211455 _ h1 (by decide) (by decide) (by simp only [buildTo] at hcnt; omega)).look x (Nat.zero_le _) (by omega)
    simp only [buildTo, modelTo]
    rw [D, build_look v0 sp x hx k (by omega)]
    split <;> rfl

set_option maxHeartbeats 2000000 in
theorem model_any (v0 len cap : Nat) (a : Option Addr) (sp : Nat → Sp) (w : World) (hlen : len ≤ 4096) (hok : ∀ i, i < len → SpOk (sp i)) (h : SpansAt w a len sp) (ah al : Nat) (h2 : al < 18446744073709551616) :
    Calls Try.prog 30 #[.int .u32 (v0 : Int), .slice a len cap, .int .u64 (ah : Int), .int .u64 (al : Int)] w fun e w' => e = .returned (.int .u32 (modelTo v0 sp (adr ah al) len : Int)) ∧ Below w.heap.size w w' := by
  have HS := hide h
  have HK := hide hok
  clear h hok
  go_enter Try.func30, Try.ntmps30
  go_wp2_with fail
  go_loopw [9, 10] (fun v i wr => ∃ k : Nat, k ≤ len ∧ i = .int .i64 k ∧ v = .int .u32 (modelTo v0 sp (adr ah al) k : Int) ∧ Below w.heap.size w wr) (fun _ i _ => len - (intOf i).toNat)
  case atStart => exact ⟨0, Nat.zero_le _, rfl, rfl, Below.refl _ _⟩
  case round =>
    obtain ⟨k, hk, rfl, rfl, hb⟩ := hrel
    have HB := hide hb
    clear hb
    by_cases hlt : k < len
    · obtain ⟨b, off, rfl, hbl, c0, c1, c2, c3, c4⟩ := HS.out k hlt
      rw [← HB.out.cell hbl] at c0 c1 c2 c3 c4
      have ok := HK.out k hlt
      have HL1 := hide (fun (W : World) => zzLess_any ah al (sp k).oh (sp k).ol h2 ok.ol W)
      have HL2 := hide (fun (W : World) => zzLess_any (sp k).ih (sp k).il ah al ok.il h2 W)
      have HM := hide (show modelTo v0 sp (adr ah al) (k + 1) = if adr (sp k).oh (sp k).ol ≤ adr ah al ∧ adr ah al ≤ adr (sp k).ih (sp k).il then (sp k).v else modelTo v0 sp (adr ah al) k from rfl)
      have HB2 := hide (HB.out.alloc HB.out.size (.cells #[.int .u64 ((sp k).oh : Int), .int .u64 ((sp k).ol : Int), .int .u64 ((sp k).ih : Int), .int .u64 ((sp k).il : Int), .int .u32 ((sp k).v : Int)] 59))
      generalize adr (sp k).oh (sp k).ol = lo at *
      generalize adr (sp k).ih (sp k).il = hi at *
      clear hbl ok
      by_cases g1 : adr ah al < lo
      · have t1 : decide (adr ah al < lo) = true := decide_eq_true g1
        have HE := hide (show modelTo v0 sp (adr ah al) (k + 1) = modelTo v0 sp (adr ah al) k by rw [HM.out, if_neg (by omega)])
        clear g1
        go_wp2_with fail
        refine (HL1.out _).mono ?_
        rintro e w1 ⟨rfl, rfl⟩
        go_wp2_with fail
        go_roundw
        case rel => exact ⟨k + 1, by omega, by go_num, by rw [HE.out], HB2.out⟩
        case measure => simp [intOf]; omega
      · have t1 : decide (adr ah al < lo) = false := decide_eq_false g1
        by_cases g2 : hi < adr ah al
        · have t2 : decide (hi < adr ah al) = true := decide_eq_true g2
          have HE := hide (show modelTo v0 sp (adr ah al) (k + 1) = modelTo v0 sp (adr ah al) k by rw [HM.out, if_neg (by omega)])
          clear g1 g2
          go_wp2_with fail
          refine (HL1.out _).mono ?_
          rintro e w1 ⟨rfl, rfl⟩
          go_wp2_with fail
          refine (HL2.out _).mono ?_
          rintro e w1 ⟨rfl, rfl⟩
          go_wp2_with fail
          go_roundw
          case rel => exact ⟨k + 1, by omega, by go_num, by rw [HE.out], HB2.out⟩
          case measure => simp [intOf]; omega
        · have t2 : decide (hi < adr ah al) = false := decide_eq_false g2
          have HE := hide (show modelTo v0 sp (adr ah al) (k + 1) = (sp k).v by rw [HM.out, if_pos (by omega)])
          clear g1 g2
          go_wp2_with fail
          refine (HL1.out _).mono ?_
          rintro e w1 ⟨rfl, rfl⟩
          go_wp2_with fail
          refine (HL2.out _).mono ?_
          rintro e w1 ⟨rfl, rfl⟩
          go_wp2_with fail
          go_roundw
          case rel => exact ⟨k + 1, by omega, by go_num, by rw [HE.out], HB2.out⟩
          case measure => simp [intOf]; omega
    · obtain rfl : len = k := by omega
      go_wp2_with fail
      go_ret
      exact ⟨rfl, HB.out⟩

theorem adr_lt (h l : Nat) (h1 : h < 18446744073709551616) (h2 : l < 18446744073709551616) : adr h l < 340282366920938463463374607431768211456 := by unfold adr; omega

/-- What zzAgrees is asked of: the tree answers at every address as the model does. -/
structure Tells (w : World) (t : Nat) (S : Pl.St) (own : Nat → Prop) (root v0 len : Nat) (a : Option Addr) (sp : Nat → Sp) : Prop where
  rep : Rep w t S own
  spans : SpansAt w a len sp
  deep : Pl.deep S.mem 128 root
  lt : ∀ i, i ∈ Pl.nodes S.mem 128 root → i < S.cnt
  look : ∀ x, x < 340282366920938463463374607431768211456 → Pl.look S.mem 128 root x = leafOf (modelTo v0 sp x len)

theorem Tells.below {w w' : World} {t : Nat} {S : Pl.St} {own : Nat → Prop} {root v0 len : Nat} {a : Option Addr} {sp : Nat → Sp} (h : Tells w t S own root v0 len a sp) (hb : Below w.heap.size w w') : Tells w' t S own root v0 len a sp :=
  ⟨h.rep.below hb, h.spans.below hb (fun i b off hi ha => by obtain ⟨b', off', ha', hlt, _⟩ := h.spans i hi; rw [ha] at ha'; simp at ha'; omega), h.deep, h.lt, h.look⟩

set_option maxHeartbeats 2000000 in
theorem agrees_any {w : World} {t : Nat} {S : Pl.St} {own : Nat → Prop} {root v0 len cap : Nat} {a : Option Addr} {sp : Nat → Sp} (h : Tells w t S own root v0 len a sp) (hv : v0 < 4294967296) (hlen : len ≤ 4096) (hok : ∀ i, i < len → SpOk (sp i)) (hc : S.cnt < 2147483648)
    (ah al : Nat) (h1 : ah < 18446744073709551616) (h2 : al < 18446744073709551616) :
    Calls Try.prog 12 #[.pointer (some ⟨t, 0, none⟩), .int .u32 (root : Int), .int .u32 (v0 : Int), .slice a len cap, .int .u64 (ah : Int), .int .u64 (al : Int)] w fun e w' => e = .returned (.bool true) ∧ Below w.heap.size w w' := by
  have hL := lookup_any h.rep root ah al h.deep h.lt hc h1 h2
  rw [h.look _ (adr_lt ah al h1 h2)] at hL
  unfold leafOf at hL
  have HL := hide hL
  have HT := hide h
  have HK := hide hok
  have hm := modelTo_lt v0 sp (adr ah al) len hv hok len (Nat.le_refl _)
  have HM := hide (fun (W : World) (hW : Below w.heap.size w W) => model_any v0 len cap a sp W hlen hok (h.below hW).spans ah al h2)
  generalize modelTo v0 sp (adr ah al) len = m at *
  clear hL h hok
  go_enter Try.func12, Try.ntmps12
  go_wp2_with fail
  refine HL.out.mono ?_
  rintro e w1 ⟨rfl, hb1⟩
  have H1 := hide hb1
  clear hb1
  go_wp2_with fail
  refine (HM.out _ H1.out).mono ?_
  rintro e w2 ⟨rfl, hb2⟩
  have H2 := hide (H1.out.trans (hb2.mono H1.out.size))
  clear hb2
  go_wp2_with fail
  refine (zzLeaf_any m hm _).mono ?_
  rintro e w3 ⟨rfl, rfl⟩
  go_wp2_with fail
  go_ret
  exact ⟨rfl, H2.out⟩

end Go.Proofs.Qxb6600977a
