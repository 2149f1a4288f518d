import Derived.Test.Qxb6600977aL1
set_option linter.unusedVariables false
set_option linter.unusedSimpArgs false
namespace Go.Proofs.Qxb6600977a
open Go.RowKit

/-- An address out of its two words. -/
def adr (h l : Nat) : Nat := h * 18446744073709551616 + l

set_option maxHeartbeats 400000 in
theorem zzLess_words (ah al bh bl : Nat) (w : World) :
    Calls Try.prog 37 #[.int .u64 (ah : Int), .int .u64 (al : Int), .int .u64 (bh : Int), .int .u64 (bl : Int)] w fun e w' =>
      e = .returned (.bool (decide (ah < bh ∨ ah = bh ∧ al < bl))) ∧ w = w' := by
  by_cases g1 : (ah : Int) < bh
  · go_enter Try.func37, Try.ntmps37
    go_wp2
    go_ret
    exact ⟨by simp; omega, rfl⟩
  · by_cases g2 : (ah : Int) = bh
    · obtain rfl : ah = bh := by omega
      by_cases g3 : (al : Int) < bl
      · go_enter Try.func37, Try.ntmps37
        go_wp2
        go_ret
        exact ⟨by simp; omega, rfl⟩
      · go_enter Try.func37, Try.ntmps37
        go_wp2
        go_ret
        exact ⟨by simp; omega, rfl⟩
    · go_enter Try.func37, Try.ntmps37
      go_wp2
      go_ret
      exact ⟨by simp; omega, rfl⟩

theorem zzLess_any (ah al bh bl : Nat) (h1 : al < 18446744073709551616) (h2 : bl < 18446744073709551616) (w : World) :
    Calls Try.prog 37 #[.int .u64 (ah : Int), .int .u64 (al : Int), .int .u64 (bh : Int), .int .u64 (bl : Int)] w fun e w' =>
      e = .returned (.bool (decide (adr ah al < adr bh bl))) ∧ w = w' := by
  have e : decide (ah < bh ∨ ah = bh ∧ al < bl) = decide (adr ah al < adr bh bl) := by
    rw [decide_eq_decide]; unfold adr; omega
  rw [← e]
  exact zzLess_words ah al bh bl w

theorem bit_word (h k : Nat) (hh : h < 18446744073709551616) : wrap64 (bits BinOp.and IntKind.u64 ((h : Int) / 2 ^ k) 1) = ((h / 2 ^ k % 2 : Nat) : Int) := by
  have e : ((h : Int) / 2 ^ k) = ((h / 2 ^ k : Nat) : Int) := by simp
  have hle : h / 2 ^ k ≤ h := Nat.div_le_self _ _
  have h1 := u64_and_nat (h / 2 ^ k) 1 (by omega) (by omega)
  have e1 : ((1 : Nat) : Int) = 1 := rfl
  rw [e1] at h1
  rw [e, h1, nat_mask1]
  have h2 : h / 2 ^ k % 2 < 2 := Nat.mod_lt _ (by omega)
  generalize h / 2 ^ k % 2 = z at h2
  exact IntWalk.wrap64_in _ ⟨by omega, by omega⟩

set_option maxHeartbeats 400000 in
theorem zzBit_hi (h l d : Nat) (hd : d < 64) (hh : h < 18446744073709551616) (w : World) :
    Calls Try.prog 36 #[.int .u64 (h : Int), .int .u64 (l : Int), .int .i64 (d : Int)] w fun e w' => e = .returned (.int .i64 ((h / 2 ^ (63 - d) % 2 : Nat) : Int)) ∧ w = w' := by
  have HE := hide (bit_word h (63 - d) hh)
  go_enter Try.func36, Try.ntmps36
  go_wp2
  go_ret
  exact ⟨ret_int HE.out, rfl⟩
set_option maxHeartbeats 400000 in
theorem zzBit_lo (h l d : Nat) (hd : 64 ≤ d) (hd' : d < 128) (hh : l < 18446744073709551616) (w : World) :
    Calls Try.prog 36 #[.int .u64 (h : Int), .int .u64 (l : Int), .int .i64 (d : Int)] w fun e w' => e = .returned (.int .i64 ((l / 2 ^ (127 - d) % 2 : Nat) : Int)) ∧ w = w' := by
  have HE := hide (bit_word l (127 - d) hh)
  go_enter Try.func36, Try.ntmps36
  go_wp2
  go_ret
  exact ⟨ret_int HE.out, rfl⟩

theorem zzBit_any (h l d : Nat) (hd : d < 128) (hh : h < 18446744073709551616) (hl : l < 18446744073709551616) (w : World) :
    Calls Try.prog 36 #[.int .u64 (h : Int), .int .u64 (l : Int), .int .i64 (d : Int)] w fun e w' => e = .returned (.int .i64 ((adr h l / 2 ^ (127 - d) % 2 : Nat) : Int)) ∧ w = w' := by
  have ediv : adr h l / 18446744073709551616 = h := by unfold adr; omega
  have emod : adr h l % 18446744073709551616 = l := by unfold adr; omega
  by_cases h1 : d < 64
  · have e : 127 - d = 64 + (63 - d) := by omega
    rw [e, hi_bit, ediv]
    exact zzBit_hi h l d h1 hh w
  · rw [lo_bit _ _ (by omega : 127 - d < 64), emod]
    exact zzBit_lo h l d (by omega) hd hl w

/-- zzLookup, at depth d: the way down so far. -/
structure LookRel (w wr : World) (t : Nat) (S : Pl.St) (own : Nat → Prop) (root x r d : Nat) : Prop where
  low : Below w.heap.size w wr
  deep : Pl.deep S.mem (128 - d) r
  lt : ∀ i, i ∈ Pl.nodes S.mem (128 - d) r → i < S.cnt
  look : Pl.look S.mem (128 - d) r x = Pl.look S.mem 128 root x

theorem look_next {w wr : World} {t : Nat} {S : Pl.St} {own : Nat → Prop} {root x r d : Nat} (h : LookRel w wr t S own root x r d) (hd : d < 128) (hl : Pl.leaf r = false) :
    ∀ W, Below w.heap.size w W → (x / 2 ^ (127 - d) % 2 = 0 → LookRel w W t S own root x (S.mem r).1 (d + 1)) ∧ (x / 2 ^ (127 - d) % 2 = 1 → LookRel w W t S own root x (S.mem r).2 (d + 1)) := by
  intro W hW
  have e : 128 - d = (127 - d) + 1 := by omega
  have e2 : 128 - (d + 1) = 127 - d := by omega
  have D := h.deep
  have N := h.lt
  have K := h.look
  rw [e] at D N K
  rw [Pl.nodes_node hl] at N
  obtain ⟨d1, d2⟩ := Pl.deep_node hl D
  refine ⟨fun hb => ⟨hW, by rw [e2]; exact d1, by rw [e2]; exact fun i hi => N i (by simp [hi]), ?_⟩, fun hb => ⟨hW, by rw [e2]; exact d2, by rw [e2]; exact fun i hi => N i (by simp [hi]), ?_⟩⟩
  · rw [e2, ← K]; simp [Pl.look, hl, hb]
  · rw [e2, ← K]; simp [Pl.look, hl, hb]

set_option maxHeartbeats 2000000 in
theorem lookup_any {w : World} {t : Nat} {S : Pl.St} {own : Nat → Prop} (h : Rep w t S own) (root ah al : Nat) (hd : Pl.deep S.mem 128 root) (hlt : ∀ i, i ∈ Pl.nodes S.mem 128 root → i < S.cnt) (hc : S.cnt < 2147483648) (h1 : ah < 18446744073709551616) (h2 : al < 18446744073709551616) :
    Calls Try.prog 29 #[.pointer (some ⟨t, 0, none⟩), .int .u32 (root : Int), .int .u64 (ah : Int), .int .u64 (al : Int)] w fun e w' => e = .returned (.tuple #[.int .u32 ((Pl.look S.mem 128 root (adr ah al)) : Int), .bool true]) ∧ Below w.heap.size w w' := by
  have HR := hide h
  have HD := hide (And.intro hd hlt)
  clear h hd hlt
  go_enter Try.func29, Try.ntmps29
  go_wp2_with fail
  refine (zzCount_any HR.out).mono ?_
  rintro e w0 ⟨rfl, rfl⟩
  go_wp2_with fail
  go_loopw [11, 12] (fun r i wr => ∃ (q d : Nat), d ≤ 128 ∧ i = .int .i64 d ∧ r = .int .u32 (q : Int) ∧ LookRel w wr t S own root (adr ah al) q d) (fun _ i _ => 128 - (intOf i).toNat)
  case atStart => exact ⟨root, 0, Nat.zero_le _, rfl, rfl, Below.refl _ _, HD.out.1, HD.out.2, rfl⟩
  case round =>
    obtain ⟨q, d, hd, rfl, rfl, hrel⟩ := hrel
    have HL := hide hrel
    clear hrel
    have hq := Pl.deep_lt HL.out.deep
    by_cases hlt : d < 128
    · have t1 : decide ((d : Int) < 128) = true := decide_eq_true (by omega)
      cases hlf : Pl.leaf q with
      | true =>
        go_wp2_with (go_at_call 20; refine (isLeaf_any q hq _).mono ?_; rintro e w' ⟨rfl, rfl⟩)
        go_ret2
        refine ⟨?_, HL.out.low⟩
        have := HL.out.look
        rw [Pl.look_leaf hlf] at this
        rw [← this]; rfl
      | false =>
        obtain ⟨n, hn⟩ : ∃ n, 128 - d = n + 1 := ⟨127 - d, by omega⟩
        have hn' : n = 127 - d := by omega
        have D := HL.out.deep
        have N := HL.out.lt
        have K := HL.out.look
        rw [hn] at D N K
        rw [Pl.nodes_node hlf] at N
        have hqc : q < S.cnt := N q (by simp)
        have t2 : decide ((S.cnt : Int) ≤ (q : Int)) = false := decide_eq_false (by omega)
        have t2' : decide (S.cnt ≤ q) = false := decide_eq_false (by omega)
        have hnext := look_next HL.out hlt hlf
        have HX := hide hnext
        have HZ := hide (fun (wq : World) (hw : Below w.heap.size w wq) => zzNode_any (HR.out.below hw) q hqc hc)
        generalize hmem : S.mem q = lr at *
        obtain ⟨l, t0⟩ := lr
        have hb : adr ah al / 2 ^ (127 - d) % 2 < 2 := Nat.mod_lt _ (by omega)
        have HB := hide (fun (wq : World) => zzBit_any ah al d hlt h1 h2 wq)
        generalize hbit : adr ah al / 2 ^ (127 - d) % 2 = bt at *
        have HO := hide (And.intro hb (And.intro hlt hd))
        clear D N K hnext hmem hn hn' hbit hb hlt hd hqc
        go_wp2_with fail
        refine (isLeaf_any q hq _).mono ?_
        rintro e w' ⟨rfl, rfl⟩
        go_wp2_with fail
        refine (HZ.out _ HL.out.low).mono ?_
        rintro e w1 ⟨rfl, hb1⟩
        have H1 := hide (HL.out.low.trans (hb1.mono HL.out.low.size))
        clear hb1
        go_wp2_with fail
        refine (HB.out _).mono ?_
        rintro e w2 ⟨rfl, rfl⟩
        have hb0 : bt = 0 ∨ bt = 1 := by have := HO.out.1; omega
        have hd1 : (d : Int) ≤ 127 := by have := HO.out.2.1; omega
        rcases hb0 with rfl | rfl
        · go_wp2_with fail
          go_roundw
          case rel => exact ⟨l, d + 1, by have := HO.out.2.1; omega, by go_num, rfl, (HX.out _ (H1.out.alloc H1.out.size _)).1 (by first | rfl | trivial)⟩
          case measure => simp [intOf]; omega
        · go_wp2_with fail
          go_roundw
          case rel => exact ⟨t0, d + 1, by have := HO.out.2.1; omega, by go_num, rfl, (HX.out _ (H1.out.alloc H1.out.size _)).2 (by first | rfl | trivial)⟩
          case measure => simp [intOf]; omega
    · obtain rfl : d = 128 := by omega
      have t1 : decide (((128 : Nat) : Int) < 128) = false := by decide
      have hlf : Pl.leaf q = true := HL.out.deep.1
      go_wp2_with (go_at_call 20; refine (isLeaf_any q hq _).mono ?_; rintro e w' ⟨rfl, rfl⟩)
      go_ret2
      refine ⟨?_, HL.out.low⟩
      have := HL.out.look
      rw [Pl.look_leaf hlf] at this
      rw [← this]; rfl
end Go.Proofs.Qxb6600977a
