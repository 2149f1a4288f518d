import Derived.Test.Qxb6600977aRows
import Derived.Test.Qxb6600977aPlain
import Derived.WalkKit
import Derived.WalkSpells
import Derived.WalkLawsBesides
import Derived.Laws.BitsAllLaws
set_option linter.unusedVariables false
set_option linter.unusedSimpArgs false
namespace Go.Proofs.Qxb6600977a
open Go.RowKit

theorem ret_int {k : IntKind} {a b : Int} (h : a = b) : Ending.returned (.int k a) = .returned (.int k b) := by rw [h]

theorem leaf_bits (r : Nat) (hr : r < 4294967296) : (bits BinOp.and IntKind.u32 (r : Int) 2147483648 != 0) = Pl.leaf r := by
  have h := u32_and_nat r 2147483648 hr (by omega)
  have e : ((2147483648 : Nat) : Int) = 2147483648 := rfl
  rw [e] at h
  rw [h, show (2147483648 : Nat) = 2 ^ 31 from rfl, nat_bit]
  unfold Pl.leaf
  by_cases hc : 2147483648 ≤ r
  · have : r / 2 ^ 31 % 2 = 1 := by omega
    simp [this, hc]
  · have : r / 2 ^ 31 % 2 = 0 := by omega
    simp [this, hc]

theorem zzLeaf_bits (r : Nat) (hr : r < 4294967296) : bits BinOp.or IntKind.u32 (r : Int) 2147483648 = ((r % 2147483648 + 2147483648 : Nat) : Int) := by
  have h := u32_or_nat r 2147483648 hr (by omega)
  have e : ((2147483648 : Nat) : Int) = 2147483648 := rfl
  rw [e] at h
  rw [h]
  congr 1
  by_cases hc : 2147483648 ≤ r
  · obtain ⟨q, rfl⟩ : ∃ q, r = 2147483648 + q := ⟨r - 2147483648, by omega⟩
    have h1 := nat_join 31 2147483648 q (by decide) (by omega)
    rw [← h1, Nat.or_assoc, Nat.or_comm q, ← Nat.or_assoc, Nat.or_self, h1]
    omega
  · have h1 := nat_join 31 2147483648 r (by decide) (by omega)
    rw [Nat.or_comm, h1]
    omega

set_option maxHeartbeats 400000 in
theorem isLeaf_any (r : Nat) (hr : r < 4294967296) (w : World) :
    Calls Try.prog 20 #[.int .u32 (r : Int)] w fun e w' => e = .returned (.bool (Pl.leaf r)) ∧ w = w' := by
  have h := leaf_bits r hr
  go_enter Try.func20, Try.ntmps20
  go_wp2
  go_ret
  exact ⟨rfl, rfl⟩

set_option maxHeartbeats 400000 in
theorem zzLeaf_any (r : Nat) (hr : r < 4294967296) (w : World) :
    Calls Try.prog 27 #[.int .u32 (r : Int)] w fun e w' => e = .returned (.int .u32 ((r % 2147483648 + 2147483648 : Nat) : Int)) ∧ w = w' := by
  have h := zzLeaf_bits r hr
  go_enter Try.func27, Try.ntmps27
  go_wp2
  go_ret
  exact ⟨ret_int (by omega), rfl⟩

set_option maxHeartbeats 400000 in
theorem nodeIdx_any (r : Nat) (hr : r < 4294967296) (w : World) :
    Calls Try.prog 38 #[.int .u32 (r : Int)] w fun e w' => e = .returned (.int .i64 (r : Int)) ∧ w = w' := by
  go_enter Try.func38, Try.ntmps38
  go_wp2
  go_ret
  exact ⟨rfl, rfl⟩

set_option maxHeartbeats 400000 in
theorem less_words (ah al bh bl : Nat) (w : World) :
    Calls Try.prog 39 #[.agg #[.int .u64 (ah : Int), .int .u64 (al : Int)], .agg #[.int .u64 (bh : Int), .int .u64 (bl : Int)]] w fun e w' =>
      e = .returned (.bool (decide (ah < bh ∨ ah = bh ∧ al < bl))) ∧ Below w.heap.size w w' := by
  by_cases g1 : (ah : Int) < bh
  · go_enter Try.func39, Try.ntmps39
    go_wp2
    go_ret
    exact ⟨by simp; omega, by repeat (first | exact Below.refl _ _ | refine Below.alloc ?_ (by simp) _)⟩
  · by_cases g2 : (ah : Int) = bh
    · obtain rfl : ah = bh := by omega
      by_cases g3 : (al : Int) < bl
      · go_enter Try.func39, Try.ntmps39
        go_wp2
        go_ret
        exact ⟨by simp; omega, by repeat (first | exact Below.refl _ _ | refine Below.alloc ?_ (by simp) _)⟩
      · go_enter Try.func39, Try.ntmps39
        go_wp2
        go_ret
        exact ⟨by simp; omega, by repeat (first | exact Below.refl _ _ | refine Below.alloc ?_ (by simp) _)⟩
    · go_enter Try.func39, Try.ntmps39
      go_wp2
      go_ret
      exact ⟨by simp; omega, by repeat (first | exact Below.refl _ _ | refine Below.alloc ?_ (by simp) _)⟩


/-! ### One bit of a word -/
theorem or_bit0 (h k : Nat) (hb : h / 2 ^ k % 2 = 0) : h ||| 2 ^ k = h + 2 ^ k := by
  have hp : 0 < 2 ^ k := Nat.pow_pos (by omega)
  have e : 2 ^ (k + 1) = 2 ^ k * 2 := Nat.pow_succ _ _
  have hB : h % 2 ^ (k + 1) < 2 ^ k := by
    rw [e, Nat.mod_mul, hb]
    have := Nat.mod_lt h hp
    omega
  have hA : 2 ^ (k + 1) * (h / 2 ^ (k + 1)) % 2 ^ (k + 1) = 0 := Nat.mul_mod_right _ _
  have hs := Nat.div_add_mod h (2 ^ (k + 1))
  have j1 := nat_join (k + 1) (2 ^ (k + 1) * (h / 2 ^ (k + 1))) (h % 2 ^ (k + 1)) hA (Nat.mod_lt _ (Nat.pow_pos (by omega)))
  have j2 := nat_join k (2 ^ k) (h % 2 ^ (k + 1)) (Nat.mod_self _) hB
  have j3 := nat_join (k + 1) (2 ^ (k + 1) * (h / 2 ^ (k + 1))) (2 ^ k + h % 2 ^ (k + 1)) hA (by omega)
  conv => lhs; rw [← hs, ← j1, Nat.or_assoc, Nat.or_comm (h % 2 ^ (k + 1)), j2, j3]
  omega

theorem andNot_bit1 (h k : Nat) (hk : k < 64) (hh : h < 18446744073709551616) (hb : h / 2 ^ k % 2 = 1) : h &&& (18446744073709551615 - 2 ^ k) = h - 2 ^ k := by
  have hp : 0 < 2 ^ k := Nat.pow_pos (by omega)
  have e64 : 2 ^ k * (2 * 2 ^ (63 - k)) = 18446744073709551616 := by
    rw [← Nat.pow_succ', ← Nat.pow_add, show k + (63 - k + 1) = 64 from by omega]
  have hc : 0 < 2 ^ (63 - k) := Nat.pow_pos (by omega)
  generalize 2 ^ (63 - k) = c at e64 hc
  have hM : (18446744073709551615 - 2 ^ k) / 2 ^ k % 2 = 0 := by
    have : (18446744073709551615 - 2 ^ k) / 2 ^ k = 2 * c - 2 := by
      refine Nat.div_eq_of_lt_le ?_ ?_
      · rw [Nat.mul_comm, Nat.mul_sub]; omega
      · rw [Nat.mul_comm, Nat.mul_add, Nat.mul_sub]; omega
    rw [this]; omega
  have hle : 2 ^ k ≤ h := by
    rcases Nat.lt_or_ge h (2 ^ k) with hlt | hge
    · rw [Nat.div_eq_of_lt hlt] at hb; omega
    · exact hge
  have hk2 : 2 ^ k ≤ 18446744073709551615 := by
    have := Nat.le_mul_of_pos_right (2 ^ k) (show 0 < 2 * c by omega)
    have h3 : 2 ^ k * 2 ≤ 2 ^ k * (2 * c) := Nat.mul_le_mul_left _ (by omega)
    omega
  have hg : (h - 2 ^ k) / 2 ^ k % 2 = 0 := by
    have : h / 2 ^ k = (h - 2 ^ k) / 2 ^ k + 1 := by
      conv => lhs; rw [← Nat.sub_add_cancel hle, Nat.add_div_right _ hp]
    omega
  have j1 := or_bit0 (h - 2 ^ k) k hg
  have j2 := or_bit0 (18446744073709551615 - 2 ^ k) k hM
  have a1 : (18446744073709551615 - 2 ^ k) &&& 2 ^ k = 0 := by rw [nat_bit, hM, Nat.zero_mul]
  have a2 : (h - 2 ^ k) &&& 2 ^ k = 0 := by rw [nat_bit, hg, Nat.zero_mul]
  have a3 : (h - 2 ^ k) &&& (18446744073709551615 - 2 ^ k) = h - 2 ^ k := by
    have : (h - 2 ^ k) &&& 18446744073709551615 = h - 2 ^ k := by
      have := Nat.and_two_pow_sub_one_eq_mod (h - 2 ^ k) 64
      rw [show (2 : Nat) ^ 64 - 1 = 18446744073709551615 from rfl] at this
      rw [this]; exact Nat.mod_eq_of_lt (by omega)
    conv at this => lhs; rw [show (18446744073709551615 : Nat) = (18446744073709551615 - 2 ^ k) + 2 ^ k from by omega, ← j2, Nat.and_or_distrib_left, a2, Nat.or_zero]
    exact this
  conv => lhs; rw [show h = (h - 2 ^ k) + 2 ^ k from by omega, ← j1, Nat.and_comm, Nat.and_or_distrib_left, a1, Nat.or_zero, Nat.and_comm, a3]

theorem wrap_pow (k : Nat) (hk : k < 64) : IntKind.u64.wrap (2 ^ k) = ((2 ^ k : Nat) : Int) := by
  have h : 2 ^ k < 2 ^ 64 := Nat.pow_lt_pow_right (by omega) hk
  have e : ((2 : Int) ^ k) = ((2 ^ k : Nat) : Int) := by simp
  rw [IntKind.wrap_u64, e]
  generalize 2 ^ k = c at h
  omega

theorem pow_lt_word (k : Nat) (hk : k < 64) : 2 ^ k < 18446744073709551616 := Nat.pow_lt_pow_right (a := 2) (n := 64) (by omega) hk

theorem or_word (h k : Nat) (hk : k < 64) (hh : h < 18446744073709551616) (hb : h / 2 ^ k % 2 = 0) : bits BinOp.or IntKind.u64 (h : Int) (IntKind.u64.wrap (2 ^ k)) = ((h + 2 ^ k : Nat) : Int) := by
  rw [wrap_pow k hk, u64_or_nat h (2 ^ k) hh (pow_lt_word k hk), or_bit0 h k hb]

theorem andNot_word (h k : Nat) (hk : k < 64) (hh : h < 18446744073709551616) (hb : h / 2 ^ k % 2 = 1) : bits BinOp.andNot IntKind.u64 (h : Int) (IntKind.u64.wrap (2 ^ k)) = ((h - 2 ^ k : Nat) : Int) := by
  rw [wrap_pow k hk, u64_andNot_nat h (2 ^ k) hh (pow_lt_word k hk), andNot_bit1 h k hk hh hb]

/-- An address, as the two words of a u128. -/
def U (x : Nat) : Value := .agg #[.int .u64 ((x / 18446744073709551616 : Nat) : Int), .int .u64 ((x % 18446744073709551616 : Nat) : Int)]

theorem U_words (x h l : Nat) (h1 : x / 18446744073709551616 = h) (h2 : x % 18446744073709551616 = l) : U x = .agg #[.int .u64 (h : Int), .int .u64 (l : Int)] := by
  unfold U; rw [h1, h2]

set_option maxHeartbeats 400000 in
theorem withBit_hi (h l d : Nat) (hd : d < 64) (hh : h < 18446744073709551616) (hb : h / 2 ^ (63 - d) % 2 = 0) (w : World) :
    Calls Try.prog 42 #[.agg #[.int .u64 (h : Int), .int .u64 (l : Int)], .int .i64 (d : Int)] w fun e w' =>
      e = .returned (.agg #[.int .u64 ((h + 2 ^ (63 - d) : Nat) : Int), .int .u64 (l : Int)]) ∧ Below w.heap.size w w' := by
  have E := or_word h (63 - d) (by omega) hh hb
  have HE : Hid (bits BinOp.or IntKind.u64 (h : Int) (IntKind.u64.wrap (2 ^ (63 - d))) = ((h + 2 ^ (63 - d) : Nat) : Int)) := E
  clear E hb
  go_enter Try.func42, Try.ntmps42
  go_wp2
  go_region
  all_goals go_wp2
  refine bodyPost_ret (v := .agg #[.int .u64 (bits BinOp.or IntKind.u64 (h : Int) (IntKind.u64.wrap (2 ^ (63 - d)))), .int .u64 (l : Int)]) (by simp [results, Try.results42, go_sem]) rfl ⟨by rw [HE.out], ?_⟩
  repeat (first | exact Below.refl _ _ | refine Below.drew ?_ | refine Below.alloc ?_ (by simp) _)

set_option maxHeartbeats 400000 in
theorem withBit_lo (h l d : Nat) (hd : 64 ≤ d) (hd' : d < 128) (hh : l < 18446744073709551616) (hb : l / 2 ^ (127 - d) % 2 = 0) (w : World) :
    Calls Try.prog 42 #[.agg #[.int .u64 (h : Int), .int .u64 (l : Int)], .int .i64 (d : Int)] w fun e w' =>
      e = .returned (.agg #[.int .u64 (h : Int), .int .u64 ((l + 2 ^ (127 - d) : Nat) : Int)]) ∧ Below w.heap.size w w' := by
  have E := or_word l (127 - d) (by omega) hh hb
  have HE : Hid (bits BinOp.or IntKind.u64 (l : Int) (IntKind.u64.wrap (2 ^ (127 - d))) = ((l + 2 ^ (127 - d) : Nat) : Int)) := E
  clear E hb
  go_enter Try.func42, Try.ntmps42
  go_wp2
  go_region
  all_goals go_wp2
  refine bodyPost_ret (v := .agg #[.int .u64 (h : Int), .int .u64 (bits BinOp.or IntKind.u64 (l : Int) (IntKind.u64.wrap (2 ^ (127 - d))))]) (by simp [results, Try.results42, go_sem]) rfl ⟨by rw [HE.out], ?_⟩
  repeat (first | exact Below.refl _ _ | refine Below.drew ?_ | refine Below.alloc ?_ (by simp) _)

set_option maxHeartbeats 400000 in
theorem withoutBit_hi (h l d : Nat) (hd : d < 64) (hh : h < 18446744073709551616) (hb : h / 2 ^ (63 - d) % 2 = 1) (w : World) :
    Calls Try.prog 41 #[.agg #[.int .u64 (h : Int), .int .u64 (l : Int)], .int .i64 (d : Int)] w fun e w' =>
      e = .returned (.agg #[.int .u64 ((h - 2 ^ (63 - d) : Nat) : Int), .int .u64 (l : Int)]) ∧ Below w.heap.size w w' := by
  have E := andNot_word h (63 - d) (by omega) hh hb
  have HE : Hid (bits BinOp.andNot IntKind.u64 (h : Int) (IntKind.u64.wrap (2 ^ (63 - d))) = ((h - 2 ^ (63 - d) : Nat) : Int)) := E
  clear E hb
  go_enter Try.func41, Try.ntmps41
  go_wp2
  go_region
  all_goals go_wp2
  refine bodyPost_ret (v := .agg #[.int .u64 (bits BinOp.andNot IntKind.u64 (h : Int) (IntKind.u64.wrap (2 ^ (63 - d)))), .int .u64 (l : Int)]) (by simp [results, Try.results41, go_sem]) rfl ⟨by rw [HE.out], ?_⟩
  repeat (first | exact Below.refl _ _ | refine Below.drew ?_ | refine Below.alloc ?_ (by simp) _)

set_option maxHeartbeats 400000 in
theorem withoutBit_lo (h l d : Nat) (hd : 64 ≤ d) (hd' : d < 128) (hh : l < 18446744073709551616) (hb : l / 2 ^ (127 - d) % 2 = 1) (w : World) :
    Calls Try.prog 41 #[.agg #[.int .u64 (h : Int), .int .u64 (l : Int)], .int .i64 (d : Int)] w fun e w' =>
      e = .returned (.agg #[.int .u64 (h : Int), .int .u64 ((l - 2 ^ (127 - d) : Nat) : Int)]) ∧ Below w.heap.size w w' := by
  have E := andNot_word l (127 - d) (by omega) hh hb
  have HE : Hid (bits BinOp.andNot IntKind.u64 (l : Int) (IntKind.u64.wrap (2 ^ (127 - d))) = ((l - 2 ^ (127 - d) : Nat) : Int)) := E
  clear E hb
  go_enter Try.func41, Try.ntmps41
  go_wp2
  go_region
  all_goals go_wp2
  refine bodyPost_ret (v := .agg #[.int .u64 (h : Int), .int .u64 (bits BinOp.andNot IntKind.u64 (l : Int) (IntKind.u64.wrap (2 ^ (127 - d))))]) (by simp [results, Try.results41, go_sem]) rfl ⟨by rw [HE.out], ?_⟩
  repeat (first | exact Below.refl _ _ | refine Below.drew ?_ | refine Below.alloc ?_ (by simp) _)

/-! ### The same over addresses -/
theorem less_any (x y : Nat) (w : World) :
    Calls Try.prog 39 #[U x, U y] w fun e w' => e = .returned (.bool (decide (x < y))) ∧ Below w.heap.size w w' := by
  refine (less_words (x / 18446744073709551616) (x % 18446744073709551616) (y / 18446744073709551616) (y % 18446744073709551616) w).mono ?_
  rintro e w' ⟨rfl, hb⟩
  refine ⟨?_, hb⟩
  have : decide (x / 18446744073709551616 < y / 18446744073709551616 ∨ x / 18446744073709551616 = y / 18446744073709551616 ∧ x % 18446744073709551616 < y % 18446744073709551616) = decide (x < y) := by
    rw [decide_eq_decide]; omega
  rw [this]

theorem hi_bit (x k : Nat) : x / 2 ^ (64 + k) = x / 18446744073709551616 / 2 ^ k := by
  rw [Nat.pow_add, Nat.div_div_eq_div_mul, show (2 : Nat) ^ 64 = 18446744073709551616 from rfl]

theorem lo_bit (x k : Nat) (hk : k < 64) : x / 2 ^ k % 2 = x % 18446744073709551616 / 2 ^ k % 2 := by
  have e64 : 2 ^ k * (2 * 2 ^ (63 - k)) = 18446744073709551616 := by
    rw [← Nat.pow_succ', ← Nat.pow_add, show k + (63 - k + 1) = 64 from by omega]
  rw [← e64, Nat.mod_mul_right_div_self, Nat.mod_mul_right_mod]

theorem bit_lt_pow (l k : Nat) (hk : k < 64) (hl : l < 18446744073709551616) (hb : l / 2 ^ k % 2 = 0) : l + 2 ^ k < 18446744073709551616 := by
  have e64 : 2 ^ k * (2 * 2 ^ (63 - k)) = 18446744073709551616 := by
    rw [← Nat.pow_succ', ← Nat.pow_add, show k + (63 - k + 1) = 64 from by omega]
  have hp : 0 < 2 ^ k := Nat.pow_pos (by omega)
  generalize 2 ^ (63 - k) = c at e64
  generalize 2 ^ k = p at *
  have h1 : l / p < 2 * c := by rw [Nat.div_lt_iff_lt_mul hp, Nat.mul_comm, e64]; exact hl
  have h2 : l / p + 2 ≤ 2 * c := by omega
  have h3 := Nat.mul_le_mul_left p h2
  rw [e64, Nat.mul_add] at h3
  have h4 := Nat.div_add_mod l p
  have h5 := Nat.mod_lt l hp
  omega

theorem withBit_any (x d : Nat) (hx : x < 340282366920938463463374607431768211456) (hd : d < 128) (hb : x / 2 ^ (127 - d) % 2 = 0) (w : World) :
    Calls Try.prog 42 #[U x, .int .i64 (d : Int)] w fun e w' => e = .returned (U (x + 2 ^ (127 - d))) ∧ Below w.heap.size w w' := by
  by_cases h : d < 64
  · have e : 127 - d = 64 + (63 - d) := by omega
    rw [e] at hb ⊢
    rw [hi_bit] at hb
    have e2 : 2 ^ (64 + (63 - d)) = 18446744073709551616 * 2 ^ (63 - d) := by rw [Nat.pow_add]
    rw [U_words (x + 2 ^ (64 + (63 - d))) (x / 18446744073709551616 + 2 ^ (63 - d)) (x % 18446744073709551616) (by rw [e2, Nat.add_mul_div_left _ _ (by omega)]) (by rw [e2, Nat.add_mul_mod_self_left])]
    exact withBit_hi _ _ d h (by omega) hb w
  · have hk : 127 - d < 64 := by omega
    rw [lo_bit x _ hk] at hb
    have hl := bit_lt_pow (x % 18446744073709551616) (127 - d) hk (Nat.mod_lt _ (by omega)) hb
    rw [U_words (x + 2 ^ (127 - d)) (x / 18446744073709551616) (x % 18446744073709551616 + 2 ^ (127 - d)) (by generalize 2 ^ (127 - d) = p at *; omega) (by generalize 2 ^ (127 - d) = p at *; omega)]
    exact withBit_lo _ _ d (by omega) hd (Nat.mod_lt _ (by omega)) hb w

theorem bit_ge_pow (l k : Nat) (hb : l / 2 ^ k % 2 = 1) : 2 ^ k ≤ l := by
  rcases Nat.lt_or_ge l (2 ^ k) with hlt | hge
  · rw [Nat.div_eq_of_lt hlt] at hb; omega
  · exact hge

theorem withoutBit_any (x d : Nat) (hx : x < 340282366920938463463374607431768211456) (hd : d < 128) (hb : x / 2 ^ (127 - d) % 2 = 1) (w : World) :
    Calls Try.prog 41 #[U x, .int .i64 (d : Int)] w fun e w' => e = .returned (U (x - 2 ^ (127 - d))) ∧ Below w.heap.size w w' := by
  by_cases h : d < 64
  · have e : 127 - d = 64 + (63 - d) := by omega
    rw [e] at hb ⊢
    rw [hi_bit] at hb
    have hl := bit_ge_pow _ _ hb
    have e2 : 2 ^ (64 + (63 - d)) = 18446744073709551616 * 2 ^ (63 - d) := by rw [Nat.pow_add]
    rw [U_words (x - 2 ^ (64 + (63 - d))) (x / 18446744073709551616 - 2 ^ (63 - d)) (x % 18446744073709551616) (by rw [e2]; generalize 2 ^ (63 - d) = p at *; omega) (by rw [e2]; generalize 2 ^ (63 - d) = p at *; omega)]
    exact withoutBit_hi _ _ d h (by omega) hb w
  · have hk : 127 - d < 64 := by omega
    rw [lo_bit x _ hk] at hb
    have hl := bit_ge_pow _ _ hb
    rw [U_words (x - 2 ^ (127 - d)) (x / 18446744073709551616) (x % 18446744073709551616 - 2 ^ (127 - d)) (by generalize 2 ^ (127 - d) = p at *; omega) (by generalize 2 ^ (127 - d) = p at *; omega)]
    exact withoutBit_lo _ _ d (by omega) hd (Nat.mod_lt _ (by omega)) hb w
end Go.Proofs.Qxb6600977a
