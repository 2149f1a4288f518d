import Derived.Test.Qxb6600977aL5
set_option linter.unusedVariables false
set_option linter.unusedSimpArgs false
namespace Go.Proofs.Qxb6600977a
open Go.RowKit

theorem u64_wrap_nat (z : Int) : ∃ n : Nat, n < 18446744073709551616 ∧ IntKind.u64.wrap z = (n : Int) := by
  refine ⟨(z % 18446744073709551616).toNat, by omega, ?_⟩
  have : IntKind.u64.wrap z = z % 18446744073709551616 := by simp [IntKind.wrap, IntKind.bits, IntKind.signed]
  rw [this]; omega

set_option maxHeartbeats 200000 in
theorem dec_any (h l : Nat) (h1 : h < 18446744073709551616) (h2 : l < 18446744073709551616) (w : World) :
    Calls Try.prog 31 #[.int .u64 (h : Int), .int .u64 (l : Int)] w fun e w' => ∃ h' l' : Nat, e = .returned (.tuple #[.int .u64 (h' : Int), .int .u64 (l' : Int)]) ∧ h' < 18446744073709551616 ∧ l' < 18446744073709551616 ∧ w = w' := by
  by_cases hl : l = 0
  · subst hl
    go_enter Try.func31, Try.ntmps31
    go_wp2
    go_ret2
    obtain ⟨n, hn, he⟩ := u64_wrap_nat ((h : Int) - 1)
    rw [he]
    exact ⟨n, 18446744073709551615, rfl, hn, by omega, rfl⟩
  · have t : ((l : Int) == 0) = false := by rw [beq_eq_false_iff_ne]; omega
    have hl1 : (1 : Int) ≤ l := by omega
    go_enter Try.func31, Try.ntmps31
    go_wp2
    go_ret2
    rw [show (l : Int) - 1 = ((l - 1 : Nat) : Int) by omega]
    exact ⟨h, l - 1, rfl, h1, by omega, rfl⟩

set_option maxHeartbeats 200000 in
theorem inc_any (h l : Nat) (h1 : h < 18446744073709551616) (h2 : l < 18446744073709551616) (w : World) :
    Calls Try.prog 32 #[.int .u64 (h : Int), .int .u64 (l : Int)] w fun e w' => ∃ h' l' : Nat, e = .returned (.tuple #[.int .u64 (h' : Int), .int .u64 (l' : Int)]) ∧ h' < 18446744073709551616 ∧ l' < 18446744073709551616 ∧ w = w' := by
  by_cases hl : l = 18446744073709551615
  · subst hl
    go_enter Try.func32, Try.ntmps32
    go_wp2
    go_ret2
    obtain ⟨n, hn, he⟩ := u64_wrap_nat ((h : Int) + 1)
    rw [he]
    exact ⟨n, 0, rfl, hn, by omega, rfl⟩
  · have t : ((l : Int) == 18446744073709551615) = false := by rw [beq_eq_false_iff_ne]; omega
    have hl1 : (l : Int) + 1 < 18446744073709551616 := by omega
    go_enter Try.func32, Try.ntmps32
    go_wp2
    go_ret2
    rw [show (l : Int) + 1 = ((l + 1 : Nat) : Int) by omega]
    exact ⟨h, l + 1, rfl, h1, by omega, rfl⟩

end Go.Proofs.Qxb6600977a
