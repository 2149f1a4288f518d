import Derived.Test.Qxb6600977aL8
import Derived.DeepKeys
set_option linter.unusedVariables false
set_option linter.unusedSimpArgs false
namespace Go.Proofs.Qxb6600977a
open Go.RowKit
theorem cells29 : Try.prog.cellsOf 29 = 1 := by kernel_rfl
theorem cells51 : Try.prog.cellsOf 51 = 2 := by kernel_rfl

theorem lits51 (p1 p2 : Nat) (h1 : p1 < 4294967296) (h2 : p2 < 4294967296) : ∃ l, Try.prog.keyLits 2 51 [.int .u32 (p1 : Int), .int .u32 (p2 : Int)] = some l := by
  have e1 : (Lit.int .u32 (p1 : Int)).wf = true := by simp [Lit.wf, IntKind.min, IntKind.max, IntKind.signed, IntKind.bits]; omega
  have e2 : (Lit.int .u32 (p2 : Int)).wf = true := by simp [Lit.wf, IntKind.min, IntKind.max, IntKind.signed, IntKind.bits]; omega
  simp [Program.keyLits, Try.underlying51, Try.underlying29, cells29, cells51, show List.range 2 = [0, 1] from rfl, List.mapM_cons, List.mapM_nil, e1, e2]

theorem eq51 (p1 p2 : Nat) (h1 : p1 < 4294967296) (h2 : p2 < 4294967296) (w : World) : (Op.equalIn 10000 51 (.agg #[.int .u32 (p1 : Int), .int .u32 (p2 : Int)]) (.agg #[.int .u32 (p1 : Int), .int .u32 (p2 : Int)])).run Try.prog w = .ok true w := by
  obtain ⟨l, hl⟩ := lits51 p1 p2 h1 h2
  have hf : (Value.agg #[.int .u32 (p1 : Int), .int .u32 (p2 : Int)]).formed Try.prog 51 = true := by simp [Value.formed, Try.underlying51, cells51]
  obtain ⟨r, hr, hi⟩ := run_equalIn_deep (P := Try.prog) 9998 2 51 (by kernel_rfl) w 2 2 _ _ l l hf hf hl hl
  rw [hr, hi.2 rfl]
end Go.Proofs.Qxb6600977a
