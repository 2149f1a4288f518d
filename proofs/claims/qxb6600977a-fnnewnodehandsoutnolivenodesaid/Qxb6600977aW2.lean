import Derived.Test.Qxb6600977aW1
import Derived.Deep.RegionHeld3
import Derived.Deep.QuietTactic
import Derived.BigQuiet
set_option linter.unusedVariables false
set_option linter.unusedSimpArgs false
namespace Go.Proofs.Qxb6600977a
open Go.RowKit

set_option maxHeartbeats 400000 in
theorem node_cells (t r pg np pc pb : Nat) (w : World) (hr : r < 2147483648) (hp : r / 4096 < np) 
    (c1 : w.cell? ⟨t, 1, none⟩ = some (.slice (some ⟨pg, 0, none⟩) np pc)) (c2 : w.cell? ⟨pg, r / 4096, none⟩ = some (.slice (some ⟨pb, 0, none⟩) 4096 4096)) :
    Calls Try.prog 34 #[.pointer (some ⟨t, 0, none⟩), .int .u32 (r : Int)] w fun e w' => e = .returned (.pointer (some ⟨pb, r % 4096 * 2, none⟩)) ∧ w = w' := by
  have hlt : (r : Int) / 4096 < (np : Int) := by omega
  have hm : (r : Int) % 4096 < 4096 := by omega
  go_enter Try.func34, Try.ntmps34
  go_wp2_with (go_at_call 38; refine (nodeIdx_any r (by omega) _).mono ?_; rintro e w' ⟨rfl, rfl⟩)
  go_ret
  exact ⟨rfl, rfl⟩

set_option maxHeartbeats 1000000 in
theorem newNode_pop (t a b r k fb fc pg np pc pb : Nat) (v0 v1 : Value) (w : World) (hr : r < 2147483648) (hp : r / 4096 < np) (hk : k < 2147483648) (hkc : k + 1 ≤ fc)
    (c1 : w.cell? ⟨t, 1, none⟩ = some (.slice (some ⟨pg, 0, none⟩) np pc)) (c2 : w.cell? ⟨pg, r / 4096, none⟩ = some (.slice (some ⟨pb, 0, none⟩) 4096 4096))
    (c3 : w.cell? ⟨t, 3, none⟩ = some (.slice (some ⟨fb, 0, none⟩) (k + 1) fc)) (z3 : w.frozen? ⟨t, 3, none⟩ = false) (cf : w.cell? ⟨fb, k, none⟩ = some (.int .u32 (r : Int)))
    (d0 : w.cell? ⟨pb, r % 4096 * 2, none⟩ = some v0) (d1 : w.cell? ⟨pb, r % 4096 * 2 + 1, none⟩ = some v1)
    (z0 : w.frozen? ⟨pb, r % 4096 * 2, none⟩ = false) (z1 : w.frozen? ⟨pb, r % 4096 * 2 + 1, none⟩ = false) (n1 : t ≠ pg) (n2 : t ≠ pb) (n3 : pg ≠ pb) :
    Calls Try.prog 33 #[.pointer (some ⟨t, 0, none⟩), .agg #[.int .u32 (a : Int), .int .u32 (b : Int)]] w fun e w' => e = .returned (.int .u32 (r : Int)) ∧ 
      w' = ((((w.setCell ⟨t, 3, none⟩ (.slice (some ⟨fb, 0, none⟩) k fc)).alloc (.cells #[.int .u32 (a : Int), .int .u32 (b : Int)] 51)).setCell ⟨pb, r % 4096 * 2, none⟩ (.int .u32 (a : Int))).setCell ⟨pb, r % 4096 * 2 + 1, none⟩ (.int .u32 (b : Int))).drew := by
  have l1 := World.block_lt_of_cell? w _ c1
  have l2 := World.block_lt_of_cell? w _ c2
  have l3 := World.block_lt_of_cell? w _ cf
  have l4 := World.block_lt_of_cell? w _ d0
  simp only at l1 l2 l3 l4
  go_enter Try.func33, Try.ntmps33
  go_wp2
  obtain ⟨W, hW⟩ : ∃ W, W = (w.setCell ⟨t, 3, none⟩ (.slice (some ⟨fb, 0, none⟩) k fc)).alloc (.cells #[.int .u32 (a : Int), .int .u32 (b : Int)] 51) := ⟨_, rfl⟩
  have f0 : W.cell? ⟨w.heap.size, 0, none⟩ = some (.int .u32 (a : Int)) := by
    rw [hW, ← World.size_setCell w ⟨t, 3, none⟩ (.slice (some ⟨fb, 0, none⟩) k fc), World.cell?_alloc_new]; rfl
  have f1 : W.cell? ⟨w.heap.size, 1, none⟩ = some (.int .u32 (b : Int)) := by
    rw [hW, ← World.size_setCell w ⟨t, 3, none⟩ (.slice (some ⟨fb, 0, none⟩) k fc), World.cell?_alloc_new]; rfl
  have f2 : W.cell? ⟨t, 1, none⟩ = some (.slice (some ⟨pg, 0, none⟩) np pc) := by
    rw [hW, World.cell?_alloc_lt _ _ _ (by simpa using l1), World.cell?_setCell_other _ _ _ _ (by simp)]; exact c1
  have f3 : W.cell? ⟨pg, r / 4096, none⟩ = some (.slice (some ⟨pb, 0, none⟩) 4096 4096) := by
    rw [hW, World.cell?_alloc_lt _ _ _ (by simpa using l2), World.cell?_setCell_other _ _ _ _ (by simp [n1])]; exact c2
  have f4 : W.cell? ⟨pb, r % 4096 * 2, none⟩ = some v0 := by
    rw [hW, World.cell?_alloc_lt _ _ _ (by simpa using l4), World.cell?_setCell_other _ _ _ _ (by simp [n2])]; exact d0
  have f5 : W.cell? ⟨pb, r % 4096 * 2 + 1, none⟩ = some v1 := by
    rw [hW, World.cell?_alloc_lt _ _ _ (by simpa using l4), World.cell?_setCell_other _ _ _ _ (by simp [n2])]; exact d1
  have g4 : W.frozen? ⟨pb, r % 4096 * 2, none⟩ = false := by
    rw [hW, World.frozen?_alloc_old _ _ _ (by simp; omega), World.frozen?_setCell]; exact z0
  have g5 : W.frozen? ⟨pb, r % 4096 * 2 + 1, none⟩ = false := by
    rw [hW, World.frozen?_alloc_old _ _ _ (by simp; omega), World.frozen?_setCell]; exact z1
  have m1 : pb ≠ w.heap.size := by omega
  have m2 : pb ≠ t := fun e => n2 e.symm
  have m3 : pb ≠ pg := fun e => n3 e.symm
  rw [← hW]
  have HW : Hid (W = (w.setCell ⟨t, 3, none⟩ (.slice (some ⟨fb, 0, none⟩) k fc)).alloc (.cells #[.int .u32 (a : Int), .int .u32 (b : Int)] 51)) := hW
  clear hW c1 c2 c3 z3 cf d0 d1 z0 z1
  go_region_held3 (fun w' => w'.cell? ⟨w.heap.size, 0, none⟩ = some (.int .u32 (a : Int)) ∧ w'.cell? ⟨w.heap.size, 1, none⟩ = some (.int .u32 (b : Int))) (go_keep)
    (first | (go_at_call 34; refine (node_cells t r pg np pc pb _ hr hp ?_ ?_).mono ?_; exact f2; exact f3; rintro e w' ⟨rfl, rfl⟩))
  go_wp2
  go_ret
  exact ⟨rfl, by rw [← HW.out]⟩
end Go.Proofs.Qxb6600977a
