/-
  SEAT b6602785a: zzNamedModel.
-/
import Derived.Test.Qxb6602785aB12
set_option linter.unusedVariables false
set_option linter.unusedSimpArgs false
namespace Go.Proofs.Qxb6602785a
open Go.RowKit Go.Maps

/-- While zzNamedModel's loop runs. -/
structure MRel (w wr : World) (ps : Nat → Pm) (k : Nat) (v : Value) : Prop where
  low : Below w.heap.size w wr
  ids : Ids wr w.heap.size 39 v (named ps k)
  nilq : named ps k = [] → v = .slice none 0 0

theorem MRel.start {w : World} (W : World) (ps : Nat → Pm) (h : Below w.heap.size w W) : MRel w W ps 0 (.slice none 0 0) := ⟨h, World.ownsRow_nil _ _ _ _, fun _ => rfl⟩

theorem MRel.skip {w wr : World} {ps : Nat → Pm} {k : Nat} {v : Value} (h : MRel w wr ps k v) (hs : ¬ ((ps k).any = false ∧ (ps k).id ∉ named ps k)) : MRel w wr ps (k + 1) v := by
  have e : named ps (k + 1) = named ps k := by
    show (if (ps k).any = false ∧ (ps k).id ∉ named ps k then named ps k ++ [(ps k).id] else named ps k) = _
    rw [if_neg hs]
  exact ⟨h.low, by rw [e]; exact h.ids, by rw [e]; exact h.nilq⟩

theorem MRel.alloc {w wr : World} {ps : Nat → Pm} {k : Nat} {v : Value} (h : MRel w wr ps k v) (o : Obj) : MRel w (wr.alloc o) ps k v :=
  ⟨h.low.alloc h.low.size _, World.ownsRow.alloc h.ids o, h.nilq⟩
theorem MRel.drewN {w wr : World} {ps : Nat → Pm} {k : Nat} {v : Value} (h : MRel w wr ps k v) (n : Nat) : MRel w (wr.drewN n) ps k v := ⟨below_drewN h.low n, h.ids, h.nilq⟩

theorem MRel.done {w W W' : World} {ps : Nat → Pm} {k : Nat} {v v' : Value} (h : MRel w W ps k v) (hs : (ps k).any = false ∧ (ps k).id ∉ named ps k) (ho : W'.ownsRow w.heap.size 39 16 v' ((named ps k).length + 1) (flat (named ps k) ++ (uc (ps k).id).toList)) (hg : W.grownBy W' v.ownBlock) : MRel w W' ps (k + 1) v' := by
  have e : named ps (k + 1) = named ps k ++ [(ps k).id] := by
    show (if (ps k).any = false ∧ (ps k).id ∉ named ps k then named ps k ++ [(ps k).id] else named ps k) = _
    rw [if_pos hs]
  refine ⟨h.low.grown hg h.low.size (fun j hj => (World.ownsRow.lt h.ids j hj).1), ?_, fun h' => ?_⟩
  · rw [e]
    unfold Ids
    rw [flat_snoc, List.length_append]
    exact ho
  · rw [e] at h'
    simp at h'
end Go.Proofs.Qxb6602785a
