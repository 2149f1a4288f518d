/-
  SEAT b6602785a: the named ids: the plain function, and what a round of namedIDs' loop does.
-/
import Derived.Test.Qxb6602785aB7
import Derived.Maps.AppendAt
set_option linter.unusedVariables false
set_option linter.unusedSimpArgs false
namespace Go.Proofs.Qxb6602785a
open Go.RowKit Go.Maps

/-- The ids that the first k permissions name, each at its first occurrence. -/
def named (ps : Nat → Pm) : Nat → List (List Nat)
  | 0 => []
  | k + 1 => if (ps k).any = false ∧ (ps k).id ∉ named ps k then named ps k ++ [(ps k).id] else named ps k

theorem named_len (ps : Nat → Pm) : ∀ k, (named ps k).length ≤ k
  | 0 => Nat.le_refl _
  | k + 1 => by
    have := named_len ps k
    unfold named
    split
    · simp; omega
    · omega

theorem named_mem (ps : Nat → Pm) (id : List Nat) : ∀ k, id ∈ named ps k ↔ ∃ j, j < k ∧ (ps j).any = false ∧ (ps j).id = id
  | 0 => by simp [named]
  | k + 1 => by
    have ih := named_mem ps id k
    unfold named
    split
    · rename_i h
      simp only [List.mem_append, List.mem_singleton, ih]
      constructor
      · rintro (⟨j, h1, h2, h3⟩ | rfl)
        · exact ⟨j, by omega, h2, h3⟩
        · exact ⟨k, by omega, h.1, rfl⟩
      · rintro ⟨j, h1, h2, h3⟩
        by_cases e : j = k
        · subst e; exact Or.inr h3.symm
        · exact Or.inl ⟨j, by omega, h2, h3⟩
    · rename_i h
      rw [ih]
      constructor
      · rintro ⟨j, h1, h2, h3⟩; exact ⟨j, by omega, h2, h3⟩
      · rintro ⟨j, h1, h2, h3⟩
        by_cases e : j = k
        · subst e
          have h4 : (ps j).id ∈ named ps j := Classical.byContradiction fun h5 => h ⟨h2, h5⟩
          rw [h3, ih] at h4
          exact h4
        · exact ⟨j, by omega, h2, h3⟩

def flat (l : List (List Nat)) : List Value := l.flatMap fun id => (uc id).toList
theorem flat_snoc (l : List (List Nat)) (id : List Nat) : flat (l ++ [id]) = flat l ++ (uc id).toList := by simp [flat]

/-- A slice of ids that the call made. -/
def Ids (w : World) (base : Nat) (e : TypeId) (v : Value) (l : List (List Nat)) : Prop := w.ownsRow base e 16 v l.length (flat l)

theorem range_of_pm {w : World} {b o : Nat} {p : Pm} (hp : IsId p.id) (h : PmCells w b o p) : w.rangeAt b o (pc p).toList := by
  obtain ⟨c0, c1, c2, c3, c4, c5⟩ := h
  intro j v hv
  have hv' : (pc p)[j]? = some v := by simpa using hv
  by_cases hj : j < 4
  · rw [pc_head p j hj] at hv'
    match j, hj with
    | 0, _ => simp at hv'; subst hv'; exact c0
    | 1, _ => simp at hv'; subst hv'; exact c1
    | 2, _ => simp at hv'; subst hv'; exact c2
    | 3, _ => simp at hv'; subst hv'; exact c3
  · by_cases hj2 : j < 20
    · have e : (pc p)[j]? = (uc p.id)[j - 4]? := by
        unfold pc
        rw [Array.getElem?_append_left (by simp [uc_size, hp.len]; omega), Array.getElem?_append_right (by simp; omega)]
        simp
      rw [e] at hv'
      have := c4 (j - 4) v (by simpa using hv')
      rw [show o + 4 + (j - 4) = o + j by omega] at this
      exact this
    · have hlt : j < (pc p).size := (Array.getElem?_eq_some_iff.1 hv').1
      rw [pc_size hp] at hlt
      obtain rfl : j = 20 := by omega
      have e : (pc p)[20]? = some (.string p.act) := by
        unfold pc
        rw [Array.getElem?_append_right (by simp [uc_size, hp.len])]
        simp [uc_size, hp.len]
      rw [e] at hv'
      simp at hv'
      subst hv'
      exact c5

theorem info92s {p : Pm} (h : IsId p.id) : (Try.prog.info? 92).map (·.size) = some (pc p).toList.length := by rw [show (pc p).toList.length = 21 by simp [pc_size h]]; kernel_rfl
theorem fill92 {p : Pm} (h : IsId p.id) (w : World) (z : Array Value) (hz : z.size = 21) : (storeCells ⟨w.heap.size, 0, none⟩ (pc p).toList).run Try.prog (w.alloc (.cells z 92)) = .ok () (w.alloc (.cells (pc p) 92)) :=
  run_storeCells_new w 92 z (pc p) (by rw [pc_size h]; kernel_rfl) (by rw [pc_size h, hz]) (pc_one h)

/-- 'm[id] = v' at the operation. -/
theorem wpList_mapUpdate_is {w : World} {ops : Array Oper} {rest : List Oper} {o : Oper} {a : Act} {Q : Exit → Act → World → Prop} (hgd : o.guard = none) (m x v : Operand) (t : TypeId) (hop : o.op = Op.mapUpdate t m x v)
    (e : TypeId) (ht : Try.prog.underlying t = some (.map 44 e)) (b n : Nat) (f : List Nat → Option Value) (hm : a.eval m = .map (some b)) (h : MapIs w b n f) (hn : n < maxLen) (l : List Nat) (hl : IsId l) (hx : a.eval x = .agg (uc l)) (val : Value) (hv : a.eval v = val)
    (hK : ∀ w', MapIs w' b (n + 1) (fun x => if x = l then some val else f x) → w.grownBy w' (some b) → wpList Try.prog ops Q rest (a.put o.dst undef) w') : wpList Try.prog ops Q (o :: rest) a w := by
  refine wpList_plain hgd fun K' hK' => ?_
  obtain ⟨w', hrun, r1, r2⟩ := h.update ht hn hl val
  unfold Oper.wp
  simp [execOp, hop, hm, hx, hv, hrun, Result.andThen]
  exact hK' _ _ (hK w' r1 r2)

theorem buildSlice_run {t e : TypeId} (ht : (t = 42 ∧ e = 44) ∨ (t = 55 ∧ e = 39)) {l : List Nat} (h : IsId l) (w : World) : (Instr.buildSlice t 1 #[(0, .agg (uc l))]).run Try.prog w = .ok (.slice (some ⟨w.heap.size, 0, none⟩) 1 1) (w.alloc (.cells (uc l) e)) := by
  obtain ⟨n0, n1, n2, n3, n4, n5, n6, n7, n8, n9, n10, n11, n12, n13, n14, n15, rfl⟩ := id16 h
  rcases ht with ⟨rfl, rfl⟩ | ⟨rfl, rfl⟩
  · kernel_rfl
  · kernel_rfl

theorem wpList_buildSlice_is {w : World} {ops : Array Oper} {rest : List Oper} {o : Oper} {a : Act} {Q : Exit → Act → World → Prop} (hgd : o.guard = none) (x : Operand) (t e : TypeId) (ht : (t = 42 ∧ e = 44) ∨ (t = 55 ∧ e = 39)) (hop : o.op = Op.buildSlice t 1 #[(0, x)])
    (l : List Nat) (hl : IsId l) (hx : a.eval x = .agg (uc l)) (hK : wpList Try.prog ops Q rest (a.put o.dst (.slice (some ⟨w.heap.size, 0, none⟩) 1 1)) (w.alloc (.cells (uc l) e))) : wpList Try.prog ops Q (o :: rest) a w := by
  refine wpList_plain hgd fun K' hK' => ?_
  unfold Oper.wp
  simp only [execOp, hop, List.map_toArray, List.map_cons, List.map_nil, hx, Sem.run_bind, buildSlice_run ht hl w, Result.andThen_ok, Sem.run_pure]
  exact hK' _ _ hK
end Go.Proofs.Qxb6602785a
