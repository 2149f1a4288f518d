/-
  SEAT b6600977a: THE PLAIN LAW, MORE: a run of newNode.
-/
import Derived.Test.Qxb6600977aPlain
set_option linter.unusedVariables false
set_option linter.unusedSimpArgs false
namespace Go.Proofs.Qxb6600977a.Pl

def nnTo (S : St) (pr : Nat → Nat × Nat) : Nat → St
  | 0 => S
  | k + 1 => (newNode (nnTo S pr k) (pr k)).2
def gotAt (S : St) (pr : Nat → Nat × Nat) (k : Nat) : Nat := (newNode (nnTo S pr k) (pr k)).1
def gots (S : St) (pr : Nat → Nat × Nat) (k : Nat) : List Nat := (List.range k).map (gotAt S pr)

theorem gots_succ (S : St) (pr : Nat → Nat × Nat) (k : Nat) : gots S pr (k + 1) = gots S pr k ++ [gotAt S pr k] := by
  simp [gots, List.range_succ]
theorem gots_mem {S : St} {pr : Nat → Nat × Nat} {k i : Nat} (h : i < k) : gotAt S pr i ∈ gots S pr k :=
  List.mem_map.2 ⟨i, List.mem_range.2 h, rfl⟩

theorem nn_shape (S : St) (pr : Nat → Nat × Nat) : ∀ k, (nnTo S pr k).free = S.free.take (S.free.length - k) ∧ (nnTo S pr k).cnt = S.cnt + (k - S.free.length)
  | 0 => ⟨by simp [nnTo], by simp [nnTo]⟩
  | k + 1 => by
    obtain ⟨h1, h2⟩ := nn_shape S pr k
    by_cases hk : k < S.free.length
    · have e : S.free.length - k = (S.free.length - (k + 1)) + 1 := by omega
      have hf : (nnTo S pr k).free = S.free.take (S.free.length - (k + 1)) ++ [S.free[S.free.length - (k + 1)]'(by omega)] := by
        rw [h1, e, List.take_succ_eq_append_getElem (by omega)]
      simp only [nnTo]
      rw [newNode_some _ hf]
      exact ⟨rfl, by dsimp only; omega⟩
    · have hf : (nnTo S pr k).free = [] := by rw [h1, show S.free.length - k = 0 from by omega]; rfl
      simp only [nnTo]
      rw [newNode_none _ hf]
      exact ⟨by rw [show S.free.length - (k + 1) = 0 from by omega]; rfl, by dsimp only; omega⟩

theorem got_shape (S : St) (pr : Nat → Nat × Nat) (k : Nat) : gotAt S pr k = if k < S.free.length then S.free.getD (S.free.length - 1 - k) 0 else S.cnt + (k - S.free.length) := by
  obtain ⟨h1, h2⟩ := nn_shape S pr k
  unfold gotAt
  by_cases hk : k < S.free.length
  · have e : S.free.length - k = (S.free.length - 1 - k) + 1 := by omega
    have hf : (nnTo S pr k).free = S.free.take (S.free.length - 1 - k) ++ [S.free[S.free.length - 1 - k]'(by omega)] := by
      rw [h1, e, List.take_succ_eq_append_getElem (by omega)]
    rw [newNode_some _ hf, if_pos hk]
    simp [List.getD, List.getElem?_eq_getElem (show S.free.length - 1 - k < S.free.length by omega)]
  · have hf : (nnTo S pr k).free = [] := by rw [h1, show S.free.length - k = 0 from by omega]; rfl
    rw [newNode_none _ hf, if_neg hk]
    exact h2

theorem nn_once (S : St) (pr : Nat → Nat × Nat) (y : Nat → Nat) (h : ∀ a, y a + S.free.count a = if a < S.cnt then 1 else 0) (k : Nat) : ∀ a, y a + (gots S pr k).count a + (nnTo S pr k).free.count a = if a < (nnTo S pr k).cnt then 1 else 0 := by
  induction k with
  | zero =>
    intro a
    show y a + 0 + S.free.count a = if a < S.cnt then 1 else 0
    rw [← h a]; omega
  | succ k ih =>
    intro a
    obtain ⟨s1, _⟩ := newNode_spec (nnTo S pr k) (pr k) (fun a => y a + (gots S pr k).count a) ih
    have h1 : y a + (gots S pr k).count a + (if a = gotAt S pr k then 1 else 0) + (nnTo S pr (k + 1)).free.count a = if a < (nnTo S pr (k + 1)).cnt then 1 else 0 := s1 a
    rw [← h1, gots_succ, List.count_append, List.count_singleton]
    by_cases e : a = gotAt S pr k
    · subst e; simp; omega
    · have e' : (gotAt S pr k == a) = false := by simpa using fun h => e h.symm
      simp [e, e']

theorem nn_mem (S : St) (pr : Nat → Nat × Nat) (y : Nat → Nat) (h : ∀ a, y a + S.free.count a = if a < S.cnt then 1 else 0) : ∀ k, (∀ j, j ∉ gots S pr k → (nnTo S pr k).mem j = S.mem j) ∧ (∀ i, i < k → (nnTo S pr k).mem (gotAt S pr i) = pr i)
  | 0 => ⟨fun j _ => rfl, fun i hi => by omega⟩
  | k + 1 => by
    obtain ⟨h1, h2⟩ := nn_mem S pr y h k
    have ih := nn_once S pr y h k
    obtain ⟨_, s2, _, _, _, s6⟩ := newNode_spec (nnTo S pr k) (pr k) (fun a => y a + (gots S pr k).count a) ih
    have hm : (nnTo S pr (k + 1)).mem = upd (nnTo S pr k).mem (gotAt S pr k) (pr k) := s2
    have hn : gotAt S pr k ∉ gots S pr k := fun h' => by
      have := count_pos_of_mem h'
      have h6 : y (gotAt S pr k) + (gots S pr k).count (gotAt S pr k) = 0 := s6
      omega
    refine ⟨fun j hj => ?_, fun i hi => ?_⟩
    · rw [gots_succ] at hj
      simp only [List.mem_append, List.mem_singleton, not_or] at hj
      rw [hm, upd_other _ _ _ hj.2]
      exact h1 j hj.1
    · by_cases e : i = k
      · subst e; rw [hm, upd_same]
      · have hik : i < k := by omega
        rw [hm, upd_other _ _ _ (fun e' => hn (by rw [← e']; exact gots_mem hik))]
        exact h2 i hik

/-- What was in use before stays as it was. -/
theorem nn_live (S : St) (pr : Nat → Nat × Nat) (y : Nat → Nat) (h : ∀ a, y a + S.free.count a = if a < S.cnt then 1 else 0) (k : Nat) {j : Nat} (hj : 0 < y j) : j ∉ gots S pr k ∧ (nnTo S pr k).mem j = S.mem j := by
  have hn : j ∉ gots S pr k := fun h' => by
    have h1 := count_pos_of_mem h'
    have h2 := nn_once S pr y h k j
    split at h2 <;> omega
  exact ⟨hn, (nn_mem S pr y h k).1 j hn⟩

end Go.Proofs.Qxb6600977a.Pl
