/-
  SEAT b6600977a: one element appended to a slice that the call itself made: where the new slice lies is told ('the same block, or a new one').
-/
import Derived.Test.Qxb6600977aW1
import Derived.ArgAppend
set_option linter.unusedVariables false
set_option linter.unusedSimpArgs false
namespace Go.Proofs.Qxb6600977a
open Go.RowKit

theorem ownsRow_form {w : World} {base : Nat} {e : TypeId} {size : Nat} {v : Value} {n : Nat} {xs : List Value} (h : w.ownsRow base e size v n xs) (hn : 0 < n) :
    ∃ g cap cur, v = .slice (some ⟨g, 0, none⟩) n cap ∧ base ≤ g ∧ w.heap[g]? = some (.cells cur e (0, 0)) ∧ n ≤ cap ∧ cap ≤ maxLen ∧ cur.size = cap * size ∧ cur.toList.take (n * size) = xs := by
  rcases h.2 with ⟨_, h0⟩ | h
  · omega
  · exact h

theorem run_append_one {P : Program} (w : World) (t ty e : TypeId) (i : TypeInfo) (z : Value) (bytes : Nat) (ht : P.underlying t = some (.slice e)) (hi : P.info? e = some i) (hz : i.zero = some z)
    (hsize : i.size = 1) (hby : i.bytes = bytes) (hzs : z.cells.size = 1) (v : Value) (n : Nat) (xs : List Value) (hown : w.ownsRow 0 e 1 v n xs)
    (a : Addr) (c : Nat) (x1 : Value) (hnew : w.cell? a = some x1) (h1 : x1.oneCell' = true) (h63 : n + 1 ≤ maxLen) (hbytes : (n + 1) * bytes ≤ 140737488355328) :
    ∃ g cap w', (Builtin.append_ #[t, t] ty #[v, .slice (some a) 1 c]).run P w = .ok (.slice (some ⟨g, 0, none⟩) (n + 1) cap) w' ∧ w'.ownsRow 0 e 1 (.slice (some ⟨g, 0, none⟩) (n + 1) cap) (n + 1) (xs ++ [x1]) ∧
      w.grownBy w' v.ownBlock ∧ (v.ownBlock = some g ∨ w.heap.size ≤ g) := by
  have hnews : ∀ j u, [x1][j]? = some u → w.cell? (a.add j) = some u := by
    intro j u hj
    match j, hj with
    | 0, hj => simp at hj; subst hj; simpa [Addr.add] using hnew
  have hone : ∀ u ∈ [x1], u.oneCell' = true := by intro u hu; simp at hu; subst hu; exact h1
  obtain ⟨v', w', hrun, own', grown, _⟩ := run_append_own (P := P) w 0 t ty e i z 1 bytes ht hi hz hsize hby hzs (by decide) v n xs hown a 1 c [x1] rfl hnews hone h63 hbytes (Nat.zero_le _)
  obtain ⟨g, cap, cur, hv, _⟩ := ownsRow_form own' (by omega)
  subst hv
  refine ⟨g, cap, w', hrun, own', grown, ?_⟩
  rcases hown.2 with ⟨hv, hn⟩ | ⟨g0, cap0, cur0, hv, _, hg0, hn0, _, hs0, _⟩
  · subst hv; subst hn
    have hx : xs = [] := List.eq_nil_of_length_eq_zero (by simpa using hown.1)
    subst hx
    obtain ⟨v2, w2, hrun2, own2, _, _⟩ := run_append_own (P := P) w w.heap.size t ty e i z 1 bytes ht hi hz hsize hby hzs (by decide) _ 0 [] (World.ownsRow_nil w _ e 1) a 1 c [x1] rfl hnews hone h63 hbytes (Nat.le_refl _)
    rw [hrun] at hrun2
    injection hrun2 with hv2 hw2
    subst hv2; subst hw2
    obtain ⟨g', cap', cur', hv', hge, _⟩ := ownsRow_form own2 (by omega)
    injection hv' with hv'
    simp at hv'
    exact Or.inr (by omega)
  · subst hv
    by_cases hroom : n + 1 ≤ cap0
    · have hr := run_append_room (P := P) w t ty e i ht hi g0 n cap0 cur0 hg0 a 1 c [x1] (by rw [hsize]; rfl) hnews hone hroom (by rw [hsize, hs0]; simp; omega)
      rw [hrun] at hr
      injection hr with hv2 hw2
      injection hv2 with hv2
      simp at hv2
      exact Or.inl (by simp [Value.ownBlock, hv2])
    · have holds : ∀ j u, xs[j]? = some u → w.cell? ((⟨g0, 0, none⟩ : Addr).add j) = some u := hown.cells (g := g0) rfl
      obtain ⟨v2, w2, hrun2, own2, _⟩ := run_append_arg_grows (P := P) w t ty e i z 1 bytes ht hi hz hsize hby hzs (by decide) ⟨g0, 0, none⟩ n cap0 xs hown.1 holds a 1 c [x1] rfl hnews (by omega) h63 hbytes
      rw [hrun] at hrun2
      injection hrun2 with hv2 hw2
      subst hv2; subst hw2
      obtain ⟨g', cap', cur', hv', hge, _⟩ := ownsRow_form own2 (by omega)
      injection hv' with hv'
      simp at hv'
      exact Or.inr (by omega)

section
variable {P : Program} {ops : Array Oper} {o : Oper} {a : Act} {w : World} {Q : Exit → Act → World → Prop}

theorem wp_append_one {K : Act → World → Prop} (s x : Operand) (t : TypeId)
    (ho : o.op = .call { callee := .builtin .append, args := #[s, x], argTypes := #[t, t] })
    (e : TypeId) (i : TypeInfo) (z : Value) (bytes : Nat) (ht : P.underlying t = some (.slice e)) (hi : P.info? e = some i) (hz : i.zero = some z)
    (hsize : i.size = 1) (hby : i.bytes = bytes) (hzs : z.cells.size = 1)
    (v : Value) (n : Nat) (xs : List Value) (hs : a.eval s = v) (hown : w.ownsRow 0 e 1 v n xs)
    (ad : Addr) (c : Nat) (x1 : Value) (hx : a.eval x = .slice (some ad) 1 c) (hnew : w.cell? ad = some x1) (h1 : x1.oneCell' = true)
    (h63 : n + 1 ≤ maxLen) (hbytes : (n + 1) * bytes ≤ 140737488355328)
    (h : ∀ g cap w', w'.ownsRow 0 e 1 (.slice (some ⟨g, 0, none⟩) (n + 1) cap) (n + 1) (xs ++ [x1]) → w.grownBy w' v.ownBlock → (v.ownBlock = some g ∨ w.heap.size ≤ g) → K (a.put o.dst (.slice (some ⟨g, 0, none⟩) (n + 1) cap)) w') : o.wp P a w K Q := by
  obtain ⟨g, cap, w', hr, h2, h3, h4⟩ := run_append_one (P := P) w t o.type e i z bytes ht hi hz hsize hby hzs v n xs hown ad c x1 hnew h1 h63 hbytes
  unfold Oper.wp execOp
  simp only [ho, resolve, invoke, builtin, Sem.run_bind, Sem.run_pure, Result.andThen_ok, List.map_toArray, List.map_cons, List.map_nil, hs, hx, hr]
  exact h g cap w' h2 h3 h4

theorem wpList_append_one {rest : List Oper} (hgd : o.guard = none) (s x : Operand) (t : TypeId)
    (ho : o.op = .call { callee := .builtin .append, args := #[s, x], argTypes := #[t, t] })
    (e : TypeId) (i : TypeInfo) (z : Value) (bytes : Nat) (ht : P.underlying t = some (.slice e)) (hi : P.info? e = some i) (hz : i.zero = some z)
    (hsize : i.size = 1) (hby : i.bytes = bytes) (hzs : z.cells.size = 1)
    (v : Value) (n : Nat) (xs : List Value) (hs : a.eval s = v) (hown : w.ownsRow 0 e 1 v n xs)
    (ad : Addr) (c : Nat) (x1 : Value) (hx : a.eval x = .slice (some ad) 1 c) (hnew : w.cell? ad = some x1) (h1 : x1.oneCell' = true)
    (h63 : n + 1 ≤ maxLen) (hbytes : (n + 1) * bytes ≤ 140737488355328)
    (h : ∀ g cap w', w'.ownsRow 0 e 1 (.slice (some ⟨g, 0, none⟩) (n + 1) cap) (n + 1) (xs ++ [x1]) → w.grownBy w' v.ownBlock → (v.ownBlock = some g ∨ w.heap.size ≤ g) → wpList P ops Q rest (a.put o.dst (.slice (some ⟨g, 0, none⟩) (n + 1) cap)) w') :
    wpList P ops Q (o :: rest) a w :=
  wpList_plain hgd fun _ hK => wp_append_one s x t ho e i z bytes ht hi hz hsize hby hzs v n xs hs hown ad c x1 hx hnew h1 h63 hbytes fun g cap w' h2 h3 h4 => hK _ _ (h g cap w' h2 h3 h4)

theorem step_append_one {K : Act → World → Prop} {E : Prop} (hgd : o.guard = none) (s x : Operand) (t : TypeId)
    (ho : o.op = .call { callee := .builtin .append, args := #[s, x], argTypes := #[t, t] })
    (e : TypeId) (i : TypeInfo) (z : Value) (bytes : Nat) (ht : P.underlying t = some (.slice e)) (hi : P.info? e = some i) (hz : i.zero = some z)
    (hsize : i.size = 1) (hby : i.bytes = bytes) (hzs : z.cells.size = 1)
    (v : Value) (n : Nat) (xs : List Value) (hs : a.eval s = v) (hown : w.ownsRow 0 e 1 v n xs)
    (ad : Addr) (c : Nat) (x1 : Value) (hx : a.eval x = .slice (some ad) 1 c) (hnew : w.cell? ad = some x1) (h1 : x1.oneCell' = true)
    (h63 : n + 1 ≤ maxLen) (hbytes : (n + 1) * bytes ≤ 140737488355328)
    (h : ∀ g cap w', w'.ownsRow 0 e 1 (.slice (some ⟨g, 0, none⟩) (n + 1) cap) (n + 1) (xs ++ [x1]) → w.grownBy w' v.ownBlock → (v.ownBlock = some g ∨ w.heap.size ≤ g) → K (a.put o.dst (.slice (some ⟨g, 0, none⟩) (n + 1) cap)) w') :
    if Region.wanted o (yielded ops a.tmps) = true then Oper.wp P o a w K Q else E := by
  rw [if_pos (by simp [Region.wanted, hgd])]
  exact wp_append_one s x t ho e i z bytes ht hi hz hsize hby hzs v n xs hs hown ad c x1 hx hnew h1 h63 hbytes h
end
end Go.Proofs.Qxb6600977a
