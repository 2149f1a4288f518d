import Derived.Test.Qxb6600977aW3
set_option linter.unusedVariables false
set_option linter.unusedSimpArgs false
namespace Go.Proofs.Qxb6600977a
open Go.RowKit

theorem release_len : ∀ (n : Nat) (S : Pl.St) (r : Nat), S.free.length ≤ (Pl.release n S r).free.length
  | 0, S, r => Nat.le_refl _
  | n + 1, S, r => by
    unfold Pl.release
    split
    · exact Nat.le_refl _
    · have h1 := release_len n S (S.mem r).1
      have h2 := release_len n (Pl.release n S (S.mem r).1) (S.mem r).2
      simp
      omega

theorem one_new (w : World) (x : Value) (e : TypeId) : (w.alloc (.cells #[x] e)).cell? ⟨w.heap.size, 0, none⟩ = some x := by rw [World.cell?_alloc_new]; rfl

theorem hide {p : Prop} (h : p) : Hid p := h

theorem Leaves.step {own : Nat → Prop} {t : Nat} {S : Pl.St} {w w1 w' : World} (h : Leaves own t S w1 w') (hs : Step own own w w1) : Leaves own t S w w' := by
  obtain ⟨o, h1, h2⟩ := h
  exact ⟨o, h1, hs.trans h2⟩

set_option maxHeartbeats 1000000 in
theorem release_leaf_walk (t r : Nat) (hr : r < 4294967296) (hl : Pl.leaf r = true) (w : World) :
    Calls Try.prog 40 #[.pointer (some ⟨t, 0, none⟩), .int .u32 (r : Int)] w fun e w' => e = .returned (.tuple #[]) ∧ w = w' := by
  go_enter Try.func40, Try.ntmps40
  go_wp2_with (go_at_call 20; refine (isLeaf_any r hr _).mono ?_; rintro e w' ⟨rfl, rfl⟩)
  exact bodyPost_ret (results_none rfl _ _ _) rfl ⟨rfl, rfl⟩

set_option maxHeartbeats 1000000 in
theorem release_any (t : Nat) : ∀ (n : Nat) (S : Pl.St) (r : Nat) (own : Nat → Prop) (w : World), Rep w t S own → Pl.deep S.mem n r → (∀ i, i ∈ Pl.nodes S.mem n r → i < S.cnt) → S.cnt < 2147483648 → (Pl.release n S r).free.length < 2147483648 →
    Calls Try.prog 40 #[.pointer (some ⟨t, 0, none⟩), .int .u32 (r : Int)] w fun e w' => e = .returned (.tuple #[]) ∧ Leaves own t (Pl.release n S r) w w' := by
  intro n
  induction n with
  | zero =>
    intro S r own w h hd _ _ _
    refine (release_leaf_walk t r (Pl.deep_lt hd) hd.1 w).mono ?_
    rintro e w' ⟨rfl, rfl⟩
    exact ⟨rfl, own, h, Step.refl _ _⟩
  | succ n ih =>
    intro S r own w h hd hlt hc hfl
    have hr := Pl.deep_lt hd
    cases hl : Pl.leaf r with
    | true =>
      rw [Pl.release_leaf hl]
      refine (release_leaf_walk t r hr hl w).mono ?_
      rintro e w' ⟨rfl, rfl⟩
      exact ⟨rfl, own, h, Step.refl _ _⟩
    | false =>
      rw [Pl.nodes_node hl] at hlt
      have hrc : r < S.cnt := hlt r (by simp)
      obtain ⟨pa, np, pc, fa, fc, pb, h0⟩ := h
      obtain ⟨pg, v0, v1, rfl, A, hv⟩ := h0.at' hrc
      obtain ⟨rfl, rfl⟩ := hv hrc
      obtain ⟨hp, f2, f3, f4, f5, g4, g5, n1, n2, n3, op, _⟩ := A
      generalize pb (r / 4096) = p at *
      have hr31 : r < 2147483648 := by omega
      have IH := hide ih
      clear ih
      go_enter Try.func40, Try.ntmps40
      go_wp2_with (first | (go_at_call 20; refine (isLeaf_any r hr _).mono ?_; rintro e w' ⟨rfl, rfl⟩) | (go_at_call 34; refine (node_cells t r pg np pc p _ hr31 hp ?_ ?_).mono ?_; exact f2; exact f3; rintro e w' ⟨rfl, rfl⟩))
      obtain ⟨d1, d2⟩ := Pl.deep_node hl hd
      obtain ⟨a1, a2, a3⟩ := Pl.release_mem n S (S.mem r).1
      have hfl2 : (Pl.release n (Pl.release n S (S.mem r).1) (S.mem r).2).free.length + 1 < 2147483648 := by
        have := hfl; simp only [Pl.release, hl, Bool.false_eq_true, if_false, List.length_append, List.length_singleton] at this; exact this
      have hfl1 := release_len n (Pl.release n S (S.mem r).1) (S.mem r).2
      refine (IH.out S (S.mem r).1 own _ ⟨_, np, pc, fa, fc, pb, h0.alloc _⟩ d1 (fun i hi => hlt i (by simp [hi])) hc (by omega)).mono ?_
      rintro e w1 ⟨rfl, own1, h1, s1⟩
      have hno : ¬ own w.heap.size := fun h' => by have := h0.size _ h'; omega
      have q1 : w1.cell? ⟨w.heap.size, 1, none⟩ = some (.int .u32 ((S.mem r).2 : Int)) := by
        rw [s1.cell (by simp) hno, World.cell?_alloc_new]; rfl
      have HS1 := hide s1
      have Hh0 := hide h0
      have Hh1 := hide h1
      have Ha := hide (And.intro a1 (And.intro a2 a3))
      have Hl := hide hl
      clear s1 h0 h1 a1 a2 a3 f2 f3 f4 f5 g4 g5 hl
      go_wp2_with fail
      have a1 := Ha.out.1
      refine (IH.out (Pl.release n S (S.mem r).1) (S.mem r).2 own1 _ Hh1.out (by rw [a1]; exact d2) (fun i hi => by rw [Ha.out.2.1]; rw [a1] at hi; exact hlt i (by simp [hi])) (by rw [Ha.out.2.1]; exact hc) (by omega)).mono ?_
      rintro e w2 ⟨rfl, own2, h2, s2⟩
      clear IH q1 a1
      obtain ⟨pa2, np2, pc2, fa2, fc2, pb2, h3⟩ := h2
      have q3 : w2.cell? ⟨t, 3, none⟩ = some (.slice fa2 (Pl.release n (Pl.release n S (S.mem r).1) (S.mem r).2).free.length fc2) := by rw [cell_of_heap h3.tree]; rfl
      generalize hS2 : Pl.release n (Pl.release n S (S.mem r).1) (S.mem r).2 = S2 at *
      have Hst := hide (HS1.out.trans s2)
      have H3 := hide h3
      have hl3 : t < w2.heap.size := h3.size t h3.ownT
      have b1 : S2.free.length + 1 ≤ maxLen := by unfold maxLen; omega
      have b2 : (S2.free.length + 1) * 4 ≤ 140737488355328 := by omega
      have HS2 := hide hS2
      clear h3 s2 hS2 hfl1 hfl2 hfl
      obtain ⟨i0, hi, hz0, hz1, hz2⟩ := info_parts info29
      go_wp2_with (at_builtin; go_must (refine wpList_append_one rfl (.tmp 24) (.tmp 26) 43 rfl 29 i0 (.int .u32 0) 4 Try.underlying43 hi hz0 hz1 hz2 rfl (.slice fa2 S2.free.length fc2) S2.free.length _ rfl (H3.out.alloc _).free ⟨w2.heap.size, 0, none⟩ 1 (.int .u32 (r : Int)) rfl (one_new _ _ _) rfl b1 b2 ?_); intro g cap w3 how hgr hat; go_must (have PF := (H3.out.alloc _).pushFree (r := r) how hgr hat; have q5 := PF.2.2.1; have q6 := PF.2.2.2; have HPF := hide PF; clear PF how hgr hat))
      go_end0
      refine ⟨rfl, ?_⟩
      obtain ⟨r1, r2, _, _⟩ := HPF.out
      have e : Pl.release (n + 1) S r = { cnt := S2.cnt, mem := S2.mem, free := S2.free ++ [r] } := by
        simp only [Pl.release, Hl.out, Bool.false_eq_true, if_false, HS2.out]
      rw [e]
      exact ⟨_, ⟨pa2, np2, pc2, _, cap, pb2, r1⟩, ((Step.alloc _ _ _).trans Hst.out).trans ((Step.alloc _ _ _).trans r2)⟩
end Go.Proofs.Qxb6600977a
