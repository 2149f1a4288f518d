import Derived.Test.Qxb6600977aW7
set_option linter.unusedVariables false
set_option linter.unusedSimpArgs false
namespace Go.Proofs.Qxb6600977a
open Go.RowKit

theorem len_le : ∀ (n : Nat) (l : List Nat), (∀ a, l.count a ≤ if a < n then 1 else 0) → l.length ≤ n
  | 0, l, h => by
    cases l with
    | nil => simp
    | cons x l => have := h x; simp at this
  | n + 1, l, h => by
    have ih := len_le n (l.filter (fun a => !(a == n))) (fun a => by
      by_cases e : a = n
      · subst e
        have : (l.filter (fun b => !(b == a))).count a = 0 := by
          rw [List.count_eq_zero]; simp
        rw [this]; exact Nat.zero_le _
      · have h1 := h a
        have h2 : (l.filter (fun a => !(a == n))).count a ≤ l.count a := List.Sublist.count_le a List.filter_sublist
        by_cases e2 : a < n
        · simp only [e2, if_true]; simp only [show a < n + 1 from by omega, if_true] at h1; omega
        · simp only [e2, if_false]; simp only [show ¬ a < n + 1 from by omega, if_false] at h1; omega)
    have hn := h n
    simp only [show n < n + 1 from by omega, if_true] at hn
    have hl : l.length = (l.filter (fun a => a == n)).length + (l.filter (fun a => !(a == n))).length := by
      have h1 := List.length_eq_countP_add_countP (fun a => a == n) (l := l)
      have h3 : (fun a => decide (¬ (a == n) = true)) = (fun a => !(a == n)) := by
        funext a; cases (a == n) <;> rfl
      rw [h3, List.countP_eq_length_filter, List.countP_eq_length_filter] at h1
      exact h1
    have hc : (l.filter (fun a => a == n)).length = l.count n := by
      rw [List.count, List.countP_eq_length_filter]
    omega

theorem inv_len {n : Nat} {S : Pl.St} {r : Nat} {x : Nat → Nat} (h : Pl.Inv n S r x) : S.free.length ≤ S.cnt :=
  len_le S.cnt S.free (fun a => by have := h.once a; omega)
theorem inv_free_lt {n : Nat} {S : Pl.St} {r : Nat} {x : Nat → Nat} (h : Pl.Inv n S r x) (q : Nat) (hq : q ∈ S.free) : q < S.cnt :=
  h.lt (by have := Pl.count_pos_of_mem hq; omega)
theorem inv_node_lt {n : Nat} {S : Pl.St} {r : Nat} {x : Nat → Nat} (h : Pl.Inv n S r x) (q : Nat) (hq : q ∈ Pl.nodes S.mem n r) : q < S.cnt :=
  h.lt (by have := Pl.count_pos_of_mem hq; omega)

theorem set_part_eq {lo hi lf n : Nat} {S : Pl.St} {r first last : Nat} (hm : ¬ (hi < first ∨ last < lo)) (hcv : ¬ (lo ≤ first ∧ last ≤ hi)) : Pl.set lo hi lf (n + 1) S r first last =
    Pl.fin (Pl.split S r).1
      (Pl.set lo hi lf n (Pl.split S r).2 ((Pl.split S r).2.mem (Pl.split S r).1).1 first (last - 2 ^ n)).1
      (Pl.set lo hi lf n (Pl.set lo hi lf n (Pl.split S r).2 ((Pl.split S r).2.mem (Pl.split S r).1).1 first (last - 2 ^ n)).2 ((Pl.split S r).2.mem (Pl.split S r).1).2 (first + 2 ^ n) last).1
      (Pl.set lo hi lf n (Pl.set lo hi lf n (Pl.split S r).2 ((Pl.split S r).2.mem (Pl.split S r).1).1 first (last - 2 ^ n)).2 ((Pl.split S r).2.mem (Pl.split S r).1).2 (first + 2 ^ n) last).2 := by
  rw [Pl.set, if_neg hm, if_neg hcv]

theorem set_any (t lo hi lf : Nat) (hlf : Pl.leaf lf = true) (hlf' : lf < 4294967296) : ∀ (n : Nat) (S : Pl.St) (r first last : Nat) (x : Nat → Nat) (own : Nat → Prop) (w : World), Rep w t S own → Pl.Inv n S r x → n ≤ 128 → first % 2 ^ n = 0 → last + 1 = first + 2 ^ n →
    last < 340282366920938463463374607431768211456 → (Pl.set lo hi lf n S r first last).2.cnt < 2147483648 →
    Calls Try.prog 35 #[.pointer (some ⟨t, 0, none⟩), .int .u32 (r : Int), .int .i64 ((128 - n : Nat) : Int), U first, U last, U lo, U hi, .int .u32 (lf : Int)] w fun e w' =>
      e = .returned (.int .u32 ((Pl.set lo hi lf n S r first last).1 : Int)) ∧ Leaves own t (Pl.set lo hi lf n S r first last).2 w w' := by
  intro n
  induction n with
  | zero =>
    intro S r first last x own w hR hI hn hf hl hlt hc
    have W : Words first last lo hi _ _ _ _ _ _ _ _ := ⟨rfl, rfl, rfl, rfl⟩
    rw [W.f, W.l, W.o, W.i]
    simp at hl
    by_cases hm : hi < first ∨ last < lo
    · have e : Pl.set lo hi lf 0 S r first last = (r, S) := by unfold Pl.set; rw [if_pos hm]
      rw [e]
      refine (set_miss t r 128 lf first last lo hi _ _ _ _ _ _ _ _ W hm w).mono ?_
      rintro e w' ⟨rfl, hb⟩
      exact ⟨rfl, own, hR.below hb, Step.below hb⟩
    · have e : Pl.set lo hi lf 0 S r first last = (lf, S) := by unfold Pl.set; rw [if_neg hm]
      rw [e]
      refine (set_cover t r 128 lf first last lo hi _ _ _ _ _ _ _ _ W (by omega) (by omega) (by omega) (by omega) own S S w hR (fun w1 h1 => ?_))
      refine (release_leaf_walk t r (Pl.deep_lt hI.deep) hI.deep.1 w1).mono ?_
      rintro e w' ⟨rfl, rfl⟩
      exact ⟨rfl, own, h1, Step.refl _ _⟩
  | succ n ih =>
    intro S r first last x own w hR hI hn hf hl hlt hc
    have W : Words first last lo hi _ _ _ _ _ _ _ _ := ⟨rfl, rfl, rfl, rfl⟩
    have hp : 0 < 2 ^ n := Nat.pow_pos (by omega)
    have e2 : 2 ^ (n + 1) = 2 ^ n * 2 := Nat.pow_succ _ _
    have ed : 128 - (n + 1) = 127 - n := by omega
    rw [ed]
    by_cases hm : hi < first ∨ last < lo
    · have e : Pl.set lo hi lf (n + 1) S r first last = (r, S) := by unfold Pl.set; rw [if_pos hm]
      rw [e, W.f, W.l, W.o, W.i]
      refine (set_miss t r (127 - n) lf first last lo hi _ _ _ _ _ _ _ _ W hm w).mono ?_
      rintro e w' ⟨rfl, hb⟩
      exact ⟨rfl, own, hR.below hb, Step.below hb⟩
    by_cases hcv : lo ≤ first ∧ last ≤ hi
    · have e : Pl.set lo hi lf (n + 1) S r first last = (lf, Pl.release (n + 1) S r) := by unfold Pl.set; rw [if_neg hm, if_pos hcv]
      have D := Pl.done_cover hlf hlf' hI hcv
      rw [e] at hc ⊢
      rw [W.f, W.l, W.o, W.i]
      have hcs : S.cnt < 2147483648 := by have := (Pl.release_mem (n + 1) S r).2.1; dsimp only at hc; omega
      have hlen := inv_len D.inv
      refine (set_cover t r (127 - n) lf first last lo hi _ _ _ _ _ _ _ _ W (by omega) (by omega) (by omega) (by omega) own S _ w hR (fun w1 h1 => ?_))
      exact release_any t (n + 1) S r own w1 h1 hI.deep (inv_node_lt hI) hcs (by dsimp only at hlen hc; omega)
    -- the range covers a part
    rw [set_part_eq hm hcv] at hc ⊢
    rw [Pl.fin_cnt] at hc
    have m0 := Pl.split_cnt S r
    have m1 := Pl.set_mono lo hi lf n (Pl.split S r).2 ((Pl.split S r).2.mem (Pl.split S r).1).1 first (last - 2 ^ n)
    have m2 := Pl.set_mono lo hi lf n (Pl.set lo hi lf n (Pl.split S r).2 ((Pl.split S r).2.mem (Pl.split S r).1).1 first (last - 2 ^ n)).2 ((Pl.split S r).2.mem (Pl.split S r).1).2 (first + 2 ^ n) last
    have op := Pl.opened hI (by omega)
    have left := Pl.set_done lo hi lf hlf hlf' n (Pl.split S r).2 ((Pl.split S r).2.mem (Pl.split S r).1).1 first (last - 2 ^ n) _ (Pl.left_inv op) (Pl.half_aligned hf).1 (by omega) (by omega)
    have ri := (Pl.right_inv op left).1
    have right := Pl.set_done lo hi lf hlf hlf' n _ _ (first + 2 ^ n) last _ ri (Pl.half_aligned hf).2 (by omega) (by omega)
    have hr0 : (Pl.split S r).1 < (Pl.split S r).2.cnt := by
      have := op.once (Pl.split S r).1
      simp only [if_true] at this
      split at this
      · assumption
      · omega
    have edd : (127 - n + 1 : Nat) = 128 - n := by omega
    have C : Calls2 t (127 - n) lf n first last lo hi _ _ _ _ _ _ _ _ (Pl.split S r).2 _ _ (Pl.split S r).1 ((Pl.split S r).2.mem (Pl.split S r).1).1 ((Pl.split S r).2.mem (Pl.split S r).1).2 _ _ :=
      { words := W, dn := by omega, lastLt := hlt, firstLt := by omega
        lastBit := by
          have := Pl.half_bit (a := last) hf (by omega) (by omega)
          have h2 : ¬ last / 2 ^ n % 2 = 0 := fun h => by have := this.1 h; omega
          omega
        firstBit := (Pl.half_bit (a := first) hf (by omega) (by omega)).2 (by omega)
        left := fun own1 w1 h1 => by
          rw [edd]
          exact ih (Pl.split S r).2 ((Pl.split S r).2.mem (Pl.split S r).1).1 first (last - 2 ^ n) _ own1 w1 h1 (Pl.left_inv op) (by omega) (Pl.half_aligned hf).1 (by omega) (by omega) (by omega)
        right := fun own1 w1 h1 => by
          rw [edd]
          exact ih _ ((Pl.split S r).2.mem (Pl.split S r).1).2 (first + 2 ^ n) last _ own1 w1 h1 ri (by omega) (Pl.half_aligned hf).2 (by omega) (by omega) (by omega)
        here := rfl, lt0 := hr0, lt2 := by omega, cnt := by omega, cnt0 := by omega, len := by have := inv_len right.inv; omega, lLt := Pl.deep_lt left.inv.deep }
    rw [W.f, W.l, W.o, W.i]
    generalize hsp : Pl.split S r = sp at *
    obtain ⟨r0, S0⟩ := sp
    dsimp only at *
    cases hlr : Pl.leaf r with
    | false =>
      have : (r0, S0) = (r, S) := by rw [← hsp]; simp [Pl.split, hlr]
      obtain ⟨rfl, rfl⟩ := Prod.mk.inj this
      by_cases h3 : first < lo
      · exact set_node_a t _ (127 - n) lf n first last lo hi _ _ _ _ _ _ _ _ _ _ _ _ _ _ _ C (by omega) (by omega) h3 own w hR hlr
      · exact set_node_b t _ (127 - n) lf n first last lo hi _ _ _ _ _ _ _ _ _ _ _ _ _ _ _ C (by omega) (by omega) h3 (by omega) own w hR hlr
    | true =>
      have hnn : Pl.newNode S (r, r) = (r0, S0) := by rw [← hsp]; simp [Pl.split, hlr]
      have hil := inv_len hI
      by_cases h3 : first < lo
      · exact set_leaf_a t r (127 - n) lf n first last lo hi _ _ _ _ _ _ _ _ S _ _ _ _ _ _ _ _ C hnn (by omega) (inv_free_lt hI) (by omega) (Pl.deep_lt hI.deep) (by omega) (by omega) h3 own w hR hlr
      · exact set_leaf_b t r (127 - n) lf n first last lo hi _ _ _ _ _ _ _ _ S _ _ _ _ _ _ _ _ C hnn (by omega) (inv_free_lt hI) (by omega) (Pl.deep_lt hI.deep) (by omega) (by omega) h3 (by omega) own w hR hlr
end Go.Proofs.Qxb6600977a
