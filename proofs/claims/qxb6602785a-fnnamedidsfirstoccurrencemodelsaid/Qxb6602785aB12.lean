/-
  SEAT b6602785a: zzSameIDs.
-/
import Derived.Test.Qxb6602785aB11
set_option linter.unusedVariables false
set_option linter.unusedSimpArgs false
namespace Go.Proofs.Qxb6602785a
open Go.RowKit Go.Maps

theorem flat_get {l : List (List Nat)} (hl : ∀ x ∈ l, IsId x) : ∀ (i j : Nat), i < l.length → j < 16 → (flat l)[i * 16 + j]? = (uc (l.getD i []))[j]? := by
  induction l with
  | nil => intro i j hi; simp at hi
  | cons x r ih =>
    intro i j hi hj
    have hx : (uc x).toList.length = 16 := by simp [uc_size, (hl x (by simp)).len]
    have e : flat (x :: r) = (uc x).toList ++ flat r := by simp [flat]
    rw [e]
    cases i with
    | zero =>
      rw [List.getElem?_append_left (by omega)]
      simp
    | succ i =>
      rw [List.getElem?_append_right (by omega), hx, show (i + 1) * 16 + j - 16 = i * 16 + j by omega, ih (fun y hy => hl y (by simp [hy])) i j (by simpa using hi) hj]
      simp

/-- The i-th id of a slice of ids lies in memory. -/
theorem Ids.range {w : World} {base : Nat} {e : TypeId} {g cap n : Nat} {l : List (List Nat)} (h : Ids w base e (.slice (some ⟨g, 0, none⟩) n cap) l) (hl : ∀ x ∈ l, IsId x) {i : Nat} (hi : i < l.length) : w.rangeAt g (i * 16) (uc (l.getD i [])).toList := by
  intro j v hv
  have hid : IsId (l.getD i []) := hl _ (by simp [List.getD, List.getElem?_eq_getElem hi])
  have hj : j < 16 := by
    have h0 := (List.getElem?_eq_some_iff.1 hv).1
    rw [Array.length_toList, uc_size, hid.len] at h0
    exact h0
  rcases h.2 with ⟨h1, _⟩ | ⟨g', cap', cur, h1, _, h3, h4, h5, h6, h7⟩
  · cases h1
  · simp only [Value.slice.injEq, Option.some.injEq, Addr.mk.injEq] at h1
    obtain ⟨⟨rfl, _⟩, rfl, rfl⟩ := h1
    rw [cell_of_heap h3]
    have h8 := congrArg (fun q => q[i * 16 + j]?) h7
    simp only [List.getElem?_take] at h8
    rw [if_pos (by omega), flat_get hl i j hi hj] at h8
    rw [← Array.getElem?_toList, h8]
    simpa using hv

theorem ids_form {w : World} {base : Nat} {e : TypeId} {v : Value} {l : List (List Nat)} (h : Ids w base e v l) (hn : l = [] → v = .slice none 0 0) : (l = [] ∧ v = .slice none 0 0) ∨ ∃ g cap, v = .slice (some ⟨g, 0, none⟩) l.length cap := by
  by_cases hl : l = []
  · exact Or.inl ⟨hl, hn hl⟩
  · rcases h.2 with ⟨_, h2⟩ | ⟨g, cap, cur, h1, _⟩
    · exact absurd (List.eq_nil_of_length_eq_zero h2) hl
    · exact Or.inr ⟨g, cap, h1⟩

set_option maxHeartbeats 1000000 in
set_option maxRecDepth 20000 in
theorem same_nil (c : Nat) (w : World) : Calls Try.prog 23 #[.slice none 0 0, .slice none 0 0] w fun e w' => e = .returned (.bool true) ∧ Below w.heap.size w w' := by
  have hq : ∀ (w : World) (a : Option Addr) (n c n' c' : Nat), (binOp .eql 42 (.slice a n c) (.slice none n' c')).run Try.prog w = .ok (.bool a.isNone) w := fun w a n c n' c' => Lib.run_eql_slice_nil w _ _ a n c n' c' Try.underlying42
  go_enter Try.func23, Try.ntmps23
  go_wp2_with fail
  go_loop [5] (fun i => i = .int .i64 0) (fun _ => 0)
  case atStart => rfl
  case round =>
    subst hrel
    go_wp2_with fail
    go_ret
    exact ⟨rfl, Below.refl _ _⟩

set_option maxHeartbeats 1000000 in
set_option maxRecDepth 20000 in
theorem same_some (g cap g2 cap2 b1 b2 : Nat) (l : List (List Nat)) (w : World) (hl : ∀ x ∈ l, IsId x) (hpos : 0 < l.length) (hm : l.length ≤ 1048576) (h1 : Ids w b1 44 (.slice (some ⟨g, 0, none⟩) l.length cap) l) (h2 : Ids w b2 39 (.slice (some ⟨g2, 0, none⟩) l.length cap2) l) :
    Calls Try.prog 23 #[.slice (some ⟨g, 0, none⟩) l.length cap, .slice (some ⟨g2, 0, none⟩) l.length cap2] w fun e w' => e = .returned (.bool true) ∧ Below w.heap.size w w' := by
  have hq : ∀ (w : World) (a : Option Addr) (n c n' c' : Nat), (binOp .eql 42 (.slice a n c) (.slice none n' c')).run Try.prog w = .ok (.bool a.isNone) w := fun w a n c n' c' => Lib.run_eql_slice_nil w _ _ a n c n' c' Try.underlying42
  have H := hide (fun i (hi : i < l.length) => And.intro (h1.range hl hi) (And.intro (h2.range hl hi) (hl (l.getD i []) (by simp [List.getD, List.getElem?_eq_getElem hi]))))
  clear h1 h2 hl
  generalize l.length = n at *
  have t1 : ((n : Int) == 0) = false := by rw [beq_eq_false_iff_ne]; omega
  go_enter Try.func23, Try.ntmps23
  go_wp2_with fail
  go_loopw [5] (fun i wr => ∃ k : Nat, k ≤ n ∧ i = .int .i64 k ∧ ∃ q, wr = w.drewN q) (fun i _ => n - (intOf i).toNat)
  case atStart => exact ⟨0, Nat.zero_le _, rfl, 0, rfl⟩
  case round =>
    obtain ⟨k, hk, rfl, q, rfl⟩ := hrel
    by_cases hlt : k < n
    · obtain ⟨r1, r2, hid⟩ := H.out k hlt
      have heq := eq39 hid hid
      have hi1 := info44 hid
      have hi2 := info39 hid
      rw [decide_eq_true rfl] at heq
      generalize l.getD k [] = x at *
      go_wp2_with fail
      refine wp_region_quiet_lit (by kernel_rfl) (by kernel_rfl) ?_
      repeat (go_big_quiet_step (fail))
      refine wpQuiet_load 44 _ rfl rfl g (k * 16) (by first | rfl | simp) (uc x) _ (fun w hw => by obtain ⟨n, rfl⟩ := hw; exact range_drewN (range_drewN r1 q) n) Try.underlying44 rfl hi1 ?_
      simp only [Act.put, List.setIfInBounds_toArray, List.set_cons_zero, List.set_cons_succ]
      repeat (go_big_quiet_step (fail))
      refine wpQuiet_load 39 _ rfl rfl g2 (k * 16) (by first | rfl | simp) (uc x) _ (fun w hw => by obtain ⟨n, rfl⟩ := hw; exact range_drewN (range_drewN r2 q) n) Try.underlying39 rfl hi2 ?_
      simp only [Act.put, List.setIfInBounds_toArray, List.set_cons_zero, List.set_cons_succ]
      repeat (go_big_quiet_step (fail))
      refine wpQuiet_nil ?_
      intro _ hw'
      obtain ⟨nq, hw''⟩ := hw'
      subst hw''
      go_wp2_with fail
      go_roundw
      case rel => exact ⟨k + 1, by omega, by go_num, q + nq, by first | rfl | simp [World.drewN_drewN]⟩
      case measure => simp [intOf]; omega
    · obtain rfl : n = k := by omega
      go_wp2_with fail
      go_ret
      exact ⟨rfl, below_drewN (Below.refl _ _) q⟩
end Go.Proofs.Qxb6602785a
