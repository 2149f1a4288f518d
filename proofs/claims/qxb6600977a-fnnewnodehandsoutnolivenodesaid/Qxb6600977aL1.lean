import Derived.Test.Qxb6600977aW10
set_option linter.unusedVariables false
set_option linter.unusedSimpArgs false
namespace Go.Proofs.Qxb6600977a
open Go.RowKit

set_option maxHeartbeats 1000000 in
theorem zzNode_any {w : World} {t : Nat} {S : Pl.St} {own : Nat → Prop} (h : Rep w t S own) (r : Nat) (hr : r < S.cnt) (hc : S.cnt < 2147483648) :
    Calls Try.prog 25 #[.pointer (some ⟨t, 0, none⟩), .int .u32 (r : Int)] w fun e w' => e = .returned (.agg #[.int .u32 ((S.mem r).1 : Int), .int .u32 ((S.mem r).2 : Int)]) ∧ Below w.heap.size w w' := by
  obtain ⟨pa, np, pc, fa, fc, pb, h⟩ := h
  have h' := h.alloc (.cells #[.int .u32 0, .int .u32 0] 51)
  obtain ⟨pg, v0, v1, rfl, A, hv⟩ := h'.at' hr
  obtain ⟨rfl, rfl⟩ := hv hr
  obtain ⟨hp, f2, f3, f4, f5, g4, g5, n1, n2, n3, op, _⟩ := A
  have hr31 : r < 2147483648 := by omega
  generalize pb (r / 4096) = p at *
  clear h h' hv op
  go_enter Try.func25, Try.ntmps25
  go_wp2_with (go_at_call 34; refine (node_cells t r pg np pc p _ hr31 hp ?_ ?_).mono ?_; exact f2; exact f3; rintro e w' ⟨rfl, rfl⟩)
  refine bodyPost_ret (v := .agg #[.int .u32 ((S.mem r).1 : Int), .int .u32 ((S.mem r).2 : Int)]) (by simp [results, Try.results25, go_sem]) rfl ⟨rfl, ?_⟩
  exact (Below.refl _ _).alloc (Nat.le_refl _) _

set_option maxHeartbeats 1000000 in
theorem zzCount_any {w : World} {t : Nat} {S : Pl.St} {own : Nat → Prop} (h : Rep w t S own) :
    Calls Try.prog 16 #[.pointer (some ⟨t, 0, none⟩)] w fun e w' => e = .returned (.int .i64 (S.cnt : Int)) ∧ w = w' := by
  obtain ⟨pa, np, pc, fa, fc, pb, h⟩ := h
  have c : w.cell? ⟨t, 2, none⟩ = some (.int .i64 (S.cnt : Int)) := by rw [cell_of_heap h.tree]; rfl
  clear h
  go_enter Try.func16, Try.ntmps16
  go_wp2
  go_ret
  exact ⟨rfl, rfl⟩

set_option maxHeartbeats 1000000 in
theorem minimal_leaf_walk (t r d c : Nat) (hr : r < 4294967296) (hl : Pl.leaf r = true) (w : World) :
    Calls Try.prog 15 #[.pointer (some ⟨t, 0, none⟩), .int .u32 (r : Int), .int .i64 (d : Int), .int .i64 (c : Int)] w fun e w' => e = .returned (.bool true) ∧ w = w' := by
  go_enter Try.func15, Try.ntmps15
  go_wp2_with (go_at_call 20; refine (isLeaf_any r hr _).mono ?_; rintro e w' ⟨rfl, rfl⟩)
  go_ret
  exact ⟨rfl, rfl⟩

set_option maxHeartbeats 2000000 in
theorem minimal_any (t : Nat) : ∀ (n : Nat) (S : Pl.St) (r d : Nat) (own : Nat → Prop) (w : World), Rep w t S own → Pl.deep S.mem n r → (∀ i, i ∈ Pl.nodes S.mem n r → i < S.cnt) → Pl.minimal S.mem n r → S.cnt < 2147483648 → d + n = 128 →
    Calls Try.prog 15 #[.pointer (some ⟨t, 0, none⟩), .int .u32 (r : Int), .int .i64 (d : Int), .int .i64 (S.cnt : Int)] w fun e w' => e = .returned (.bool true) ∧ Below w.heap.size w w' := by
  intro n
  induction n with
  | zero =>
    intro S r d own w h hd _ _ _ _
    refine (minimal_leaf_walk t r d S.cnt (Pl.deep_lt hd) hd.1 w).mono ?_
    rintro e w' ⟨rfl, rfl⟩
    exact ⟨rfl, Below.refl _ _⟩
  | succ n ih =>
    intro S r d own w h hd hlt hm hc hdn
    have hr := Pl.deep_lt hd
    cases hl : Pl.leaf r with
    | true =>
      refine (minimal_leaf_walk t r d S.cnt hr hl w).mono ?_
      rintro e w' ⟨rfl, rfl⟩
      exact ⟨rfl, Below.refl _ _⟩
    | false =>
      rw [Pl.nodes_node hl] at hlt
      have hrc : r < S.cnt := hlt r (by simp)
      obtain ⟨d1, d2⟩ := Pl.deep_node hl hd
      obtain ⟨m0, m1, m2⟩ := hm.resolve_left (by rw [hl]; simp)
      have IH := hide ih
      have hl0 := Pl.deep_lt d1
      have hdi : decide ((128 : Int) ≤ (d : Int)) = false := decide_eq_false (by omega)
      have hri : decide ((S.cnt : Int) ≤ (r : Int)) = false := decide_eq_false (by omega)
      have HN := hide (fun (wq : World) (hq : Rep wq t S own) => zzNode_any hq r hrc hc)
      generalize hmem : S.mem r = q at *
      obtain ⟨l, t0⟩ := q
      dsimp only at *
      have HD := hide (And.intro d1 (And.intro d2 (And.intro m1 (And.intro m2 (And.intro h (And.intro hlt (And.intro m0 (And.intro hc hdn))))))))
      clear ih d1 d2 m1 m2 h hlt hd hm hmem m0 hdn
      go_enter Try.func15, Try.ntmps15
      go_wp2_with fail
      refine (isLeaf_any r hr _).mono ?_
      rintro e w' ⟨rfl, rfl⟩
      go_wp2_with fail
      refine (HN.out _ HD.out.2.2.2.2.1).mono ?_
      rintro e w1 ⟨rfl, hb1⟩
      have H1 := hide hb1
      clear hb1 HN hl
      go_wp2_with fail
      refine (isLeaf_any l hl0 _).mono ?_
      rintro e w2 ⟨rfl, rfl⟩
      have hleft : ∀ W, Below w.heap.size w W → Calls Try.prog 15 #[.pointer (some ⟨t, 0, none⟩), .int .u32 (l : Int), .int .i64 ((d : Int) + 1), .int .i64 (S.cnt : Int)] W fun e w' => e = .returned (.bool true) ∧ Below W.heap.size W w' :=
        fun W hW => IH.out S l (d + 1) own W (HD.out.2.2.2.2.1.below hW) HD.out.1 (fun i hi => HD.out.2.2.2.2.2.1 i (by simp [hi])) HD.out.2.2.1 HD.out.2.2.2.2.2.2.2.1 (by have := HD.out.2.2.2.2.2.2.2.2; omega)
      have hright : ∀ W, Below w.heap.size w W → Calls Try.prog 15 #[.pointer (some ⟨t, 0, none⟩), .int .u32 (t0 : Int), .int .i64 ((d : Int) + 1), .int .i64 (S.cnt : Int)] W fun e w' => e = .returned (.bool true) ∧ Below W.heap.size W w' :=
        fun W hW => IH.out S t0 (d + 1) own W (HD.out.2.2.2.2.1.below hW) HD.out.2.1 (fun i hi => HD.out.2.2.2.2.2.1 i (by simp [hi])) HD.out.2.2.2.1 HD.out.2.2.2.2.2.2.2.1 (by have := HD.out.2.2.2.2.2.2.2.2; omega)
      have HLe := hide hleft
      have HRi := hide hright
      have hd1 : (d : Int) ≤ 127 := by have := HD.out.2.2.2.2.2.2.2.2; omega
      have hm0 := HD.out.2.2.2.2.2.2.1
      have hA := H1.out.alloc H1.out.size (.cells #[.int .u32 (l : Int), .int .u32 (t0 : Int)] 51)
      have HA := hide hA
      clear hleft hright IH hA
      cases hll : Pl.leaf l with
      | true =>
        have hne : ((l : Int) == (t0 : Int)) = false := by rw [beq_eq_false_iff_ne]; intro e; exact hm0 ⟨hll, by omega⟩
        clear hm0
        go_wp2_with fail
        refine (HLe.out _ HA.out).mono ?_
        rintro e w3 ⟨rfl, hb3⟩
        have q1 : w3.cell? ⟨w1.heap.size, 1, none⟩ = some (.int .u32 (t0 : Int)) := by
          rw [hb3.cell (by simp), World.cell?_alloc_new]; rfl
        have H3 := hide (HA.out.trans (hb3.mono HA.out.size))
        clear hb3
        go_wp2_with fail
        refine (HRi.out _ H3.out).mono ?_
        rintro e w4 ⟨rfl, hb4⟩
        have H4 := hide (H3.out.trans (hb4.mono H3.out.size))
        clear hb4
        go_wp2_with fail
        go_ret
        exact ⟨rfl, H4.out⟩
      | false =>
        clear hm0
        go_wp2_with fail
        refine (HLe.out _ HA.out).mono ?_
        rintro e w3 ⟨rfl, hb3⟩
        have q1 : w3.cell? ⟨w1.heap.size, 1, none⟩ = some (.int .u32 (t0 : Int)) := by
          rw [hb3.cell (by simp), World.cell?_alloc_new]; rfl
        have H3 := hide (HA.out.trans (hb3.mono HA.out.size))
        clear hb3
        go_wp2_with fail
        refine (HRi.out _ H3.out).mono ?_
        rintro e w4 ⟨rfl, hb4⟩
        have H4 := hide (H3.out.trans (hb4.mono H3.out.size))
        clear hb4
        go_wp2_with fail
        go_ret
        exact ⟨rfl, H4.out⟩
end Go.Proofs.Qxb6600977a
