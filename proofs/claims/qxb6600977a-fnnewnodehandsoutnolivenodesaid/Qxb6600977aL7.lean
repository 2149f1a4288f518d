import Derived.Test.Qxb6600977aL6
set_option linter.unusedVariables false
set_option linter.unusedSimpArgs false
namespace Go.Proofs.Qxb6600977a
open Go.RowKit

structure EndsRel (w W : World) (s : Sp) (N : Nat) : Prop where
  low : Below w.heap.size w W
  box : SpanCells W N 0 s
  lt : N < W.heap.size

theorem endsRel_start {w wr : World} (h : Below w.heap.size w wr) (s : Sp) : EndsRel w (wr.alloc (.cells #[.int .u64 (s.oh : Int), .int .u64 (s.ol : Int), .int .u64 (s.ih : Int), .int .u64 (s.il : Int), .int .u32 (s.v : Int)] 59)) s wr.heap.size :=
  ⟨h.alloc h.size _, span_box wr s, by simp⟩

theorem EndsRel.step {w W W' : World} {s : Sp} {N : Nat} (h : EndsRel w W s N) (hb : Below W.heap.size W W') : EndsRel w W' s N := by
  obtain ⟨s0, s1, s2, s3, s4⟩ := h.box
  have q : ∀ o, W'.cell? ⟨N, o, none⟩ = W.cell? ⟨N, o, none⟩ := fun o => hb.cell h.lt
  exact ⟨h.low.trans (hb.mono h.low.size), ⟨(q _).trans s0, (q _).trans s1, (q _).trans s2, (q _).trans s3, (q _).trans s4⟩, Nat.lt_of_lt_of_le h.lt hb.size⟩

theorem endsRel_cells {w W : World} {s : Sp} {N : Nat} (h : EndsRel w W s N) : W.cell? ⟨N, 0, none⟩ = some (.int .u64 (s.oh : Int)) ∧ W.cell? ⟨N, 1, none⟩ = some (.int .u64 (s.ol : Int)) ∧ W.cell? ⟨N, 2, none⟩ = some (.int .u64 (s.ih : Int)) ∧ W.cell? ⟨N, 3, none⟩ = some (.int .u64 (s.il : Int)) ∧ W.cell? ⟨N, 4, none⟩ = some (.int .u32 (s.v : Int)) := by
  have hd0 := h.box
  unfold SpanCells at hd0
  simpa only [Nat.zero_add] using hd0

set_option maxHeartbeats 400000 in
theorem agreesAtEnds_any {w : World} {t : Nat} {S : Pl.St} {own : Nat → Prop} {root v0 len cap : Nat} {a : Option Addr} {sp : Nat → Sp} (h : Tells w t S own root v0 len a sp) (hv : v0 < 4294967296) (hlen : len ≤ 4096) (hok : ∀ i, i < len → SpOk (sp i)) (hc : S.cnt < 2147483648) :
    Calls Try.prog 13 #[.pointer (some ⟨t, 0, none⟩), .int .u32 (root : Int), .int .u32 (v0 : Int), .slice a len cap] w fun e w' => e = .returned (.bool true) ∧ Below w.heap.size w w' := by
  have HT := hide h
  have HK := hide hok
  have HA := hide (fun (W : World) (hW : Below w.heap.size w W) (ah al : Nat) (h1 : ah < 18446744073709551616) (h2 : al < 18446744073709551616) => agrees_any (cap := cap) (h.below hW) hv hlen hok hc ah al h1 h2)
  clear h hok
  go_enter Try.func13, Try.ntmps13
  go_wp2_with fail
  go_loopw [9] (fun i wr => ∃ k : Nat, k ≤ len ∧ i = .int .i64 k ∧ Below w.heap.size w wr) (fun i _ => len - (intOf i).toNat)
  case atStart => exact ⟨0, Nat.zero_le _, rfl, Below.refl _ _⟩
  case round =>
    obtain ⟨k, hk, rfl, hb⟩ := hrel
    have HB := hide hb
    clear hb
    by_cases hlt : k < len
    · obtain ⟨b, off, rfl, hbl, c0, c1, c2, c3, c4⟩ := HT.out.spans k hlt
      rw [← HB.out.cell hbl] at c0 c1 c2 c3 c4
      clear hbl
      go_wp2_with fail
      have HN := hide (endsRel_start HB.out (sp k))
      generalize wr.alloc (.cells #[.int .u64 ((sp k).oh : Int), .int .u64 ((sp k).ol : Int), .int .u64 ((sp k).ih : Int), .int .u64 ((sp k).il : Int), .int .u32 ((sp k).v : Int)] 59) = W at HN ⊢
      generalize wr.heap.size = N at HN ⊢
      clear c0 c1 c2 c3 c4 HB
      obtain ⟨d0, d1, d2, d3, d4⟩ := endsRel_cells HN.out
      refine (HA.out _ HN.out.low _ _ (HK.out k hlt).oh (HK.out k hlt).ol).mono ?_
      rintro e w1 ⟨rfl, hb1⟩
      have H1 := hide (HN.out.step hb1)
      clear hb1 d0 d1 d2 d3 d4 HN
      obtain ⟨d0, d1, d2, d3, d4⟩ := endsRel_cells H1.out
      go_wp2_with fail
      refine (HA.out _ H1.out.low _ _ (HK.out k hlt).ih (HK.out k hlt).il).mono ?_
      rintro e w2 ⟨rfl, hb1⟩
      have H2 := hide (H1.out.step hb1)
      clear hb1 d0 d1 d2 d3 d4 H1
      obtain ⟨d0, d1, d2, d3, d4⟩ := endsRel_cells H2.out
      go_wp2_with fail
      refine (dec_any _ _ (HK.out k hlt).oh (HK.out k hlt).ol _).mono ?_
      rintro e w3 ⟨h3, l3, rfl, h3lt, l3lt, rfl⟩
      go_wp2_with fail
      refine (HA.out _ H2.out.low _ _ h3lt l3lt).mono ?_
      rintro e w3 ⟨rfl, hb1⟩
      have H3 := hide (H2.out.step hb1)
      clear hb1 d0 d1 d2 d3 d4 H2
      obtain ⟨d0, d1, d2, d3, d4⟩ := endsRel_cells H3.out
      go_wp2_with fail
      refine (inc_any _ _ (HK.out k hlt).ih (HK.out k hlt).il _).mono ?_
      rintro e w4 ⟨h4, l4, rfl, h4lt, l4lt, rfl⟩
      go_wp2_with fail
      refine (HA.out _ H3.out.low _ _ h4lt l4lt).mono ?_
      rintro e w4 ⟨rfl, hb1⟩
      have H4 := hide (H3.out.step hb1)
      clear hb1 d0 d1 d2 d3 d4 H3
      go_wp2_with fail
      go_roundw
      case rel => exact ⟨k + 1, by omega, by go_num, H4.out.low⟩
      case measure => simp [intOf]; omega
    · obtain rfl : len = k := by omega
      go_wp2_with fail
      go_ret
      exact ⟨rfl, HB.out⟩
end Go.Proofs.Qxb6600977a
