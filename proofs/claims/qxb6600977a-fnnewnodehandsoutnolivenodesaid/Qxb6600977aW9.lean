import Derived.Test.Qxb6600977aW8
set_option linter.unusedVariables false
set_option linter.unusedSimpArgs false
namespace Go.Proofs.Qxb6600977a
open Go.RowKit

/-- One range write. -/
structure Sp where
  oh : Nat
  ol : Nat
  ih : Nat
  il : Nat
  v : Nat

def SpanCells (w : World) (b o : Nat) (s : Sp) : Prop :=
  w.cell? ⟨b, o, none⟩ = some (.int .u64 (s.oh : Int)) ∧ w.cell? ⟨b, o + 1, none⟩ = some (.int .u64 (s.ol : Int)) ∧ w.cell? ⟨b, o + 2, none⟩ = some (.int .u64 (s.ih : Int)) ∧ w.cell? ⟨b, o + 3, none⟩ = some (.int .u64 (s.il : Int)) ∧ w.cell? ⟨b, o + 4, none⟩ = some (.int .u32 (s.v : Int))

/-- A slice of range writes. -/
def SpansAt (w : World) (a : Option Addr) (len : Nat) (sp : Nat → Sp) : Prop := ∀ i, i < len → ∃ b off, a = some ⟨b, off, none⟩ ∧ b < w.heap.size ∧ SpanCells w b (off + i * 5) (sp i)

theorem SpansAt.below {w w' : World} {a : Option Addr} {len : Nat} {sp : Nat → Sp} (h : SpansAt w a len sp) {B : Nat} (hb : Below B w w') (hB : ∀ i b off, i < len → a = some ⟨b, off, none⟩ → b < B) : SpansAt w' a len sp := by
  intro i hi
  obtain ⟨b, off, ha, hlt, c0, c1, c2, c3, c4⟩ := h i hi
  have hbB := hB i b off hi ha
  exact ⟨b, off, ha, Nat.lt_of_lt_of_le hlt hb.size, (hb.cell hbB).trans c0, (hb.cell hbB).trans c1, (hb.cell hbB).trans c2, (hb.cell hbB).trans c3, (hb.cell hbB).trans c4⟩

structure CopyRel (w wr : World) (len k : Nat) (sp : Nat → Sp) : Prop where
  low : Below w.heap.size w wr
  row : ∃ cur, wr.heap[w.heap.size]? = some (.cells cur 59 (0, 0)) ∧ cur.size = len * 5 ∧ ∀ i, i < k → cur[i * 5]? = some (.int .u64 ((sp i).oh : Int)) ∧ cur[i * 5 + 1]? = some (.int .u64 ((sp i).ol : Int)) ∧ cur[i * 5 + 2]? = some (.int .u64 ((sp i).ih : Int)) ∧ cur[i * 5 + 3]? = some (.int .u64 ((sp i).il : Int)) ∧ cur[i * 5 + 4]? = some (.int .u32 ((sp i).v : Int))

theorem CopyRel.cells {w wr : World} {len k : Nat} {sp : Nat → Sp} (h : CopyRel w wr len k sp) (hk : k < len) : (∀ j, j < 5 → ∃ v, wr.cell? ⟨w.heap.size, k * 5 + j, none⟩ = some v) ∧ ∀ o, wr.frozen? ⟨w.heap.size, o, none⟩ = false := by
  obtain ⟨cur, hc, hs, _⟩ := h.row
  refine ⟨fun j hj => ?_, fun o => frozen_of_heap hc⟩
  rw [cell_of_heap hc]
  exact ⟨cur[k * 5 + j]'(by omega), Array.getElem?_eq_getElem (by omega)⟩

theorem CopyRel.next {w wr : World} {len k : Nat} {sp : Nat → Sp} (h : CopyRel w wr len k sp) (hk : k < len) :
    CopyRel w (((((wr.setCell ⟨w.heap.size, k * 5, none⟩ (.int .u64 ((sp k).oh : Int))).setCell ⟨w.heap.size, k * 5 + 1, none⟩ (.int .u64 ((sp k).ol : Int))).setCell ⟨w.heap.size, k * 5 + 2, none⟩ (.int .u64 ((sp k).ih : Int))).setCell ⟨w.heap.size, k * 5 + 3, none⟩ (.int .u64 ((sp k).il : Int))).setCell ⟨w.heap.size, k * 5 + 4, none⟩ (.int .u32 ((sp k).v : Int))) len (k + 1) sp := by
  obtain ⟨cur, hc, hs, hv⟩ := h.row
  refine ⟨((((h.low.setCell (Nat.le_refl _) _).setCell (Nat.le_refl _) _).setCell (Nat.le_refl _) _).setCell (Nat.le_refl _) _).setCell (Nat.le_refl _) _, _, heap_set_same _ (heap_set_same _ (heap_set_same _ (heap_set_same _ (heap_set_same _ hc)))), by simpa using hs, fun i hi => ?_⟩
  by_cases e : i = k
  · subst e
    refine ⟨?_, ?_, ?_, ?_, ?_⟩
    · rw [Array.getElem?_setIfInBounds_ne (by omega), Array.getElem?_setIfInBounds_ne (by omega), Array.getElem?_setIfInBounds_ne (by omega), Array.getElem?_setIfInBounds_ne (by omega), Array.getElem?_setIfInBounds_self_of_lt (by omega)]
    · rw [Array.getElem?_setIfInBounds_ne (by omega), Array.getElem?_setIfInBounds_ne (by omega), Array.getElem?_setIfInBounds_ne (by omega), Array.getElem?_setIfInBounds_self_of_lt (by simp; omega)]
    · rw [Array.getElem?_setIfInBounds_ne (by omega), Array.getElem?_setIfInBounds_ne (by omega), Array.getElem?_setIfInBounds_self_of_lt (by simp; omega)]
    · rw [Array.getElem?_setIfInBounds_ne (by omega), Array.getElem?_setIfInBounds_self_of_lt (by simp; omega)]
    · rw [Array.getElem?_setIfInBounds_self_of_lt (by simp; omega)]
  · have := hv i (by omega)
    have ne : ∀ j j', j < 5 → j' < 5 → k * 5 + j ≠ i * 5 + j' := fun j j' hj hj' => by omega
    have n0 : ∀ j', j' < 5 → k * 5 ≠ i * 5 + j' := fun j' hj' => by omega
    have z0 : ∀ j, j < 5 → k * 5 + j ≠ i * 5 := fun j hj => by omega
    refine ⟨?_, ?_, ?_, ?_, ?_⟩
    · rw [Array.getElem?_setIfInBounds_ne (z0 4 (by omega)), Array.getElem?_setIfInBounds_ne (z0 3 (by omega)), Array.getElem?_setIfInBounds_ne (z0 2 (by omega)), Array.getElem?_setIfInBounds_ne (z0 1 (by omega)), Array.getElem?_setIfInBounds_ne (by omega)]; exact this.1
    · rw [Array.getElem?_setIfInBounds_ne (ne 4 1 (by omega) (by omega)), Array.getElem?_setIfInBounds_ne (ne 3 1 (by omega) (by omega)), Array.getElem?_setIfInBounds_ne (ne 2 1 (by omega) (by omega)), Array.getElem?_setIfInBounds_ne (ne 1 1 (by omega) (by omega)), Array.getElem?_setIfInBounds_ne (n0 1 (by omega))]; exact this.2.1
    · rw [Array.getElem?_setIfInBounds_ne (ne 4 2 (by omega) (by omega)), Array.getElem?_setIfInBounds_ne (ne 3 2 (by omega) (by omega)), Array.getElem?_setIfInBounds_ne (ne 2 2 (by omega) (by omega)), Array.getElem?_setIfInBounds_ne (ne 1 2 (by omega) (by omega)), Array.getElem?_setIfInBounds_ne (n0 2 (by omega))]; exact this.2.2.1
    · rw [Array.getElem?_setIfInBounds_ne (ne 4 3 (by omega) (by omega)), Array.getElem?_setIfInBounds_ne (ne 3 3 (by omega) (by omega)), Array.getElem?_setIfInBounds_ne (ne 2 3 (by omega) (by omega)), Array.getElem?_setIfInBounds_ne (ne 1 3 (by omega) (by omega)), Array.getElem?_setIfInBounds_ne (n0 3 (by omega))]; exact this.2.2.2.1
    · rw [Array.getElem?_setIfInBounds_ne (ne 4 4 (by omega) (by omega)), Array.getElem?_setIfInBounds_ne (ne 3 4 (by omega) (by omega)), Array.getElem?_setIfInBounds_ne (ne 2 4 (by omega) (by omega)), Array.getElem?_setIfInBounds_ne (ne 1 4 (by omega) (by omega)), Array.getElem?_setIfInBounds_ne (n0 4 (by omega))]; exact this.2.2.2.2

theorem CopyRel.at {w wr : World} {len : Nat} {sp : Nat → Sp} (h : CopyRel w wr len len sp) : SpansAt wr (some ⟨w.heap.size, 0, none⟩) len sp := by
  obtain ⟨cur, hc, hs, hv⟩ := h.row
  intro i hi
  have := hv i hi
  refine ⟨_, _, rfl, lt_of_heap hc, ?_⟩
  simp only [SpanCells, Nat.zero_add, cell_of_heap hc]
  exact this

theorem info59 : (Try.prog.info? 59).map (fun i => (i.zero, i.size, i.bytes)) = some (some (.agg #[.int .u64 0, .int .u64 0, .int .u64 0, .int .u64 0, .int .u32 0]), 5, 40) := by kernel_rfl

theorem make_spans (len : Nat) (hlen : len ≤ 4096) : ∃ cur : Array Value, cur.size = len * 5 ∧ ∀ w : World, (Instr.makeSlice 23 (.int .i64 (len : Int)) (.int .i64 (len : Int))).run Try.prog w = .ok (.slice (some ⟨w.heap.size, 0, none⟩) len len) (w.alloc (.cells cur 59)) := by
  obtain ⟨i0, hi, hz0, hz1, hz2⟩ := info_parts info59
  refine ⟨madeCells (Value.agg #[.int .u64 0, .int .u64 0, .int .u64 0, .int .u64 0, .int .u32 0]).cells (len * i0.size), by rw [size_madeCells, hz1], fun w => ?_⟩
  have := run_make (P := Try.prog) w 23 59 i0 _ Try.underlying23 hi hz0 .i64 .i64 len len (by omega) (by omega) (by rw [hz2]; omega) (by omega)
  rw [this, Int.toNat_natCast]

set_option maxHeartbeats 1000000 in
theorem copySpans_some (ad : Addr) (len cap : Nat) (sp : Nat → Sp) (w : World) (hlen : len ≤ 4096) (h : SpansAt w (some ad) len sp) :
    Calls Try.prog 9 #[.slice (some ad) len cap] w fun e w' => e = .returned (.slice (some ⟨w.heap.size, 0, none⟩) len len) ∧ SpansAt w' (some ⟨w.heap.size, 0, none⟩) len sp ∧ Below w.heap.size w w' := by
  have hq : ∀ (w : World) (a : Option Addr) (n c n' c' : Nat), (binOp .eql 23 (.slice a n c) (.slice none n' c')).run Try.prog w = .ok (.bool a.isNone) w := fun w a n c n' c' => Lib.run_eql_slice_nil w _ _ a n c n' c' Try.underlying23
  obtain ⟨cur0, hc0, hmk⟩ := make_spans len hlen
  have HS := hide h
  have HC0 := hide hc0
  clear h hc0
  go_enter Try.func9, Try.ntmps9
  go_wp2
  go_loopw [4] (fun i wr => ∃ k : Nat, k ≤ len ∧ i = .int .i64 k ∧ CopyRel w wr len k sp) (fun i _ => len - (intOf i).toNat)
  case atStart =>
    exact ⟨0, Nat.zero_le _, rfl, (Below.refl _ _).alloc (Nat.le_refl _) _, cur0, heap_alloc_new' _ _, HC0.out, fun i hi => by omega⟩
  case round =>
    obtain ⟨k, hk, rfl, hrel⟩ := hrel
    have HR := hide hrel
    clear hrel hmk
    by_cases hlt : k < len
    · obtain ⟨b, off, hb', hbl, c0, c1, c2, c3, c4⟩ := HS.out k hlt
      obtain rfl := Option.some.inj hb'
      rw [← HR.out.low.cell hbl] at c0 c1 c2 c3 c4
      obtain ⟨hv, hz⟩ := HR.out.cells hlt
      obtain ⟨v0, d0⟩ := hv 0 (by omega)
      obtain ⟨v1, d1⟩ := hv 1 (by omega)
      obtain ⟨v2, d2⟩ := hv 2 (by omega)
      obtain ⟨v3, d3⟩ := hv 3 (by omega)
      obtain ⟨v4, d4⟩ := hv 4 (by omega)
      simp only [Nat.add_zero] at d0
      have HN := hide (HR.out.next hlt)
      clear hv hbl
      go_wp2
      go_roundw
      case rel => exact ⟨k + 1, by omega, by go_num, HN.out⟩
      case measure => simp [intOf]; omega
    · obtain rfl : len = k := by omega
      go_wp2
      go_ret
      exact ⟨rfl, HR.out.at, HR.out.low⟩

set_option maxHeartbeats 1000000 in
theorem copySpans_nil (w : World) :
    Calls Try.prog 9 #[.slice none 0 0] w fun e w' => e = .returned (.slice none 0 0) ∧ w = w' := by
  have hq : ∀ (w : World) (a : Option Addr) (n c n' c' : Nat), (binOp .eql 23 (.slice a n c) (.slice none n' c')).run Try.prog w = .ok (.bool a.isNone) w := fun w a n c n' c' => Lib.run_eql_slice_nil w _ _ a n c n' c' Try.underlying23
  go_enter Try.func9, Try.ntmps9
  go_wp2
  go_ret
  exact ⟨rfl, rfl⟩

theorem copySpans_any (a : Option Addr) (len cap : Nat) (sp : Nat → Sp) (w : World) (hlen : len ≤ 4096) (hnil : a = none → len = 0 ∧ cap = 0) (h : SpansAt w a len sp) :
    Calls Try.prog 9 #[.slice a len cap] w fun e w' => ∃ a' cap', e = .returned (.slice a' len cap') ∧ SpansAt w' a' len sp ∧ Below w.heap.size w w' := by
  cases a with
  | none =>
    obtain ⟨rfl, rfl⟩ := hnil rfl
    refine (copySpans_nil w).mono ?_
    rintro e w' ⟨rfl, rfl⟩
    exact ⟨none, 0, rfl, h, Below.refl _ _⟩
  | some ad =>
    refine (copySpans_some ad len cap sp w hlen h).mono ?_
    rintro e w' ⟨rfl, h1, h2⟩
    exact ⟨_, _, rfl, h1, h2⟩

/-! ### ZZSet -/
set_option maxHeartbeats 1000000 in
theorem zzSet_any (t lf r oh ol ih il : Nat) (hlf : Pl.leaf lf = true) (hlf' : lf < 4294967296) (h1 : oh < 18446744073709551616) (h2 : ol < 18446744073709551616) (h3 : ih < 18446744073709551616) (h4 : il < 18446744073709551616)
    (S : Pl.St) (x : Nat → Nat) (own : Nat → Prop) (w : World) (hR : Rep w t S own) (hI : Pl.Inv 128 S r x)
    (hc : (Pl.set (oh * 18446744073709551616 + ol) (ih * 18446744073709551616 + il) lf 128 S r 0 340282366920938463463374607431768211455).2.cnt < 2147483648) :
    Calls Try.prog 28 #[.pointer (some ⟨t, 0, none⟩), .int .u32 (r : Int), .int .i64 0, .int .u64 0, .int .u64 0, .int .u64 18446744073709551615, .int .u64 18446744073709551615, .int .u64 (oh : Int), .int .u64 (ol : Int), .int .u64 (ih : Int), .int .u64 (il : Int), .int .u32 (lf : Int)] w fun e w' =>
      e = .returned (.int .u32 ((Pl.set (oh * 18446744073709551616 + ol) (ih * 18446744073709551616 + il) lf 128 S r 0 340282366920938463463374607431768211455).1 : Int)) ∧ Leaves own t (Pl.set (oh * 18446744073709551616 + ol) (ih * 18446744073709551616 + il) lf 128 S r 0 340282366920938463463374607431768211455).2 w w' := by
  have hs := set_any t (oh * 18446744073709551616 + ol) (ih * 18446744073709551616 + il) lf hlf hlf' 128 S r 0 340282366920938463463374607431768211455 x own w hR hI (Nat.le_refl _) (by decide) (by decide) (by decide) hc
  rw [U_words (oh * 18446744073709551616 + ol) oh ol (by omega) (by omega), U_words (ih * 18446744073709551616 + il) ih il (by omega) (by omega), U_words 0 0 0 (by decide) (by decide), U_words 340282366920938463463374607431768211455 18446744073709551615 18446744073709551615 (by decide) (by decide)] at hs
  generalize Pl.set (oh * 18446744073709551616 + ol) (ih * 18446744073709551616 + il) lf 128 S r 0 340282366920938463463374607431768211455 = o at *
  obtain ⟨r', S'⟩ := o
  dsimp only at *
  have hs2 : Calls Try.prog 35 #[.pointer (some ⟨t, 0, none⟩), .int .u32 (r : Int), .int .i64 0, .agg #[.int .u64 0, .int .u64 0], .agg #[.int .u64 18446744073709551615, .int .u64 18446744073709551615], .agg #[.int .u64 (oh : Int), .int .u64 (ol : Int)], .agg #[.int .u64 (ih : Int), .int .u64 (il : Int)], .int .u32 (lf : Int)] w fun e w' =>
      e = .returned (.int .u32 (r' : Int)) ∧ Leaves own t S' w w' := hs
  have HS := hide hs2
  clear hs hs2 hI hR hc
  go_enter Try.func28, Try.ntmps28
  go_wp2_with fail
  refine HS.out.mono ?_
  rintro e w' ⟨rfl, hl⟩
  have HL := hide hl
  clear hl HS
  go_wp2_with fail
  go_ret
  exact ⟨rfl, HL.out⟩
end Go.Proofs.Qxb6600977a
