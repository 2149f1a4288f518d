import Derived.Test.Qxb6600977aM2
set_option linter.unusedVariables false
set_option linter.unusedSimpArgs false
namespace Go.Proofs.Qxb6600977a
open Go.RowKit

/-! ### Slices of pairs of numbers of one kind (Pair: uint32, Probe: uint64) -/
def TwosAt (w : World) (k : IntKind) (a : Option Addr) (len : Nat) (pr : Nat → Nat × Nat) : Prop :=
  ∀ i, i < len → ∃ b off, a = some ⟨b, off, none⟩ ∧ b < w.heap.size ∧ w.cell? ⟨b, off + i * 2, none⟩ = some (.int k ((pr i).1 : Int)) ∧ w.cell? ⟨b, off + i * 2 + 1, none⟩ = some (.int k ((pr i).2 : Int))

theorem TwosAt.below {w w' : World} {k : IntKind} {a : Option Addr} {len : Nat} {pr : Nat → Nat × Nat} (h : TwosAt w k a len pr) (hb : Below w.heap.size w w') : TwosAt w' k a len pr := by
  intro i hi
  obtain ⟨b, off, ha, hlt, c0, c1⟩ := h i hi
  exact ⟨b, off, ha, Nat.lt_of_lt_of_le hlt hb.size, (hb.cell hlt).trans c0, (hb.cell hlt).trans c1⟩

structure CopyTwo (w wr : World) (k : IntKind) (e : TypeId) (len j : Nat) (pr : Nat → Nat × Nat) : Prop where
  low : Below w.heap.size w wr
  row : ∃ cur : Array Value, wr.heap[w.heap.size]? = some (.cells cur e (0, 0)) ∧ cur.size = len * 2 ∧ ∀ i, i < j → cur[i * 2]? = some (.int k ((pr i).1 : Int)) ∧ cur[i * 2 + 1]? = some (.int k ((pr i).2 : Int))

theorem CopyTwo.cells {w wr : World} {k : IntKind} {e : TypeId} {len j : Nat} {pr : Nat → Nat × Nat} (h : CopyTwo w wr k e len j pr) (hj : j < len) :
    (∃ v, wr.cell? ⟨w.heap.size, j * 2, none⟩ = some v) ∧ (∃ v, wr.cell? ⟨w.heap.size, j * 2 + 1, none⟩ = some v) ∧ ∀ o, wr.frozen? ⟨w.heap.size, o, none⟩ = false := by
  obtain ⟨cur, hc, hs, _⟩ := h.row
  refine ⟨?_, ?_, fun o => frozen_of_heap hc⟩
  · rw [cell_of_heap hc]; exact ⟨cur[j * 2]'(by omega), Array.getElem?_eq_getElem (by omega)⟩
  · rw [cell_of_heap hc]; exact ⟨cur[j * 2 + 1]'(by omega), Array.getElem?_eq_getElem (by omega)⟩

theorem CopyTwo.next {w wr : World} {k : IntKind} {e : TypeId} {len j : Nat} {pr : Nat → Nat × Nat} (h : CopyTwo w wr k e len j pr) (hj : j < len) :
    CopyTwo w ((wr.setCell ⟨w.heap.size, j * 2, none⟩ (.int k ((pr j).1 : Int))).setCell ⟨w.heap.size, j * 2 + 1, none⟩ (.int k ((pr j).2 : Int))) k e len (j + 1) pr := by
  obtain ⟨cur, hc, hs, hv⟩ := h.row
  refine ⟨(h.low.setCell (Nat.le_refl _) _).setCell (Nat.le_refl _) _, _, heap_set_same _ (heap_set_same _ hc), by simpa using hs, fun i hi => ?_⟩
  by_cases e : i = j
  · subst e
    refine ⟨?_, ?_⟩
    · rw [Array.getElem?_setIfInBounds_ne (by omega), Array.getElem?_setIfInBounds_self_of_lt (by omega)]
    · rw [Array.getElem?_setIfInBounds_self_of_lt (by simp; omega)]
  · have := hv i (by omega)
    refine ⟨?_, ?_⟩
    · rw [Array.getElem?_setIfInBounds_ne (by omega), Array.getElem?_setIfInBounds_ne (by omega)]; exact this.1
    · rw [Array.getElem?_setIfInBounds_ne (by omega), Array.getElem?_setIfInBounds_ne (by omega)]; exact this.2

theorem CopyTwo.at {w wr : World} {k : IntKind} {e : TypeId} {len : Nat} {pr : Nat → Nat × Nat} (h : CopyTwo w wr k e len len pr) : TwosAt wr k (some ⟨w.heap.size, 0, none⟩) len pr := by
  obtain ⟨cur, hc, hs, hv⟩ := h.row
  intro i hi
  have := hv i hi
  refine ⟨_, _, rfl, lt_of_heap hc, ?_⟩
  simp only [Nat.zero_add, cell_of_heap hc]
  exact this

theorem info54 : (Try.prog.info? 54).map (fun i => (i.zero, i.size, i.bytes)) = some (some (.agg #[.int .u32 0, .int .u32 0]), 2, 8) := by kernel_rfl
theorem info35 : (Try.prog.info? 35).map (fun i => (i.zero, i.size, i.bytes)) = some (some (.agg #[.int .u64 0, .int .u64 0]), 2, 16) := by kernel_rfl

theorem make_pairs (len : Nat) (hlen : len ≤ 4096) : ∃ cur : Array Value, cur.size = len * 2 ∧ ∀ w : World, (Instr.makeSlice 46 (.int .i64 (len : Int)) (.int .i64 (len : Int))).run Try.prog w = .ok (.slice (some ⟨w.heap.size, 0, none⟩) len len) (w.alloc (.cells cur 54)) := by
  obtain ⟨i0, hi, hz0, hz1, hz2⟩ := info_parts info54
  refine ⟨madeCells (Value.agg #[.int .u32 0, .int .u32 0]).cells (len * i0.size), by rw [size_madeCells, hz1], fun w => ?_⟩
  have := run_make (P := Try.prog) w 46 54 i0 _ Try.underlying46 hi hz0 .i64 .i64 len len (by omega) (by omega) (by rw [hz2]; omega) (by omega)
  rw [this, Int.toNat_natCast]
theorem make_probes (len : Nat) (hlen : len ≤ 4096) : ∃ cur : Array Value, cur.size = len * 2 ∧ ∀ w : World, (Instr.makeSlice 24 (.int .i64 (len : Int)) (.int .i64 (len : Int))).run Try.prog w = .ok (.slice (some ⟨w.heap.size, 0, none⟩) len len) (w.alloc (.cells cur 35)) := by
  obtain ⟨i0, hi, hz0, hz1, hz2⟩ := info_parts info35
  refine ⟨madeCells (Value.agg #[.int .u64 0, .int .u64 0]).cells (len * i0.size), by rw [size_madeCells, hz1], fun w => ?_⟩
  have := run_make (P := Try.prog) w 24 35 i0 _ Try.underlying24 hi hz0 .i64 .i64 len len (by omega) (by omega) (by rw [hz2]; omega) (by omega)
  rw [this, Int.toNat_natCast]

set_option maxHeartbeats 1000000 in
theorem copyPairs_some (ad : Addr) (len cap : Nat) (pr : Nat → Nat × Nat) (w : World) (hlen : len ≤ 4096) (h : TwosAt w .u32 (some ad) len pr) :
    Calls Try.prog 22 #[.slice (some ad) len cap] w fun e w' => e = .returned (.slice (some ⟨w.heap.size, 0, none⟩) len len) ∧ TwosAt w' .u32 (some ⟨w.heap.size, 0, none⟩) len pr ∧ Below w.heap.size w w' := by
  have hq : ∀ (w : World) (a : Option Addr) (n c n' c' : Nat), (binOp .eql 46 (.slice a n c) (.slice none n' c')).run Try.prog w = .ok (.bool a.isNone) w := fun w a n c n' c' => Lib.run_eql_slice_nil w _ _ a n c n' c' Try.underlying46
  obtain ⟨cur0, hc0, hmk⟩ := make_pairs len hlen
  have HS := hide h
  have HC0 := hide hc0
  clear h hc0
  go_enter Try.func22, Try.ntmps22
  go_wp2
  go_loopw [4] (fun i wr => ∃ k : Nat, k ≤ len ∧ i = .int .i64 k ∧ CopyTwo w wr .u32 54 len k pr) (fun i _ => len - (intOf i).toNat)
  case atStart =>
    exact ⟨0, Nat.zero_le _, rfl, (Below.refl _ _).alloc (Nat.le_refl _) _, cur0, heap_alloc_new' _ _, HC0.out, fun i hi => by omega⟩
  case round =>
    obtain ⟨k, hk, rfl, hrel⟩ := hrel
    have HR := hide hrel
    clear hrel hmk
    by_cases hlt : k < len
    · obtain ⟨b, off, hb', hbl, c0, c1⟩ := HS.out k hlt
      obtain rfl := Option.some.inj hb'
      rw [← HR.out.low.cell hbl] at c0 c1
      obtain ⟨⟨v0, d0⟩, ⟨v1, d1⟩, hz⟩ := HR.out.cells hlt
      have HN := hide (HR.out.next hlt)
      clear hbl
      go_wp2
      go_roundw
      case rel => exact ⟨k + 1, by omega, by go_num, HN.out⟩
      case measure => simp [intOf]; omega
    · obtain rfl : len = k := by omega
      go_wp2
      go_ret
      exact ⟨rfl, HR.out.at, HR.out.low⟩

set_option maxHeartbeats 1000000 in
theorem copyPairs_nil (w : World) :
    Calls Try.prog 22 #[.slice none 0 0] w fun e w' => e = .returned (.slice none 0 0) ∧ w = w' := by
  have hq : ∀ (w : World) (a : Option Addr) (n c n' c' : Nat), (binOp .eql 46 (.slice a n c) (.slice none n' c')).run Try.prog w = .ok (.bool a.isNone) w := fun w a n c n' c' => Lib.run_eql_slice_nil w _ _ a n c n' c' Try.underlying46
  go_enter Try.func22, Try.ntmps22
  go_wp2
  go_ret
  exact ⟨rfl, rfl⟩

theorem copyPairs_any (a : Option Addr) (len cap : Nat) (pr : Nat → Nat × Nat) (w : World) (hlen : len ≤ 4096) (hnil : a = none → len = 0 ∧ cap = 0) (h : TwosAt w .u32 a len pr) :
    Calls Try.prog 22 #[.slice a len cap] w fun e w' => ∃ a' cap', e = .returned (.slice a' len cap') ∧ TwosAt w' .u32 a' len pr ∧ Below w.heap.size w w' := by
  cases a with
  | none =>
    obtain ⟨rfl, rfl⟩ := hnil rfl
    refine (copyPairs_nil w).mono ?_
    rintro e w' ⟨rfl, rfl⟩
    exact ⟨none, 0, rfl, h, Below.refl _ _⟩
  | some ad =>
    refine (copyPairs_some ad len cap pr w hlen h).mono ?_
    rintro e w' ⟨rfl, h1, h2⟩
    exact ⟨_, _, rfl, h1, h2⟩

set_option maxHeartbeats 1000000 in
theorem copyProbes_some (ad : Addr) (len cap : Nat) (pr : Nat → Nat × Nat) (w : World) (hlen : len ≤ 4096) (h : TwosAt w .u64 (some ad) len pr) :
    Calls Try.prog 10 #[.slice (some ad) len cap] w fun e w' => e = .returned (.slice (some ⟨w.heap.size, 0, none⟩) len len) ∧ TwosAt w' .u64 (some ⟨w.heap.size, 0, none⟩) len pr ∧ Below w.heap.size w w' := by
  have hq : ∀ (w : World) (a : Option Addr) (n c n' c' : Nat), (binOp .eql 24 (.slice a n c) (.slice none n' c')).run Try.prog w = .ok (.bool a.isNone) w := fun w a n c n' c' => Lib.run_eql_slice_nil w _ _ a n c n' c' Try.underlying24
  obtain ⟨cur0, hc0, hmk⟩ := make_probes len hlen
  have HS := hide h
  have HC0 := hide hc0
  clear h hc0
  go_enter Try.func10, Try.ntmps10
  go_wp2
  go_loopw [4] (fun i wr => ∃ k : Nat, k ≤ len ∧ i = .int .i64 k ∧ CopyTwo w wr .u64 35 len k pr) (fun i _ => len - (intOf i).toNat)
  case atStart =>
    exact ⟨0, Nat.zero_le _, rfl, (Below.refl _ _).alloc (Nat.le_refl _) _, cur0, heap_alloc_new' _ _, HC0.out, fun i hi => by omega⟩
  case round =>
    obtain ⟨k, hk, rfl, hrel⟩ := hrel
    have HR := hide hrel
    clear hrel hmk
    by_cases hlt : k < len
    · obtain ⟨b, off, hb', hbl, c0, c1⟩ := HS.out k hlt
      obtain rfl := Option.some.inj hb'
      rw [← HR.out.low.cell hbl] at c0 c1
      obtain ⟨⟨v0, d0⟩, ⟨v1, d1⟩, hz⟩ := HR.out.cells hlt
      have HN := hide (HR.out.next hlt)
      clear hbl
      go_wp2
      go_roundw
      case rel => exact ⟨k + 1, by omega, by go_num, HN.out⟩
      case measure => simp [intOf]; omega
    · obtain rfl : len = k := by omega
      go_wp2
      go_ret
      exact ⟨rfl, HR.out.at, HR.out.low⟩

set_option maxHeartbeats 1000000 in
theorem copyProbes_nil (w : World) :
    Calls Try.prog 10 #[.slice none 0 0] w fun e w' => e = .returned (.slice none 0 0) ∧ w = w' := by
  have hq : ∀ (w : World) (a : Option Addr) (n c n' c' : Nat), (binOp .eql 24 (.slice a n c) (.slice none n' c')).run Try.prog w = .ok (.bool a.isNone) w := fun w a n c n' c' => Lib.run_eql_slice_nil w _ _ a n c n' c' Try.underlying24
  go_enter Try.func10, Try.ntmps10
  go_wp2
  go_ret
  exact ⟨rfl, rfl⟩

theorem copyProbes_any (a : Option Addr) (len cap : Nat) (pr : Nat → Nat × Nat) (w : World) (hlen : len ≤ 4096) (hnil : a = none → len = 0 ∧ cap = 0) (h : TwosAt w .u64 a len pr) :
    Calls Try.prog 10 #[.slice a len cap] w fun e w' => ∃ a' cap', e = .returned (.slice a' len cap') ∧ TwosAt w' .u64 a' len pr ∧ Below w.heap.size w w' := by
  cases a with
  | none =>
    obtain ⟨rfl, rfl⟩ := hnil rfl
    refine (copyProbes_nil w).mono ?_
    rintro e w' ⟨rfl, rfl⟩
    exact ⟨none, 0, rfl, h, Below.refl _ _⟩
  | some ad =>
    refine (copyProbes_some ad len cap pr w hlen h).mono ?_
    rintro e w' ⟨rfl, h1, h2⟩
    exact ⟨_, _, rfl, h1, h2⟩

set_option maxHeartbeats 1000000 in
theorem nodeOf_any (x y : Nat) (w : World) :
    Calls Try.prog 24 #[.agg #[.int .u32 (x : Int), .int .u32 (y : Int)]] w fun e w' => e = .returned (.agg #[.int .u32 (x : Int), .int .u32 (y : Int)]) ∧ Below w.heap.size w w' := by
  go_enter Try.func24, Try.ntmps24
  go_wp2
  refine bodyPost_ret (v := .agg #[.int .u32 (x : Int), .int .u32 (y : Int)]) (by simp [results, Try.results24, go_sem]) rfl ⟨rfl, ?_⟩
  repeat (first | exact Below.refl _ _ | refine Below.alloc ?_ (by simp) _)

set_option maxHeartbeats 1000000 in
theorem zzNewNode_any {w : World} {t : Nat} {S : Pl.St} {own : Nat → Prop} (h : Rep w t S own) (hr : S.cnt < 2147483648) (hfr : ∀ r, r ∈ S.free → r < S.cnt) (hfl : S.free.length < 2147483648) (x y : Nat) :
    Calls Try.prog 23 #[.pointer (some ⟨t, 0, none⟩), .agg #[.int .u32 (x : Int), .int .u32 (y : Int)]] w fun e w' => e = .returned (.int .u32 ((Pl.newNode S (x, y)).1 : Int)) ∧ Leaves own t (Pl.newNode S (x, y)).2 w w' := by
  have hb : Below w.heap.size w (w.alloc (.cells #[.int .u32 (x : Int), .int .u32 (y : Int)] 51)) := (Below.refl _ _).alloc (Nat.le_refl _) _
  have HN := hide (newNode_any (h.below hb) hr hfr hfl x y)
  clear h hfr
  go_enter Try.func23, Try.ntmps23
  go_wp2_with fail
  refine HN.out.mono ?_
  rintro e w1 ⟨rfl, hl⟩
  have HL := hide (hl.from_below hb)
  clear hl HN hb
  go_wp2_with fail
  go_ret
  exact ⟨rfl, HL.out⟩
end Go.Proofs.Qxb6600977a
