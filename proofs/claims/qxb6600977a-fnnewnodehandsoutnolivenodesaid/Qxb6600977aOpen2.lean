/-
  SEAT b6600977a: how the arguments read: slices of two words.
-/
import Derived.Test.Qxb6600977aOpen
import Derived.Test.Qxb6600977aL3
set_option linter.unusedVariables false
set_option linter.unusedSimpArgs false
namespace Go.Proofs.Qxb6600977a
open Go.ChangeShapes Go.WideShapes Go.ChangeAt Go.RowKit Go.Deep

theorem cells35 : Try.prog.cellsOf 35 = 2 := by kernel_rfl
theorem cells54 : Try.prog.cellsOf 54 = 2 := by kernel_rfl

section
variable {H : Type} {enc : TypeId × Value → H} {W : World}

theorem open_probes {a : Option Addr} {len cap : Nat} {d : DataW H} {p : List MemPlace} (h : DataW.Trod enc Try.prog W 0 (fun _ => true) true 24 (.slice a len cap) d p) :
    (a = none → len = 0 ∧ cap = 0) ∧ len ≤ maxLen ∧ ∃ pr : Nat → Nat × Nat, (∀ i, i < len → (pr i).1 < 18446744073709551616 ∧ (pr i).2 < 18446744073709551616) ∧ TwosAt W .u64 a len pr := by
  obtain ⟨fuel, hf⟩ := h
  rcases open_slice Try.underlying24 hf with ⟨hcs, _⟩ | ⟨x, len', cap', m, n, D, Pl, hcs, _, hl, hm, hmm, _, hx⟩
  · simp [Value.cells] at hcs
    obtain ⟨rfl, rfl, rfl⟩ := hcs
    exact ⟨fun _ => ⟨rfl, rfl⟩, Nat.zero_le _, fun _ => ⟨0, 0⟩, fun i hi => by omega, fun i hi => by omega⟩
  · simp [Value.cells] at hcs
    obtain ⟨rfl, rfl, rfl⟩ := hcs
    simp only [if_true] at hmm
    subst hmm
    refine ⟨fun h => by simp at h, by omega, ?_⟩
    have key : ∀ i, i < len → ∃ s : Nat × Nat, (s.1 < 18446744073709551616 ∧ s.2 < 18446744073709551616) ∧ ∃ b off, some x = some ⟨b, off, none⟩ ∧ b < W.heap.size ∧ W.cell? ⟨b, off + i * 2, none⟩ = some (.int .u64 (s.1 : Int)) ∧ W.cell? ⟨b, off + i * 2 + 1, none⟩ = some (.int .u64 (s.2 : Int)) := by
      intro i hi
      obtain ⟨cs', h1, h2⟩ := hx i (by omega)
      rw [cells35] at h1
      obtain ⟨_, hlen, hcell⟩ := World.cells?_some h1
      obtain ⟨xs, n', _, _, _, hsz, hfld⟩ := DataW.trod_struct Try.underlying35 h2
      have hsz' : xs.length = 2 := hsz
      have get : ∀ j, j < 2 → ∃ y, xs[j]? = some y := fun j hj => ⟨xs[j]'(by omega), List.getElem?_eq_getElem (by omega)⟩
      obtain ⟨y0, g0⟩ := get 0 (by omega)
      obtain ⟨y1, g1⟩ := get 1 (by omega)
      obtain ⟨m0, e0, l0⟩ := word_at (o := 0) ((hfld 0 _ rfl).trans g0)
      obtain ⟨m1, e1, l1⟩ := word_at (o := 1) ((hfld 1 _ rfl).trans g1)
      have c0 := (hcell 0 (by omega)).trans e0
      have c1 := (hcell 1 (by omega)).trans e1
      obtain ⟨b, off, spot⟩ := x
      have hspot : spot = none := by
        obtain ⟨cs0, h10, _⟩ := hx 0 (by omega)
        rw [cells35] at h10
        obtain ⟨_, hlen0, hcell0⟩ := World.cells?_some h10
        have := hcell0 0 (by omega)
        simp only [Nat.zero_mul, Addr.add, if_true] at this
        exact World.cell?_spot (this.trans (List.getElem?_eq_getElem (by omega)))
      subst hspot
      simp only [add_plain] at c0 c1
      exact ⟨⟨m0, m1⟩, ⟨l0, l1⟩, b, off, rfl, World.block_lt_of_cell? W _ c0, c0, c1⟩
    obtain ⟨sp, hsp⟩ := @choose_lt (Nat × Nat) ⟨⟨0, 0⟩⟩ len _ key
    exact ⟨sp, fun i hi => (hsp i hi).1, fun i hi => (hsp i hi).2⟩

theorem open_pairs {a : Option Addr} {len cap : Nat} {d : DataW H} {p : List MemPlace} (h : DataW.Trod enc Try.prog W 0 (fun _ => true) true 46 (.slice a len cap) d p) :
    (a = none → len = 0 ∧ cap = 0) ∧ len ≤ maxLen ∧ ∃ pr : Nat → Nat × Nat, (∀ i, i < len → (pr i).1 < 4294967296 ∧ (pr i).2 < 4294967296) ∧ TwosAt W .u32 a len pr := by
  obtain ⟨fuel, hf⟩ := h
  rcases open_slice Try.underlying46 hf with ⟨hcs, _⟩ | ⟨x, len', cap', m, n, D, Pl, hcs, _, hl, hm, hmm, _, hx⟩
  · simp [Value.cells] at hcs
    obtain ⟨rfl, rfl, rfl⟩ := hcs
    exact ⟨fun _ => ⟨rfl, rfl⟩, Nat.zero_le _, fun _ => ⟨0, 0⟩, fun i hi => by omega, fun i hi => by omega⟩
  · simp [Value.cells] at hcs
    obtain ⟨rfl, rfl, rfl⟩ := hcs
    simp only [if_true] at hmm
    subst hmm
    refine ⟨fun h => by simp at h, by omega, ?_⟩
    have key : ∀ i, i < len → ∃ s : Nat × Nat, (s.1 < 4294967296 ∧ s.2 < 4294967296) ∧ ∃ b off, some x = some ⟨b, off, none⟩ ∧ b < W.heap.size ∧ W.cell? ⟨b, off + i * 2, none⟩ = some (.int .u32 (s.1 : Int)) ∧ W.cell? ⟨b, off + i * 2 + 1, none⟩ = some (.int .u32 (s.2 : Int)) := by
      intro i hi
      obtain ⟨cs', h1, h2⟩ := hx i (by omega)
      rw [cells54] at h1
      obtain ⟨_, hlen, hcell⟩ := World.cells?_some h1
      obtain ⟨xs, n', _, _, _, hsz, hfld⟩ := DataW.trod_struct Try.underlying54 h2
      have hsz' : xs.length = 2 := hsz
      have get : ∀ j, j < 2 → ∃ y, xs[j]? = some y := fun j hj => ⟨xs[j]'(by omega), List.getElem?_eq_getElem (by omega)⟩
      obtain ⟨y0, g0⟩ := get 0 (by omega)
      obtain ⟨y1, g1⟩ := get 1 (by omega)
      obtain ⟨m0, e0, l0⟩ := half_at (o := 0) ((hfld 0 _ rfl).trans g0)
      obtain ⟨m1, e1, l1⟩ := half_at (o := 1) ((hfld 1 _ rfl).trans g1)
      have c0 := (hcell 0 (by omega)).trans e0
      have c1 := (hcell 1 (by omega)).trans e1
      obtain ⟨b, off, spot⟩ := x
      have hspot : spot = none := by
        obtain ⟨cs0, h10, _⟩ := hx 0 (by omega)
        rw [cells54] at h10
        obtain ⟨_, hlen0, hcell0⟩ := World.cells?_some h10
        have := hcell0 0 (by omega)
        simp only [Nat.zero_mul, Addr.add, if_true] at this
        exact World.cell?_spot (this.trans (List.getElem?_eq_getElem (by omega)))
      subst hspot
      simp only [add_plain] at c0 c1
      exact ⟨⟨m0, m1⟩, ⟨l0, l1⟩, b, off, rfl, World.block_lt_of_cell? W _ c0, c0, c1⟩
    obtain ⟨sp, hsp⟩ := @choose_lt (Nat × Nat) ⟨⟨0, 0⟩⟩ len _ key
    exact ⟨sp, fun i hi => (hsp i hi).1, fun i hi => (hsp i hi).2⟩
end
end Go.Proofs.Qxb6600977a
