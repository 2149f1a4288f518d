/-
  SEAT b6600977a: how the arguments read: a slice of range writes.
-/
import Derived.Test.Qxb6600977aW10
import Derived.Deep.Slices
import Derived.ProofKit
import Derived.OpenShut
import Derived.ChangeOld
import Derived.Below
set_option linter.unusedVariables false
set_option linter.unusedSimpArgs false
namespace Go.Proofs.Qxb6600977a
open Go.ChangeShapes Go.WideShapes Go.ChangeAt Go.RowKit Go.Deep

theorem cells33 : Try.prog.cellsOf 33 = 1 := by kernel_rfl
theorem cells22 : Try.prog.cellsOf 22 = 1 := by kernel_rfl
theorem cells59 : Try.prog.cellsOf 59 = 5 := by kernel_rfl

section
variable {H : Type} {enc : TypeId × Value → H} {W : World}

theorem take1_at {cs : List Value} {o : Nat} {v : Value} (h : (cs.drop o).take 1 = [v]) : cs[o]? = some v := by
  have := congrArg (fun l => l[0]?) h
  simpa using this

/-- A field that is a word. -/
theorem word_at {base n o : Nat} {spare : Nat → Bool} {held : Bool} {cs : List Value} {x : DataW H × List MemPlace} (h : DataW.trod enc Try.prog W base spare held n 33 ((cs.drop o).take (Try.prog.cellsOf 33)) = some x) :
    ∃ m : Nat, cs[o]? = some (.int .u64 (m : Int)) ∧ m < 18446744073709551616 := by
  rw [cells33] at h
  obtain ⟨z, hc, _, hw⟩ := DataW.trod_int Try.underlying33 h
  simp [Lit.wf, IntKind.min, IntKind.max, IntKind.signed, IntKind.bits] at hw
  refine ⟨z.toNat, ?_, by omega⟩
  rw [Int.toNat_of_nonneg hw.1]
  exact take1_at hc
theorem half_at {base n o : Nat} {spare : Nat → Bool} {held : Bool} {cs : List Value} {x : DataW H × List MemPlace} (h : DataW.trod enc Try.prog W base spare held n 22 ((cs.drop o).take (Try.prog.cellsOf 22)) = some x) :
    ∃ m : Nat, cs[o]? = some (.int .u32 (m : Int)) ∧ m < 4294967296 := by
  rw [cells22] at h
  obtain ⟨z, hc, _, hw⟩ := DataW.trod_int Try.underlying22 h
  simp [Lit.wf, IntKind.min, IntKind.max, IntKind.signed, IntKind.bits] at hw
  refine ⟨z.toNat, ?_, by omega⟩
  rw [Int.toNat_of_nonneg hw.1]
  exact take1_at hc

theorem open_spans {a : Option Addr} {len cap : Nat} {d : DataW H} {p : List MemPlace} (h : DataW.Trod enc Try.prog W 0 (fun _ => true) true 23 (.slice a len cap) d p) :
    (a = none → len = 0 ∧ cap = 0) ∧ len ≤ maxLen ∧ ∃ sp : Nat → Sp, (∀ i, i < len → SpOk (sp i)) ∧ SpansAt W a len sp := by
  obtain ⟨fuel, hf⟩ := h
  rcases open_slice Try.underlying23 hf with ⟨hcs, _⟩ | ⟨x, len', cap', m, n, D, Pl, hcs, _, hl, hm, hmm, _, hx⟩
  · simp [Value.cells] at hcs
    obtain ⟨rfl, rfl, rfl⟩ := hcs
    exact ⟨fun _ => ⟨rfl, rfl⟩, Nat.zero_le _, fun _ => ⟨0, 0, 0, 0, 0⟩, fun i hi => by omega, fun i hi => by omega⟩
  · simp [Value.cells] at hcs
    obtain ⟨rfl, rfl, rfl⟩ := hcs
    simp only [if_true] at hmm
    subst hmm
    refine ⟨fun h => by simp at h, by omega, ?_⟩
    have key : ∀ i, i < len → ∃ s : Sp, SpOk s ∧ ∃ b off, some x = some ⟨b, off, none⟩ ∧ b < W.heap.size ∧ SpanCells W b (off + i * 5) s := by
      intro i hi
      obtain ⟨cs', h1, h2⟩ := hx i (by omega)
      rw [cells59] at h1
      obtain ⟨_, hlen, hcell⟩ := World.cells?_some h1
      obtain ⟨xs, n', _, _, _, hsz, hfld⟩ := DataW.trod_struct Try.underlying59 h2
      have hsz' : xs.length = 5 := hsz
      have get : ∀ j, j < 5 → ∃ y, xs[j]? = some y := fun j hj => ⟨xs[j]'(by omega), List.getElem?_eq_getElem (by omega)⟩
      obtain ⟨y0, g0⟩ := get 0 (by omega)
      obtain ⟨y1, g1⟩ := get 1 (by omega)
      obtain ⟨y2, g2⟩ := get 2 (by omega)
      obtain ⟨y3, g3⟩ := get 3 (by omega)
      obtain ⟨y4, g4⟩ := get 4 (by omega)
      obtain ⟨m0, e0, l0⟩ := word_at (o := 0) ((hfld 0 _ rfl).trans g0)
      obtain ⟨m1, e1, l1⟩ := word_at (o := 1) ((hfld 1 _ rfl).trans g1)
      obtain ⟨m2, e2, l2⟩ := word_at (o := 2) ((hfld 2 _ rfl).trans g2)
      obtain ⟨m3, e3, l3⟩ := word_at (o := 3) ((hfld 3 _ rfl).trans g3)
      obtain ⟨m4, e4, l4⟩ := half_at (o := 4) ((hfld 4 _ rfl).trans g4)
      have c0 := (hcell 0 (by omega)).trans e0
      have c1 := (hcell 1 (by omega)).trans e1
      have c2 := (hcell 2 (by omega)).trans e2
      have c3 := (hcell 3 (by omega)).trans e3
      have c4 := (hcell 4 (by omega)).trans e4
      obtain ⟨b, off, spot⟩ := x
      have hspot : spot = none := by
        obtain ⟨cs0, h10, _⟩ := hx 0 (by omega)
        rw [cells59] at h10
        obtain ⟨_, hlen0, hcell0⟩ := World.cells?_some h10
        have := hcell0 0 (by omega)
        simp only [Nat.zero_mul, Addr.add, if_true] at this
        exact World.cell?_spot (this.trans (List.getElem?_eq_getElem (by omega)))
      subst hspot
      simp only [add_plain] at c0 c1 c2 c3 c4
      exact ⟨⟨m0, m1, m2, m3, m4⟩, ⟨l0, l1, l2, l3, l4⟩, b, off, rfl, World.block_lt_of_cell? W _ c0, c0, c1, c2, c3, c4⟩
    obtain ⟨sp, hsp⟩ := @choose_lt Sp ⟨⟨0, 0, 0, 0, 0⟩⟩ len _ key
    exact ⟨sp, fun i hi => (hsp i hi).1, fun i hi => (hsp i hi).2⟩
end
end Go.Proofs.Qxb6600977a
