/-
  SEAT b6602785a: how the arguments read: lists of permissions, of entries, of roles; pointers to ids.
-/
import Derived.Test.Qxb6602785aB5
import Derived.Deep.Slices
import Derived.ProofKit
import Derived.OpenShut
import Derived.ChangeOld
import Derived.Below
set_option linter.unusedVariables false
set_option linter.unusedSimpArgs false
namespace Go.Proofs.Qxb6602785a
open Go.ChangeShapes Go.WideShapes Go.ChangeAt Go.RowKit Go.Deep

theorem oc4 : Try.prog.cellsOf 4 = 1 := by kernel_rfl
theorem oc9 : Try.prog.cellsOf 9 = 1 := by kernel_rfl
theorem oc35 : Try.prog.cellsOf 35 = 1 := by kernel_rfl
theorem oc36 : Try.prog.cellsOf 36 = 1 := by kernel_rfl
theorem oc38 : Try.prog.cellsOf 38 = 5 := by kernel_rfl
theorem oc39 : Try.prog.cellsOf 39 = 16 := by kernel_rfl
theorem oc63 : Try.prog.cellsOf 63 = 21 := by kernel_rfl
theorem oc65 : Try.prog.cellsOf 65 = 17 := by kernel_rfl

section
variable {H : Type} {enc : TypeId × Value → H} {W : World}

theorem take1_at {cs : List Value} {o : Nat} {v : Value} (h : (cs.drop o).take 1 = [v]) : cs[o]? = some v := by
  have := congrArg (fun l => l[0]?) h
  simpa using this

theorem bool_at {base n o : Nat} {spare : Nat → Bool} {held : Bool} {cs : List Value} {x : DataW H × List MemPlace} (h : DataW.trod enc Try.prog W base spare held n 4 ((cs.drop o).take (Try.prog.cellsOf 4)) = some x) : ∃ b : Bool, cs[o]? = some (.bool b) := by
  rw [oc4] at h
  obtain ⟨b, hc, _⟩ := DataW.trod_bool Try.underlying4 h
  exact ⟨b, take1_at hc⟩
theorem byte_at {base n o : Nat} {spare : Nat → Bool} {held : Bool} {cs : List Value} {x : DataW H × List MemPlace} (h : DataW.trod enc Try.prog W base spare held n 5 ((cs.drop o).take (Try.prog.cellsOf 5)) = some x) : ∃ m : Nat, cs[o]? = some (.int .u8 (m : Int)) ∧ m < 256 := by
  rw [cells5] at h
  obtain ⟨z, hc, _, hw⟩ := DataW.trod_int Try.underlying5 h
  simp [Lit.wf, IntKind.min, IntKind.max, IntKind.signed, IntKind.bits] at hw
  refine ⟨z.toNat, ?_, by omega⟩
  rw [Int.toNat_of_nonneg hw.1]
  exact take1_at hc
theorem str_at {base n o : Nat} {spare : Nat → Bool} {held : Bool} {cs : List Value} {x : DataW H × List MemPlace} (h : DataW.trod enc Try.prog W base spare held n 9 ((cs.drop o).take (Try.prog.cellsOf 9)) = some x) : ∃ s : ByteArray, cs[o]? = some (.string s) ∧ s.size ≤ maxLen := by
  rw [oc9] at h
  obtain ⟨s, hc, _, hs⟩ := DataW.trod_string Try.underlying9 h
  exact ⟨s, take1_at hc, hs⟩

/-- The cells of an id. -/
theorem id_cells {base n : Nat} {spare : Nat → Bool} {held : Bool} {cs : List Value} {x : DataW H × List MemPlace} (h : DataW.trod enc Try.prog W base spare held n 39 cs = some x) : ∃ id : List Nat, IsId id ∧ cs = (uc id).toList := by
  obtain ⟨xs, m, _, _, hl, hx, hi⟩ := DataW.trod_array Try.underlying39 h
  rw [oc39] at hl
  obtain ⟨f, hf⟩ := choose_lt (α := Nat) (n := 16) (p := fun i z => cs[i]? = some (.int .u8 (z : Int)) ∧ z < 256) (fun i hlt => by
    have h1 := hi i hlt
    rw [List.getElem?_eq_getElem (by omega), show i * Try.prog.cellsOf 5 = i by rw [cells5]; omega] at h1
    exact byte_at h1)
  refine ⟨(List.range 16).map f, ⟨by simp, ?_⟩, ?_⟩
  · intro z hz
    obtain ⟨i, hi, rfl⟩ := List.mem_map.1 hz
    exact (hf i (List.mem_range.1 hi)).2
  · apply List.ext_getElem?
    intro i
    by_cases hlt : i < 16
    · rw [(hf i hlt).1]
      simp [uc, hlt]
    · rw [List.getElem?_eq_none (by omega), List.getElem?_eq_none (by simp [uc]; omega)]

/-- A row: its first cell, and each element's cells. -/
theorem open_row {t e : TypeId} {c fuel : Nat} {a : Option Addr} {len cap : Nat} {x : DataW H × List MemPlace} (ht : Try.prog.underlying t = some (.slice e)) (hc : Try.prog.cellsOf e = c) (hpos : 0 < c)
    (h : DataW.trod enc Try.prog W 0 (fun _ => true) true fuel t [.slice a len cap] = some x) :
    (a = none → len = 0 ∧ cap = 0) ∧ len ≤ maxLen ∧ ∀ i, i < len → ∃ b off cs n y, a = some ⟨b, off, none⟩ ∧ b < W.heap.size ∧ cs.length = c ∧ (∀ j, j < c → W.cell? ⟨b, off + i * c + j, none⟩ = cs[j]?) ∧ DataW.trod enc Try.prog W 0 (fun _ => true) true n e cs = some y := by
  rcases open_slice ht h with ⟨hcs, _⟩ | ⟨x, len', cap', m, n, D, Pl, hcs, _, hl, hm, hmm, _, hx⟩
  · simp at hcs
    obtain ⟨rfl, rfl, rfl⟩ := hcs
    exact ⟨fun _ => ⟨rfl, rfl⟩, Nat.zero_le _, fun i hi => by omega⟩
  · simp at hcs
    obtain ⟨rfl, rfl, rfl⟩ := hcs
    simp only [if_true] at hmm
    subst hmm
    refine ⟨fun h => by simp at h, by omega, ?_⟩
    intro i hi
    rw [hc] at hx
    obtain ⟨cs, h1, h2⟩ := hx i (by omega)
    obtain ⟨_, hlen, hcell⟩ := World.cells?_some h1
    obtain ⟨b, off, spot⟩ := x
    have hspot : spot = none := by
      obtain ⟨cs0, h10, _⟩ := hx 0 (by omega)
      obtain ⟨_, hlen0, hcell0⟩ := World.cells?_some h10
      have := hcell0 0 (by omega)
      simp only [Nat.zero_mul, Addr.add, if_true] at this
      exact World.cell?_spot (this.trans (List.getElem?_eq_getElem (by omega)))
    subst hspot
    simp only [add_plain] at hcell
    have h0 := (hcell 0 hpos).trans (List.getElem?_eq_getElem (by omega))
    exact ⟨b, off, cs, n, _, rfl, World.block_lt_of_cell? W _ h0, hlen, hcell, h2⟩

/-- One permission's cells. -/
theorem perm_cells {n b o : Nat} {cs : List Value} {y : DataW H × List MemPlace} (hcell : ∀ j, j < 21 → W.cell? ⟨b, o + j, none⟩ = cs[j]?) (h : DataW.trod enc Try.prog W 0 (fun _ => true) true n 63 cs = some y) : ∃ p : Pm, PmOk p ∧ PmCells W b o p := by
  obtain ⟨xs, n', _, _, hcl, hsz, hfld⟩ := DataW.trod_struct Try.underlying63 h
  rw [oc63] at hcl
  have hsz' : xs.length = 6 := hsz
  have get : ∀ j, j < 6 → ∃ y, xs[j]? = some y := fun j hj => ⟨xs[j]'(by omega), List.getElem?_eq_getElem (by omega)⟩
  obtain ⟨y0, g0⟩ := get 0 (by omega)
  obtain ⟨y1, g1⟩ := get 1 (by omega)
  obtain ⟨y2, g2⟩ := get 2 (by omega)
  obtain ⟨y3, g3⟩ := get 3 (by omega)
  obtain ⟨y4, g4⟩ := get 4 (by omega)
  obtain ⟨y5, g5⟩ := get 5 (by omega)
  obtain ⟨m0, e0⟩ := bool_at (o := 0) ((hfld 0 _ rfl).trans g0)
  obtain ⟨m1, e1, l1⟩ := byte_at (o := 1) ((hfld 1 _ rfl).trans g1)
  obtain ⟨m2, e2, l2⟩ := str_at (o := 2) ((hfld 2 _ rfl).trans g2)
  obtain ⟨m3, e3⟩ := bool_at (o := 3) ((hfld 3 _ rfl).trans g3)
  have h4 := (hfld 4 _ rfl).trans g4
  obtain ⟨id, hid, e4⟩ := id_cells h4
  obtain ⟨m5, e5, l5⟩ := str_at (o := 20) ((hfld 5 _ rfl).trans g5)
  have e4' : (cs.drop 4).take (Try.prog.cellsOf 39) = (uc id).toList := e4
  rw [oc39] at e4'
  refine ⟨⟨m0, m1, m2, m3, id, m5⟩, ⟨hid, l1, l2, l5⟩, (hcell 0 (by omega)).trans e0, (hcell 1 (by omega)).trans e1, (hcell 2 (by omega)).trans e2, (hcell 3 (by omega)).trans e3, ?_, (hcell 20 (by omega)).trans e5⟩
  intro j v hv
  show W.cell? ⟨b, o + 4 + j, none⟩ = some v
  have hv' : (uc id).toList[j]? = some v := hv
  rw [← e4'] at hv'
  have hj : j < 16 := by
    rcases Nat.lt_or_ge j 16 with h | h
    · exact h
    · rw [List.getElem?_take_eq_none h] at hv'; cases hv'
  rw [List.getElem?_take_of_lt hj, List.getElem?_drop] at hv'
  rw [Nat.add_assoc, hcell (4 + j) (by omega), hv']

/-- A list of permissions. -/
theorem open_perms {fuel : Nat} {a : Option Addr} {len cap : Nat} {x : DataW H × List MemPlace} (h : DataW.trod enc Try.prog W 0 (fun _ => true) true fuel 35 [.slice a len cap] = some x) :
    (a = none → len = 0 ∧ cap = 0) ∧ len ≤ maxLen ∧ ∃ ps : Nat → Pm, (∀ i, i < len → PmOk (ps i)) ∧ PermsAt W a len ps := by
  obtain ⟨h1, h2, h3⟩ := open_row Try.underlying35 oc63 (by omega) h
  have key : ∀ i, i < len → ∃ p : Pm, PmOk p ∧ ∃ b off, a = some ⟨b, off, none⟩ ∧ b < W.heap.size ∧ PmCells W b (off + i * 21) p := by
    intro i hi
    obtain ⟨b, off, cs, n, y, ha, hb, _, hcell, hy⟩ := h3 i hi
    obtain ⟨p, hp, hc⟩ := perm_cells hcell hy
    exact ⟨p, hp, b, off, ha, hb, hc⟩
  obtain ⟨ps, hps⟩ := @choose_lt Pm ⟨pm0⟩ len _ key
  exact ⟨h1, h2, ps, fun i hi => (hps i hi).1, fun i hi => (hps i hi).2⟩

/-- One field that is a slice, as a value. -/
theorem one_slice {t e : TypeId} {n : Nat} {cs : List Value} {y : DataW H × List MemPlace} (ht : Try.prog.underlying t = some (.slice e)) (h : DataW.trod enc Try.prog W 0 (fun _ => true) true n t cs = some y) : ∃ a len cap, cs = [.slice a len cap] := by
  rcases DataW.trod_slice ht h with ⟨h0, _⟩ | ⟨a, len, cap, _, _, _, _, h0, _⟩
  · exact ⟨_, _, _, h0⟩
  · exact ⟨_, _, _, h0⟩

def en0 : En := ⟨[], none, 0, 0, fun _ => pm0⟩

/-- One entry's cells. -/
theorem entry_cells {n b o : Nat} {cs : List Value} {y : DataW H × List MemPlace} (hcell : ∀ j, j < 17 → W.cell? ⟨b, o + j, none⟩ = cs[j]?) (h : DataW.trod enc Try.prog W 0 (fun _ => true) true n 65 cs = some y) : ∃ e : En, EnOk e ∧ EnCells W b o e := by
  obtain ⟨xs, n', _, _, hcl, hsz, hfld⟩ := DataW.trod_struct Try.underlying65 h
  rw [oc65] at hcl
  have hsz' : xs.length = 2 := hsz
  have get : ∀ j, j < 2 → ∃ y, xs[j]? = some y := fun j hj => ⟨xs[j]'(by omega), List.getElem?_eq_getElem (by omega)⟩
  obtain ⟨y0, g0⟩ := get 0 (by omega)
  obtain ⟨y1, g1⟩ := get 1 (by omega)
  have h0 := (hfld 0 _ rfl).trans g0
  obtain ⟨id, hid, e0⟩ := id_cells h0
  have e0' : (cs.drop 0).take (Try.prog.cellsOf 39) = (uc id).toList := e0
  rw [oc39, List.drop_zero] at e0'
  have h1 : DataW.trod enc Try.prog W 0 (fun _ => true) true n' 35 ((cs.drop 16).take (Try.prog.cellsOf 35)) = some y1 := (hfld 1 _ rfl).trans g1
  rw [oc35] at h1
  obtain ⟨a, len, cap, e1⟩ := one_slice Try.underlying35 h1
  rw [e1] at h1
  obtain ⟨k1, k2, ps, k3, k4⟩ := open_perms h1
  refine ⟨⟨id, a, len, cap, ps⟩, ⟨hid, k2, k1, k3⟩, ?_, (hcell 16 (by omega)).trans (take1_at e1), k4⟩
  intro j v hv
  have hv' : (uc id).toList[j]? = some v := hv
  rw [← e0'] at hv'
  have hj : j < 16 := by
    rcases Nat.lt_or_ge j 16 with h | h
    · exact h
    · rw [List.getElem?_take_eq_none h] at hv'; cases hv'
  rw [List.getElem?_take_of_lt hj] at hv'
  rw [hcell j (by omega), hv']

/-- A list of entries. -/
theorem open_entries {fuel : Nat} {a : Option Addr} {len cap : Nat} {x : DataW H × List MemPlace} (h : DataW.trod enc Try.prog W 0 (fun _ => true) true fuel 36 [.slice a len cap] = some x) :
    (a = none → len = 0 ∧ cap = 0) ∧ len ≤ maxLen ∧ ∃ es : Nat → En, (∀ i, i < len → EnOk (es i)) ∧ EntriesAt W a len es := by
  obtain ⟨h1, h2, h3⟩ := open_row Try.underlying36 oc65 (by omega) h
  have key : ∀ i, i < len → ∃ p : En, EnOk p ∧ ∃ b off, a = some ⟨b, off, none⟩ ∧ b < W.heap.size ∧ EnCells W b (off + i * 17) p := by
    intro i hi
    obtain ⟨b, off, cs, n, y, ha, hb, _, hcell, hy⟩ := h3 i hi
    obtain ⟨p, hp, hc⟩ := entry_cells hcell hy
    exact ⟨p, hp, b, off, ha, hb, hc⟩
  obtain ⟨ps, hps⟩ := @choose_lt En ⟨en0⟩ len _ key
  exact ⟨h1, h2, ps, fun i hi => (hps i hi).1, fun i hi => (hps i hi).2⟩


set_option maxRecDepth 100000 in
theorem open_idptr {r : Reach} {b0 : Nat} {t e : TypeId} {v : Value} {d : DataW H} {ps : List MemPlace} (ht : Try.prog.underlying t = some (.pointer e)) (he : e = 39) (hpos : 0 < Try.prog.cellsOf e) (hval : Value.okWide Try.prog W r b0 t v) (hd : DataW.Trod enc Try.prog W 0 (fun _ => true) true t v d ps) : ∃ p o, v = .pointer p ∧ PtrAt W p o := by
  rcases ChangeShapes.open_ptr ht hpos hval hd with ⟨rfl, _⟩ | ⟨b, off, cs, y, fuel, rfl, _, _, hl, hcell, hy⟩
  · exact ⟨none, none, rfl, Or.inl ⟨rfl, rfl⟩⟩
  · subst he
    obtain ⟨id, hid, rfl⟩ := id_cells hy
    rw [oc39] at hl hcell
    refine ⟨_, some id, rfl, Or.inr ⟨b, off, id, rfl, rfl, hid, ?_, ?_⟩⟩
    · exact World.block_lt_of_cell? W ⟨b, off + 0, none⟩ ((hcell 0 (by omega)).trans (List.getElem?_eq_getElem (by omega)))
    · intro j v hv
      have hj : j < 16 := by
        rcases Nat.lt_or_ge j 16 with h | h
        · exact h
        · rw [List.getElem?_eq_none (by omega)] at hv; cases hv
      rw [hcell j hj, hv]
theorem pos39 : 0 < Try.prog.cellsOf 39 := Nat.lt_of_lt_of_eq (by decide : 0 < 16) oc39.symm
end
end Go.Proofs.Qxb6602785a
