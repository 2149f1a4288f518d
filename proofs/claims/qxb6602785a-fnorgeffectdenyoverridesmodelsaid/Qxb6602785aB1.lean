/-
  SEAT b6602785a: ids ([16]byte) as values, their equality, and maps keyed by them.
-/
import Derived.Test.Qxb6602785aRows
import Derived.WalkKit
import Derived.WalkSpells
import Derived.WalkLawsBesides
import Derived.Maps.OwnSet
import Derived.DeepKeys4
import Derived.Deep.MidRow
set_option linter.unusedVariables false
set_option linter.unusedSimpArgs false
namespace Go.Proofs.Qxb6602785a
open Go.RowKit Go.Maps

theorem hide {p : Prop} (h : p) : Hid p := h

/-- An id: sixteen bytes. -/
structure IsId (l : List Nat) : Prop where
  len : l.length = 16
  byte : ∀ n ∈ l, n < 256

/-- The cells of an id. -/
def uc (l : List Nat) : Array Value := (l.map fun (n : Nat) => Value.int .u8 (n : Int)).toArray
def uLits (l : List Nat) : List Lit := l.map fun (n : Nat) => Lit.int .u8 (n : Int)

theorem uc_size (l : List Nat) : (uc l).size = l.length := by simp [uc]
theorem map_inj_of {β : Type} {f : Nat → β} (hf : ∀ x y, f x = f y → x = y) : ∀ {a b : List Nat}, a.map f = b.map f → a = b
  | [], [], _ => rfl
  | [], _ :: _, h => by simp at h
  | _ :: _, [], h => by simp at h
  | x :: a, y :: b, h => by
    simp only [List.map_cons, List.cons.injEq] at h
    rw [hf x y h.1, map_inj_of hf h.2]
theorem uc_inj {a b : List Nat} (h : uc a = uc b) : a = b := by
  have : a.map (fun (n : Nat) => Value.int .u8 (n : Int)) = b.map (fun (n : Nat) => Value.int .u8 (n : Int)) := by simpa [uc] using h
  exact map_inj_of (fun x y h => by simp only [Value.int.injEq] at h; omega) this
theorem uLits_inj {a b : List Nat} (h : uLits a = uLits b) : a = b :=
  map_inj_of (fun x y h => by simp only [Lit.int.injEq] at h; omega) h

theorem cells5 : Try.prog.cellsOf 5 = 1 := by kernel_rfl
theorem cells39 : Try.prog.cellsOf 39 = 16 := by kernel_rfl
theorem cells44 : Try.prog.cellsOf 44 = 16 := by kernel_rfl

theorem mapM_range_some {α : Type} (f : Nat → Option α) (g : Nat → α) : ∀ (l : List Nat), (∀ i ∈ l, f i = some (g i)) → l.mapM f = some (l.map g)
  | [], _ => by simp
  | x :: r, h => by
    rw [List.mapM_cons, h x (by simp), mapM_range_some f g r (fun i hi => h i (by simp [hi]))]
    rfl

theorem flatten_one {α β : Type} (g : α → β) : ∀ r : List α, (r.map fun i => [g i]).flatten = r.map g
  | [] => rfl
  | a :: r => by rw [List.map_cons, List.flatten_cons, flatten_one g r]; rfl

theorem lits_id {t : TypeId} (hu : Try.prog.underlying t = some (.array 16 5)) (hc : Try.prog.cellsOf t = 16) {l : List Nat} (h : IsId l) (d : Nat) : Try.prog.keyLits (d + 2) t (uc l).toList = some (uLits l) := by
  have hlen : (uc l).toList.length = 16 := by simp [uc, h.len]
  have hf : ∀ i ∈ List.range 16, Try.prog.keyLits (d + 1) 5 (((uc l).toList.drop (i * 1)).take 1) = some [Lit.int .u8 (l.getD i 0 : Int)] := by
    intro i hi
    have hi' : i < l.length := by rw [h.len]; exact List.mem_range.1 hi
    have hi2 : i < (uc l).toList.length := by rw [hlen, ← h.len]; exact hi'
    rw [Nat.mul_one, List.drop_eq_getElem_cons hi2]
    simp only [List.take_succ_cons, List.take_zero]
    have hn := h.byte l[i] (List.getElem_mem hi')
    have he : (uc l).toList[i] = .int .u8 (l[i] : Int) := by simp [uc]
    have hw : (Lit.int .u8 (l[i] : Int)).wf = true := by simp [Lit.wf, IntKind.min, IntKind.max, IntKind.signed, IntKind.bits]; omega
    have hg : l.getD i 0 = l[i] := by simp [List.getD, List.getElem?_eq_getElem hi']
    rw [he, hg]
    simp only [Program.keyLits, Try.underlying5, hw, and_self, if_true]
  have hm := mapM_range_some _ _ _ hf
  have hfl : ((List.range 16).map fun i => [Lit.int .u8 (l.getD i 0 : Int)]).flatten = uLits l := by
    rw [flatten_one]
    apply List.ext_getElem
    · simp [uLits, h.len]
    · intro i h1 h2
      simp [uLits] at h1 h2
      simp [uLits, List.getD, List.getElem?_eq_getElem h2]
  unfold Program.keyLits
  simp only [hu, hc, hlen, cells5, if_true, hm, Option.map_some, hfl]

theorem eq_ids {t : TypeId} (hu : Try.prog.underlying t = some (.array 16 5)) (hc : Try.prog.cellsOf t = 16) (hk : Try.prog.keyTypeAt 2 t = true) {a b : List Nat} (ha : IsId a) (hb : IsId b) (w : World) :
    (Op.equalIn 10000 t (.agg (uc a)) (.agg (uc b))).run Try.prog w = .ok (decide (a = b)) w := by
  have fa : (Value.agg (uc a)).formed Try.prog t = true := by simp [Value.formed, hu, hc, uc_size, ha.len]
  have fb : (Value.agg (uc b)).formed Try.prog t = true := by simp [Value.formed, hu, hc, uc_size, hb.len]
  obtain ⟨r, hr, hi⟩ := (run_equalIn_deep (P := Try.prog) 9998 2 t hk) w 2 2 (.agg (uc a)) (.agg (uc b)) (uLits a) (uLits b) fa fb (lits_id hu hc ha 0) (lits_id hu hc hb 0)
  have hr' : r = decide (a = b) := by
    by_cases e : a = b
    · rw [hi.2 (by rw [e]), decide_eq_true e]
    · rw [decide_eq_false e]
      cases r
      · rfl
      · exact absurd (uLits_inj (hi.1 rfl)) e
  rw [hr'] at hr
  exact hr

theorem eq39 {a b : List Nat} (ha : IsId a) (hb : IsId b) (w : World) : (Op.equalIn 10000 39 (.agg (uc a)) (.agg (uc b))).run Try.prog w = .ok (decide (a = b)) w :=
  eq_ids Try.underlying39 cells39 (by kernel_rfl) ha hb w

/-! ### Maps keyed by ids -/
theorem laid : laidOutB Try.prog = true := by kernel_rfl
theorem key44 : Try.prog.keyTypeAt 2 44 = true := by kernel_rfl
theorem law44 : Keyed Try.prog 44 := Keyed.of_law (deep_law_laid laid (m := 2) (by decide) (k := 44) (of_decide_eq_true (by kernel_rfl)) key44 (by rw [Try.underlying44]))
theorem types_size : Try.prog.types.size + 1 = (Try.prog.types.size - 1) + 2 := by
  have : 1 ≤ Try.prog.types.size := of_decide_eq_true (by kernel_rfl)
  omega
theorem keyType44 : Try.prog.keyType 44 = true := by kernel_rfl

/-- What an id reads as, as a key. -/
def kl (l : List Nat) : Lit := .string (keyBytes (uLits l))

theorem keyOf_id {l : List Nat} (h : IsId l) : keyOf Try.prog 44 (.agg (uc l)) = some (kl l) := by
  have hf : (Value.agg (uc l)).formed Try.prog 44 = true := by simp [Value.formed, Try.underlying44, cells44, uc_size, h.len]
  simp only [keyOf, Try.underlying44, keyType44, hf, Bool.and_self, if_true, Value.cells]
  rw [types_size, lits_id Try.underlying44 cells44 h]
  rfl

theorem kl_inj {a b : List Nat} (ha : IsId a) (hb : IsId b) (h : kl a = kl b) : a = b := by
  have h1 := keyOf_id ha
  rw [h] at h1
  have := law44.inj h1 (keyOf_id hb)
  exact uc_inj (by simpa using this)

def tokR (v : Value) : Option (DataW Value × List MemPlace) := some (.held v, [])

/-- Block b is a map keyed by ids, of at most n entries, that holds just what f says. -/
def MapIs (w : World) (b n : Nat) (f : List Nat → Option Value) : Prop :=
  ∃ D : DataW Value, w.ownsMap Try.prog 44 tokR b n D ∧ ∀ l, IsId l → Maps.has D (kl l) = (f l).isSome ∧ ∀ z, D.atKey (kl l) (.held z) = .held ((f l).getD z)

theorem MapIs.made (w : World) : MapIs (w.alloc (.map #[] 0)) w.heap.size 0 (fun _ => none) :=
  ⟨_, World.ownsMap_made w Try.prog 44 tokR, fun l _ => ⟨rfl, fun z => rfl⟩⟩

theorem MapIs.lt {w : World} {b n : Nat} {f : List Nat → Option Value} (h : MapIs w b n f) : b < w.heap.size := by
  obtain ⟨D, h1, _⟩ := h; exact h1.lt
theorem MapIs.keep {w w' : World} {b n : Nat} {f : List Nat → Option Value} (h : MapIs w b n f) (hb : w'.heap[b]? = w.heap[b]?) : MapIs w' b n f := by
  obtain ⟨D, ⟨es, clock, h1, r⟩, h2⟩ := h
  exact ⟨D, ⟨es, clock, hb.trans h1, r⟩, h2⟩
theorem MapIs.below {w w' : World} {b n : Nat} {f : List Nat → Option Value} (h : MapIs w b n f) (hb : Below w.heap.size w w') : MapIs w' b n f := h.keep (hb.block _ h.lt)
theorem MapIs.mono {w : World} {b n m : Nat} {f : List Nat → Option Value} (h : MapIs w b n f) (hm : n ≤ m) : MapIs w b m f := by
  obtain ⟨D, h1, h2⟩ := h; exact ⟨D, h1.mono hm, h2⟩
theorem MapIs.congr {w : World} {b n : Nat} {f g : List Nat → Option Value} (h : MapIs w b n f) (hfg : ∀ l, IsId l → f l = g l) : MapIs w b n g := by
  obtain ⟨D, h1, h2⟩ := h; exact ⟨D, h1, fun l hl => by rw [← hfg l hl]; exact h2 l hl⟩

theorem MapIs.look {w : World} {b n : Nat} {f : List Nat → Option Value} (h : MapIs w b n f) {t e : TypeId} (ht : Try.prog.underlying t = some (.map 44 e)) {z : Value} (hz : (zeroValue e).run Try.prog w = .ok z w) {l : List Nat} (hl : IsId l) :
    (Instr.lookup t (.map (some b)) (.agg (uc l)) false).run Try.prog w = .ok ((f l).getD z) w := by
  obtain ⟨D, h1, h2⟩ := h
  obtain ⟨v, ps, hr, hv⟩ := h1.lookup law44 ht hz (zd := .held z) (zp := []) rfl (keyOf_id hl)
  rw [(h2 l hl).2 z] at hv
  simp only [tokR, Option.some.injEq, Prod.mk.injEq, DataW.held.injEq] at hv
  rw [hr, hv.1]

theorem MapIs.look_ok {w : World} {b n : Nat} {f : List Nat → Option Value} (h : MapIs w b n f) {t e : TypeId} (ht : Try.prog.underlying t = some (.map 44 e)) {z : Value} (hz : (zeroValue e).run Try.prog w = .ok z w) {l : List Nat} (hl : IsId l) :
    (Instr.lookup t (.map (some b)) (.agg (uc l)) true).run Try.prog w = .ok (.tuple #[(f l).getD z, .bool (f l).isSome]) w := by
  obtain ⟨D, h1, h2⟩ := h
  obtain ⟨v, ps, hr, hv⟩ := h1.look_ok law44 ht hz (zd := .held z) (zp := []) rfl (keyOf_id hl)
  rw [(h2 l hl).2 z] at hv
  simp only [tokR, Option.some.injEq, Prod.mk.injEq, DataW.held.injEq] at hv
  rw [hr, hv.1, (h2 l hl).1]

theorem look_none {w : World} {t e : TypeId} (ht : Try.prog.underlying t = some (.map 44 e)) {z : Value} (hz : (zeroValue e).run Try.prog w = .ok z w) {l : List Nat} (hl : IsId l) :
    (Instr.lookup t (.map none) (.agg (uc l)) false).run Try.prog w = .ok z w :=
  Maps.look_nil false law44 ht hz (keyOf_id hl)

theorem MapIs.update {w : World} {b n : Nat} {f : List Nat → Option Value} (h : MapIs w b n f) {t e : TypeId} (ht : Try.prog.underlying t = some (.map 44 e)) (hn : n < maxLen) {l : List Nat} (hl : IsId l) (v : Value) :
    ∃ w', (Instr.mapUpdate t (.map (some b)) (.agg (uc l)) v).run Try.prog w = .ok () w' ∧ MapIs w' b (n + 1) (fun x => if x = l then some v else f x) ∧ w.grownBy w' (some b) := by
  obtain ⟨D, h1, h2⟩ := h
  obtain ⟨w', hr, h3, h4⟩ := h1.update law44 ht hn (d := .held v) (ps := []) (keyOf_id hl) rfl
  refine ⟨w', hr, ⟨_, h3, fun x hx => ?_⟩, h4⟩
  have hkey : WideAt.IsKeyLit (kl l) := law44.key (keyOf_id hl)
  by_cases e : x = l
  · subst e
    exact ⟨by rw [has_put_same h1.isMap hkey]; simp, fun z => by rw [atKey_put_same h1.isMap hkey]; simp⟩
  · have hne : kl x ≠ kl l := fun h' => e (kl_inj hx hl h')
    exact ⟨by rw [has_put_other hne, (h2 x hx).1]; simp [e], fun z => by rw [atKey_put_other hne, (h2 x hx).2 z]; simp [e]⟩
end Go.Proofs.Qxb6602785a
