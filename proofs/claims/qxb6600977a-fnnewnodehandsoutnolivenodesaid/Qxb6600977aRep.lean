/-
  SEAT b6600977a: HOW A TREE LIES IN MEMORY ('RepAt': the struct, its slice of pages, the pages, the slice of free nodes), and what each write to it does to that.
-/
import Derived.Test.Qxb6600977aApp
set_option linter.unusedVariables false
set_option linter.unusedSimpArgs false
namespace Go.Proofs.Qxb6600977a
open Go.RowKit

/-! ### Blocks behind a store, an alloc -/
theorem heap_set_same {w : World} {b o : Nat} {c : Array Value} {e : TypeId} {f : Nat × Nat} (v : Value) (h : w.heap[b]? = some (.cells c e f)) :
    (w.setCell ⟨b, o, none⟩ v).heap[b]? = some (.cells (c.setIfInBounds o v) e f) := by
  simp [World.setCell, Array.getElem?_modify, h]
theorem heap_set_other {w : World} {a : Addr} {v : Value} {k : Nat} (h : k ≠ a.block) : (w.setCell a v).heap[k]? = w.heap[k]? := Below.heap_setCell w a v k h
theorem heap_alloc_lt {w : World} {o : Obj} {k : Nat} (h : k < w.heap.size) : (w.alloc o).heap[k]? = w.heap[k]? := Below.heap_alloc w o k h
theorem heap_alloc_new' (w : World) (o : Obj) : (w.alloc o).heap[w.heap.size]? = some o := by
  show (w.heap.push o)[w.heap.size]? = _
  simp
theorem lt_of_heap {w : World} {k : Nat} {o : Obj} (h : w.heap[k]? = some o) : k < w.heap.size := (Array.getElem?_eq_some_iff.1 h).1
theorem cell_of_heap {w : World} {b o : Nat} {c : Array Value} {e : TypeId} {f : Nat × Nat} (h : w.heap[b]? = some (.cells c e f)) : w.cell? ⟨b, o, none⟩ = c[o]? := by simp [World.cell?, h]
theorem frozen_of_heap {w : World} {b o : Nat} {c : Array Value} {e : TypeId} (h : w.heap[b]? = some (.cells c e (0, 0))) : w.frozen? ⟨b, o, none⟩ = false := by simp [World.frozen?, h]

/-! ### What a call may do to memory: 'own' is the tree's before it, 'own'' behind it -/
structure Step (own own' : Nat → Prop) (w w' : World) : Prop where
  os : w'.os = w.os
  tape : w'.tape = w.tape
  output : w'.output = w.output
  size : w.heap.size ≤ w'.heap.size
  block : ∀ k, k < w.heap.size → ¬ own k → w'.heap[k]? = w.heap[k]?
  grow : ∀ k, own' k → own k ∨ w.heap.size ≤ k

theorem Step.refl (own : Nat → Prop) (w : World) : Step own own w w := ⟨rfl, rfl, rfl, Nat.le_refl _, fun _ _ _ => rfl, fun _ h => Or.inl h⟩
theorem Step.trans {own own' own'' : Nat → Prop} {w w' w'' : World} (h : Step own own' w w') (k : Step own' own'' w' w'') : Step own own'' w w'' :=
  ⟨k.os.trans h.os, k.tape.trans h.tape, k.output.trans h.output, Nat.le_trans h.size k.size,
   fun i hi ho => (k.block i (Nat.lt_of_lt_of_le hi h.size) (fun h' => by rcases h.grow i h' with h1 | h1; exact ho h1; omega)).trans (h.block i hi ho),
   fun i hi => by
    rcases k.grow i hi with h1 | h1
    · exact h.grow i h1
    · exact Or.inr (Nat.le_trans h.size h1)⟩
theorem Step.below {own : Nat → Prop} {w w' : World} (h : Below w.heap.size w w') : Step own own w w' :=
  ⟨h.os, h.tape, h.output, h.size, fun k hk _ => h.block k hk, fun _ h => Or.inl h⟩
theorem Step.alloc (own : Nat → Prop) (w : World) (o : Obj) : Step own own w (w.alloc o) := ⟨rfl, rfl, rfl, by simp, fun _ hk _ => heap_alloc_lt hk, fun _ h => Or.inl h⟩
theorem Step.drew (own : Nat → Prop) (w : World) : Step own own w w.drew := ⟨rfl, rfl, rfl, Nat.le_refl _, fun _ _ _ => rfl, fun _ h => Or.inl h⟩
theorem Step.set {own : Nat → Prop} {w : World} {a : Addr} {v : Value} (h : own a.block) : Step own own w (w.setCell a v) :=
  ⟨rfl, rfl, rfl, by simp, fun k _ ho => heap_set_other (fun e => ho (e ▸ h)), fun _ h => Or.inl h⟩
theorem Step.toBelow {own own' : Nat → Prop} {w w' : World} {B : Nat} (h : Step own own' w w') (hB : B ≤ w.heap.size) (ho : ∀ k, own k → B ≤ k) : Below B w w' :=
  ⟨h.os, h.tape, h.output, h.size, fun k hk => h.block k (by omega) (fun h' => by have := ho k h'; omega)⟩
theorem Step.cell {own own' : Nat → Prop} {w w' : World} (h : Step own own' w w') {a : Addr} (ha : a.block < w.heap.size) (ho : ¬ own a.block) : w'.cell? a = w.cell? a :=
  World.cell?_of_block (w := w) (h.block a.block ha ho)
theorem Step.frozen {own own' : Nat → Prop} {w w' : World} (h : Step own own' w w') {a : Addr} (ha : a.block < w.heap.size) (ho : ¬ own a.block) : w'.frozen? a = w.frozen? a :=
  World.frozen?_of_block (w := w) (h.block a.block ha ho)
theorem Step.notOwn {own own' : Nat → Prop} {w w' : World} (h : Step own own' w w') {b : Nat} (hb : b < w.heap.size) (ho : ¬ own b) : ¬ own' b := fun h' => by
  rcases h.grow b h' with h1 | h1
  · exact ho h1
  · omega

/-! ### The tree in memory -/
def refs (l : List Nat) : List Value := l.map fun (r : Nat) => Value.int .u32 (r : Int)
theorem refs_append (l m : List Nat) : refs (l ++ m) = refs l ++ refs m := List.map_append
theorem refs_one (r : Nat) : refs [r] = [Value.int .u32 (r : Int)] := rfl
theorem refs_get (l : List Nat) (i : Nat) : (refs l)[i]? = l[i]?.map fun (r : Nat) => Value.int .u32 (r : Int) := List.getElem?_map
theorem refs_length (l : List Nat) : (refs l).length = l.length := List.length_map _

def treeCells (pa : Option Addr) (np pc cnt : Nat) (fa : Option Addr) (fl fc : Nat) : Array Value :=
  #[.int .i64 0, .slice pa np pc, .int .i64 (cnt : Int), .slice fa fl fc, .int .u32 0, .int .u64 0, .int .u64 0, .slice none 0 0]

structure RepAt (w : World) (t : Nat) (S : Pl.St) (own : Nat → Prop) (good : Nat → Prop) (pa : Option Addr) (np pc : Nat) (fa : Option Addr) (fc : Nat) (pb : Nat → Nat) : Prop where
  size : ∀ k, own k → k < w.heap.size
  ownT : own t
  tree : w.heap[t]? = some (.cells (treeCells pa np pc S.cnt fa S.free.length fc) 64 (0, 0))
  pages : w.ownsRow 0 78 1 (.slice pa np pc) np ((List.range np).map fun i => Value.slice (some ⟨pb i, 0, none⟩) 4096 4096)
  pagesOwn : ∀ g, (Value.slice pa np pc).ownBlock = some g → own g
  page : ∀ i, i < np → own (pb i) ∧ ∃ cur, w.heap[pb i]? = some (.cells cur 51 (0, 0)) ∧ cur.size = 8192 ∧
    ∀ j, j < 4096 → good (4096 * i + j) → cur[j * 2]? = some (.int .u32 ((S.mem (4096 * i + j)).1 : Int)) ∧ cur[j * 2 + 1]? = some (.int .u32 ((S.mem (4096 * i + j)).2 : Int))
  inj : ∀ i j, i < np → j < np → pb i = pb j → i = j
  free : w.ownsRow 0 29 1 (.slice fa S.free.length fc) S.free.length (refs S.free)
  freeOwn : ∀ g, (Value.slice fa S.free.length fc).ownBlock = some g → own g
  cnt : S.cnt ≤ 4096 * np
  npb : np ≤ S.cnt + 1

/-- Every node that is counted reads as S says. -/
def Rep (w : World) (t : Nat) (S : Pl.St) (own : Nat → Prop) : Prop := ∃ pa np pc fa fc pb, RepAt w t S own (fun i => i < S.cnt) pa np pc fa fc pb

section
variable {w w' : World} {t : Nat} {S : Pl.St} {own good : Nat → Prop} {pa : Option Addr} {np pc : Nat} {fa : Option Addr} {fc : Nat} {pb : Nat → Nat}

theorem ownsRow_carry {w w' : World} {base : Nat} {e : TypeId} {size : Nat} {v : Value} {n : Nat} {xs : List Value} (h : w.ownsRow base e size v n xs) (hb : ∀ g, v.ownBlock = some g → w'.heap[g]? = w.heap[g]?) : w'.ownsRow base e size v n xs := by
  refine ⟨h.1, ?_⟩
  rcases h.2 with hn | ⟨g, cap, cur, rfl, hb', hg, rest⟩
  · exact Or.inl hn
  · exact Or.inr ⟨g, cap, cur, rfl, hb', by rw [hb g rfl]; exact hg, rest⟩

theorem RepAt.keep (h : RepAt w t S own good pa np pc fa fc pb) (hs : w.heap.size ≤ w'.heap.size) (hb : ∀ k, own k → w'.heap[k]? = w.heap[k]?) : RepAt w' t S own good pa np pc fa fc pb :=
  ⟨fun k hk => Nat.lt_of_lt_of_le (h.size k hk) hs, h.ownT, by rw [hb t h.ownT]; exact h.tree, ownsRow_carry h.pages (fun g hg => hb g (h.pagesOwn g hg)), h.pagesOwn,
   fun i hi => ⟨(h.page i hi).1, by rw [hb _ (h.page i hi).1]; exact (h.page i hi).2⟩, h.inj, ownsRow_carry h.free (fun g hg => hb g (h.freeOwn g hg)), h.freeOwn, h.cnt, h.npb⟩

theorem RepAt.below (h : RepAt w t S own good pa np pc fa fc pb) (hb : Below w.heap.size w w') : RepAt w' t S own good pa np pc fa fc pb :=
  h.keep hb.size (fun k hk => hb.block k (h.size k hk))
theorem RepAt.alloc (h : RepAt w t S own good pa np pc fa fc pb) (o : Obj) : RepAt (w.alloc o) t S own good pa np pc fa fc pb :=
  h.keep (by simp) (fun _ hk => heap_alloc_lt (h.size _ hk))
theorem RepAt.drew (h : RepAt w t S own good pa np pc fa fc pb) : RepAt w.drew t S own good pa np pc fa fc pb := h.keep (Nat.le_refl _) (fun _ _ => rfl)
theorem RepAt.set (h : RepAt w t S own good pa np pc fa fc pb) {a : Addr} (v : Value) (ha : ¬ own a.block) : RepAt (w.setCell a v) t S own good pa np pc fa fc pb :=
  h.keep (by simp) (fun _ hk => heap_set_other (fun e => ha (e ▸ hk)))
theorem RepAt.weaken {good' : Nat → Prop} (h : RepAt w t S own good pa np pc fa fc pb) (hg : ∀ i, good' i → good i) : RepAt w t S own good' pa np pc fa fc pb :=
  ⟨h.size, h.ownT, h.tree, h.pages, h.pagesOwn, fun i hi => ⟨(h.page i hi).1, by obtain ⟨cur, c1, c2, c3⟩ := (h.page i hi).2; exact ⟨cur, c1, c2, fun j hj hgd => c3 j hj (hg _ hgd)⟩⟩, h.inj, h.free, h.freeOwn, h.cnt, h.npb⟩

/-- Blocks of two element types are two blocks. -/
theorem ne_of_elem {w : World} {b b' : Nat} {c c' : Array Value} {e e' : TypeId} {f f' : Nat × Nat} (h : w.heap[b]? = some (.cells c e f)) (h' : w.heap[b']? = some (.cells c' e' f')) (he : e ≠ e') : b ≠ b' := by
  intro e0; subst e0; rw [h] at h'; simp at h'; exact he h'.2.1

/-- The cells through which node r is reached, and its own. -/
structure At (w : World) (t : Nat) (S : Pl.St) (own : Nat → Prop) (np pc r pg p : Nat) (v0 v1 : Value) : Prop where
  hp : r / 4096 < np
  c1 : w.cell? ⟨t, 1, none⟩ = some (.slice (some ⟨pg, 0, none⟩) np pc)
  c2 : w.cell? ⟨pg, r / 4096, none⟩ = some (.slice (some ⟨p, 0, none⟩) 4096 4096)
  d0 : w.cell? ⟨p, r % 4096 * 2, none⟩ = some v0
  d1 : w.cell? ⟨p, r % 4096 * 2 + 1, none⟩ = some v1
  z0 : w.frozen? ⟨p, r % 4096 * 2, none⟩ = false
  z1 : w.frozen? ⟨p, r % 4096 * 2 + 1, none⟩ = false
  n1 : t ≠ pg
  n2 : t ≠ p
  n3 : pg ≠ p
  op : own p
  og : own pg

theorem RepAt.pagesAt (h : RepAt w t S own good pa np pc fa fc pb) (hn : 0 < np) : ∃ pg cur, pa = some ⟨pg, 0, none⟩ ∧ own pg ∧ w.heap[pg]? = some (.cells cur 78 (0, 0)) ∧ ∀ i, i < np → cur[i]? = some (Value.slice (some ⟨pb i, 0, none⟩) 4096 4096) := by
  obtain ⟨pg, cap, cur, hv, _, hg, _, _, _, ht⟩ := ownsRow_form h.pages hn
  injection hv with hv1 hv2 hv3
  subst hv1
  refine ⟨pg, cur, rfl, h.pagesOwn pg rfl, hg, fun i hi => ?_⟩
  have := congrArg (fun l => l[i]?) ht
  simp [hi] at this
  exact this

theorem RepAt.at' (h : RepAt w t S own good pa np pc fa fc pb) {r : Nat} (hr : r < S.cnt) : ∃ pg v0 v1, pa = some ⟨pg, 0, none⟩ ∧ At w t S own np pc r pg (pb (r / 4096)) v0 v1 ∧
    (good r → v0 = .int .u32 ((S.mem r).1 : Int) ∧ v1 = .int .u32 ((S.mem r).2 : Int)) := by
  have hi : r / 4096 < np := by have := h.cnt; omega
  obtain ⟨pg, pcur, rfl, og, hpg, hpc⟩ := h.pagesAt (by omega)
  obtain ⟨op, cur, hc, hs, hv⟩ := h.page _ hi
  have hj : r % 4096 < 4096 := Nat.mod_lt _ (by omega)
  have e : 4096 * (r / 4096) + r % 4096 = r := Nat.div_add_mod r 4096
  have b0 : r % 4096 * 2 < cur.size := by omega
  have b1 : r % 4096 * 2 + 1 < cur.size := by omega
  refine ⟨pg, cur[r % 4096 * 2], cur[r % 4096 * 2 + 1], rfl, ⟨hi, ?_, ?_, ?_, ?_, frozen_of_heap hc, frozen_of_heap hc, ne_of_elem h.tree hpg (by decide), ne_of_elem h.tree hc (by decide), ne_of_elem hpg hc (by decide), op, og⟩, fun hg => ?_⟩
  · rw [cell_of_heap h.tree]; rfl
  · rw [cell_of_heap hpg]; exact hpc _ hi
  · rw [cell_of_heap hc]; exact Array.getElem?_eq_getElem b0
  · rw [cell_of_heap hc]; exact Array.getElem?_eq_getElem b1
  · have := hv _ hj (by rw [e]; exact hg)
    rw [e, Array.getElem?_eq_getElem b0, Array.getElem?_eq_getElem b1] at this
    simpa using this

/-- A node is written. -/
theorem RepAt.storeNode (h : RepAt w t S own good pa np pc fa fc pb) {r : Nat} (hr : r < S.cnt) (x y : Nat) :
    RepAt ((w.setCell ⟨pb (r / 4096), r % 4096 * 2, none⟩ (.int .u32 (x : Int))).setCell ⟨pb (r / 4096), r % 4096 * 2 + 1, none⟩ (.int .u32 (y : Int))) t
      { cnt := S.cnt, mem := Pl.upd S.mem r (x, y), free := S.free } own (fun i => good i ∨ i = r) pa np pc fa fc pb := by
  have hi : r / 4096 < np := by have := h.cnt; omega
  obtain ⟨op, cur, hc, hs, hv⟩ := h.page _ hi
  have hj : r % 4096 < 4096 := Nat.mod_lt _ (by omega)
  have e : 4096 * (r / 4096) + r % 4096 = r := Nat.div_add_mod r 4096
  have hc' := heap_set_same (o := r % 4096 * 2 + 1) (.int .u32 (y : Int)) (heap_set_same (o := r % 4096 * 2) (.int .u32 (x : Int)) hc)
  have ho : ∀ k, k ≠ pb (r / 4096) → ((w.setCell ⟨pb (r / 4096), r % 4096 * 2, none⟩ (.int .u32 (x : Int))).setCell ⟨pb (r / 4096), r % 4096 * 2 + 1, none⟩ (.int .u32 (y : Int))).heap[k]? = w.heap[k]? := by
    intro k hk
    rw [heap_set_other hk, heap_set_other hk]
  refine ⟨fun k hk => by simpa using h.size k hk, h.ownT, ?_, ownsRow_carry h.pages (fun g hg => ho g ?_), h.pagesOwn, fun i hip => ?_, h.inj, ownsRow_carry h.free (fun g hg => ho g ?_), h.freeOwn, h.cnt, h.npb⟩
  · rw [ho t (ne_of_elem h.tree hc (by decide))]; exact h.tree
  · obtain ⟨pg, pcur, rfl, og, hpg, hpc⟩ := h.pagesAt (by omega)
    simp [Value.ownBlock] at hg
    subst hg
    exact ne_of_elem hpg hc (by decide)
  · by_cases hii : i = r / 4096
    · subst hii
      refine ⟨op, _, hc', by simpa using hs, fun j hj2 hg => ?_⟩
      by_cases hjj : j = r % 4096
      · subst hjj
        dsimp only
        rw [e, Pl.upd_same]
        constructor
        · rw [Array.getElem?_setIfInBounds_ne (by omega), Array.getElem?_setIfInBounds_self_of_lt (by omega)]
        · rw [Array.getElem?_setIfInBounds_self_of_lt (by simp; omega)]
      · have hne : 4096 * (r / 4096) + j ≠ r := by omega
        have := hv j hj2 (hg.resolve_right hne)
        dsimp only
        rw [Pl.upd_other _ _ _ hne]
        rw [Array.getElem?_setIfInBounds_ne (by omega), Array.getElem?_setIfInBounds_ne (by omega), Array.getElem?_setIfInBounds_ne (by omega), Array.getElem?_setIfInBounds_ne (by omega)]
        exact this
    · obtain ⟨op2, cur2, hc2, hs2, hv2⟩ := h.page i hip
      refine ⟨op2, cur2, ?_, hs2, fun j hj2 hg => ?_⟩
      · rw [ho _ (fun e => hii (h.inj _ _ hip hi e))]; exact hc2
      · have hne : 4096 * i + j ≠ r := by omega
        dsimp only
        rw [Pl.upd_other _ _ _ hne]
        exact hv2 j hj2 (hg.resolve_right hne)
  · rcases h.free.2 with ⟨hv, _⟩ | ⟨g', cap, cur2, hv, _, hg2, _⟩
    · rw [hv] at hg; simp [Value.ownBlock] at hg
    · rw [hv] at hg
      simp [Value.ownBlock] at hg
      subst hg
      exact ne_of_elem hg2 hc (by decide)

/-- The last of the free nodes is taken off. -/
theorem RepAt.popFree (h : RepAt w t S own good pa np pc fa fc pb) {fr : List Nat} {r : Nat} (hf : S.free = fr ++ [r]) :
    ∃ fb, fa = some ⟨fb, 0, none⟩ ∧ fr.length + 1 ≤ fc ∧ w.cell? ⟨t, 3, none⟩ = some (.slice (some ⟨fb, 0, none⟩) (fr.length + 1) fc) ∧ w.frozen? ⟨t, 3, none⟩ = false ∧ w.cell? ⟨fb, fr.length, none⟩ = some (.int .u32 (r : Int)) ∧
      RepAt (w.setCell ⟨t, 3, none⟩ (.slice (some ⟨fb, 0, none⟩) fr.length fc)) t { cnt := S.cnt, mem := S.mem, free := fr } own good pa np pc fa fc pb := by
  have hl : S.free.length = fr.length + 1 := by rw [hf]; simp
  have hfr := h.free
  rw [hl, hf] at hfr
  obtain ⟨fb, cap, cur, hv, _, hg, hn, hm, hsz, ht⟩ := ownsRow_form hfr (by omega)
  injection hv with hv1 hv2 hv3
  subst hv1; subst hv3
  have htree := h.tree
  rw [hl] at htree
  refine ⟨fb, rfl, hn, ?_, frozen_of_heap htree, ?_, ?_⟩
  · rw [cell_of_heap htree]; rfl
  · rw [cell_of_heap hg]
    have := congrArg (fun l => l[fr.length]?) ht
    simpa [refs_get] using this
  · have ho : ∀ k, k ≠ t → (w.setCell ⟨t, 3, none⟩ (.slice (some ⟨fb, 0, none⟩) fr.length fc)).heap[k]? = w.heap[k]? := fun k hk => heap_set_other hk
    refine ⟨fun k hk => by simpa using h.size k hk, h.ownT, ?_, ownsRow_carry h.pages (fun g hg' => ho g ?_), h.pagesOwn, fun i hip => ?_, h.inj, ?_, ?_, h.cnt, h.npb⟩
    · rw [heap_set_same _ htree]; rfl
    · rcases h.pages.2 with ⟨hv, _⟩ | ⟨g', cap', cur2, hv, _, hg2, _⟩
      · rw [hv] at hg'; simp [Value.ownBlock] at hg'
      · rw [hv] at hg'; simp [Value.ownBlock] at hg'; subst hg'
        exact (ne_of_elem htree hg2 (by decide)).symm
    · obtain ⟨op2, cur2, hc2, r2⟩ := h.page i hip
      exact ⟨op2, cur2, by rw [ho _ (ne_of_elem htree hc2 (by decide)).symm]; exact hc2, r2⟩
    · refine ⟨by simp [refs_length], Or.inr ⟨fb, fc, cur, rfl, Nat.zero_le _, ?_, by simp; omega, hm, hsz, ?_⟩⟩
      · rw [ho _ (ne_of_elem htree hg (by decide)).symm]; exact hg
      · have := congrArg (fun l => l.take fr.length) ht
        simp only [List.take_take, Nat.mul_one, refs_append] at this
        rw [show min fr.length (fr.length + 1) = fr.length from by omega, List.take_left' (refs_length fr)] at this
        simpa using this
    · intro g hg'
      simp [Value.ownBlock] at hg'
      subst hg'
      exact h.freeOwn fb (by simp [Value.ownBlock])

/-- A node is put on the free ones: 'append' has made w1 out of w; the slice is then stored. -/
theorem RepAt.pushFree (h : RepAt w t S own good pa np pc fa fc pb) {w1 : World} {g cap r : Nat} (how : w1.ownsRow 0 29 1 (.slice (some ⟨g, 0, none⟩) (S.free.length + 1) cap) (S.free.length + 1) ((refs S.free) ++ [.int .u32 (r : Int)]))
    (hgr : w.grownBy w1 (Value.slice fa S.free.length fc).ownBlock) (hat : (Value.slice fa S.free.length fc).ownBlock = some g ∨ w.heap.size ≤ g) :
    RepAt (w1.setCell ⟨t, 3, none⟩ (.slice (some ⟨g, 0, none⟩) (S.free.length + 1) cap)) t { cnt := S.cnt, mem := S.mem, free := S.free ++ [r] } (fun k => own k ∨ k = g) good pa np pc (some ⟨g, 0, none⟩) cap pb ∧
    Step own (fun k => own k ∨ k = g) w (w1.setCell ⟨t, 3, none⟩ (.slice (some ⟨g, 0, none⟩) (S.free.length + 1) cap)) ∧
    w1.cell? ⟨t, 3, none⟩ = some (.slice fa S.free.length fc) ∧ w1.frozen? ⟨t, 3, none⟩ = false := by
  obtain ⟨_, cap', cur, hv, _, hg1, hn1, hm1, hs1, ht1⟩ := ownsRow_form how (by omega)
  injection hv with hv1 _ hv3
  simp at hv1; subst hv1; subst hv3
  have hfo : ∀ k, own k → some k ≠ (Value.slice fa S.free.length fc).ownBlock → w1.heap[k]? = w.heap[k]? := fun k hk hne => hgr.block k (h.size k hk) hne
  have hfe : ∀ k e c, e ≠ 29 → w.heap[k]? = some (.cells c e (0, 0)) → some k ≠ (Value.slice fa S.free.length fc).ownBlock := by
    intro k e c he hk e0
    rcases h.free.2 with ⟨hv, _⟩ | ⟨g', cap'', cur2, hv, _, hg2, _⟩
    · rw [hv] at e0; simp [Value.ownBlock] at e0
    · rw [hv] at e0; simp [Value.ownBlock] at e0; subst e0
      rw [hk] at hg2; simp at hg2; exact he hg2.2
  have htree : w1.heap[t]? = _ := (hfo t h.ownT (hfe _ _ _ (by decide) h.tree)).trans h.tree
  have ho : ∀ k, k ≠ t → (w1.setCell ⟨t, 3, none⟩ (.slice (some ⟨g, 0, none⟩) (S.free.length + 1) cap)).heap[k]? = w1.heap[k]? := fun k hk => heap_set_other hk
  have hgt : g ≠ t := ne_of_elem hg1 htree (by decide)
  refine ⟨⟨fun k hk => ?_, Or.inl h.ownT, ?_, ownsRow_carry h.pages (fun q hq => ?_), fun q hq => Or.inl (h.pagesOwn q hq), fun i hip => ?_, h.inj, ?_, ?_, h.cnt, h.npb⟩, ⟨hgr.os, hgr.tape, hgr.output, by simpa using hgr.size, fun k hk hno => ?_, fun k hk => ?_⟩, ?_, frozen_of_heap htree⟩
  · rcases hk with hk | hk
    · have := h.size k hk; have := hgr.size; simp; omega
    · subst hk; simpa using lt_of_heap hg1
  · rw [heap_set_same _ htree]; simp [treeCells]
  · rcases h.pages.2 with ⟨hv, _⟩ | ⟨g', cap', cur2, hv, _, hg2, _⟩
    · rw [hv] at hq; simp [Value.ownBlock] at hq
    · rw [hv] at hq; simp [Value.ownBlock] at hq; subst hq
      rw [ho _ (ne_of_elem h.tree hg2 (by decide)).symm]
      exact hgr.block _ (lt_of_heap hg2) (hfe _ _ _ (by decide) hg2)
  · obtain ⟨op2, cur2, hc2, r2⟩ := h.page i hip
    refine ⟨Or.inl op2, cur2, ?_, r2⟩
    rw [ho _ (ne_of_elem h.tree hc2 (by decide)).symm, hgr.block _ (lt_of_heap hc2) (hfe _ _ _ (by decide) hc2)]
    exact hc2
  · have e : (S.free ++ [r]).length = S.free.length + 1 := by simp
    show World.ownsRow _ 0 29 1 (.slice (some ⟨g, 0, none⟩) (S.free ++ [r]).length cap) (S.free ++ [r]).length (refs (S.free ++ [r]))
    rw [e, refs_append]
    exact ownsRow_carry how (fun q hq => ho q (by simp [Value.ownBlock] at hq; subst hq; exact hgt))
  · intro q hq
    simp [Value.ownBlock] at hq
    exact Or.inr hq.symm
  · rw [ho k (fun e => hno (e ▸ h.ownT))]
    exact hgr.block k hk (fun e => hno (h.freeOwn k e.symm))
  · rcases hk with hk | hk
    · exact Or.inl hk
    · subst hk
      rcases hat with h1 | h1
      · exact Or.inl (h.freeOwn _ h1)
      · exact Or.inr h1
  · rw [cell_of_heap htree]; rfl

/-- The count is raised; the new node is not yet written. -/
theorem RepAt.bump (h : RepAt w t S own good pa np pc fa fc pb) (hc : S.cnt < 4096 * np) :
    RepAt (w.setCell ⟨t, 2, none⟩ (.int .i64 ((S.cnt : Int) + 1))) t { cnt := S.cnt + 1, mem := S.mem, free := S.free } own good pa np pc fa fc pb := by
  have ho : ∀ k, k ≠ t → (w.setCell ⟨t, 2, none⟩ (.int .i64 ((S.cnt : Int) + 1))).heap[k]? = w.heap[k]? := fun k hk => heap_set_other hk
  refine ⟨fun k hk => by simpa using h.size k hk, h.ownT, ?_, ownsRow_carry h.pages (fun q hq => ho q ?_), h.pagesOwn, fun i hip => ?_, h.inj, ownsRow_carry h.free (fun q hq => ho q ?_), h.freeOwn, hc, by have := h.npb; dsimp only; omega⟩
  · rw [heap_set_same _ h.tree]; simp [treeCells]
  · rcases h.pages.2 with ⟨hv, _⟩ | ⟨g', cap', cur2, hv, _, hg2, _⟩
    · rw [hv] at hq; simp [Value.ownBlock] at hq
    · rw [hv] at hq; simp [Value.ownBlock] at hq; subst hq
      exact (ne_of_elem h.tree hg2 (by decide)).symm
  · obtain ⟨op2, cur2, hc2, r2⟩ := h.page i hip
    exact ⟨op2, cur2, by rw [ho _ (ne_of_elem h.tree hc2 (by decide)).symm]; exact hc2, r2⟩
  · rcases h.free.2 with ⟨hv, _⟩ | ⟨g', cap', cur2, hv, _, hg2, _⟩
    · rw [hv] at hq; simp [Value.ownBlock] at hq
    · rw [hv] at hq; simp [Value.ownBlock] at hq; subst hq
      exact (ne_of_elem h.tree hg2 (by decide)).symm

/-- A page is added: the page lies in block p of w; 'append' has made w1 out of w; the slice is then stored. -/
theorem RepAt.addPage (h : RepAt w t S own good pa np pc fa fc pb) {w1 : World} {g cap p : Nat} {pcur : Array Value} (hp : w.heap[p]? = some (.cells pcur 51 (0, 0))) (hps : pcur.size = 8192) (hpo : ¬ own p) (hgd : ∀ i, good i → i < 4096 * np) (hnp : np ≤ S.cnt)
    (how : w1.ownsRow 0 78 1 (.slice (some ⟨g, 0, none⟩) (np + 1) cap) (np + 1) (((List.range np).map fun i => Value.slice (some ⟨pb i, 0, none⟩) 4096 4096) ++ [.slice (some ⟨p, 0, none⟩) 4096 4096]))
    (hgr : w.grownBy w1 (Value.slice pa np pc).ownBlock) (hat : (Value.slice pa np pc).ownBlock = some g ∨ w.heap.size ≤ g) :
    RepAt (w1.setCell ⟨t, 1, none⟩ (.slice (some ⟨g, 0, none⟩) (np + 1) cap)) t S (fun k => own k ∨ k = g ∨ k = p) good (some ⟨g, 0, none⟩) (np + 1) cap fa fc (fun i => if i = np then p else pb i) ∧
    (∀ k, k < w.heap.size → ¬ own k → (w1.setCell ⟨t, 1, none⟩ (.slice (some ⟨g, 0, none⟩) (np + 1) cap)).heap[k]? = w.heap[k]?) ∧
    w1.cell? ⟨t, 1, none⟩ = some (.slice pa np pc) ∧ w1.cell? ⟨t, 2, none⟩ = some (.int .i64 (S.cnt : Int)) ∧ ∀ o, w1.frozen? ⟨t, o, none⟩ = false := by
  obtain ⟨_, cap', cur, hv, _, hg1, hn1, hm1, hs1, ht1⟩ := ownsRow_form how (by omega)
  injection hv with hv1 _ hv3
  simp at hv1; subst hv1; subst hv3
  have hfe : ∀ k e c, e ≠ 78 → w.heap[k]? = some (.cells c e (0, 0)) → some k ≠ (Value.slice pa np pc).ownBlock := by
    intro k e c he hk e0
    rcases h.pages.2 with ⟨hv, _⟩ | ⟨g', cap'', cur2, hv, _, hg2, _⟩
    · rw [hv] at e0; simp [Value.ownBlock] at e0
    · rw [hv] at e0; simp [Value.ownBlock] at e0; subst e0
      rw [hk] at hg2; simp at hg2; exact he hg2.2
  have htree : w1.heap[t]? = _ := (hgr.block t (h.size t h.ownT) (hfe _ _ _ (by decide) h.tree)).trans h.tree
  have ho : ∀ k, k ≠ t → (w1.setCell ⟨t, 1, none⟩ (.slice (some ⟨g, 0, none⟩) (np + 1) cap)).heap[k]? = w1.heap[k]? := fun k hk => heap_set_other hk
  have hgt : g ≠ t := ne_of_elem hg1 htree (by decide)
  have hp1 : w1.heap[p]? = _ := (hgr.block p (lt_of_heap hp) (hfe _ _ _ (by decide) hp)).trans hp
  refine ⟨⟨fun k hk => ?_, Or.inl h.ownT, ?_, ?_, ?_, fun i hip => ?_, fun i j hi hj e => ?_, ownsRow_carry h.free (fun q hq => ?_), fun q hq => Or.inl (h.freeOwn q hq), ?_, by omega⟩, fun k hk hno => ?_, ?_, ?_, fun _ => frozen_of_heap htree⟩
  · rcases hk with hk | hk | hk
    · have := h.size k hk; have := hgr.size; simp; omega
    · subst hk; simpa using lt_of_heap hg1
    · subst hk; simpa using lt_of_heap hp1
  · rw [heap_set_same _ htree]; simp [treeCells]
  · have e : (List.range (np + 1)).map (fun i => Value.slice (some ⟨if i = np then p else pb i, 0, none⟩) 4096 4096) = ((List.range np).map fun i => Value.slice (some ⟨pb i, 0, none⟩) 4096 4096) ++ [.slice (some ⟨p, 0, none⟩) 4096 4096] := by
      rw [List.range_succ, List.map_append]
      congr 1
      · apply List.map_congr_left
        intro i hi
        have : i ≠ np := by have := List.mem_range.1 hi; omega
        simp [this]
      · simp
    rw [e]
    exact ownsRow_carry how (fun q hq => ho q (by simp [Value.ownBlock] at hq; subst hq; exact hgt))
  · intro q hq
    simp [Value.ownBlock] at hq
    exact Or.inr (Or.inl hq.symm)
  · by_cases e : i = np
    · subst e
      refine ⟨by simp, pcur, ?_, hps, fun j hj hg => ?_⟩
      · simp only [if_true]
        rw [ho _ (ne_of_elem hp1 htree (by decide))]; exact hp1
      · have := hgd _ hg; omega
    · obtain ⟨op2, cur2, hc2, r2⟩ := h.page i (by omega)
      simp only [e, if_false]
      refine ⟨Or.inl op2, cur2, ?_, r2⟩
      rw [ho _ (ne_of_elem h.tree hc2 (by decide)).symm, hgr.block _ (lt_of_heap hc2) (hfe _ _ _ (by decide) hc2)]
      exact hc2
  · by_cases e1 : i = np
    · by_cases e2 : j = np
      · omega
      · simp only [e1, e2, if_true, if_false] at e
        exact absurd (e ▸ (h.page j (by omega)).1) hpo
    · by_cases e2 : j = np
      · simp only [e1, e2, if_true, if_false] at e
        exact absurd (e ▸ (h.page i (by omega)).1) hpo
      · simp only [e1, e2, if_false] at e
        exact h.inj i j (by omega) (by omega) e
  · rcases h.free.2 with ⟨hv, _⟩ | ⟨g', cap', cur2, hv, _, hg2, _⟩
    · rw [hv] at hq; simp [Value.ownBlock] at hq
    · rw [hv] at hq; simp [Value.ownBlock] at hq; subst hq
      rw [ho _ (ne_of_elem h.tree hg2 (by decide)).symm]
      exact hgr.block _ (lt_of_heap hg2) (hfe _ _ _ (by decide) hg2)
  · have := h.cnt; omega
  · rw [ho k (fun e => hno (e ▸ h.ownT))]
    exact hgr.block k hk (fun e => hno (h.pagesOwn k e.symm))
  · rw [cell_of_heap htree]; rfl
  · rw [cell_of_heap htree]; rfl
end
end Go.Proofs.Qxb6600977a
