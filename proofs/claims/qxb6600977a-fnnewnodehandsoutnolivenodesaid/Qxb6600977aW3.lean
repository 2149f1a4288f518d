import Derived.Test.Qxb6600977aW2
import Derived.Test.Qxb6600977aRep
import Derived.Deep.RegionLaw
set_option linter.unusedVariables false
set_option linter.unusedSimpArgs false
namespace Go.Proofs.Qxb6600977a
open Go.RowKit

theorem info78 : (Try.prog.info? 78).map (fun i => (i.zero, i.size, i.bytes)) = some (some (.slice none 0 0), 1, 24) := by kernel_rfl
theorem info29 : (Try.prog.info? 29).map (fun i => (i.zero, i.size, i.bytes)) = some (some (.int .u32 0), 1, 4) := by kernel_rfl
theorem info51 : (Try.prog.info? 51).map (fun i => (i.zero, i.size, i.bytes)) = some (some (.agg #[.int .u32 0, .int .u32 0]), 2, 8) := by kernel_rfl

/-- A new page: what it holds is of no account. -/
theorem make_page : ∃ PAGE : Array Value, PAGE.size = 8192 ∧ ∀ w : World, (Instr.makeSlice 78 (.int .i64 4096) (.int .i64 4096)).run Try.prog w = .ok (.slice (some ⟨w.heap.size, 0, none⟩) 4096 4096) (w.alloc (.cells PAGE 51)) := by
  obtain ⟨i0, hi, hz0, hz1, hz2⟩ := info_parts info51
  refine ⟨madeCells (Value.agg #[.int .u32 0, .int .u32 0]).cells ((4096 : Int).toNat * i0.size), by rw [size_madeCells, hz1]; rfl, fun w => ?_⟩
  exact run_make (P := Try.prog) w 78 51 i0 _ Try.underlying78 hi hz0 .i64 .i64 4096 4096 (by decide) (by decide) (by rw [hz2]; decide) (by decide)


/-- What a call that changes the tree leaves: the tree as S' says, all other memory as it was. -/
def Leaves (own : Nat → Prop) (t : Nat) (S' : Pl.St) (w w' : World) : Prop := ∃ own', Rep w' t S' own' ∧ Step own own' w w'

/-- The end of newNode where no free node was there: the count has been raised (W3), the node is written. -/
theorem fresh_end {w W3 : World} {t : Nat} {S : Pl.St} {own own' : Nat → Prop} {pa : Option Addr} {np pc : Nat} {fa : Option Addr} {fc : Nat} {pb : Nat → Nat} (hf : S.free = []) (x y : Nat)
    (h : RepAt W3 t { cnt := S.cnt + 1, mem := S.mem, free := S.free } own' (fun i => i < S.cnt) pa np pc fa fc pb) (hs : Step own own' w W3) :
    Leaves own t (Pl.newNode S (x, y)).2 w (((W3.setCell ⟨pb (S.cnt / 4096), S.cnt % 4096 * 2, none⟩ (.int .u32 (x : Int))).setCell ⟨pb (S.cnt / 4096), S.cnt % 4096 * 2 + 1, none⟩ (.int .u32 (y : Int))).drew) := by
  have h2 := h.storeNode (r := S.cnt) (Nat.lt_succ_self _) x y
  rw [Pl.newNode_none _ hf]
  have op : own' (pb (S.cnt / 4096)) := (h.page _ (by have := h.cnt; dsimp only at this; omega)).1
  refine ⟨own', ⟨pa, np, pc, fa, fc, pb, ?_⟩, ?_⟩
  · have h3 := (h2.drew).weaken (good' := fun i => i < S.cnt + 1) (fun i hi => by
      by_cases e : i = S.cnt
      · exact Or.inr e
      · exact Or.inl (by omega))
    rw [hf] at h3
    exact h3
  · exact ((hs.trans (Step.set op)).trans (Step.set op)).trans (Step.drew _ _)

theorem pair_end {w W3 : World} {t : Nat} {S : Pl.St} {own own' : Nat → Prop} {w' : World} (h : Leaves own t S W3 w') (hs : Step own' own w W3) : Leaves own' t S w w' := by
  obtain ⟨o, h1, h2⟩ := h
  exact ⟨o, h1, hs.trans h2⟩

set_option maxHeartbeats 1000000 in
theorem newNode_room {w : World} {t : Nat} {S : Pl.St} {own : Nat → Prop} {pa : Option Addr} {np pc : Nat} {fa : Option Addr} {fc : Nat} {pb : Nat → Nat} (h : RepAt w t S own (fun i => i < S.cnt) pa np pc fa fc pb)
    (hf : S.free = []) (cnt : Nat) (hcnt : S.cnt = cnt) (hr : cnt < 2147483648) (hc : cnt < 4096 * np) (hnp2 : np ≤ 2147483648) (a b : Nat) :
    Calls Try.prog 33 #[.pointer (some ⟨t, 0, none⟩), .agg #[.int .u32 (a : Int), .int .u32 (b : Int)]] w fun e w' => e = .returned (.int .u32 (cnt : Int)) ∧ Leaves own t (Pl.newNode S (a, b)).2 w w' := by
  have hno : ¬ own w.heap.size := fun h' => by have := h.size _ h'; omega
  have c1 : w.cell? ⟨t, 1, none⟩ = some (.slice pa np pc) := by rw [cell_of_heap h.tree]; rfl
  have c3 : w.cell? ⟨t, 3, none⟩ = some (.slice fa 0 fc) := by rw [cell_of_heap h.tree]; simp [treeCells, hf]
  have c4 : w.cell? ⟨t, 2, none⟩ = some (.int .i64 (cnt : Int)) := by rw [cell_of_heap h.tree, ← hcnt]; rfl
  have z4 : w.frozen? ⟨t, 2, none⟩ = false := frozen_of_heap h.tree
  have l1 : t < w.heap.size := h.size t h.ownT
  have t1 : ((cnt : Int) == 2147483648) = false := by rw [beq_eq_false_iff_ne]; omega
  have t2 : ((cnt : Int) == (np : Int) * 4096) = false := by rw [beq_eq_false_iff_ne]; omega
  have HS : Hid (S.cnt = cnt ∧ S.free = [] ∧ RepAt w t S own (fun i => i < S.cnt) pa np pc fa fc pb) := ⟨hcnt, hf, h⟩
  clear hcnt hf h
  go_enter Try.func33, Try.ntmps33
  go_wp2
  go_region
  go_wp2
  obtain ⟨hcnt, hf, h⟩ := HS.out
  obtain ⟨W, hW⟩ : ∃ W, W = ((w.setCell ⟨t, 2, none⟩ (.int .i64 ((cnt : Int) + 1))).alloc (.cells #[.int .u32 (a : Int), .int .u32 (b : Int)] 51)).drew := ⟨_, rfl⟩
  have h1 : RepAt W t { cnt := S.cnt + 1, mem := S.mem, free := S.free } own (fun i => i < S.cnt) pa np pc fa fc pb := by
    rw [hW, ← hcnt]; exact ((h.bump (by omega)).alloc _).drew
  have hs : Step own own w W := by
    rw [hW]; exact ((Step.set h.ownT).trans (Step.alloc _ _ _)).trans (Step.drew _ _)
  obtain ⟨pg, v0, v1, rfl, A, _⟩ := h1.at' (r := cnt) (by dsimp only; omega)
  have f0 : W.cell? ⟨w.heap.size, 0, none⟩ = some (.int .u32 (a : Int)) := by
    rw [hW, World.cell?_drew, ← World.size_setCell w ⟨t, 2, none⟩ (.int .i64 ((cnt : Int) + 1)), World.cell?_alloc_new]; rfl
  have f1 : W.cell? ⟨w.heap.size, 1, none⟩ = some (.int .u32 (b : Int)) := by
    rw [hW, World.cell?_drew, ← World.size_setCell w ⟨t, 2, none⟩ (.int .i64 ((cnt : Int) + 1)), World.cell?_alloc_new]; rfl
  obtain ⟨hp, f2, f3, f4, f5, g4, g5, n1, n2, n3, op, _⟩ := A
  have m1 : pb (cnt / 4096) ≠ w.heap.size := fun e => hno (e ▸ op)
  have hfin := fresh_end (w := w) hf a b h1 hs
  rw [hcnt] at hfin
  generalize pb (cnt / 4096) = p at *
  rw [← hW]
  have HF : Hid (Leaves own t (Pl.newNode S (a, b)).2 w (((W.setCell ⟨p, cnt % 4096 * 2, none⟩ (.int .u32 (a : Int))).setCell ⟨p, cnt % 4096 * 2 + 1, none⟩ (.int .u32 (b : Int))).drew)) := hfin
  clear hW c1 c3 c4 z4 h1 hs hfin hcnt hf h
  go_region_held3 (fun w' => w'.cell? ⟨w.heap.size, 0, none⟩ = some (.int .u32 (a : Int)) ∧ w'.cell? ⟨w.heap.size, 1, none⟩ = some (.int .u32 (b : Int))) (go_keep)
    (first | (go_at_call 34; refine (node_cells t cnt pg np pc p _ hr hp ?_ ?_).mono ?_; exact f2; exact f3; rintro e w' ⟨rfl, rfl⟩))
  go_wp2
  go_ret
  exact ⟨rfl, HF.out⟩

/-- The world in which newNode appends a page: three blocks more. -/
def pageWorld (PAGE : Array Value) (w : World) (a b : Nat) : World :=
  (((w.alloc (.cells #[.int .u32 (a : Int), .int .u32 (b : Int)] 51)).alloc (.cells PAGE 51)).alloc (.cells #[.slice (some ⟨w.heap.size + 1, 0, none⟩) 4096 4096] 78)).drew.drew

theorem pageWorld_size (PAGE : Array Value) (w : World) (a b : Nat) : (pageWorld PAGE w a b).heap.size = w.heap.size + 3 := by
  show (((w.heap.push _).push _).push _).size = _
  simp
theorem pageWorld_old (PAGE : Array Value) (w : World) (a b k : Nat) (h : k < w.heap.size) : (pageWorld PAGE w a b).heap[k]? = w.heap[k]? := by
  show (((w.heap.push _).push _).push _)[k]? = _
  simp only [Array.getElem?_push, Array.size_push]
  rw [if_neg (by omega), if_neg (by omega), if_neg (by omega)]
theorem pageWorld_0 (PAGE : Array Value) (w : World) (a b : Nat) : (pageWorld PAGE w a b).heap[w.heap.size]? = some (.cells #[.int .u32 (a : Int), .int .u32 (b : Int)] 51) := by
  show (((w.heap.push _).push _).push _)[w.heap.size]? = _
  simp only [Array.getElem?_push, Array.size_push]
  rw [if_neg (by omega), if_neg (by omega), if_pos trivial]
theorem pageWorld_1 (PAGE : Array Value) (w : World) (a b : Nat) : (pageWorld PAGE w a b).heap[w.heap.size + 1]? = some (.cells PAGE 51) := by
  show (((w.heap.push _).push _).push _)[w.heap.size + 1]? = _
  simp only [Array.getElem?_push, Array.size_push]
  rw [if_neg (by omega), if_pos trivial]
theorem pageWorld_2 (PAGE : Array Value) (w : World) (a b : Nat) : (pageWorld PAGE w a b).heap[w.heap.size + 2]? = some (.cells #[.slice (some ⟨w.heap.size + 1, 0, none⟩) 4096 4096] 78) := by
  show (((w.heap.push _).push _).push _)[w.heap.size + 2]? = _
  simp only [Array.getElem?_push, Array.size_push]
  rw [if_pos trivial]
theorem pageWorld_new (PAGE : Array Value) (w : World) (a b : Nat) : (pageWorld PAGE w a b).cell? ⟨w.heap.size + 2, 0, none⟩ = some (.slice (some ⟨w.heap.size + 1, 0, none⟩) 4096 4096) := by
  rw [cell_of_heap (pageWorld_2 PAGE w a b)]; rfl

section
variable {w : World} {t : Nat} {S : Pl.St} {own : Nat → Prop} {pa : Option Addr} {np pc : Nat} {fa : Option Addr} {fc : Nat} {pb : Nat → Nat}
theorem pageWorld_rep (PAGE : Array Value) (h : RepAt w t S own (fun i => i < S.cnt) pa np pc fa fc pb) (a b : Nat) : RepAt (pageWorld PAGE w a b) t S own (fun i => i < S.cnt) pa np pc fa fc pb :=
  h.keep (by rw [pageWorld_size]; omega) (fun k hk => pageWorld_old PAGE w a b k (h.size k hk))

/-- Behind the append and the store. -/
structure PageDone (w : World) (t : Nat) (S : Pl.St) (own : Nat → Prop) (pa : Option Addr) (np pc : Nat) (fa : Option Addr) (fc : Nat) (pb : Nat → Nat) (a b g cap : Nat) (w1 : World) : Prop where
  c1 : w1.cell? ⟨t, 1, none⟩ = some (.slice pa np pc)
  c2 : w1.cell? ⟨t, 2, none⟩ = some (.int .i64 (S.cnt : Int))
  fz : ∀ o, w1.frozen? ⟨t, o, none⟩ = false
  rep : RepAt (w1.setCell ⟨t, 1, none⟩ (.slice (some ⟨g, 0, none⟩) (np + 1) cap)) t S (fun k => own k ∨ k = g ∨ k = w.heap.size + 1) (fun i => i < S.cnt) (some ⟨g, 0, none⟩) (np + 1) cap fa fc (fun i => if i = np then w.heap.size + 1 else pb i)
  step : Step own (fun k => own k ∨ k = g ∨ k = w.heap.size + 1) w (w1.setCell ⟨t, 1, none⟩ (.slice (some ⟨g, 0, none⟩) (np + 1) cap))
  box : (w1.setCell ⟨t, 1, none⟩ (.slice (some ⟨g, 0, none⟩) (np + 1) cap)).heap[w.heap.size]? = some (.cells #[.int .u32 (a : Int), .int .u32 (b : Int)] 51)
  boxNot : ¬ (own w.heap.size ∨ w.heap.size = g ∨ w.heap.size = w.heap.size + 1)

theorem pageDone {PAGE : Array Value} (size_PAGE : PAGE.size = 8192) (h : RepAt w t S own (fun i => i < S.cnt) pa np pc fa fc pb) (hc : S.cnt = 4096 * np) (a b : Nat) {g cap : Nat} {w1 : World}
    (how : w1.ownsRow 0 78 1 (.slice (some ⟨g, 0, none⟩) (np + 1) cap) (np + 1) (((List.range np).map fun i => Value.slice (some ⟨pb i, 0, none⟩) 4096 4096) ++ [.slice (some ⟨w.heap.size + 1, 0, none⟩) 4096 4096]))
    (hgr : (pageWorld PAGE w a b).grownBy w1 (Value.slice pa np pc).ownBlock) (hat : (Value.slice pa np pc).ownBlock = some g ∨ (pageWorld PAGE w a b).heap.size ≤ g) : PageDone w t S own pa np pc fa fc pb a b g cap w1 := by
  have hR := pageWorld_rep PAGE h a b
  have hno : ∀ k, w.heap.size ≤ k → ¬ own k := fun k hk h' => by have := h.size _ h'; omega
  obtain ⟨r1, r2, r3, r4, r5⟩ := hR.addPage (pageWorld_1 PAGE w a b) size_PAGE (hno _ (by omega)) (fun i hi => by omega) (by omega) how hgr hat
  have hg : own g ∨ w.heap.size + 3 ≤ g := by
    rcases hat with h1 | h1
    · exact Or.inl (h.pagesOwn g h1)
    · rw [pageWorld_size] at h1; exact Or.inr h1
  refine ⟨r3, r4, r5, r1, ⟨hgr.os, hgr.tape, hgr.output, ?_, fun k hk hn => ?_, fun k hk => ?_⟩, ?_, ?_⟩
  · have := hgr.size; rw [pageWorld_size] at this; simp; omega
  · rw [r2 k (by rw [pageWorld_size]; omega) hn, pageWorld_old PAGE w a b k hk]
  · rcases hk with hk | hk | hk
    · exact Or.inl hk
    · subst hk
      rcases hg with h1 | h1
      · exact Or.inl h1
      · exact Or.inr (by omega)
    · exact Or.inr (by omega)
  · rw [r2 _ (by rw [pageWorld_size]; omega) (hno _ (Nat.le_refl _)), pageWorld_0]
  · intro h'
    rcases h' with h1 | h1 | h1
    · exact hno _ (Nat.le_refl _) h1
    · rcases hg with h2 | h2
      · exact hno _ (Nat.le_refl _) (h1 ▸ h2)
      · omega
    · omega
end

/-- What the last region of newNode wants. -/
structure Tail (w W : World) (t : Nat) (S : Pl.St) (own : Nat → Prop) (np pc cnt a b pg p : Nat) (v0 v1 : Value) : Prop where
  hp : cnt / 4096 < np
  f0 : W.cell? ⟨w.heap.size, 0, none⟩ = some (.int .u32 (a : Int))
  f1 : W.cell? ⟨w.heap.size, 1, none⟩ = some (.int .u32 (b : Int))
  f2 : W.cell? ⟨t, 1, none⟩ = some (.slice (some ⟨pg, 0, none⟩) np pc)
  f3 : W.cell? ⟨pg, cnt / 4096, none⟩ = some (.slice (some ⟨p, 0, none⟩) 4096 4096)
  f4 : W.cell? ⟨p, cnt % 4096 * 2, none⟩ = some v0
  f5 : W.cell? ⟨p, cnt % 4096 * 2 + 1, none⟩ = some v1
  g4 : W.frozen? ⟨p, cnt % 4096 * 2, none⟩ = false
  g5 : W.frozen? ⟨p, cnt % 4096 * 2 + 1, none⟩ = false
  m1 : p ≠ w.heap.size
  fin : Leaves own t (Pl.newNode S (a, b)).2 w (((W.setCell ⟨p, cnt % 4096 * 2, none⟩ (.int .u32 (a : Int))).setCell ⟨p, cnt % 4096 * 2 + 1, none⟩ (.int .u32 (b : Int))).drew)

theorem page_tail {w : World} {t : Nat} {S : Pl.St} {own : Nat → Prop} {pa : Option Addr} {np pc : Nat} {fa : Option Addr} {fc : Nat} {pb : Nat → Nat} (hf : S.free = []) {cnt : Nat} (hcnt : S.cnt = cnt) (hc : cnt = 4096 * np) {a b g cap : Nat} {w1 : World} (l1 : t < w.heap.size)
    (PD : PageDone w t S own pa np pc fa fc pb a b g cap w1) : ∃ pg p v0 v1, Tail w ((w1.setCell ⟨t, 1, none⟩ (.slice (some ⟨g, 0, none⟩) (np + 1) cap)).setCell ⟨t, 2, none⟩ (.int .i64 ((cnt : Int) + 1))) t S own (np + 1) cap cnt a b pg p v0 v1 := by
  have h1 := PD.rep.bump (by omega)
  have hs := PD.step.trans (Step.set (a := ⟨t, 2, none⟩) (v := .int .i64 ((S.cnt : Int) + 1)) PD.rep.ownT)
  rw [hcnt] at h1 hs
  obtain ⟨pg, v0, v1, hpg, A, _⟩ := h1.at' (r := cnt) (by dsimp only; omega)
  have hbox : ((w1.setCell ⟨t, 1, none⟩ (.slice (some ⟨g, 0, none⟩) (np + 1) cap)).setCell ⟨t, 2, none⟩ (.int .i64 ((cnt : Int) + 1))).heap[w.heap.size]? = some (.cells #[.int .u32 (a : Int), .int .u32 (b : Int)] 51) := by
    rw [heap_set_other (by dsimp only; omega)]; exact PD.box
  subst hcnt
  have hfin := fresh_end (w := w) hf a b h1 hs
  obtain ⟨hp, f2, f3, f4, f5, g4, g5, n1, n2, n3, op, _⟩ := A
  exact ⟨pg, _, v0, v1, hp, by rw [cell_of_heap hbox]; rfl, by rw [cell_of_heap hbox]; rfl, f2, f3, f4, f5, g4, g5, fun e => PD.boxNot (by rw [e] at op; exact op), hfin⟩

set_option maxHeartbeats 2000000 in
theorem newNode_page {w : World} {t : Nat} {S : Pl.St} {own : Nat → Prop} {pa : Option Addr} {np pc : Nat} {fa : Option Addr} {fc : Nat} {pb : Nat → Nat} (h : RepAt w t S own (fun i => i < S.cnt) pa np pc fa fc pb)
    (hf : S.free = []) (cnt : Nat) (hcnt : S.cnt = cnt) (hr : cnt < 2147483648) (hc : cnt = 4096 * np) (a b : Nat) :
    Calls Try.prog 33 #[.pointer (some ⟨t, 0, none⟩), .agg #[.int .u32 (a : Int), .int .u32 (b : Int)]] w fun e w' => e = .returned (.int .u32 (cnt : Int)) ∧ Leaves own t (Pl.newNode S (a, b)).2 w w' := by
  have c1 : w.cell? ⟨t, 1, none⟩ = some (.slice pa np pc) := by rw [cell_of_heap h.tree]; rfl
  have c3 : w.cell? ⟨t, 3, none⟩ = some (.slice fa 0 fc) := by rw [cell_of_heap h.tree]; simp [treeCells, hf]
  have c4 : w.cell? ⟨t, 2, none⟩ = some (.int .i64 (cnt : Int)) := by rw [cell_of_heap h.tree, ← hcnt]; rfl
  have l1 : t < w.heap.size := h.size t h.ownT
  have t1 : ((cnt : Int) == 2147483648) = false := by rw [beq_eq_false_iff_ne]; omega
  have t2 : ((cnt : Int) == (np : Int) * 4096) = true := by rw [beq_iff_eq]; omega
  have hnpb : (np : Int) < 2147483648 := by omega
  have b1 : np + 1 ≤ maxLen := by unfold maxLen; omega
  have b2 : (np + 1) * 24 ≤ 140737488355328 := by omega
  obtain ⟨PAGE, size_PAGE, hmk⟩ := make_page
  have HS : Hid (cnt = 4096 * np ∧ S.cnt = cnt ∧ S.free = [] ∧ RepAt w t S own (fun i => i < S.cnt) pa np pc fa fc pb) := ⟨hc, hcnt, hf, h⟩
  have PR := pageWorld_rep PAGE h a b
  have HP : Hid (RepAt (pageWorld PAGE w a b) t S own (fun i => i < S.cnt) pa np pc fa fc pb) := PR
  have HD : Hid (∀ g cap w1, w1.ownsRow 0 78 1 (.slice (some ⟨g, 0, none⟩) (np + 1) cap) (np + 1) (((List.range np).map fun i => Value.slice (some ⟨pb i, 0, none⟩) 4096 4096) ++ [.slice (some ⟨w.heap.size + 1, 0, none⟩) 4096 4096]) →
    (pageWorld PAGE w a b).grownBy w1 (Value.slice pa np pc).ownBlock → ((Value.slice pa np pc).ownBlock = some g ∨ (pageWorld PAGE w a b).heap.size ≤ g) → PageDone w t S own pa np pc fa fc pb a b g cap w1) := fun g cap w1 x y z => pageDone size_PAGE h (by omega) a b x y z
  clear hf h hc PR size_PAGE
  have hc3 : ∀ o1 o2 o3, (((w.alloc o1).alloc o2).alloc o3).cell? ⟨t, 1, none⟩ = some (.slice pa np pc) := fun o1 o2 o3 => by
    rw [World.cell?_alloc_lt _ _ _ (by simp; omega), World.cell?_alloc_lt _ _ _ (by simp; omega), World.cell?_alloc_lt _ _ _ (by simpa using l1)]; exact c1
  obtain ⟨i0, hi, hz0, hz1, hz2⟩ := info_parts info78
  go_enter Try.func33, Try.ntmps33
  go_wp2
  go_region
  go_wp2
  go_region_law (
    refine step_append_one (w := pageWorld PAGE w a b) rfl (.tmp 61) (.tmp 63) 60 rfl 78 i0 (.slice none 0 0) 24 Try.underlying60 hi hz0 hz1 hz2 rfl (.slice pa np pc) np _ (by simp [Act.eval, Act.put]) HP.out.pages ⟨w.heap.size + 2, 0, none⟩ 1 (.slice (some ⟨w.heap.size + 1, 0, none⟩) 4096 4096) (by simp [Act.eval, Act.put]) (pageWorld_new PAGE w a b) rfl b1 b2 ?_
    intro g cap w1 how hgr hat
    have PD := HD.out g cap w1 how hgr hat
    clear how hgr hat
    have q1 := PD.c1
    have q2 := PD.c2
    have q3 := PD.fz
    rw [hcnt] at q2
    have HPD : Hid (PageDone w t S own pa np pc fa fc pb a b g cap w1) := PD
    clear PD)
  all_goals go_wp2
  all_goals
    obtain ⟨pg, p, v0, v1, T⟩ := page_tail HS.out.2.2.1 HS.out.2.1 HS.out.1 l1 HPD.out
    generalize (w1.setCell ⟨t, 1, none⟩ (.slice (some ⟨g, 0, none⟩) (np + 1) cap)).setCell ⟨t, 2, none⟩ (.int .i64 ((cnt : Int) + 1)) = W at T ⊢
    obtain ⟨hp, f0, f1, f2, f3, f4, f5, g4, g5, m1, fin⟩ := T
    have HF : Hid (Leaves own t (Pl.newNode S (a, b)).2 w (((W.setCell ⟨p, cnt % 4096 * 2, none⟩ (.int .u32 (a : Int))).setCell ⟨p, cnt % 4096 * 2 + 1, none⟩ (.int .u32 (b : Int))).drew)) := fin
    clear c1 c3 c4 q1 q2 q3 hmk hc3 fin HP HD HS HPD
    go_region_held3 (fun w' => w'.cell? ⟨w.heap.size, 0, none⟩ = some (.int .u32 (a : Int)) ∧ w'.cell? ⟨w.heap.size, 1, none⟩ = some (.int .u32 (b : Int))) (go_keep)
      (first | (go_at_call 34; refine (node_cells t cnt pg (np + 1) cap p _ hr hp ?_ ?_).mono ?_; exact f2; exact f3; rintro e w' ⟨rfl, rfl⟩))
    go_wp2
    go_ret
    exact ⟨rfl, HF.out⟩

theorem Rep.out {w : World} {t : Nat} {S : Pl.St} {own : Nat → Prop} (h : Rep w t S own) : ∃ pa np pc fa fc pb, RepAt w t S own (fun i => i < S.cnt) pa np pc fa fc pb := h

/-- newNode, whatever the state of the tree: every free node is one of those counted. -/
theorem newNode_any {w : World} {t : Nat} {S : Pl.St} {own : Nat → Prop} (h : Rep w t S own) (hr : S.cnt < 2147483648) (hfr : ∀ r, r ∈ S.free → r < S.cnt) (hfl : S.free.length < 2147483648) (a b : Nat) :
    Calls Try.prog 33 #[.pointer (some ⟨t, 0, none⟩), .agg #[.int .u32 (a : Int), .int .u32 (b : Int)]] w fun e w' => e = .returned (.int .u32 ((Pl.newNode S (a, b)).1 : Int)) ∧ Leaves own t (Pl.newNode S (a, b)).2 w w' := by
  obtain ⟨pa, np, pc, fa, fc, pb, h⟩ := h
  rcases Pl.free_cases S with hf | ⟨fr, r, hf⟩
  · rw [show (Pl.newNode S (a, b)).1 = S.cnt from by rw [Pl.newNode_none _ hf]]
    have hc := h.cnt
    by_cases hp : S.cnt = 4096 * np
    · exact newNode_page h hf S.cnt rfl hr hp a b
    · have hnp := h.npb
      exact newNode_room h hf S.cnt rfl hr (by omega) (by omega) a b
  · have hrc : r < S.cnt := hfr r (by rw [hf]; simp)
    obtain ⟨fb, rfl, h1, h2, h3, h4, h5⟩ := h.popFree hf
    obtain ⟨pg, v0, v1, rfl, A, _⟩ := h.at' hrc
    obtain ⟨hp, f2, f3, f4, f5, g4, g5, n1, n2, n3, op, _⟩ := A
    rw [hf] at hfl
    simp at hfl
    refine (newNode_pop t a b r fr.length fb fc pg np pc (pb (r / 4096)) v0 v1 w (by omega) hp (by omega) h1 f2 f3 h2 h3 h4 f4 f5 g4 g5 n1 n2 n3).mono ?_
    rintro e w' ⟨rfl, rfl⟩
    rw [Pl.newNode_some _ hf]
    refine ⟨rfl, own, ⟨some ⟨pg, 0, none⟩, np, pc, some ⟨fb, 0, none⟩, fc, pb, ?_⟩, ?_⟩
    · exact (((h5.alloc _).storeNode (r := r) hrc a b).drew).weaken (fun i hi => Or.inl hi)
    · exact ((((Step.set h.ownT).trans (Step.alloc _ _ _)).trans (Step.set op)).trans (Step.set op)).trans (Step.drew _ _)
end Go.Proofs.Qxb6600977a
