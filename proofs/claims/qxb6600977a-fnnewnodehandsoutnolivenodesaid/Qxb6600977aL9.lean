import Derived.Test.Qxb6600977aL8
import Derived.Test.Qxb6600977aM3
set_option linter.unusedVariables false
set_option linter.unusedSimpArgs false
namespace Go.Proofs.Qxb6600977a
open Go.RowKit

/-- A slice of truths that the call made: what each holds. -/
structure SeenAt (w : World) (mb c : Nat) (mk : Nat → Bool) : Prop where
  row : ∃ cur : Array Value, w.heap[mb]? = some (.cells cur 4 (0, 0)) ∧ cur.size = c ∧ ∀ i, i < c → cur[i]? = some (.bool (mk i))

theorem SeenAt.cell {w : World} {mb c : Nat} {mk : Nat → Bool} (h : SeenAt w mb c mk) {i : Nat} (hi : i < c) : w.cell? ⟨mb, i, none⟩ = some (.bool (mk i)) ∧ w.frozen? ⟨mb, i, none⟩ = false := by
  obtain ⟨cur, h1, h2, h3⟩ := h.row
  exact ⟨by rw [cell_of_heap h1]; exact h3 i hi, frozen_of_heap h1⟩
theorem SeenAt.lt {w : World} {mb c : Nat} {mk : Nat → Bool} (h : SeenAt w mb c mk) : mb < w.heap.size := by
  obtain ⟨cur, h1, _⟩ := h.row
  exact lt_of_heap h1
theorem SeenAt.set {w : World} {mb c : Nat} {mk : Nat → Bool} (h : SeenAt w mb c mk) {i : Nat} (hi : i < c) (v : Bool) : SeenAt (w.setCell ⟨mb, i, none⟩ (.bool v)) mb c (fun j => if j = i then v else mk j) := by
  obtain ⟨cur, h1, h2, h3⟩ := h.row
  refine ⟨_, heap_set_same _ h1, by simpa using h2, fun j hj => ?_⟩
  by_cases e : j = i
  · subst e; rw [Array.getElem?_setIfInBounds_self_of_lt (by omega)]; simp
  · rw [Array.getElem?_setIfInBounds_ne (by omega)]; simp [e, h3 j hj]
theorem SeenAt.congr {w : World} {mb c : Nat} {mk mk' : Nat → Bool} (h : SeenAt w mb c mk) (he : ∀ i, i < c → mk i = mk' i) : SeenAt w mb c mk' := by
  obtain ⟨cur, h1, h2, h3⟩ := h.row
  exact ⟨cur, h1, h2, fun i hi => by rw [← he i hi]; exact h3 i hi⟩

theorem info4 : (Try.prog.info? 4).map (fun i => (i.zero, i.size, i.bytes)) = some (some (.bool false), 1, 1) := by kernel_rfl

theorem make_seen (c : Nat) (hc : c ≤ 2147483648) : ∃ cur : Array Value, cur.size = c ∧ (∀ i, i < c → cur[i]? = some (.bool false)) ∧ ∀ w : World, (Instr.makeSlice 57 (.int .i64 (c : Int)) (.int .i64 (c : Int))).run Try.prog w = .ok (.slice (some ⟨w.heap.size, 0, none⟩) c c) (w.alloc (.cells cur 4)) := by
  refine ⟨madeCells #[.bool false] c, size_madeCells _ _, fun i hi => ?_, fun w => ?_⟩
  · have := toList_madeCells_one (.bool false) c
    rw [← Array.getElem?_toList, this]
    simp [hi]
  · exact run_make_row' (P := Try.prog) 57 4 (.bool false) 1 Try.underlying57 info4 rfl .i64 .i64 c (by omega) (by omega) w

structure SeenRel (w3 wr : World) (own : Nat → Prop) (t N M Q n root : Nat) (S : Pl.St) (pr : Nat → Nat × Nat) (k : Nat) : Prop where
  rep : Rep wr t (Pl.nnTo S pr n) own
  got : RefsAt wr N n (gotTo S pr n)
  marks : MarkAt wr M (Pl.nnTo S pr n).cnt (marked (Pl.nodes S.mem 128 root) (fun _ => 0))
  seen : SeenAt wr Q (Pl.nnTo S pr n).cnt (fun i => decide (i ∈ Pl.gots S pr k))
  low : Below w3.heap.size w3 wr
  not : ¬ own Q
  neN : N ≠ Q
  neM : M ≠ Q
  leQ : w3.heap.size ≤ Q

theorem SeenRel.start {w3 w7 w8 : World} {own : Nat → Prop} {t N n root : Nat} {S : Pl.St} {pr : Nat → Nat × Nat} {cur1 cur2 : Array Value}
    (hr : Rep w7 t (Pl.nnTo S pr n) own) (hg : RefsAt w7 N n (gotTo S pr n)) (hl : Below w3.heap.size w3 w7)
    (hm : MarkAt w8 w7.heap.size (Pl.nnTo S pr n).cnt (marked (Pl.nodes S.mem 128 root) (fun _ => 0)))
    (hs : Step (fun k => k = w7.heap.size) (fun k => k = w7.heap.size) (w7.alloc (.cells cur1 5)) w8)
    (h1 : cur2.size = (Pl.nnTo S pr n).cnt) (h2 : ∀ i, i < (Pl.nnTo S pr n).cnt → cur2[i]? = some (.bool false)) :
    SeenRel w3 (w8.alloc (.cells cur2 4)) own t N w7.heap.size w8.heap.size n root S pr 0 := by
  have s1 := hs.size
  simp only [World.size_alloc] at s1
  have s2 := hl.size
  have hsz : ∀ k, own k → k < w7.heap.size := by obtain ⟨pa, np, pc, fa, fc, pb, hh⟩ := hr; exact hh.size
  have st : Step (fun k => k = w7.heap.size) (fun k => k = w7.heap.size) w7 (w8.alloc (.cells cur2 4)) := ((Step.alloc _ w7 (.cells cur1 5)).trans hs).trans (Step.alloc _ w8 _)
  have hgl := hg.lt
  refine ⟨Rep.step hr st (fun k hk e => by have := hsz k hk; omega), hg.keep (st.block _ hgl (by omega)), hm.keep (heap_alloc_lt hm.lt), ⟨cur2, heap_alloc_new' _ _, h1, fun i hi => by rw [h2 i hi]; simp [Pl.gots]⟩, ?_, ?_, ?_, ?_, ?_⟩
  · exact hl.trans (st.toBelow s2 (fun k hk => by omega))
  · intro h'; have := hsz _ h'; omega
  · omega
  · omega
  · omega

theorem SeenRel.store {w3 wr : World} {own : Nat → Prop} {t N M Q n root : Nat} {S : Pl.St} {pr : Nat → Nat × Nat} {k : Nat} {y : Nat → Nat} (h : SeenRel w3 wr own t N M Q n root S pr k) (ok : RunOk S y) (hk : k < n) :
    SeenRel w3 (wr.setCell ⟨Q, Pl.gotAt S pr k, none⟩ (.bool true)) own t N M Q n root S pr (k + 1) := by
  have st : Step (fun k => k = Q) (fun k => k = Q) wr (wr.setCell ⟨Q, Pl.gotAt S pr k, none⟩ (.bool true)) := Step.set rfl
  refine ⟨Rep.step h.rep st (fun k hk e => h.not (e ▸ hk)), h.got.keep (st.block _ h.got.lt h.neN), h.marks.keep (st.block _ h.marks.lt h.neM), (h.seen.set (ok.got_lt pr hk) true).congr (fun i _ => ?_), h.low.trans (st.toBelow h.low.size (fun k hk => by have := h.leQ; omega)), h.not, h.neN, h.neM, h.leQ⟩
  rw [Pl.gots_succ]
  by_cases e : i = Pl.gotAt S pr k
  · simp [e]
  · simp [e]

/-- What a node that was handed out is not. -/
theorem got_fresh {S : Pl.St} {root : Nat} (pr : Nat → Nat × Nat) {k n : Nat} (ok : RunOk S (fun a => (Pl.nodes S.mem 128 root).count a)) (hk : k < n) : marked (Pl.nodes S.mem 128 root) (fun _ => 0) (Pl.gotAt S pr k) = 0 ∧ decide (Pl.gotAt S pr k ∈ Pl.gots S pr k) = false := by
  refine ⟨?_, decide_eq_false fun h => ?_⟩
  · have : Pl.gotAt S pr k ∉ Pl.nodes S.mem 128 root := fun h =>
      (Pl.nn_live S pr _ ok.once n (Pl.count_pos_of_mem h)).1 (Pl.gots_mem hk)
    simp [marked, this]
  · have h1 := Pl.nn_once S pr _ ok.once (k + 1) (Pl.gotAt S pr k)
    have h2 := Pl.count_pos_of_mem h
    rw [Pl.gots_succ, List.count_append, List.count_singleton_self] at h1
    split at h1 <;> omega

theorem run_agree {S : Pl.St} {root : Nat} (pr : Nat → Nat × Nat) (n : Nat) (ok : RunOk S (fun a => (Pl.nodes S.mem 128 root).count a)) :
    Pl.nodes (Pl.nnTo S pr n).mem 128 root = Pl.nodes S.mem 128 root ∧ (Pl.deep S.mem 128 root → Pl.deep (Pl.nnTo S pr n).mem 128 root) ∧ (∀ a, Pl.look (Pl.nnTo S pr n).mem 128 root a = Pl.look S.mem 128 root a) := by
  obtain ⟨h1, h2, h3, _⟩ := Pl.agree (m := S.mem) (m' := (Pl.nnTo S pr n).mem) 128 root (fun i hi => (Pl.nn_live S pr _ ok.once n (Pl.count_pos_of_mem hi)).2)
  exact ⟨h1, h2, h3⟩

theorem run_lt {S : Pl.St} {root : Nat} (pr : Nat → Nat × Nat) (n : Nat) (ok : RunOk S (fun a => (Pl.nodes S.mem 128 root).count a)) : ∀ i, i ∈ Pl.nodes S.mem 128 root → i < (Pl.nnTo S pr n).cnt := by
  intro i hi
  have h1 := Pl.nn_once S pr _ ok.once n i
  have h2 := Pl.count_pos_of_mem hi
  split at h1
  · assumption
  · omega
end Go.Proofs.Qxb6600977a
