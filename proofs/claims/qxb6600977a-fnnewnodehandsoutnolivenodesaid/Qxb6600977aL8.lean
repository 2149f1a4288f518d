import Derived.Test.Qxb6600977aL3
import Derived.Test.Qxb6600977aPlain2
set_option linter.unusedVariables false
set_option linter.unusedSimpArgs false
namespace Go.Proofs.Qxb6600977a
open Go.RowKit

/-- A slice of node numbers that the call made: what each holds. -/
structure RefsAt (w : World) (mb c : Nat) (mk : Nat → Nat) : Prop where
  row : ∃ cur : Array Value, w.heap[mb]? = some (.cells cur 29 (0, 0)) ∧ cur.size = c ∧ ∀ i, i < c → cur[i]? = some (.int .u32 (mk i : Int))

theorem RefsAt.cell {w : World} {mb c : Nat} {mk : Nat → Nat} (h : RefsAt w mb c mk) {i : Nat} (hi : i < c) : w.cell? ⟨mb, i, none⟩ = some (.int .u32 (mk i : Int)) ∧ w.frozen? ⟨mb, i, none⟩ = false := by
  obtain ⟨cur, h1, h2, h3⟩ := h.row
  exact ⟨by rw [cell_of_heap h1]; exact h3 i hi, frozen_of_heap h1⟩
theorem RefsAt.lt {w : World} {mb c : Nat} {mk : Nat → Nat} (h : RefsAt w mb c mk) : mb < w.heap.size := by
  obtain ⟨cur, h1, _⟩ := h.row
  exact lt_of_heap h1
theorem RefsAt.keep {w w' : World} {mb c : Nat} {mk : Nat → Nat} (h : RefsAt w mb c mk) (hb : w'.heap[mb]? = w.heap[mb]?) : RefsAt w' mb c mk := by
  obtain ⟨cur, h1, r⟩ := h.row
  exact ⟨cur, by rw [hb]; exact h1, r⟩
theorem RefsAt.below {w w' : World} {mb c : Nat} {mk : Nat → Nat} (h : RefsAt w mb c mk) (hb : Below w.heap.size w w') : RefsAt w' mb c mk := h.keep (hb.block _ h.lt)
theorem RefsAt.set {w : World} {mb c : Nat} {mk : Nat → Nat} (h : RefsAt w mb c mk) {i : Nat} (hi : i < c) (v : Nat) : RefsAt (w.setCell ⟨mb, i, none⟩ (.int .u32 (v : Int))) mb c (fun j => if j = i then v else mk j) := by
  obtain ⟨cur, h1, h2, h3⟩ := h.row
  refine ⟨_, heap_set_same _ h1, by simpa using h2, fun j hj => ?_⟩
  by_cases e : j = i
  · subst e; rw [Array.getElem?_setIfInBounds_self_of_lt (by omega)]; simp
  · rw [Array.getElem?_setIfInBounds_ne (by omega)]; simp [e, h3 j hj]
theorem RefsAt.congr {w : World} {mb c : Nat} {mk mk' : Nat → Nat} (h : RefsAt w mb c mk) (he : ∀ i, i < c → mk i = mk' i) : RefsAt w mb c mk' := by
  obtain ⟨cur, h1, h2, h3⟩ := h.row
  exact ⟨cur, h1, h2, fun i hi => by rw [← he i hi]; exact h3 i hi⟩

theorem make_refs (c : Nat) (hc : c ≤ 2147483648) : ∃ cur : Array Value, cur.size = c ∧ (∀ i, i < c → cur[i]? = some (.int .u32 0)) ∧ ∀ w : World, (Instr.makeSlice 43 (.int .i64 (c : Int)) (.int .i64 (c : Int))).run Try.prog w = .ok (.slice (some ⟨w.heap.size, 0, none⟩) c c) (w.alloc (.cells cur 29)) := by
  refine ⟨madeCells #[.int .u32 0] c, size_madeCells _ _, fun i hi => ?_, fun w => ?_⟩
  · have := toList_madeCells_one (.int .u32 0) c
    rw [← Array.getElem?_toList, this]
    simp [hi]
  · exact run_make_row' (P := Try.prog) 43 29 (.int .u32 0) 4 Try.underlying43 info29 rfl .i64 .i64 c (by omega) (by omega) w

theorem RefsAt.made {w : World} {cur : Array Value} {c : Nat} (h1 : cur.size = c) (h2 : ∀ i, i < c → cur[i]? = some (.int .u32 0)) : RefsAt (w.alloc (.cells cur 29)) w.heap.size c (fun _ => 0) :=
  ⟨cur, heap_alloc_new' _ _, h1, h2⟩

theorem Step.or {own own' : Nat → Prop} {w w' : World} (h : Step own own' w w') (N : Nat) : Step (fun b => own b ∨ b = N) (fun b => own' b ∨ b = N) w w' :=
  ⟨h.os, h.tape, h.output, h.size, fun k hk ho => h.block k hk (fun h' => ho (Or.inl h')), fun k hk => by
    rcases hk with h1 | h1
    · rcases h.grow k h1 with h2 | h2
      · exact Or.inl (Or.inl h2)
      · exact Or.inr h2
    · exact Or.inl (Or.inr h1)⟩

/-- What the numbers that newNode handed out are, behind k calls. -/
def gotTo (S : Pl.St) (pr : Nat → Nat × Nat) (k : Nat) : Nat → Nat := fun i => if i < k then Pl.gotAt S pr i else 0

/-- What a run of newNode is asked of. -/
structure RunOk (S : Pl.St) (y : Nat → Nat) : Prop where
  once : ∀ a, y a + S.free.count a = if a < S.cnt then 1 else 0
  cnt : S.cnt ≤ 1048576

theorem RunOk.len {S : Pl.St} {y : Nat → Nat} (h : RunOk S y) : S.free.length ≤ S.cnt := len_le S.cnt S.free (fun a => by have := h.once a; omega)
theorem RunOk.at {S : Pl.St} {y : Nat → Nat} (h : RunOk S y) (pr : Nat → Nat × Nat) (k : Nat) (hk : k ≤ 4096) : (Pl.nnTo S pr k).cnt < 2147483648 ∧ (∀ r, r ∈ (Pl.nnTo S pr k).free → r < (Pl.nnTo S pr k).cnt) ∧ (Pl.nnTo S pr k).free.length < 2147483648 := by
  obtain ⟨h1, h2⟩ := Pl.nn_shape S pr k
  have := h.cnt
  refine ⟨by omega, fun r hr => ?_, ?_⟩
  · have h3 := Pl.count_pos_of_mem hr
    have h4 := Pl.nn_once S pr y h.once k r
    split at h4
    · assumption
    · omega
  · rw [h1, List.length_take]
    have := h.len
    omega
theorem RunOk.got_lt {S : Pl.St} {y : Nat → Nat} (h : RunOk S y) (pr : Nat → Nat × Nat) {k i : Nat} (hi : i < k) : Pl.gotAt S pr i < (Pl.nnTo S pr k).cnt := by
  have h3 := Pl.count_pos_of_mem (Pl.gots_mem (S := S) (pr := pr) hi)
  have h4 := Pl.nn_once S pr y h.once k (Pl.gotAt S pr i)
  split at h4
  · assumption
  · omega

structure GotRel (w wr : World) (own own' : Nat → Prop) (t N n : Nat) (S : Pl.St) (pr : Nat → Nat × Nat) (k : Nat) : Prop where
  rep : Rep wr t (Pl.nnTo S pr k) own'
  got : RefsAt wr N n (gotTo S pr k)
  not : ¬ own' N
  step : Step (fun b => own b ∨ b = N) (fun b => own' b ∨ b = N) w wr

theorem GotRel.start {w : World} {own : Nat → Prop} {t n : Nat} {S : Pl.St} {pr : Nat → Nat × Nat} {cur : Array Value} (h : Rep w t S own) (h1 : cur.size = n) (h2 : ∀ i, i < n → cur[i]? = some (.int .u32 0)) : GotRel (w.alloc (.cells cur 29)) (w.alloc (.cells cur 29)) own own t w.heap.size n S pr 0 :=
  ⟨h.below ((Below.refl _ _).alloc (Nat.le_refl _) _), (RefsAt.made h1 h2).congr (fun i _ => by simp [gotTo]), fun h' => by obtain ⟨pa, np, pc, fa, fc, pb, hr⟩ := h; have := hr.size _ h'; omega, Step.refl _ _⟩

theorem GotRel.below {w wr wr' : World} {own own' : Nat → Prop} {t N n : Nat} {S : Pl.St} {pr : Nat → Nat × Nat} {k : Nat} (h : GotRel w wr own own' t N n S pr k) (hb : Below wr.heap.size wr wr') : GotRel w wr' own own' t N n S pr k :=
  ⟨h.rep.below hb, h.got.below hb, h.not, h.step.trans (Step.below hb)⟩

/-- One round: the call of newNode. -/
theorem got_call {w wr : World} {own own' : Nat → Prop} {t N n : Nat} {S : Pl.St} {pr : Nat → Nat × Nat} {k : Nat} {y : Nat → Nat} (h : GotRel w wr own own' t N n S pr k) (ok : RunOk S y) (hk : k < n) (hn : n ≤ 4096) :
    Calls Try.prog 23 #[.pointer (some ⟨t, 0, none⟩), .agg #[.int .u32 ((pr k).1 : Int), .int .u32 ((pr k).2 : Int)]] wr fun e w' => e = .returned (.int .u32 (Pl.gotAt S pr k : Int)) ∧ w'.frozen? ⟨N, k, none⟩ = false ∧ ∃ own'', GotRel w (w'.setCell ⟨N, k, none⟩ (.int .u32 (Pl.gotAt S pr k : Int))) own own'' t N n S pr (k + 1) ∧ w'.cell? ⟨N, k, none⟩ = some (.int .u32 (gotTo S pr k k : Int)) := by
  obtain ⟨a1, a2, a3⟩ := ok.at pr k (by omega)
  refine (zzNewNode_any h.rep a1 a2 a3 (pr k).1 (pr k).2).mono ?_
  rintro e w' ⟨rfl, own'', hr, hs⟩
  have hN := hs.notOwn h.got.lt h.not
  have hG : RefsAt w' N n (gotTo S pr k) := h.got.keep (hs.block _ h.got.lt h.not)
  refine ⟨rfl, (hG.cell hk).2, own'', ⟨?_, ?_, hN, ?_⟩, (hG.cell hk).1⟩
  · exact Rep.step hr (Step.set (own := fun b => b = N) rfl) (fun q hq e => hN (e ▸ hq))
  · refine (hG.set hk _).congr (fun i _ => ?_)
    unfold gotTo
    by_cases e : i = k
    · subst e; simp
    · by_cases e2 : i < k
      · simp [e, e2, show i < k + 1 from by omega]
      · simp [e, e2, show ¬ i < k + 1 from by omega]
  · exact (h.step.trans (hs.or N)).trans (Step.set (Or.inr rfl))
end Go.Proofs.Qxb6600977a
