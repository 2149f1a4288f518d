/-
  SEAT b6602785a: zzUUIDPtr, zzObject, zzFirstEntry.
-/
import Derived.Test.Qxb6602785aB4
import Derived.Deep.WholeRow
import Derived.BigQuiet
set_option linter.unusedVariables false
set_option linter.unusedSimpArgs false
namespace Go.Proofs.Qxb6602785a
open Go.RowKit Go.Maps

/-- A pointer to an id, or nil. -/
def PtrAt (w : World) (p : Option Addr) (o : Option (List Nat)) : Prop :=
  (p = none ∧ o = none) ∨ ∃ b off id, p = some ⟨b, off, none⟩ ∧ o = some id ∧ IsId id ∧ b < w.heap.size ∧ w.rangeAt b off (uc id).toList

theorem PtrAt.below {w w' : World} {p : Option Addr} {o : Option (List Nat)} (h : PtrAt w p o) (hb : Below w.heap.size w w') : PtrAt w' p o := by
  rcases h with h | ⟨b, off, id, h1, h2, h3, h4, h5⟩
  · exact Or.inl h
  · exact Or.inr ⟨b, off, id, h1, h2, h3, Nat.lt_of_lt_of_le h4 hb.size, rangeAt_of (fun o => hb.cell h4) h5⟩

theorem info39 {id : List Nat} (h : IsId id) : (Try.prog.info? 39).map (·.size) = some (uc id).toList.length := by rw [show (uc id).toList.length = 16 by simp [uc_size, h.len]]; kernel_rfl
theorem info44 {id : List Nat} (h : IsId id) : (Try.prog.info? 44).map (·.size) = some (uc id).toList.length := by rw [show (uc id).toList.length = 16 by simp [uc_size, h.len]]; kernel_rfl
theorem info44s {id : List Nat} (h : IsId id) : (Try.prog.info? 44).map (·.size) = some (uc id).size := by rw [uc_size, h.len]; kernel_rfl
theorem uc_one {id : List Nat} (h : IsId id) : (uc id).all (·.oneCell') = true := by
  obtain ⟨n0, n1, n2, n3, n4, n5, n6, n7, n8, n9, n10, n11, n12, n13, n14, n15, rfl⟩ := id16 h
  kernel_rfl
theorem there_new (w : World) (cs : Array Value) (t : TypeId) : (w.alloc (.cells cs t)).there w.heap.size 0 cs.size := fun j hj => by
  have h1 := heap_alloc_new' w (.cells cs t)
  refine ⟨by rw [cell_of_heap h1, Nat.zero_add, Array.getElem?_eq_getElem hj]; rfl, ?_⟩
  rw [World.frozen?, h1]
  simp
theorem range_new (w : World) (cs : Array Value) (t : TypeId) : (w.alloc (.cells cs t)).rangeAt w.heap.size 0 cs.toList := fun j v hv => by
  rw [cell_of_heap (heap_alloc_new' w (.cells cs t)), Nat.zero_add]
  simpa using hv

theorem fill_new {id : List Nat} (h : IsId id) (w : World) : (storeCells ⟨w.heap.size, 0, none⟩ (uc id).toList).run Try.prog (w.alloc (.cells #[.int .u8 0, .int .u8 0, .int .u8 0, .int .u8 0, .int .u8 0, .int .u8 0, .int .u8 0, .int .u8 0, .int .u8 0, .int .u8 0, .int .u8 0, .int .u8 0, .int .u8 0, .int .u8 0, .int .u8 0, .int .u8 0] 44)) = .ok () (w.alloc (.cells (uc id) 44)) :=
  run_storeCells_new w 44 _ (uc id) (info44s h) (by rw [uc_size, h.len]; rfl) (uc_one h)

set_option maxHeartbeats 1000000 in
theorem uuidPtr_any (p : Option Addr) (o : Option (List Nat)) (w : World) (h : PtrAt w p o) :
    Calls Try.prog 36 #[.pointer p] w fun e w' => ∃ q, e = .returned (.pointer q) ∧ PtrAt w' q o ∧ Below w.heap.size w w' := by
  rcases h with ⟨rfl, rfl⟩ | ⟨b, off, id, rfl, rfl, hid, hlt, hr⟩
  · go_enter Try.func36, Try.ntmps36
    go_wp2
    go_ret
    exact ⟨none, rfl, Or.inl ⟨rfl, rfl⟩, Below.refl _ _⟩
  · have HI := hide hid
    have HR := hide hr
    clear hid hr
    go_enter Try.func36, Try.ntmps36
    have hfl := fill_new HI.out
    have hus : (uc id).size = 16 := by rw [uc_size]; exact HI.out.len
    go_wp2_with (refine wpList_load_mid rfl 39 _ rfl b off rfl (uc id).toList _ HR.out Try.underlying39 rfl (info39 HI.out) ?_)
    go_ret
    exact ⟨_, rfl, Or.inr ⟨_, _, id, rfl, rfl, HI.out, by simp, range_new _ _ _⟩, (Below.refl _ _).alloc (Nat.le_refl _) _⟩

/-- An object in block N: its type, and its three pointers. -/
structure ObjAt (w : World) (N : Nat) (typ : ByteArray) (o1 o2 o3 : Option (List Nat)) : Prop where
  lt : N < w.heap.size
  typ : w.cell? ⟨N, 0, none⟩ = some (.string typ)
  id : ∃ q, w.cell? ⟨N, 1, none⟩ = some (.pointer q) ∧ PtrAt w q o1
  own : ∃ q, w.cell? ⟨N, 2, none⟩ = some (.pointer q) ∧ PtrAt w q o2
  org : ∃ q, w.cell? ⟨N, 3, none⟩ = some (.pointer q) ∧ PtrAt w q o3

theorem ObjAt.below {w w' : World} {N : Nat} {typ : ByteArray} {o1 o2 o3 : Option (List Nat)} (h : ObjAt w N typ o1 o2 o3) (hb : Below w.heap.size w w') : ObjAt w' N typ o1 o2 o3 := by
  obtain ⟨q1, a1, b1⟩ := h.id
  obtain ⟨q2, a2, b2⟩ := h.own
  obtain ⟨q3, a3, b3⟩ := h.org
  exact ⟨Nat.lt_of_lt_of_le h.lt hb.size, (hb.cell h.lt).trans h.typ, ⟨q1, (hb.cell h.lt).trans a1, b1.below hb⟩, ⟨q2, (hb.cell h.lt).trans a2, b2.below hb⟩, ⟨q3, (hb.cell h.lt).trans a3, b3.below hb⟩⟩

set_option maxHeartbeats 1000000 in
theorem object_any (typ : ByteArray) (p1 p2 p3 : Option Addr) (o1 o2 o3 : Option (List Nat)) (w : World) (h1 : PtrAt w p1 o1) (h2 : PtrAt w p2 o2) (h3 : PtrAt w p3 o3) :
    Calls Try.prog 13 #[.string typ, .pointer p1, .pointer p2, .pointer p3] w fun e w' => ∃ N, e = .returned (.pointer (some ⟨N, 0, none⟩)) ∧ ObjAt w' N typ o1 o2 o3 ∧ Below w.heap.size w w' := by
  have H1 := hide h1
  have H2 := hide h2
  have H3 := hide h3
  clear h1 h2 h3
  go_enter Try.func13, Try.ntmps13
  go_wp2_with fail
  refine (uuidPtr_any p1 o1 _ H1.out).mono ?_
  rintro e w1 ⟨q1, rfl, r1, b1⟩
  have B1 := hide (And.intro r1 b1)
  clear r1 b1
  go_wp2_with fail
  refine (uuidPtr_any p2 o2 _ (H2.out.below B1.out.2)).mono ?_
  rintro e w2 ⟨q2, rfl, r2, b2⟩
  have B2 := hide (And.intro (B1.out.1.below b2) (And.intro r2 (B1.out.2.trans (b2.mono B1.out.2.size))))
  clear r2 b2 B1
  go_wp2_with fail
  refine (uuidPtr_any p3 o3 _ (H3.out.below B2.out.2.2)).mono ?_
  rintro e w3 ⟨q3, rfl, r3, b3⟩
  have B3 := hide (And.intro (B2.out.1.below b3) (And.intro (B2.out.2.1.below b3) (And.intro r3 (B2.out.2.2.trans (b3.mono B2.out.2.2.size)))))
  clear r3 b3 B2
  go_wp2_with fail
  go_ret
  have hb := (Below.refl w3.heap.size w3).alloc (Nat.le_refl _) (.cells #[.string typ, .pointer q1, .pointer q2, .pointer q3, .map none, .map none] 76)
  refine ⟨_, rfl, ⟨by simp, by rw [World.cell?_alloc_new]; rfl, ⟨q1, by rw [World.cell?_alloc_new]; rfl, B3.out.1.below hb⟩, ⟨q2, by rw [World.cell?_alloc_new]; rfl, B3.out.2.1.below hb⟩, ⟨q3, by rw [World.cell?_alloc_new]; rfl, B3.out.2.2.1.below hb⟩⟩, B3.out.2.2.2.trans (hb.mono B3.out.2.2.2.size)⟩

/-- The first of the first k entries that has the id org; none: none. -/
def firstTo (es : Nat → En) (org : List Nat) : Nat → Option Nat
  | 0 => none
  | k + 1 => match firstTo es org k with
    | some j => some j
    | none => if (es k).org = org then some k else none

theorem firstTo_lt {es : Nat → En} {org : List Nat} : ∀ {k j : Nat}, firstTo es org k = some j → j < k ∧ (es j).org = org
  | 0, j, h => by simp [firstTo] at h
  | k + 1, j, h => by
    unfold firstTo at h
    split at h
    · rename_i j' hj'
      simp only [Option.some.injEq] at h
      subst h
      have := firstTo_lt hj'
      exact ⟨by omega, this.2⟩
    · split at h
      · rename_i he
        simp only [Option.some.injEq] at h
        subst h
        exact ⟨by omega, he⟩
      · cases h

/-- The first that has the id stays the first. -/
theorem firstTo_stays {es : Nat → En} {org : List Nat} {k j : Nat} (h : firstTo es org k = some j) : ∀ n, firstTo es org (k + n) = some j
  | 0 => h
  | n + 1 => by
    show (match firstTo es org (k + n) with | some j => some j | none => if (es (k + n)).org = org then some (k + n) else none) = some j
    rw [firstTo_stays h n]

/-- The load of an id, as the walk's own steps leave it. -/
theorem load_cells {W : World} {b o : Nat} {id : List Nat} (hi : IsId id) (h : W.rangeAt b o (uc id).toList) : (loadCellsFrom ⟨b, o, none⟩ 0 16 #[]).run Try.prog W = .ok (uc id) W := by
  have := run_loadCells_list (P := Try.prog) W ⟨b, o, none⟩ (uc id).toList (fun j v hv => by rw [Addr.add_mid]; exact h j v hv)
  have hl : (uc id).toList.length = 16 := by simp [uc_size, hi.len]
  rw [hl] at this
  simpa [loadCells] using this
theorem range_drewN {W : World} {b o : Nat} {cs : List Value} (h : W.rangeAt b o cs) (n : Nat) : (W.drewN n).rangeAt b o cs := fun j v hv => by
  have := h j v hv
  simpa using this

/-- A whole array read in a region that draws its order and only reads. -/
theorem wpQuiet_load {P : Program} {ops : Array Oper} {C : World → Prop} {Q : Act → Prop} {a : Act} {o : Oper} {rest : List Oper} (ty : TypeId) (x : Operand) (hw : Region.wanted o (yielded ops a.tmps) = true) (ho : o.op = .load ty x)
    (b off : Nat) (hx : a.eval x = .pointer (some ⟨b, off, none⟩)) (cs : Array Value) (d : TypeDesc) (hC : ∀ w, C w → w.rangeAt b off cs.toList) (hu : P.underlying ty = some d) (hd : d.isRow = true) (hi : (P.info? ty).map (·.size) = some cs.toList.length)
    (h : wpQuiet P ops C Q rest (a.put o.dst (.agg cs))) : wpQuiet P ops C Q (o :: rest) a := by
  unfold wpQuiet
  rw [if_pos hw]
  refine ⟨.agg cs, fun w hw' => ?_, h⟩
  unfold Oper.quietAt execOp
  simp only [ho, hx, Instr.loadAt, Instr.sureAddr, Sem.run_bind, Sem.run_pure, Result.andThen_ok, run_loadVar_mid w b off ty cs.toList d (hC w hw') hu hd hi]
  exact ⟨rfl, by simp⟩

theorem below_drewN {B : Nat} {w w' : World} (h : Below B w w') (n : Nat) : Below B w (w'.drewN n) := ⟨h.os, h.tape, h.output, h.size, h.block⟩

def idx (o : Option Nat) : Int := match o with | some j => (j : Int) | none => -1

set_option maxHeartbeats 1000000 in
set_option maxRecDepth 20000 in
theorem firstEntry_any (a : Option Addr) (len cap : Nat) (es : Nat → En) (org : List Nat) (w : World) (horg : IsId org) (hm : len ≤ maxLen) (hok : ∀ i, i < len → EnOk (es i)) (h : EntriesAt w a len es) :
    Calls Try.prog 18 #[.slice a len cap, .agg (uc org)] w fun e w' => e = .returned (.int .i64 (idx (firstTo es org len))) ∧ Below w.heap.size w w' := by
  have HS := hide h
  have HK := hide hok
  have HO := hide horg
  unfold maxLen at hm
  clear h hok horg
  go_enter Try.func18, Try.ntmps18
  go_wp2_with fail
  have HN := hide (show (w.alloc (.cells (uc org) 39)).rangeAt w.heap.size 0 (uc org).toList from range_new w _ 39)
  have HW := hide ((Below.refl w.heap.size w).alloc (Nat.le_refl _) (.cells (uc org) 39))
  have HZ := hide (show w.heap.size < (w.alloc (.cells (uc org) 39)).heap.size by simp)
  generalize w.alloc (.cells (uc org) 39) = w0 at HN HW HZ ⊢
  obtain ⟨N, hN⟩ : ∃ N, N = w.heap.size := ⟨_, rfl⟩
  rw [← hN] at HN HZ ⊢
  have HNE := hide hN
  clear hN
  go_loopw [5] (fun i wr => ∃ k : Nat, k ≤ len ∧ i = .int .i64 k ∧ firstTo es org k = none ∧ Below w0.heap.size w0 wr) (fun i _ => len - (intOf i).toNat)
  case atStart => exact ⟨0, Nat.zero_le _, rfl, rfl, Below.refl _ _⟩
  case round =>
    obtain ⟨k, hk, rfl, hfi, hb⟩ := hrel
    have HF := hide hfi
    have HB := hide hb
    clear hfi hb
    by_cases hlt : k < len
    · obtain ⟨b, off, rfl, hbl, c0, c1, c2⟩ := HS.out k hlt
      have hlow : ∀ o, wr.cell? ⟨b, o, none⟩ = w.cell? ⟨b, o, none⟩ := fun o => (HB.out.cell (Nat.lt_of_lt_of_le hbl HW.out.size)).trans (HW.out.cell hbl)
      have hr1 := rangeAt_of hlow c0
      have hr2 : wr.rangeAt N 0 (uc org).toList := rangeAt_of (fun o => HB.out.cell HZ.out) HN.out
      have hid := (HK.out k hlt).org
      have hu39 := Try.underlying39
      have hi1 := info39 hid
      have hi2 := info39 HO.out
      have heq := eq39 hid HO.out
      have HST := hide (show firstTo es org (k + 1) = if (es k).org = org then some k else none by show (match firstTo es org k with | some j => some j | none => if (es k).org = org then some k else none) = _; rw [HF.out])
      clear c0 c1 c2 hbl hlow
      generalize (es k).org = og at *
      by_cases he : og = org
      · have t1 : decide (og = org) = true := decide_eq_true he
        have HE := hide he
        clear he
        rw [t1] at heq
        clear t1
        go_wp2_with fail
        refine wp_region_quiet_lit (by kernel_rfl) (by kernel_rfl) ?_
        repeat (go_big_quiet_step (fail))
        refine wpQuiet_load 39 _ rfl rfl b (off + k * 17) rfl (uc og) _ (fun w hw => by obtain ⟨n, rfl⟩ := hw; exact range_drewN hr1 n) Try.underlying39 rfl hi1 ?_
        simp only [Act.put, List.setIfInBounds_toArray, List.set_cons_zero, List.set_cons_succ]
        refine wpQuiet_load 39 _ rfl rfl N 0 rfl (uc org) _ (fun w hw => by obtain ⟨n, rfl⟩ := hw; exact range_drewN hr2 n) Try.underlying39 rfl hi2 ?_
        simp only [Act.put, List.setIfInBounds_toArray, List.set_cons_zero, List.set_cons_succ]
        repeat (go_big_quiet_step (fail))
        refine wpQuiet_nil ?_
        intro _ hw'
        obtain ⟨nq, hw''⟩ := hw'
        subst hw''
        go_wp2_with fail
        go_ret
        refine ⟨?_, ?_⟩
        · have h2 := HST.out
          rw [if_pos HE.out] at h2
          obtain ⟨n, hn⟩ : ∃ n, len = k + 1 + n := ⟨len - (k + 1), by omega⟩
          rw [hn, firstTo_stays h2 n]
          rfl
        · exact HW.out.trans ((below_drewN HB.out nq).mono HW.out.size)
      · have t1 : decide (og = org) = false := decide_eq_false he
        have HE := hide he
        clear he
        rw [t1] at heq
        clear t1
        go_wp2_with fail
        refine wp_region_quiet_lit (by kernel_rfl) (by kernel_rfl) ?_
        repeat (go_big_quiet_step (fail))
        refine wpQuiet_load 39 _ rfl rfl b (off + k * 17) rfl (uc og) _ (fun w hw => by obtain ⟨n, rfl⟩ := hw; exact range_drewN hr1 n) Try.underlying39 rfl hi1 ?_
        simp only [Act.put, List.setIfInBounds_toArray, List.set_cons_zero, List.set_cons_succ]
        refine wpQuiet_load 39 _ rfl rfl N 0 rfl (uc org) _ (fun w hw => by obtain ⟨n, rfl⟩ := hw; exact range_drewN hr2 n) Try.underlying39 rfl hi2 ?_
        simp only [Act.put, List.setIfInBounds_toArray, List.set_cons_zero, List.set_cons_succ]
        repeat (go_big_quiet_step (fail))
        refine wpQuiet_nil ?_
        intro _ hw'
        obtain ⟨nq, hw''⟩ := hw'
        subst hw''
        go_wp2_with fail
        go_roundw
        case rel => exact ⟨k + 1, by omega, by go_num, by rw [HST.out, if_neg HE.out], below_drewN HB.out nq⟩
        case measure => simp [intOf]; omega
    · obtain rfl : len = k := by omega
      go_wp2_with fail
      go_ret
      rw [HF.out]
      exact ⟨rfl, HW.out.trans (HB.out.mono HW.out.size)⟩
end Go.Proofs.Qxb6602785a
