/-
  SEAT b6602785a: zzPerms.
-/
import Derived.Test.Qxb6602785aB2
import Derived.Deep.RegionHeld3
set_option linter.unusedVariables false
set_option linter.unusedSimpArgs false
namespace Go.Proofs.Qxb6602785a
open Go.RowKit Go.Maps

/-- The cells of a permission. -/
def pc (p : Pm) : Array Value := #[.bool p.neg, .int .u8 (p.lv : Int), .string p.typ, .bool p.any] ++ uc p.id ++ #[.string p.act]

theorem pc_size {p : Pm} (h : IsId p.id) : (pc p).size = 21 := by simp [pc, uc_size, h.len]

def zero92 : Value := .agg #[.bool false, .int .u8 0, .string ByteArray.empty, .bool false, .int .u8 0, .int .u8 0, .int .u8 0, .int .u8 0, .int .u8 0, .int .u8 0, .int .u8 0, .int .u8 0, .int .u8 0, .int .u8 0, .int .u8 0, .int .u8 0, .int .u8 0, .int .u8 0, .int .u8 0, .int .u8 0, .string ByteArray.empty]
theorem info92 : (Try.prog.info? 92).map (fun i => (i.zero, i.size, i.bytes)) = some (some zero92, 21, 64) := by kernel_rfl

theorem make_perms (len : Nat) (hlen : len ≤ 1048576) : ∃ cur : Array Value, cur.size = len * 21 ∧ ∀ w : World, (Instr.makeSlice 45 (.int .i64 (len : Int)) (.int .i64 (len : Int))).run Try.prog w = .ok (.slice (some ⟨w.heap.size, 0, none⟩) len len) (w.alloc (.cells cur 92)) := by
  obtain ⟨i0, hi, hz0, hz1, hz2⟩ := info_parts info92
  refine ⟨madeCells zero92.cells (len * i0.size), by rw [size_madeCells, hz1], fun w => ?_⟩
  have := run_make (P := Try.prog) w 45 92 i0 _ Try.underlying45 hi hz0 .i64 .i64 len len (by omega) (by omega) (by rw [hz2]; omega) (by omega)
  rw [this, Int.toNat_natCast]

theorem cell_of_heap {w : World} {g o : Nat} {cur : Array Value} {e : TypeId} {f : Nat × Nat} (h : w.heap[g]? = some (.cells cur e f)) : w.cell? ⟨g, o, none⟩ = cur[o]? := cell_of_row w g o cur e f h

theorem setCells_heap {g : Nat} {e : TypeId} : ∀ (vs : List Value) (o : Nat) (w : World) {cur : Array Value}, w.heap[g]? = some (.cells cur e (0, 0)) →
    (∃ cur', (w.setCells g o vs).heap[g]? = some (.cells cur' e (0, 0)) ∧ cur'.size = cur.size)
  | [], o, w, cur, h => ⟨cur, h, rfl⟩
  | v :: r, o, w, cur, h => by
    rw [World.setCells]
    have h1 : (w.setCell ⟨g, o, none⟩ v).heap[g]? = some (.cells (cur.setIfInBounds o v) e (0, 0)) := by simp [World.setCell, Array.getElem?_modify, h]
    obtain ⟨cur', h2, h3⟩ := setCells_heap r (o + 1) _ h1
    exact ⟨cur', h2, by rw [h3]; simp⟩

theorem setCells_below {g : Nat} : ∀ (vs : List Value) (o : Nat) (w : World), Below g w (w.setCells g o vs)
  | [], o, w => Below.refl _ _
  | v :: r, o, w => by
    rw [World.setCells]
    have h1 : Below g w (w.setCell ⟨g, o, none⟩ v) := ⟨rfl, rfl, rfl, by simp, fun k hk => Below.heap_setCell w _ v k (by simp; omega)⟩
    exact h1.trans (setCells_below r (o + 1) _)

theorem pc_head (p : Pm) (j : Nat) (hj : j < 4) : (pc p)[j]? = (#[Value.bool p.neg, .int .u8 (p.lv : Int), .string p.typ, .bool p.any])[j]? := by
  unfold pc
  rw [Array.getElem?_append_left (by simp; omega), Array.getElem?_append_left (by simpa using hj)]

theorem pmCells_of_range {w : World} {b o : Nat} {p : Pm} (hp : IsId p.id) (h : w.rangeAt b o (pc p).toList) : PmCells w b o p := by
  have hs : ∀ j, j < 16 → (uc p.id)[j]? = (pc p)[4 + j]? := fun j hj => by
    unfold pc
    rw [Array.getElem?_append_left (by simp [uc_size, hp.len]; omega), Array.getElem?_append_right (by simp)]
    simp
  have g : ∀ j v, (pc p)[j]? = some v → w.cell? ⟨b, o + j, none⟩ = some v := fun j v hv => h j v (by simpa using hv)
  refine ⟨g 0 _ (by rw [pc_head p 0 (by omega)]; rfl), g 1 _ (by rw [pc_head p 1 (by omega)]; rfl), g 2 _ (by rw [pc_head p 2 (by omega)]; rfl), g 3 _ (by rw [pc_head p 3 (by omega)]; rfl), fun j v hv => ?_, g 20 _ ?_⟩
  · have hj : j < 16 := by
      have := (List.getElem?_eq_some_iff.1 hv).1
      simp [uc_size, hp.len] at this
      exact this
    rw [Nat.add_assoc]
    exact g (4 + j) v (by rw [← hs j hj]; simpa using hv)
  · unfold pc
    rw [Array.getElem?_append_right (by simp [uc_size, hp.len])]
    simp [uc_size, hp.len]

theorem heap_alloc_new' (w : World) (o : Obj) : (w.alloc o).heap[w.heap.size]? = some o := (MapKept.heap_alloc w o).1

structure CopyPm (w wr : World) (len j : Nat) (ps : Nat → Pm) : Prop where
  low : Below w.heap.size w wr
  row : ∃ cur : Array Value, wr.heap[w.heap.size]? = some (.cells cur 92 (0, 0)) ∧ cur.size = len * 21
  cells : ∀ i, i < j → PmCells wr w.heap.size (i * 21) (ps i)

theorem CopyPm.there {w wr : World} {len j : Nat} {ps : Nat → Pm} (h : CopyPm w wr len j ps) {k : Nat} (hk : k < len) : wr.there w.heap.size (k * 21) 21 := by
  obtain ⟨cur, h1, h2⟩ := h.row
  intro i hi
  have hlt : k * 21 + i < cur.size := by rw [h2]; omega
  refine ⟨by rw [cell_of_heap h1, Array.getElem?_eq_getElem hlt]; rfl, ?_⟩
  simp [World.frozen?, h1]

theorem CopyPm.store {w wr : World} {len k : Nat} {ps : Nat → Pm} (h : CopyPm w wr len k ps) (hk : k < len) (hok : ∀ i, i < len → IsId (ps i).id) : CopyPm w (wr.setCells w.heap.size (k * 21) (pc (ps k)).toList) len (k + 1) ps := by
  have hp := hok k hk
  obtain ⟨cur, h1, h2⟩ := h.row
  obtain ⟨cur', h3, h4⟩ := setCells_heap (pc (ps k)).toList (k * 21) wr h1
  have hlen : (pc (ps k)).toList.length = 21 := by simp [pc_size hp]
  refine ⟨h.low.trans (setCells_below _ _ _), ⟨cur', h3, by omega⟩, fun i hi => ?_⟩
  by_cases e : i = k
  · subst e
    exact pmCells_of_range hp (World.rangeAt_setCells_same _ _ _ _ (by rw [hlen]; exact h.there hk))
  · have hik : i < k := by omega
    have q : ∀ o, o < i * 21 + 21 → (wr.setCells w.heap.size (k * 21) (pc (ps k)).toList).cell? ⟨w.heap.size, o, none⟩ = wr.cell? ⟨w.heap.size, o, none⟩ := fun o ho =>
      World.cell?_setCells_out _ _ _ _ _ (fun _ _ => Or.inl (by show o < k * 21; omega))
    obtain ⟨c0, c1, c2, c3, c4, c5⟩ := h.cells i hik
    refine ⟨(q _ (by omega)).trans c0, (q _ (by omega)).trans c1, (q _ (by omega)).trans c2, (q _ (by omega)).trans c3, fun j v hv => ?_, (q _ (by omega)).trans c5⟩
    have := c4 j v hv
    have hj : j < 16 := by
      have := (List.getElem?_eq_some_iff.1 hv).1
      simp [uc_size, (hok i (by omega)).len] at this
      exact this
    exact (q _ (by omega)).trans this

theorem CopyPm.drew {w wr : World} {len j : Nat} {ps : Nat → Pm} (h : CopyPm w wr len j ps) : CopyPm w wr.drew len j ps := ⟨h.low.drew, h.row, h.cells⟩

theorem CopyPm.at {w wr : World} {len : Nat} {ps : Nat → Pm} (h : CopyPm w wr len len ps) : PermsAt wr (some ⟨w.heap.size, 0, none⟩) len ps := fun i hi => by
  obtain ⟨cur, h1, _⟩ := h.row
  exact ⟨_, _, rfl, (Array.getElem?_eq_some_iff.1 h1).1, by rw [Nat.zero_add]; exact h.cells i hi⟩

theorem id16 {l : List Nat} (h : IsId l) : ∃ n0 n1 n2 n3 n4 n5 n6 n7 n8 n9 n10 n11 n12 n13 n14 n15 : Nat, l = [n0, n1, n2, n3, n4, n5, n6, n7, n8, n9, n10, n11, n12, n13, n14, n15] := by
  have hl := h.len
  match l, hl with
  | [n0, n1, n2, n3, n4, n5, n6, n7, n8, n9, n10, n11, n12, n13, n14, n15], _ => exact ⟨n0, n1, n2, n3, n4, n5, n6, n7, n8, n9, n10, n11, n12, n13, n14, n15, rfl⟩

theorem pc_one {p : Pm} (h : IsId p.id) : (pc p).all (·.oneCell') = true := by
  obtain ⟨neg, lv, typ, any, id, act⟩ := p
  obtain ⟨n0, n1, n2, n3, n4, n5, n6, n7, n8, n9, n10, n11, n12, n13, n14, n15, rfl⟩ := id16 h
  kernel_rfl

/-- The cells of a permission whose action is not yet laid. -/
def pq (p : Pm) : Array Value := #[.bool p.neg, .int .u8 (p.lv : Int), .string p.typ, .bool p.any] ++ uc p.id ++ #[.string ByteArray.empty]
theorem pq_size {p : Pm} (h : IsId p.id) : (pq p).size = 21 := by simp [pq, uc_size, h.len]
theorem pq_fold {p : Pm} (h : IsId p.id) : Array.foldl (fun (cs : Array Value) (x : Value × Nat) => cs.setIfInBounds (4 + x.snd) x.fst) #[Value.bool p.neg, .int .u8 (p.lv : Int), .string p.typ, .bool p.any, .int .u8 0, .int .u8 0, .int .u8 0, .int .u8 0, .int .u8 0, .int .u8 0, .int .u8 0, .int .u8 0, .int .u8 0, .int .u8 0, .int .u8 0, .int .u8 0, .int .u8 0, .int .u8 0, .int .u8 0, .int .u8 0, .string ⟨#[]⟩] (uc p.id).zipIdx 0 16 = pq p := by
  obtain ⟨neg, lv, typ, any, id, act⟩ := p
  obtain ⟨n0, n1, n2, n3, n4, n5, n6, n7, n8, n9, n10, n11, n12, n13, n14, n15, rfl⟩ := id16 h
  kernel_rfl
theorem pq_last {p : Pm} (h : IsId p.id) : (pq p).setIfInBounds 20 (.string p.act) = pc p := by
  obtain ⟨neg, lv, typ, any, id, act⟩ := p
  obtain ⟨n0, n1, n2, n3, n4, n5, n6, n7, n8, n9, n10, n11, n12, n13, n14, n15, rfl⟩ := id16 h
  kernel_rfl

set_option maxHeartbeats 2000000 in
set_option maxRecDepth 20000 in
theorem perms_some (ad : Addr) (len cap : Nat) (ps : Nat → Pm) (w : World) (hm : len ≤ 1048576) (hok : ∀ i, i < len → PmOk (ps i)) (h : PermsAt w (some ad) len ps) :
    Calls Try.prog 34 #[.slice (some ad) len cap] w fun e w' => e = .returned (.slice (some ⟨w.heap.size, 0, none⟩) len len) ∧ PermsAt w' (some ⟨w.heap.size, 0, none⟩) len ps ∧ Below w.heap.size w w' := by
  have hq : ∀ (w : World) (a : Option Addr) (n c n' c' : Nat), (binOp .eql 35 (.slice a n c) (.slice none n' c')).run Try.prog w = .ok (.bool a.isNone) w := fun w a n c n' c' => Lib.run_eql_slice_nil w _ _ a n c n' c' Try.underlying35
  obtain ⟨cur0, hc0, hmk⟩ := make_perms len hm
  have HS := hide h
  have HK := hide hok
  have HC0 := hide hc0
  clear h hok hc0
  go_enter Try.func34, Try.ntmps34
  go_wp2
  go_loopw [4] (fun i wr => ∃ k : Nat, k ≤ len ∧ i = .int .i64 k ∧ CopyPm w wr len k ps) (fun i _ => len - (intOf i).toNat)
  case atStart => exact ⟨0, Nat.zero_le _, rfl, (Below.refl _ _).alloc (Nat.le_refl _) _, ⟨cur0, heap_alloc_new' _ _, HC0.out⟩, fun i hi => by omega⟩
  case round =>
    obtain ⟨k, hk, rfl, hc⟩ := hrel
    have HC := hide hc
    clear hc
    by_cases hlt : k < len
    · obtain ⟨b, off, hab, hbl, c0, c1, c2, c3, c4, c5⟩ := HS.out k hlt
      simp only [Option.some.injEq] at hab
      subst hab
      have he : ∀ o, wr.cell? ⟨b, o, none⟩ = w.cell? ⟨b, o, none⟩ := fun o => HC.out.low.cell hbl
      rw [← he] at c0 c1 c2 c3 c5
      have hr := rangeAt_of he c4
      have ht := HC.out.there hlt
      have hid := (HK.out k hlt).id
      have HN := hide (HC.out.drew.store hlt (fun i hi => (HK.out i hi).id))
      have hne : b ≠ w.heap.size := by omega
      generalize w.heap.size = N at *
      clear hbl he c4
      have hu39 := Try.underlying39
      have hi39 : (Try.prog.info? 39).map (·.size) = some (uc (ps k).id).toList.length := by rw [show (uc (ps k).id).toList.length = 16 by simp [uc_size, hid.len]]; kernel_rfl
      have hus : (uc (ps k).id).size = 16 := by rw [uc_size]; exact hid.len
      have hpq := pq_size hid
      have hfo := pq_fold hid
      have hla := pq_last hid
      have hsz := pc_size hid
      have hi92 : (Try.prog.info? 92).map (·.size) = some (pc (ps k)).size := by rw [hsz]; kernel_rfl
      have h1c : (pc (ps k)).all (·.oneCell') = true := pc_one hid
      have hsc : (storeCells ⟨N, k * 21, none⟩ (pc (ps k)).toList).run Try.prog wr.drew = .ok () (wr.drew.setCells N (k * 21) (pc (ps k)).toList) := by
        have := run_storeCells_cells (P := Try.prog) N (k * 21) (pc (ps k)).toList 0 wr.drew (fun j hj => by simpa using (ht j (by simpa [hsz] using hj)).1) (fun j hj => by simpa using (ht j (by simpa [hsz] using hj)).2) (fun v hv => (Array.all_eq_true_iff_forall_mem.1 h1c) v (by simpa using hv))
        simpa using this
      clear h1c hi92
      have q2 : ∀ o, (wr.drew.setCells N (k * 21) (pc (ps k)).toList).cell? ⟨b, o, none⟩ = wr.cell? ⟨b, o, none⟩ := fun o => World.cell?_setCells_out N (pc (ps k)).toList (k * 21) wr.drew ⟨b, o, none⟩ (fun hb _ => absurd hb hne)
      have HK2 := hide (And.intro ((q2 _).trans c0) (And.intro ((q2 _).trans c1) (And.intro ((q2 _).trans c2) (And.intro ((q2 _).trans c3) (And.intro (rangeAt_of q2 hr) (And.intro ((q2 _).trans c5) (World.there_setCells (w := wr.drew) (by simpa using ht) N (k * 21) (pc (ps k)).toList)))))))
      clear q2
      generalize ps k = p at *
      go_wp2_with fail
      go_region_held3 (fun w' => w'.cell? ⟨b, off + k * 21, none⟩ = some (.bool p.neg) ∧ w'.cell? ⟨b, off + k * 21 + 1, none⟩ = some (.int .u8 (p.lv : Int)) ∧ w'.cell? ⟨b, off + k * 21 + 2, none⟩ = some (.string p.typ) ∧ w'.cell? ⟨b, off + k * 21 + 3, none⟩ = some (.bool p.any) ∧ w'.rangeAt b (off + k * 21 + 4) (uc p.id).toList ∧ w'.cell? ⟨b, off + k * 21 + 20, none⟩ = some (.string p.act) ∧ w'.there N (k * 21) 21) (first | exact ⟨c0, c1, c2, c3, hr, c5, ht⟩ | exact HK2.out) (fail)
      go_wp2_with fail
      go_roundw
      case rel => exact ⟨k + 1, by omega, by go_num, HN.out⟩
      case measure => simp [intOf]; omega
    · obtain rfl : len = k := by omega
      go_wp2_with fail
      go_ret
      exact ⟨rfl, HC.out.at, HC.out.low⟩

set_option maxHeartbeats 400000 in
theorem perms_nil (w : World) : Calls Try.prog 34 #[.slice none 0 0] w fun e w' => e = .returned (.slice none 0 0) ∧ w = w' := by
  have hq : ∀ (w : World) (a : Option Addr) (n c n' c' : Nat), (binOp .eql 35 (.slice a n c) (.slice none n' c')).run Try.prog w = .ok (.bool a.isNone) w := fun w a n c n' c' => Lib.run_eql_slice_nil w _ _ a n c n' c' Try.underlying35
  go_enter Try.func34, Try.ntmps34
  go_wp2
  go_ret
  exact ⟨rfl, rfl⟩

theorem perms_any (a : Option Addr) (len cap : Nat) (ps : Nat → Pm) (w : World) (hm : len ≤ 1048576) (hnil : a = none → len = 0 ∧ cap = 0) (hok : ∀ i, i < len → PmOk (ps i)) (h : PermsAt w a len ps) :
    Calls Try.prog 34 #[.slice a len cap] w fun e w' => ∃ a' cap', e = .returned (.slice a' len cap') ∧ PermsAt w' a' len ps ∧ Below w.heap.size w w' := by
  cases a with
  | none =>
    obtain ⟨rfl, rfl⟩ := hnil rfl
    refine (perms_nil w).mono ?_
    rintro e w' ⟨rfl, rfl⟩
    exact ⟨none, 0, rfl, h, Below.refl _ _⟩
  | some ad =>
    refine (perms_some ad len cap ps w hm hok h).mono ?_
    rintro e w' ⟨rfl, h1, h2⟩
    exact ⟨_, _, rfl, h1, h2⟩
end Go.Proofs.Qxb6602785a
