/-
  SEAT b6602785a: namedIDs.
-/
import Derived.Test.Qxb6602785aB8
set_option linter.unusedVariables false
set_option linter.unusedSimpArgs false
namespace Go.Proofs.Qxb6602785a
open Go.RowKit Go.Maps

structure NRel (w wr : World) (M base : Nat) (ps : Nat → Pm) (k : Nat) (v : Value) : Prop where
  low : Below w.heap.size w wr
  map : MapIs wr M k (fun x => if x ∈ named ps k then some (.bool true) else none)
  ids : Ids wr base 44 v (named ps k)
  ltM : M < base
  leB : base ≤ wr.heap.size
  leM : w.heap.size ≤ M
  nilq : named ps k = [] → v = .slice none 0 0

theorem NRel.start {w W : World} (ps : Nat → Pm) (h : Below w.heap.size w W) : NRel w (W.alloc (.map #[] 0)) W.heap.size (W.heap.size + 1) ps 0 (.slice none 0 0) :=
  ⟨h.alloc h.size _, (MapIs.made W).congr (fun l _ => by simp [named]), World.ownsRow_nil _ _ _ _, by omega, by simp, h.size, fun _ => rfl⟩

theorem NRel.alloc {w wr : World} {M base : Nat} {ps : Nat → Pm} {k : Nat} {v : Value} (h : NRel w wr M base ps k v) (o : Obj) : NRel w (wr.alloc o) M base ps k v :=
  ⟨h.low.alloc h.low.size _, h.map.below ((Below.refl _ _).alloc (Nat.le_refl _) _), World.ownsRow.alloc h.ids o, h.ltM, by have := h.leB; simp; omega, h.leM, h.nilq⟩

theorem NRel.skip {w wr : World} {M base : Nat} {ps : Nat → Pm} {k : Nat} {v : Value} (h : NRel w wr M base ps k v) (hs : ¬ ((ps k).any = false ∧ (ps k).id ∉ named ps k)) : NRel w wr M base ps (k + 1) v := by
  have e : named ps (k + 1) = named ps k := by
    show (if (ps k).any = false ∧ (ps k).id ∉ named ps k then named ps k ++ [(ps k).id] else named ps k) = _
    rw [if_neg hs]
  exact ⟨h.low, by rw [e]; exact h.map.mono (by omega), by rw [e]; exact h.ids, h.ltM, h.leB, h.leM, by rw [e]; exact h.nilq⟩

/-- Behind the store into the set. -/
structure NMid (w W : World) (M base : Nat) (ps : Nat → Pm) (k : Nat) (v : Value) : Prop where
  low : Below w.heap.size w W
  map : MapIs W M (k + 1) (fun x => if x ∈ named ps k ++ [(ps k).id] then some (.bool true) else none)
  ids : Ids W base 44 v (named ps k)
  ltM : M < base
  leB : base ≤ W.heap.size
  leM : w.heap.size ≤ M

theorem NRel.stored {w wr W : World} {M base : Nat} {ps : Nat → Pm} {k : Nat} {v : Value} (h : NRel w wr M base ps k v) (hm : MapIs W M (k + 1) (fun x => if x = (ps k).id then some (.bool true) else if x ∈ named ps k then some (.bool true) else none)) (hg : wr.grownBy W (some M)) : NMid w W M base ps k v := by
  refine ⟨h.low.grown hg h.low.size (fun j hj => by cases hj; exact h.leM), hm.congr (fun l _ => ?_), World.ownsRow.kept h.ids hg ?_, h.ltM, Nat.le_trans h.leB hg.size, h.leM⟩
  · by_cases e : l = (ps k).id
    · simp [e]
    · simp [e]
  · cases hv : v.ownBlock with
    | none => exact Or.inl rfl
    | some g =>
      refine Or.inr ?_
      have := (World.ownsRow.lt h.ids g hv).1
      have h2 := h.ltM
      intro e
      simp only [Option.some.injEq] at e
      omega

theorem NMid.alloc {w W : World} {M base : Nat} {ps : Nat → Pm} {k : Nat} {v : Value} (h : NMid w W M base ps k v) (o : Obj) : NMid w (W.alloc o) M base ps k v :=
  ⟨h.low.alloc h.low.size _, h.map.below ((Below.refl _ _).alloc (Nat.le_refl _) _), World.ownsRow.alloc h.ids o, h.ltM, by have := h.leB; simp; omega, h.leM⟩

theorem NMid.done {w W W' : World} {M base : Nat} {ps : Nat → Pm} {k : Nat} {v v' : Value} (h : NMid w W M base ps k v) (hs : (ps k).any = false ∧ (ps k).id ∉ named ps k) (ho : W'.ownsRow base 44 16 v' ((named ps k).length + 1) (flat (named ps k) ++ (uc (ps k).id).toList)) (hg : W.grownBy W' v.ownBlock) : NRel w W' M base ps (k + 1) v' := by
  have e : named ps (k + 1) = named ps k ++ [(ps k).id] := by
    show (if (ps k).any = false ∧ (ps k).id ∉ named ps k then named ps k ++ [(ps k).id] else named ps k) = _
    rw [if_pos hs]
  have hne : ∀ g, v.ownBlock = some g → base ≤ g := fun g hg => (World.ownsRow.lt h.ids g hg).1
  refine ⟨h.low.grown hg h.low.size (fun j hj => ?_), ?_, ?_, h.ltM, Nat.le_trans h.leB hg.size, h.leM, fun h' => ?_⟩
  · have := hne j hj
    have := h.ltM
    have := h.leM
    omega
  · rw [e]
    refine h.map.keep (hg.block M h.map.lt (fun e' => ?_))
    have := hne M e'.symm
    have := h.ltM
    omega
  · rw [e]
    unfold Ids
    rw [flat_snoc, List.length_append]
    exact ho
  · rw [e] at h'
    simp at h'

/-- A whole array read, where the operation is guarded and wanted. -/
theorem wpList_load_wanted {P : Program} {ops : Array Oper} {rest : List Oper} {op : Oper} {a : Act} {w : World} {Q : Exit → Act → World → Prop} (hw : Region.wanted op (yielded ops a.tmps) = true) (ty : TypeId) (x : Operand) (ho : op.op = .load ty x)
    (b o : Nat) (hx : a.eval x = .pointer (some ⟨b, o, none⟩)) (cs : List Value) (d : TypeDesc) (hc : w.rangeAt b o cs) (hu : P.underlying ty = some d) (hd : d.isRow = true) (hi : (P.info? ty).map (·.size) = some cs.length)
    (h : wpList P ops Q rest (a.put op.dst (.agg cs.toArray)) w) : wpList P ops Q (op :: rest) a w := by
  unfold wpList
  rw [if_pos hw]
  exact Or.inl (wp_load_mid ty x ho b o hx cs d hc hu hd hi h)

theorem zero4 (w : World) : (zeroValue 4).run Try.prog w = .ok (.bool false) w := by kernel_rfl
theorem info44z : (Try.prog.info? 44).map (fun i => (i.zero, i.size, i.bytes)) = some (some (.agg #[.int .u8 0, .int .u8 0, .int .u8 0, .int .u8 0, .int .u8 0, .int .u8 0, .int .u8 0, .int .u8 0, .int .u8 0, .int .u8 0, .int .u8 0, .int .u8 0, .int .u8 0, .int .u8 0, .int .u8 0, .int .u8 0]), 16, 16) := by kernel_rfl

set_option maxHeartbeats 2000000 in
set_option maxRecDepth 20000 in
theorem named_site (Pp No : Nat) (la : Option Addr) (ll lc : Nat) (ps : Nat → Pm) (w : World) (hm : ll ≤ 1048576) (hok : ∀ i, i < ll → PmOk (ps i)) (hc : w.cell? ⟨Pp, 20, none⟩ = some (.slice la ll lc)) (h : PermsAt w la ll ps) :
    Calls Try.prog 40 #[.pointer (some ⟨Pp, 0, none⟩), .int .u8 4, .pointer (some ⟨No, 0, none⟩)] w fun e w' => ∃ v base, e = .returned v ∧ Ids w' base 44 v (named ps ll) ∧ (named ps ll = [] → v = .slice none 0 0) ∧ Below w.heap.size w w' := by
  have HS := hide h
  have HK := hide hok
  have hmm := @run_makeMap Try.prog
  obtain ⟨i0, hi0, hz0, hz1, hz2⟩ := info_parts info44z
  clear h hok
  go_enter Try.func40, Try.ntmps40
  go_wp2_with fail
  have HN0 : Hid (NRel w ((w).alloc (.map #[] 0)) w.heap.size (w.heap.size + 1) ps 0 (.slice none 0 0)) := hide (NRel.start ps (Below.refl w.heap.size w))
  generalize (w).alloc (.map #[] 0) = w0 at HN0 ⊢
  generalize w.heap.size = M at HN0 ⊢
  go_loopw [8, 55] (fun v i wr => ∃ k : Nat, k ≤ ll ∧ i = .int .i64 k ∧ NRel w wr M (M + 1) ps k v) (fun _ i _ => ll - (intOf i).toNat)
  case atStart => exact ⟨0, Nat.zero_le _, rfl, HN0.out⟩
  case round =>
    obtain ⟨k, hk, rfl, hn⟩ := hrel
    have HN := hide hn
    clear hn
    by_cases hlt : k < ll
    · obtain ⟨b, off, rfl, hbl, hp⟩ := HS.out k hlt
      have hid := (HK.out k hlt).id
      have HP := hide (range_of_pm hid (hp.of (fun o => HN.out.low.cell hbl)))
      have HB := hide (pmCells_of_range hid (range_new wr (pc (ps k)) 92))
      have HI := hide hid
      have hfl : ∀ V : World, (storeCells ⟨V.heap.size, 0, none⟩ (pc (ps k)).toList).run Try.prog (V.alloc (.cells #[.bool false, .int .u8 0, .string ⟨#[]⟩, .bool false, .int .u8 0, .int .u8 0, .int .u8 0, .int .u8 0, .int .u8 0, .int .u8 0, .int .u8 0, .int .u8 0, .int .u8 0, .int .u8 0, .int .u8 0, .int .u8 0, .int .u8 0, .int .u8 0, .int .u8 0, .int .u8 0, .string ⟨#[]⟩] 92)) = .ok () (V.alloc (.cells (pc (ps k)) 92)) := fun V => fill92 hid V _ rfl
      have hsz := pc_size hid
      have c3 := HB.out.2.2.2.1
      simp only [Nat.zero_add] at c3
      have HN1 := hide (HN.out.alloc (.cells (pc (ps k)) 92))
      have hlk := HN1.out.map.look Try.underlying93 (zero4 _) hid
      clear hp hbl hid
      cases ha : (ps k).any with
      | true =>
        rw [ha] at c3
        have HA := hide ha
        clear ha hlk
        go_wp2_with (refine wpList_load_mid rfl 92 _ rfl b (off + k * 21) rfl (pc (ps k)).toList _ HP.out Try.underlying92 rfl (info92s HI.out) ?_)
        go_roundw
        case rel => exact ⟨k + 1, by omega, by go_num, HN1.out.skip (fun h => by rw [HA.out] at h; cases h.1)⟩
        case measure => simp [intOf]; omega
      | false =>
        rw [ha] at c3
        have HA := hide ha
        clear ha
        by_cases hmem : (ps k).id ∈ named ps k
        · rw [if_pos hmem] at hlk
          simp only [Option.getD_some] at hlk
          have HM := hide hmem
          clear hmem
          go_wp2_with (first
            | (refine wpList_load_mid rfl 92 _ rfl b (off + k * 21) rfl (pc (ps k)).toList _ HP.out Try.underlying92 rfl (info92s HI.out) ?_)
            | (refine wpList_load_wanted rfl 44 _ rfl wr.heap.size 4 rfl (uc (ps k).id).toList _ HB.out.2.2.2.2.1 Try.underlying44 rfl (info44 HI.out) ?_))
          go_roundw
          case rel => exact ⟨k + 1, by omega, by go_num, HN1.out.skip (fun h => h.2 HM.out)⟩
          case measure => simp [intOf]; omega
        · rw [if_neg hmem] at hlk
          simp only [Option.getD_none] at hlk
          have HM := hide hmem
          clear hmem
          have hln := named_len ps k
          go_wp2_with (first
            | (refine wpList_load_mid rfl 92 _ rfl b (off + k * 21) rfl (pc (ps k)).toList _ HP.out Try.underlying92 rfl (info92s HI.out) ?_)
            | (refine wpList_load_wanted rfl 44 _ rfl wr.heap.size 4 rfl (uc (ps k).id).toList _ HB.out.2.2.2.2.1 Try.underlying44 rfl (info44 HI.out) ?_)
            | (at_mapUpdate; refine wpList_mapUpdate_is rfl _ _ _ 93 rfl 4 Try.underlying93 M k _ rfl HN1.out.map (by unfold maxLen; omega) (ps k).id HI.out rfl (.bool true) rfl ?_; intro w2 hm2 hg2; have HN2 := hide (And.intro (HN1.out.stored hm2 hg2) (show w2.rangeAt wr.heap.size 4 (uc (ps k).id).toList from fun j v hv => cell_turn hg2 HN1.out.map.noCell (HB.out.2.2.2.2.1 j v (by simpa using hv)))); clear hm2 hg2)
            | (refine wpList_load_wanted rfl 44 _ rfl wr.heap.size 4 rfl (uc (ps k).id).toList _ HN2.out.2 Try.underlying44 rfl (info44 HI.out) ?_)
            | (refine wpList_buildSlice_is rfl _ 42 44 (Or.inl ⟨rfl, rfl⟩) rfl (ps k).id HI.out rfl ?_)
            | (at_builtin; refine wpList_append_own_at _ rfl _ _ 42 rfl (M + 1) 44 i0 _ 16 16 Try.underlying42 hi0 hz0 hz1 hz2 rfl (by decide) _ (named ps k).length (flat (named ps k)) rfl (HN2.out.1.alloc (.cells (uc (ps k).id) 44)).ids ⟨w2.heap.size, 0, none⟩ 1 1 (uc (ps k).id).toList rfl (by simp [uc_size, HI.out.len]) (fun j u hu => by rw [Addr.add_mid]; exact range_new w2 (uc (ps k).id) 44 j u hu) (fun u hu => (Array.all_eq_true_iff_forall_mem.1 (uc_one HI.out)) u (by simpa using hu)) (by unfold maxLen; omega) (by omega) (HN2.out.1.alloc (.cells (uc (ps k).id) 44)).leB ?_; intro v' w3 ho3 hg3 hnil3 hloc3; have HN3 := hide ((HN2.out.1.alloc (.cells (uc (ps k).id) 44)).done ⟨HA.out, HM.out⟩ ho3 hg3); clear ho3 hg3 hnil3 hloc3))
          go_roundw
          case rel => exact ⟨k + 1, by omega, by go_num, HN3.out⟩
          case measure => simp [intOf]; omega
    · obtain rfl : ll = k := by omega
      go_wp2_with fail
      go_ret
      exact ⟨_, _, rfl, HN.out.ids, HN.out.nilq, HN.out.low⟩
end Go.Proofs.Qxb6602785a
