import Derived.Test.Qxb6602785aB9
set_option linter.unusedVariables false
set_option linter.unusedSimpArgs false
namespace Go.Proofs.Qxb6602785a
open Go.RowKit Go.Maps

set_option maxHeartbeats 2000000 in
set_option maxRecDepth 20000 in
theorem named_user (Pp No : Nat) (la : Option Addr) (ll lc : Nat) (ps : Nat → Pm) (w : World) (hm : ll ≤ 1048576) (hok : ∀ i, i < ll → PmOk (ps i)) (hc : w.cell? ⟨Pp, 22, none⟩ = some (.slice la ll lc)) (h : PermsAt w la ll ps) :
    Calls Try.prog 40 #[.pointer (some ⟨Pp, 0, none⟩), .int .u8 6, .pointer (some ⟨No, 0, none⟩)] w fun e w' => ∃ v base, e = .returned v ∧ Ids w' base 44 v (named ps ll) ∧ (named ps ll = [] → v = .slice none 0 0) ∧ Below w.heap.size w w' := by
  have HS := hide h
  have HK := hide hok
  have hmm := @run_makeMap Try.prog
  obtain ⟨i0, hi0, hz0, hz1, hz2⟩ := info_parts info44z
  clear h hok
  go_enter Try.func40, Try.ntmps40
  go_wp2_with fail
  have HN0 : Hid (NRel w ((w).alloc (.map #[] 0)) w.heap.size (w.heap.size + 1) ps 0 (.slice none 0 0)) := hide (NRel.start ps (Below.refl w.heap.size w))
  generalize (w).alloc (.map #[] 0) = w0 at HN0 ⊢
  generalize w.heap.size = M at HN0 ⊢
  go_loopw [8, 55] (fun v i wr => ∃ k : Nat, k ≤ ll ∧ i = .int .i64 k ∧ NRel w wr M (M + 1) ps k v) (fun _ i _ => ll - (intOf i).toNat)
  case atStart => exact ⟨0, Nat.zero_le _, rfl, HN0.out⟩
  case round =>
    obtain ⟨k, hk, rfl, hn⟩ := hrel
    have HN := hide hn
    clear hn
    by_cases hlt : k < ll
    · obtain ⟨b, off, rfl, hbl, hp⟩ := HS.out k hlt
      have hid := (HK.out k hlt).id
      have HP := hide (range_of_pm hid (hp.of (fun o => HN.out.low.cell hbl)))
      have HB := hide (pmCells_of_range hid (range_new wr (pc (ps k)) 92))
      have HI := hide hid
      have hfl : ∀ V : World, (storeCells ⟨V.heap.size, 0, none⟩ (pc (ps k)).toList).run Try.prog (V.alloc (.cells #[.bool false, .int .u8 0, .string ⟨#[]⟩, .bool false, .int .u8 0, .int .u8 0, .int .u8 0, .int .u8 0, .int .u8 0, .int .u8 0, .int .u8 0, .int .u8 0, .int .u8 0, .int .u8 0, .int .u8 0, .int .u8 0, .int .u8 0, .int .u8 0, .int .u8 0, .int .u8 0, .string ⟨#[]⟩] 92)) = .ok () (V.alloc (.cells (pc (ps k)) 92)) := fun V => fill92 hid V _ rfl
      have hsz := pc_size hid
      have c3 := HB.out.2.2.2.1
      simp only [Nat.zero_add] at c3
      have HN1 := hide (HN.out.alloc (.cells (pc (ps k)) 92))
      have hlk := HN1.out.map.look Try.underlying93 (zero4 _) hid
      clear hp hbl hid
      cases ha : (ps k).any with
      | true =>
        rw [ha] at c3
        have HA := hide ha
        clear ha hlk
        go_wp2_with (refine wpList_load_mid rfl 92 _ rfl b (off + k * 21) rfl (pc (ps k)).toList _ HP.out Try.underlying92 rfl (info92s HI.out) ?_)
        go_roundw
        case rel => exact ⟨k + 1, by omega, by go_num, HN1.out.skip (fun h => by rw [HA.out] at h; cases h.1)⟩
        case measure => simp [intOf]; omega
      | false =>
        rw [ha] at c3
        have HA := hide ha
        clear ha
        by_cases hmem : (ps k).id ∈ named ps k
        · rw [if_pos hmem] at hlk
          simp only [Option.getD_some] at hlk
          have HM := hide hmem
          clear hmem
          go_wp2_with (first
            | (refine wpList_load_mid rfl 92 _ rfl b (off + k * 21) rfl (pc (ps k)).toList _ HP.out Try.underlying92 rfl (info92s HI.out) ?_)
            | (refine wpList_load_wanted rfl 44 _ rfl wr.heap.size 4 rfl (uc (ps k).id).toList _ HB.out.2.2.2.2.1 Try.underlying44 rfl (info44 HI.out) ?_))
          go_roundw
          case rel => exact ⟨k + 1, by omega, by go_num, HN1.out.skip (fun h => h.2 HM.out)⟩
          case measure => simp [intOf]; omega
        · rw [if_neg hmem] at hlk
          simp only [Option.getD_none] at hlk
          have HM := hide hmem
          clear hmem
          have hln := named_len ps k
          go_wp2_with (first
            | (refine wpList_load_mid rfl 92 _ rfl b (off + k * 21) rfl (pc (ps k)).toList _ HP.out Try.underlying92 rfl (info92s HI.out) ?_)
            | (refine wpList_load_wanted rfl 44 _ rfl wr.heap.size 4 rfl (uc (ps k).id).toList _ HB.out.2.2.2.2.1 Try.underlying44 rfl (info44 HI.out) ?_)
            | (at_mapUpdate; refine wpList_mapUpdate_is rfl _ _ _ 93 rfl 4 Try.underlying93 M k _ rfl HN1.out.map (by unfold maxLen; omega) (ps k).id HI.out rfl (.bool true) rfl ?_; intro w2 hm2 hg2; have HN2 := hide (And.intro (HN1.out.stored hm2 hg2) (show w2.rangeAt wr.heap.size 4 (uc (ps k).id).toList from fun j v hv => cell_turn hg2 HN1.out.map.noCell (HB.out.2.2.2.2.1 j v (by simpa using hv)))); clear hm2 hg2)
            | (refine wpList_load_wanted rfl 44 _ rfl wr.heap.size 4 rfl (uc (ps k).id).toList _ HN2.out.2 Try.underlying44 rfl (info44 HI.out) ?_)
            | (refine wpList_buildSlice_is rfl _ 42 44 (Or.inl ⟨rfl, rfl⟩) rfl (ps k).id HI.out rfl ?_)
            | (at_builtin; refine wpList_append_own_at _ rfl _ _ 42 rfl (M + 1) 44 i0 _ 16 16 Try.underlying42 hi0 hz0 hz1 hz2 rfl (by decide) _ (named ps k).length (flat (named ps k)) rfl (HN2.out.1.alloc (.cells (uc (ps k).id) 44)).ids ⟨w2.heap.size, 0, none⟩ 1 1 (uc (ps k).id).toList rfl (by simp [uc_size, HI.out.len]) (fun j u hu => by rw [Addr.add_mid]; exact range_new w2 (uc (ps k).id) 44 j u hu) (fun u hu => (Array.all_eq_true_iff_forall_mem.1 (uc_one HI.out)) u (by simpa using hu)) (by unfold maxLen; omega) (by omega) (HN2.out.1.alloc (.cells (uc (ps k).id) 44)).leB ?_; intro v' w3 ho3 hg3 hnil3 hloc3; have HN3 := hide ((HN2.out.1.alloc (.cells (uc (ps k).id) 44)).done ⟨HA.out, HM.out⟩ ho3 hg3); clear ho3 hg3 hnil3 hloc3))
          go_roundw
          case rel => exact ⟨k + 1, by omega, by go_num, HN3.out⟩
          case measure => simp [intOf]; omega
    · obtain rfl : ll = k := by omega
      go_wp2_with fail
      go_ret
      exact ⟨_, _, rfl, HN.out.ids, HN.out.nilq, HN.out.low⟩

set_option maxHeartbeats 2000000 in
set_option maxRecDepth 20000 in
theorem named_org (Pp No : Nat) (m : Option Nat) (bq oq : Nat) (id : List Nat) (la : Option Addr) (ll lc : Nat) (ps : Nat → Pm) (w : World) (hm : ll ≤ 1048576) (hok : ∀ i, i < ll → PmOk (ps i)) (hc : w.cell? ⟨Pp, 21, none⟩ = some (.map m)) (hq : w.cell? ⟨No, 3, none⟩ = some (.pointer (some ⟨bq, oq, none⟩))) (hid : IsId id) (hr : w.rangeAt bq oq (uc id).toList)
    (hlk : ∀ n, (Instr.lookup 46 (.map m) (.agg (uc id)) false).run Try.prog (w.drewN n) = .ok (.slice la ll lc) (w.drewN n)) (h : PermsAt w la ll ps) :
    Calls Try.prog 40 #[.pointer (some ⟨Pp, 0, none⟩), .int .u8 5, .pointer (some ⟨No, 0, none⟩)] w fun e w' => ∃ v base, e = .returned v ∧ Ids w' base 44 v (named ps ll) ∧ (named ps ll = [] → v = .slice none 0 0) ∧ Below w.heap.size w w' := by
  have HS := hide h
  have HK := hide hok
  have HID := hide hid
  have HRG := hide hr
  have hmm := @run_makeMap Try.prog
  obtain ⟨i0, hi0, hz0, hz1, hz2⟩ := info_parts info44z
  clear h hok hid hr
  go_enter Try.func40, Try.ntmps40
  go_wp2_with fail
  refine wp_region_quiet_lit (by kernel_rfl) (by kernel_rfl) ?_
  repeat (go_big_quiet_step (fail))
  refine wpQuiet_load 44 _ rfl rfl bq oq rfl (uc id) _ (fun w hw => by obtain ⟨n, rfl⟩ := hw; exact range_drewN HRG.out n) Try.underlying44 rfl (info44 HID.out) ?_
  simp only [Act.put, List.setIfInBounds_toArray, List.set_cons_zero, List.set_cons_succ]
  repeat (go_big_quiet_step (fail))
  refine wpQuiet_nil ?_
  intro _ hw'
  obtain ⟨nq, hw''⟩ := hw'
  subst hw''
  clear hlk
  go_wp2_with fail
  have HN0 : Hid (NRel w ((w.drewN nq).alloc (.map #[] 0)) w.heap.size (w.heap.size + 1) ps 0 (.slice none 0 0)) := hide (NRel.start ps (below_drewN (Below.refl w.heap.size w) nq))
  generalize (w.drewN nq).alloc (.map #[] 0) = w0 at HN0 ⊢
  generalize w.heap.size = M at HN0 ⊢
  go_loopw [8, 55] (fun v i wr => ∃ k : Nat, k ≤ ll ∧ i = .int .i64 k ∧ NRel w wr M (M + 1) ps k v) (fun _ i _ => ll - (intOf i).toNat)
  case atStart => exact ⟨0, Nat.zero_le _, rfl, HN0.out⟩
  case round =>
    obtain ⟨k, hk, rfl, hn⟩ := hrel
    have HN := hide hn
    clear hn
    by_cases hlt : k < ll
    · obtain ⟨b, off, rfl, hbl, hp⟩ := HS.out k hlt
      have hid := (HK.out k hlt).id
      have HP := hide (range_of_pm hid (hp.of (fun o => HN.out.low.cell hbl)))
      have HB := hide (pmCells_of_range hid (range_new wr (pc (ps k)) 92))
      have HI := hide hid
      have hfl : ∀ V : World, (storeCells ⟨V.heap.size, 0, none⟩ (pc (ps k)).toList).run Try.prog (V.alloc (.cells #[.bool false, .int .u8 0, .string ⟨#[]⟩, .bool false, .int .u8 0, .int .u8 0, .int .u8 0, .int .u8 0, .int .u8 0, .int .u8 0, .int .u8 0, .int .u8 0, .int .u8 0, .int .u8 0, .int .u8 0, .int .u8 0, .int .u8 0, .int .u8 0, .int .u8 0, .int .u8 0, .string ⟨#[]⟩] 92)) = .ok () (V.alloc (.cells (pc (ps k)) 92)) := fun V => fill92 hid V _ rfl
      have hsz := pc_size hid
      have c3 := HB.out.2.2.2.1
      simp only [Nat.zero_add] at c3
      have HN1 := hide (HN.out.alloc (.cells (pc (ps k)) 92))
      have hlk := HN1.out.map.look Try.underlying93 (zero4 _) hid
      clear hp hbl hid
      cases ha : (ps k).any with
      | true =>
        rw [ha] at c3
        have HA := hide ha
        clear ha hlk
        go_wp2_with (refine wpList_load_mid rfl 92 _ rfl b (off + k * 21) rfl (pc (ps k)).toList _ HP.out Try.underlying92 rfl (info92s HI.out) ?_)
        go_roundw
        case rel => exact ⟨k + 1, by omega, by go_num, HN1.out.skip (fun h => by rw [HA.out] at h; cases h.1)⟩
        case measure => simp [intOf]; omega
      | false =>
        rw [ha] at c3
        have HA := hide ha
        clear ha
        by_cases hmem : (ps k).id ∈ named ps k
        · rw [if_pos hmem] at hlk
          simp only [Option.getD_some] at hlk
          have HM := hide hmem
          clear hmem
          go_wp2_with (first
            | (refine wpList_load_mid rfl 92 _ rfl b (off + k * 21) rfl (pc (ps k)).toList _ HP.out Try.underlying92 rfl (info92s HI.out) ?_)
            | (refine wpList_load_wanted rfl 44 _ rfl wr.heap.size 4 rfl (uc (ps k).id).toList _ HB.out.2.2.2.2.1 Try.underlying44 rfl (info44 HI.out) ?_))
          go_roundw
          case rel => exact ⟨k + 1, by omega, by go_num, HN1.out.skip (fun h => h.2 HM.out)⟩
          case measure => simp [intOf]; omega
        · rw [if_neg hmem] at hlk
          simp only [Option.getD_none] at hlk
          have HM := hide hmem
          clear hmem
          have hln := named_len ps k
          go_wp2_with (first
            | (refine wpList_load_mid rfl 92 _ rfl b (off + k * 21) rfl (pc (ps k)).toList _ HP.out Try.underlying92 rfl (info92s HI.out) ?_)
            | (refine wpList_load_wanted rfl 44 _ rfl wr.heap.size 4 rfl (uc (ps k).id).toList _ HB.out.2.2.2.2.1 Try.underlying44 rfl (info44 HI.out) ?_)
            | (at_mapUpdate; refine wpList_mapUpdate_is rfl _ _ _ 93 rfl 4 Try.underlying93 M k _ rfl HN1.out.map (by unfold maxLen; omega) (ps k).id HI.out rfl (.bool true) rfl ?_; intro w2 hm2 hg2; have HN2 := hide (And.intro (HN1.out.stored hm2 hg2) (show w2.rangeAt wr.heap.size 4 (uc (ps k).id).toList from fun j v hv => cell_turn hg2 HN1.out.map.noCell (HB.out.2.2.2.2.1 j v (by simpa using hv)))); clear hm2 hg2)
            | (refine wpList_load_wanted rfl 44 _ rfl wr.heap.size 4 rfl (uc (ps k).id).toList _ HN2.out.2 Try.underlying44 rfl (info44 HI.out) ?_)
            | (refine wpList_buildSlice_is rfl _ 42 44 (Or.inl ⟨rfl, rfl⟩) rfl (ps k).id HI.out rfl ?_)
            | (at_builtin; refine wpList_append_own_at _ rfl _ _ 42 rfl (M + 1) 44 i0 _ 16 16 Try.underlying42 hi0 hz0 hz1 hz2 rfl (by decide) _ (named ps k).length (flat (named ps k)) rfl (HN2.out.1.alloc (.cells (uc (ps k).id) 44)).ids ⟨w2.heap.size, 0, none⟩ 1 1 (uc (ps k).id).toList rfl (by simp [uc_size, HI.out.len]) (fun j u hu => by rw [Addr.add_mid]; exact range_new w2 (uc (ps k).id) 44 j u hu) (fun u hu => (Array.all_eq_true_iff_forall_mem.1 (uc_one HI.out)) u (by simpa using hu)) (by unfold maxLen; omega) (by omega) (HN2.out.1.alloc (.cells (uc (ps k).id) 44)).leB ?_; intro v' w3 ho3 hg3 hnil3 hloc3; have HN3 := hide ((HN2.out.1.alloc (.cells (uc (ps k).id) 44)).done ⟨HA.out, HM.out⟩ ho3 hg3); clear ho3 hg3 hnil3 hloc3))
          go_roundw
          case rel => exact ⟨k + 1, by omega, by go_num, HN3.out⟩
          case measure => simp [intOf]; omega
    · obtain rfl : ll = k := by omega
      go_wp2_with fail
      go_ret
      exact ⟨_, _, rfl, HN.out.ids, HN.out.nilq, HN.out.low⟩

set_option maxHeartbeats 1000000 in
set_option maxRecDepth 20000 in
theorem named_none (Pp No st : Nat) (ps : Nat → Pm) (w : World) (h4 : st ≠ 4) (h5 : st ≠ 5) (h6 : st ≠ 6) :
    Calls Try.prog 40 #[.pointer (some ⟨Pp, 0, none⟩), .int .u8 (st : Int), .pointer (some ⟨No, 0, none⟩)] w fun e w' => e = .returned (.slice none 0 0) ∧ Below w.heap.size w w' := by
  have hmm := @run_makeMap Try.prog
  have t4 : ((st : Int) == 4) = false := by rw [beq_eq_false_iff_ne]; omega
  have t5 : ((st : Int) == 5) = false := by rw [beq_eq_false_iff_ne]; omega
  have t6 : ((st : Int) == 6) = false := by rw [beq_eq_false_iff_ne]; omega
  clear h4 h5 h6
  go_enter Try.func40, Try.ntmps40
  go_wp2_with fail
  have HW := hide ((Below.refl w.heap.size w).alloc (Nat.le_refl _) (.map #[] 0))
  go_loop [8, 55] (fun v i => v = .slice none 0 0 ∧ i = .int .i64 0) (fun _ _ => 0)
  case atStart => exact ⟨rfl, rfl⟩
  case round =>
    obtain ⟨rfl, rfl⟩ := hrel
    go_wp2_with fail
    go_ret
    exact ⟨rfl, HW.out⟩

set_option maxHeartbeats 1000000 in
set_option maxRecDepth 20000 in
theorem named_orgnil (Pp No : Nat) (ps : Nat → Pm) (w : World) (hq : w.cell? ⟨No, 3, none⟩ = some (.pointer none)) :
    Calls Try.prog 40 #[.pointer (some ⟨Pp, 0, none⟩), .int .u8 5, .pointer (some ⟨No, 0, none⟩)] w fun e w' => e = .returned (.slice none 0 0) ∧ Below w.heap.size w w' := by
  have hmm := @run_makeMap Try.prog
  go_enter Try.func40, Try.ntmps40
  go_wp2_with fail
  have HW := hide ((Below.refl w.heap.size w).alloc (Nat.le_refl _) (.map #[] 0))
  go_loop [8, 55] (fun v i => v = .slice none 0 0 ∧ i = .int .i64 0) (fun _ _ => 0)
  case atStart => exact ⟨rfl, rfl⟩
  case round =>
    obtain ⟨rfl, rfl⟩ := hrel
    go_wp2_with fail
    go_ret
    exact ⟨rfl, HW.out⟩
end Go.Proofs.Qxb6602785a
