import Derived.Test.Qxb6602785aB13
set_option linter.unusedVariables false
set_option linter.unusedSimpArgs false
namespace Go.Proofs.Qxb6602785a
open Go.RowKit Go.Maps

theorem PermsAt.cellsAt {w : World} {b off len : Nat} {ps : Nat → Pm} (h : PermsAt w (some ⟨b, off, none⟩) len ps) {i : Nat} (hi : i < len) : b < w.heap.size ∧ PmCells w b (off + i * 21) (ps i) := by
  obtain ⟨b', off', ha, h1, h2⟩ := h i hi
  simp only [Option.some.injEq, Addr.mk.injEq] at ha
  obtain ⟨rfl, rfl, _⟩ := ha
  exact ⟨h1, h2⟩

theorem info39z : (Try.prog.info? 39).map (fun i => (i.zero, i.size, i.bytes)) = some (some (.agg #[.int .u8 0, .int .u8 0, .int .u8 0, .int .u8 0, .int .u8 0, .int .u8 0, .int .u8 0, .int .u8 0, .int .u8 0, .int .u8 0, .int .u8 0, .int .u8 0, .int .u8 0, .int .u8 0, .int .u8 0, .int .u8 0]), 16, 16) := by kernel_rfl

set_option maxHeartbeats 4000000 in
set_option maxRecDepth 20000 in
theorem model_site (la : Option Addr) (ll lc : Nat) (va vb : Value) (pv : Option Addr) (ps : Nat → Pm) (w : World) (hm : ll ≤ 1048576) (hok : ∀ i, i < ll → PmOk (ps i)) (h : PermsAt w la ll ps) :
    Calls Try.prog 24 #[.slice la ll lc, va, vb, .int .u8 4, .pointer pv] w fun e w' => ∃ v, e = .returned v ∧ Ids w' w.heap.size 39 v (named ps ll) ∧ (named ps ll = [] → v = .slice none 0 0) ∧ Below w.heap.size w w' := by
  have HS := hide h
  have HK := hide hok
  obtain ⟨i0, hi0, hz0, hz1, hz2⟩ := info_parts info39z
  clear h hok
  go_enter Try.func24, Try.ntmps24
  go_wp2_with fail
  have HM0 : Hid (MRel w (w) ps 0 (.slice none 0 0)) := hide (MRel.start _ ps (Below.refl w.heap.size w))
  go_loopw [13, 14] (fun v i wr => ∃ k : Nat, k ≤ ll ∧ i = .int .i64 k ∧ MRel w wr ps k v) (fun _ i _ => ll - (intOf i).toNat)
  case atStart => exact ⟨0, Nat.zero_le _, rfl, HM0.out⟩
  case round =>
    obtain ⟨k, hk, rfl, hn⟩ := hrel
    have HN := hide hn
    clear hn
    by_cases hlt : k < ll
    · obtain ⟨b, off, rfl, _, _⟩ := HS.out k hlt
      have HC := hide (fun i (hi : i < ll) => (HS.out.cellsAt hi).2.of (fun o => HN.out.low.cell (HS.out.cellsAt hi).1))
      have ca := (HC.out k hlt).2.2.2.1
      have HI := hide (HK.out k hlt).id
      cases ha : (ps k).any with
      | true =>
        rw [ha] at ca
        have HA := hide ha
        clear ha
        go_wp2_with fail
        go_roundw
        case rel => exact ⟨k + 1, by omega, by go_num, HN.out.skip (fun h => by rw [HA.out] at h; cases h.1)⟩
        case measure => simp [intOf]; omega
      | false =>
        rw [ha] at ca
        have HA := hide ha
        clear ha
        go_wp2_with fail
        clear ca
        rename World => w1
        go_loopw [15, 16] (fun d i wr => ∃ j n : Nat, j ≤ k ∧ i = .int .i64 j ∧ d = .bool false ∧ (∀ j', j' < j → ¬ ((ps j').any = false ∧ (ps j').id = (ps k).id)) ∧ wr = w1.drewN n) (fun _ i _ => k - (intOf i).toNat)
        case atStart => exact ⟨0, 0, Nat.zero_le _, rfl, rfl, fun j' hj' => by omega, rfl⟩
        case round =>
          obtain ⟨j, n, hj, rfl, rfl, hno, rfl⟩ := hrel
          have HNO := hide hno
          clear hno
          by_cases hjk : j < k
          · have hjl : (j : Int) < (ll : Int) := by omega
            have hkl : (k : Int) < (ll : Int) := by omega
            have cj := (HC.out j (by omega)).2.2.2.1
            have HJ := hide (HK.out j (by omega)).id
            cases haj : (ps j).any with
            | true =>
              rw [haj] at cj
              have HAJ := hide haj
              clear haj
              go_wp2_with fail
              refine wp_region_quiet_lit (by kernel_rfl) (by kernel_rfl) ?_
              repeat (go_big_quiet_step (fail))
              refine wpQuiet_nil ?_
              intro _ hw'
              obtain ⟨nq, hw''⟩ := hw'
              subst hw''
              go_wp2_with fail
              go_roundw
              case rel => exact ⟨j + 1, n + nq, by omega, by go_num, rfl, fun j' hj' => (by by_cases e : j' = j; (subst e; exact fun h => by rw [HAJ.out] at h; cases h.1); exact HNO.out j' (by omega)), by first | rfl | simp [World.drewN_drewN]⟩
              case measure => simp [intOf]; omega
            | false =>
              rw [haj] at cj
              have HAJ := hide haj
              clear haj
              have r1 := (HC.out j (by omega)).2.2.2.2.1
              have r2 := (HC.out k hlt).2.2.2.2.1
              have heq := eq39 HJ.out HI.out
              have hi1 := info39 HJ.out
              have hi2 := info39 HI.out
              by_cases he : (ps j).id = (ps k).id
              · rw [decide_eq_true he] at heq
                have HE := hide he
                clear he
                go_wp2_with fail
                refine wp_region_quiet_lit (by kernel_rfl) (by kernel_rfl) ?_
                repeat (go_big_quiet_step (fail))
                refine wpQuiet_load 39 _ rfl rfl b (off + j * 21 + 4) rfl (uc (ps j).id) _ (fun w hw => by obtain ⟨q, rfl⟩ := hw; exact range_drewN (range_drewN r1 n) q) Try.underlying39 rfl hi1 ?_
                simp only [Act.put, List.setIfInBounds_toArray, List.set_cons_zero, List.set_cons_succ]
                repeat (go_big_quiet_step (fail))
                refine wpQuiet_load 39 _ rfl rfl b (off + k * 21 + 4) rfl (uc (ps k).id) _ (fun w hw => by obtain ⟨q, rfl⟩ := hw; exact range_drewN (range_drewN r2 n) q) Try.underlying39 rfl hi2 ?_
                simp only [Act.put, List.setIfInBounds_toArray, List.set_cons_zero, List.set_cons_succ]
                repeat (go_big_quiet_step (fail))
                refine wpQuiet_nil ?_
                intro _ hw'
                obtain ⟨nq, hw''⟩ := hw'
                subst hw''
                go_wp2_with fail
                go_roundw
                case rel => exact ⟨k + 1, by omega, by go_num, (HN.out.drewN (n + nq)).skip (fun h => h.2 ((named_mem ps _ k).2 ⟨j, hjk, HAJ.out, HE.out⟩))⟩
                case measure => simp [intOf]; omega
              · rw [decide_eq_false he] at heq
                have HE := hide he
                clear he
                go_wp2_with fail
                refine wp_region_quiet_lit (by kernel_rfl) (by kernel_rfl) ?_
                repeat (go_big_quiet_step (fail))
                refine wpQuiet_load 39 _ rfl rfl b (off + j * 21 + 4) rfl (uc (ps j).id) _ (fun w hw => by obtain ⟨q, rfl⟩ := hw; exact range_drewN (range_drewN r1 n) q) Try.underlying39 rfl hi1 ?_
                simp only [Act.put, List.setIfInBounds_toArray, List.set_cons_zero, List.set_cons_succ]
                repeat (go_big_quiet_step (fail))
                refine wpQuiet_load 39 _ rfl rfl b (off + k * 21 + 4) rfl (uc (ps k).id) _ (fun w hw => by obtain ⟨q, rfl⟩ := hw; exact range_drewN (range_drewN r2 n) q) Try.underlying39 rfl hi2 ?_
                simp only [Act.put, List.setIfInBounds_toArray, List.set_cons_zero, List.set_cons_succ]
                repeat (go_big_quiet_step (fail))
                refine wpQuiet_nil ?_
                intro _ hw'
                obtain ⟨nq, hw''⟩ := hw'
                subst hw''
                go_wp2_with fail
                go_roundw
                case rel => exact ⟨j + 1, n + nq, by omega, by go_num, rfl, fun j' hj' => (by by_cases e : j' = j; (subst e; exact fun h => HE.out h.2); exact HNO.out j' (by omega)), by first | rfl | simp [World.drewN_drewN]⟩
                case measure => simp [intOf]; omega
          · obtain rfl : k = j := by omega
            have hln := named_len ps k
            have hnm : (ps k).id ∉ named ps k := fun h => by
              obtain ⟨j', h1, h2, h3⟩ := (named_mem ps _ k).1 h
              exact HNO.out j' h1 ⟨h2, h3⟩
            have HM := hide hnm
            clear hnm
            have HD := hide (HN.out.drewN n)
            have HRK := hide (range_drewN (HC.out k hlt).2.2.2.2.1 n)
            go_wp2_with (first
              | (refine wpList_load_mid rfl 39 _ rfl b (off + k * 21 + 4) rfl (uc (ps k).id).toList _ HRK.out Try.underlying39 rfl (info39 HI.out) ?_)
              | (refine wpList_buildSlice_is rfl _ 55 39 (Or.inr ⟨rfl, rfl⟩) rfl (ps k).id HI.out rfl ?_)
              | (at_builtin; refine wpList_append_own_at _ rfl _ _ 55 rfl w.heap.size 39 i0 _ 16 16 Try.underlying55 hi0 hz0 hz1 hz2 rfl (by decide) _ (named ps k).length (flat (named ps k)) rfl (HD.out.alloc (.cells (uc (ps k).id) 39)).ids ⟨(w1.drewN n).heap.size, 0, none⟩ 1 1 (uc (ps k).id).toList rfl (by simp [uc_size, HI.out.len]) (fun j u hu => by rw [Addr.add_mid]; exact range_new (w1.drewN n) (uc (ps k).id) 39 j u hu) (fun u hu => (Array.all_eq_true_iff_forall_mem.1 (uc_one HI.out)) u (by simpa using hu)) (by unfold maxLen; omega) (by omega) (HD.out.alloc (.cells (uc (ps k).id) 39)).low.size ?_; intro v' w3 ho3 hg3 hnil3 hloc3; have HN3 := hide ((HD.out.alloc (.cells (uc (ps k).id) 39)).done ⟨HA.out, HM.out⟩ ho3 hg3); clear ho3 hg3 hnil3 hloc3))
            go_roundw
            case rel => exact ⟨k + 1, by omega, by go_num, HN3.out⟩
            case measure => simp [intOf]; omega
    · obtain rfl : ll = k := by omega
      go_wp2_with fail
      go_ret
      exact ⟨_, rfl, HN.out.ids, HN.out.nilq, HN.out.low⟩
end Go.Proofs.Qxb6602785a
