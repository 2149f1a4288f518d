/-
  SEAT b6602785a: zzMatch. Made by gen27.py.
-/
import Derived.Test.Qxb6602785aB25
import Derived.Deep.Cut
set_option linter.unusedVariables false
set_option linter.unusedSimpArgs false
namespace Go.Proofs.Qxb6602785a
open Go.RowKit Go.Maps

set_option maxHeartbeats 4000000 in
set_option maxRecDepth 20000 in
theorem match_star (p : Pm) (act typ : ByteArray) (q : Option Addr) (o1 : Option (List Nat)) (w : World) (hp : IsId p.id) (ho : PtrAt w q o1) (h1 : (p.typ.toList == [42]) = true) (n1 : (p.typ.toList != [42]) = false) :
    Calls Try.prog 37 #[.agg (pc p), .string act, .string typ, .pointer q] w fun e w' => e = .returned (.bool (mtch p act typ o1)) ∧ Below w.heap.size w w' := by
  have HB := hide ((Below.refl w.heap.size w).alloc (Nat.le_refl _) (.cells (pc p) 63))
  have HO := hide (ho.below HB.out)
  have HP := hide (new_pm hp w 63)
  have HI := hide hp
  have hsz := pc_size hp
  clear ho hp
  have c2 := HP.out.2.2.1
  have c3 := HP.out.2.2.2.1
  have c5 := HP.out.2.2.2.2.2
  have HR := hide HP.out.2.2.2.2.1
  simp only [Nat.zero_add] at c2 c3 c5 HR
  clear HP
  go_enter Try.func37, Try.ntmps37
  go_upto_region 1 with fail
  generalize w.alloc (.cells (pc p) 63) = W at HB HO c2 c3 c5 HR ⊢
  generalize w.heap.size = N at c2 c3 c5 HR ⊢
  cases h3 : (p.act.toList == [42]) with
  | true =>
    have n3 : (p.act.toList != [42]) = false := by simp [bne, h3]
    cases ha : p.any with
    | true =>
      rw [ha] at c3
      have HX := hide ha
      clear ha
      go_wp2_with fail
      go_ret
      exact ⟨by simp [mtch, *, HX.out], HB.out⟩
    | false =>
      rw [ha] at c3
      have HX := hide ha
      clear ha
      rcases HO.out with ⟨rfl, rfl⟩ | ⟨bq, oq, id, rfl, rfl, hid, hlt, hr⟩
      · skip
        go_wp2_with fail
        refine wp_region_quiet_lit (by kernel_rfl) (by kernel_rfl) ?_
        repeat (go_big_quiet_step (fail))
        refine wpQuiet_nil ?_
        intro _ hw'
        obtain ⟨nq, hw''⟩ := hw'
        subst hw''
        go_wp2_with fail
        go_ret
        exact ⟨by simp [mtch, *, HX.out], below_drewN HB.out nq⟩
      · have HQ := hide hr
        have HID := hide hid
        clear hr hid hlt
        have heq := eq39 HID.out HI.out
        by_cases he : id = p.id
        · rw [decide_eq_true he] at heq
          have HE := hide he
          clear he
          go_wp2_with fail
          refine wp_region_quiet_lit (by kernel_rfl) (by kernel_rfl) ?_
          repeat (go_big_quiet_step (fail))
          refine wpQuiet_load 39 _ rfl rfl bq oq rfl (uc id) _ (fun w hw => by obtain ⟨n, rfl⟩ := hw; exact range_drewN HQ.out n) Try.underlying39 rfl (info39 HID.out) ?_
          simp only [Act.put, List.setIfInBounds_toArray, List.set_cons_zero, List.set_cons_succ]
          repeat (go_big_quiet_step (fail))
          refine wpQuiet_load 39 _ rfl rfl N 4 rfl (uc p.id) _ (fun w hw => by obtain ⟨n, rfl⟩ := hw; exact range_drewN HR.out n) Try.underlying39 rfl (info39 HI.out) ?_
          simp only [Act.put, List.setIfInBounds_toArray, List.set_cons_zero, List.set_cons_succ]
          repeat (go_big_quiet_step (fail))
          refine wpQuiet_nil ?_
          intro _ hw'
          obtain ⟨nq, hw''⟩ := hw'
          subst hw''
          go_wp2_with fail
          go_ret
          exact ⟨by simp [mtch, *, HX.out, HE.out], below_drewN HB.out nq⟩
        · rw [decide_eq_false he] at heq
          have HE := hide he
          clear he
          go_wp2_with fail
          refine wp_region_quiet_lit (by kernel_rfl) (by kernel_rfl) ?_
          repeat (go_big_quiet_step (fail))
          refine wpQuiet_load 39 _ rfl rfl bq oq rfl (uc id) _ (fun w hw => by obtain ⟨n, rfl⟩ := hw; exact range_drewN HQ.out n) Try.underlying39 rfl (info39 HID.out) ?_
          simp only [Act.put, List.setIfInBounds_toArray, List.set_cons_zero, List.set_cons_succ]
          repeat (go_big_quiet_step (fail))
          refine wpQuiet_load 39 _ rfl rfl N 4 rfl (uc p.id) _ (fun w hw => by obtain ⟨n, rfl⟩ := hw; exact range_drewN HR.out n) Try.underlying39 rfl (info39 HI.out) ?_
          simp only [Act.put, List.setIfInBounds_toArray, List.set_cons_zero, List.set_cons_succ]
          repeat (go_big_quiet_step (fail))
          refine wpQuiet_nil ?_
          intro _ hw'
          obtain ⟨nq, hw''⟩ := hw'
          subst hw''
          go_wp2_with fail
          go_ret
          exact ⟨by simp [mtch, *, HX.out, HE.out], below_drewN HB.out nq⟩
  | false =>
    have n3 : (p.act.toList != [42]) = true := by simp [bne, h3]
    cases h4 : (p.act.toList == act.toList) with
    | true =>
      have n4 : (p.act.toList != act.toList) = false := by simp [bne, h4]
      cases ha : p.any with
      | true =>
        rw [ha] at c3
        have HX := hide ha
        clear ha
        go_wp2_with fail
        go_ret
        exact ⟨by simp [mtch, *, HX.out], HB.out⟩
      | false =>
        rw [ha] at c3
        have HX := hide ha
        clear ha
        rcases HO.out with ⟨rfl, rfl⟩ | ⟨bq, oq, id, rfl, rfl, hid, hlt, hr⟩
        · skip
          go_wp2_with fail
          refine wp_region_quiet_lit (by kernel_rfl) (by kernel_rfl) ?_
          repeat (go_big_quiet_step (fail))
          refine wpQuiet_nil ?_
          intro _ hw'
          obtain ⟨nq, hw''⟩ := hw'
          subst hw''
          go_wp2_with fail
          go_ret
          exact ⟨by simp [mtch, *, HX.out], below_drewN HB.out nq⟩
        · have HQ := hide hr
          have HID := hide hid
          clear hr hid hlt
          have heq := eq39 HID.out HI.out
          by_cases he : id = p.id
          · rw [decide_eq_true he] at heq
            have HE := hide he
            clear he
            go_wp2_with fail
            refine wp_region_quiet_lit (by kernel_rfl) (by kernel_rfl) ?_
            repeat (go_big_quiet_step (fail))
            refine wpQuiet_load 39 _ rfl rfl bq oq rfl (uc id) _ (fun w hw => by obtain ⟨n, rfl⟩ := hw; exact range_drewN HQ.out n) Try.underlying39 rfl (info39 HID.out) ?_
            simp only [Act.put, List.setIfInBounds_toArray, List.set_cons_zero, List.set_cons_succ]
            repeat (go_big_quiet_step (fail))
            refine wpQuiet_load 39 _ rfl rfl N 4 rfl (uc p.id) _ (fun w hw => by obtain ⟨n, rfl⟩ := hw; exact range_drewN HR.out n) Try.underlying39 rfl (info39 HI.out) ?_
            simp only [Act.put, List.setIfInBounds_toArray, List.set_cons_zero, List.set_cons_succ]
            repeat (go_big_quiet_step (fail))
            refine wpQuiet_nil ?_
            intro _ hw'
            obtain ⟨nq, hw''⟩ := hw'
            subst hw''
            go_wp2_with fail
            go_ret
            exact ⟨by simp [mtch, *, HX.out, HE.out], below_drewN HB.out nq⟩
          · rw [decide_eq_false he] at heq
            have HE := hide he
            clear he
            go_wp2_with fail
            refine wp_region_quiet_lit (by kernel_rfl) (by kernel_rfl) ?_
            repeat (go_big_quiet_step (fail))
            refine wpQuiet_load 39 _ rfl rfl bq oq rfl (uc id) _ (fun w hw => by obtain ⟨n, rfl⟩ := hw; exact range_drewN HQ.out n) Try.underlying39 rfl (info39 HID.out) ?_
            simp only [Act.put, List.setIfInBounds_toArray, List.set_cons_zero, List.set_cons_succ]
            repeat (go_big_quiet_step (fail))
            refine wpQuiet_load 39 _ rfl rfl N 4 rfl (uc p.id) _ (fun w hw => by obtain ⟨n, rfl⟩ := hw; exact range_drewN HR.out n) Try.underlying39 rfl (info39 HI.out) ?_
            simp only [Act.put, List.setIfInBounds_toArray, List.set_cons_zero, List.set_cons_succ]
            repeat (go_big_quiet_step (fail))
            refine wpQuiet_nil ?_
            intro _ hw'
            obtain ⟨nq, hw''⟩ := hw'
            subst hw''
            go_wp2_with fail
            go_ret
            exact ⟨by simp [mtch, *, HX.out, HE.out], below_drewN HB.out nq⟩
    | false =>
      have n4 : (p.act.toList != act.toList) = true := by simp [bne, h4]
      go_wp2_with fail
      go_ret
      exact ⟨by simp [mtch, *], HB.out⟩

set_option maxHeartbeats 4000000 in
set_option maxRecDepth 20000 in
theorem match_name (p : Pm) (act typ : ByteArray) (q : Option Addr) (o1 : Option (List Nat)) (w : World) (hp : IsId p.id) (ho : PtrAt w q o1) (h1 : (p.typ.toList == [42]) = false) (n1 : (p.typ.toList != [42]) = true) (h2 : (p.typ.toList == typ.toList) = true) (n2 : (p.typ.toList != typ.toList) = false) :
    Calls Try.prog 37 #[.agg (pc p), .string act, .string typ, .pointer q] w fun e w' => e = .returned (.bool (mtch p act typ o1)) ∧ Below w.heap.size w w' := by
  have HB := hide ((Below.refl w.heap.size w).alloc (Nat.le_refl _) (.cells (pc p) 63))
  have HO := hide (ho.below HB.out)
  have HP := hide (new_pm hp w 63)
  have HI := hide hp
  have hsz := pc_size hp
  clear ho hp
  have c2 := HP.out.2.2.1
  have c3 := HP.out.2.2.2.1
  have c5 := HP.out.2.2.2.2.2
  have HR := hide HP.out.2.2.2.2.1
  simp only [Nat.zero_add] at c2 c3 c5 HR
  clear HP
  go_enter Try.func37, Try.ntmps37
  go_upto_region 1 with fail
  generalize w.alloc (.cells (pc p) 63) = W at HB HO c2 c3 c5 HR ⊢
  generalize w.heap.size = N at c2 c3 c5 HR ⊢
  cases h3 : (p.act.toList == [42]) with
  | true =>
    have n3 : (p.act.toList != [42]) = false := by simp [bne, h3]
    cases ha : p.any with
    | true =>
      rw [ha] at c3
      have HX := hide ha
      clear ha
      go_wp2_with fail
      go_ret
      exact ⟨by simp [mtch, *, HX.out], HB.out⟩
    | false =>
      rw [ha] at c3
      have HX := hide ha
      clear ha
      rcases HO.out with ⟨rfl, rfl⟩ | ⟨bq, oq, id, rfl, rfl, hid, hlt, hr⟩
      · skip
        go_wp2_with fail
        refine wp_region_quiet_lit (by kernel_rfl) (by kernel_rfl) ?_
        repeat (go_big_quiet_step (fail))
        refine wpQuiet_nil ?_
        intro _ hw'
        obtain ⟨nq, hw''⟩ := hw'
        subst hw''
        go_wp2_with fail
        go_ret
        exact ⟨by simp [mtch, *, HX.out], below_drewN HB.out nq⟩
      · have HQ := hide hr
        have HID := hide hid
        clear hr hid hlt
        have heq := eq39 HID.out HI.out
        by_cases he : id = p.id
        · rw [decide_eq_true he] at heq
          have HE := hide he
          clear he
          go_wp2_with fail
          refine wp_region_quiet_lit (by kernel_rfl) (by kernel_rfl) ?_
          repeat (go_big_quiet_step (fail))
          refine wpQuiet_load 39 _ rfl rfl bq oq rfl (uc id) _ (fun w hw => by obtain ⟨n, rfl⟩ := hw; exact range_drewN HQ.out n) Try.underlying39 rfl (info39 HID.out) ?_
          simp only [Act.put, List.setIfInBounds_toArray, List.set_cons_zero, List.set_cons_succ]
          repeat (go_big_quiet_step (fail))
          refine wpQuiet_load 39 _ rfl rfl N 4 rfl (uc p.id) _ (fun w hw => by obtain ⟨n, rfl⟩ := hw; exact range_drewN HR.out n) Try.underlying39 rfl (info39 HI.out) ?_
          simp only [Act.put, List.setIfInBounds_toArray, List.set_cons_zero, List.set_cons_succ]
          repeat (go_big_quiet_step (fail))
          refine wpQuiet_nil ?_
          intro _ hw'
          obtain ⟨nq, hw''⟩ := hw'
          subst hw''
          go_wp2_with fail
          go_ret
          exact ⟨by simp [mtch, *, HX.out, HE.out], below_drewN HB.out nq⟩
        · rw [decide_eq_false he] at heq
          have HE := hide he
          clear he
          go_wp2_with fail
          refine wp_region_quiet_lit (by kernel_rfl) (by kernel_rfl) ?_
          repeat (go_big_quiet_step (fail))
          refine wpQuiet_load 39 _ rfl rfl bq oq rfl (uc id) _ (fun w hw => by obtain ⟨n, rfl⟩ := hw; exact range_drewN HQ.out n) Try.underlying39 rfl (info39 HID.out) ?_
          simp only [Act.put, List.setIfInBounds_toArray, List.set_cons_zero, List.set_cons_succ]
          repeat (go_big_quiet_step (fail))
          refine wpQuiet_load 39 _ rfl rfl N 4 rfl (uc p.id) _ (fun w hw => by obtain ⟨n, rfl⟩ := hw; exact range_drewN HR.out n) Try.underlying39 rfl (info39 HI.out) ?_
          simp only [Act.put, List.setIfInBounds_toArray, List.set_cons_zero, List.set_cons_succ]
          repeat (go_big_quiet_step (fail))
          refine wpQuiet_nil ?_
          intro _ hw'
          obtain ⟨nq, hw''⟩ := hw'
          subst hw''
          go_wp2_with fail
          go_ret
          exact ⟨by simp [mtch, *, HX.out, HE.out], below_drewN HB.out nq⟩
  | false =>
    have n3 : (p.act.toList != [42]) = true := by simp [bne, h3]
    cases h4 : (p.act.toList == act.toList) with
    | true =>
      have n4 : (p.act.toList != act.toList) = false := by simp [bne, h4]
      cases ha : p.any with
      | true =>
        rw [ha] at c3
        have HX := hide ha
        clear ha
        go_wp2_with fail
        go_ret
        exact ⟨by simp [mtch, *, HX.out], HB.out⟩
      | false =>
        rw [ha] at c3
        have HX := hide ha
        clear ha
        rcases HO.out with ⟨rfl, rfl⟩ | ⟨bq, oq, id, rfl, rfl, hid, hlt, hr⟩
        · skip
          go_wp2_with fail
          refine wp_region_quiet_lit (by kernel_rfl) (by kernel_rfl) ?_
          repeat (go_big_quiet_step (fail))
          refine wpQuiet_nil ?_
          intro _ hw'
          obtain ⟨nq, hw''⟩ := hw'
          subst hw''
          go_wp2_with fail
          go_ret
          exact ⟨by simp [mtch, *, HX.out], below_drewN HB.out nq⟩
        · have HQ := hide hr
          have HID := hide hid
          clear hr hid hlt
          have heq := eq39 HID.out HI.out
          by_cases he : id = p.id
          · rw [decide_eq_true he] at heq
            have HE := hide he
            clear he
            go_wp2_with fail
            refine wp_region_quiet_lit (by kernel_rfl) (by kernel_rfl) ?_
            repeat (go_big_quiet_step (fail))
            refine wpQuiet_load 39 _ rfl rfl bq oq rfl (uc id) _ (fun w hw => by obtain ⟨n, rfl⟩ := hw; exact range_drewN HQ.out n) Try.underlying39 rfl (info39 HID.out) ?_
            simp only [Act.put, List.setIfInBounds_toArray, List.set_cons_zero, List.set_cons_succ]
            repeat (go_big_quiet_step (fail))
            refine wpQuiet_load 39 _ rfl rfl N 4 rfl (uc p.id) _ (fun w hw => by obtain ⟨n, rfl⟩ := hw; exact range_drewN HR.out n) Try.underlying39 rfl (info39 HI.out) ?_
            simp only [Act.put, List.setIfInBounds_toArray, List.set_cons_zero, List.set_cons_succ]
            repeat (go_big_quiet_step (fail))
            refine wpQuiet_nil ?_
            intro _ hw'
            obtain ⟨nq, hw''⟩ := hw'
            subst hw''
            go_wp2_with fail
            go_ret
            exact ⟨by simp [mtch, *, HX.out, HE.out], below_drewN HB.out nq⟩
          · rw [decide_eq_false he] at heq
            have HE := hide he
            clear he
            go_wp2_with fail
            refine wp_region_quiet_lit (by kernel_rfl) (by kernel_rfl) ?_
            repeat (go_big_quiet_step (fail))
            refine wpQuiet_load 39 _ rfl rfl bq oq rfl (uc id) _ (fun w hw => by obtain ⟨n, rfl⟩ := hw; exact range_drewN HQ.out n) Try.underlying39 rfl (info39 HID.out) ?_
            simp only [Act.put, List.setIfInBounds_toArray, List.set_cons_zero, List.set_cons_succ]
            repeat (go_big_quiet_step (fail))
            refine wpQuiet_load 39 _ rfl rfl N 4 rfl (uc p.id) _ (fun w hw => by obtain ⟨n, rfl⟩ := hw; exact range_drewN HR.out n) Try.underlying39 rfl (info39 HI.out) ?_
            simp only [Act.put, List.setIfInBounds_toArray, List.set_cons_zero, List.set_cons_succ]
            repeat (go_big_quiet_step (fail))
            refine wpQuiet_nil ?_
            intro _ hw'
            obtain ⟨nq, hw''⟩ := hw'
            subst hw''
            go_wp2_with fail
            go_ret
            exact ⟨by simp [mtch, *, HX.out, HE.out], below_drewN HB.out nq⟩
    | false =>
      have n4 : (p.act.toList != act.toList) = true := by simp [bne, h4]
      go_wp2_with fail
      go_ret
      exact ⟨by simp [mtch, *], HB.out⟩

set_option maxHeartbeats 4000000 in
set_option maxRecDepth 20000 in
theorem match_no (p : Pm) (act typ : ByteArray) (q : Option Addr) (o1 : Option (List Nat)) (w : World) (hp : IsId p.id) (ho : PtrAt w q o1) (h1 : (p.typ.toList == [42]) = false) (n1 : (p.typ.toList != [42]) = true) (h2 : (p.typ.toList == typ.toList) = false) (n2 : (p.typ.toList != typ.toList) = true) :
    Calls Try.prog 37 #[.agg (pc p), .string act, .string typ, .pointer q] w fun e w' => e = .returned (.bool (mtch p act typ o1)) ∧ Below w.heap.size w w' := by
  have HB := hide ((Below.refl w.heap.size w).alloc (Nat.le_refl _) (.cells (pc p) 63))
  have HO := hide (ho.below HB.out)
  have HP := hide (new_pm hp w 63)
  have HI := hide hp
  have hsz := pc_size hp
  clear ho hp
  have c2 := HP.out.2.2.1
  have c3 := HP.out.2.2.2.1
  have c5 := HP.out.2.2.2.2.2
  have HR := hide HP.out.2.2.2.2.1
  simp only [Nat.zero_add] at c2 c3 c5 HR
  clear HP
  go_enter Try.func37, Try.ntmps37
  go_upto_region 1 with fail
  generalize w.alloc (.cells (pc p) 63) = W at HB HO c2 c3 c5 HR ⊢
  generalize w.heap.size = N at c2 c3 c5 HR ⊢
  go_wp2_with fail
  go_ret
  exact ⟨by simp [mtch, *], HB.out⟩

theorem match_any (p : Pm) (act typ : ByteArray) (q : Option Addr) (o1 : Option (List Nat)) (w : World) (hp : IsId p.id) (ho : PtrAt w q o1) :
    Calls Try.prog 37 #[.agg (pc p), .string act, .string typ, .pointer q] w fun e w' => e = .returned (.bool (mtch p act typ o1)) ∧ Below w.heap.size w w' := by
  cases h1 : (p.typ.toList == [42]) with
  | true => exact match_star p act typ q o1 w hp ho h1 (by simp [bne, h1])
  | false =>
    cases h2 : (p.typ.toList == typ.toList) with
    | true => exact match_name p act typ q o1 w hp ho h1 (by simp [bne, h1]) h2 (by simp [bne, h2])
    | false => exact match_no p act typ q o1 w hp ho h1 (by simp [bne, h1]) h2 (by simp [bne, h2])
end Go.Proofs.Qxb6602785a
