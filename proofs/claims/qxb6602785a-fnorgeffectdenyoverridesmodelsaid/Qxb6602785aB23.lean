/-
  SEAT b6602785a: Permission.matches. Made by gen23.py.
-/
import Derived.Test.Qxb6602785aB22
set_option linter.unusedVariables false
set_option linter.unusedSimpArgs false
namespace Go.Proofs.Qxb6602785a
open Go.RowKit Go.Maps

/-- Is the permission for the action on the object? -/
def mtch (p : Pm) (act typ : ByteArray) (o : Option (List Nat)) : Bool := ((p.typ.toList == [42]) || (p.typ.toList == typ.toList)) && ((p.act.toList == [42]) || (p.act.toList == act.toList)) && (p.any || decide (o = some p.id))

theorem eq44 {a b : List Nat} (ha : IsId a) (hb : IsId b) (w : World) : (Op.equalIn 10000 44 (.agg (uc a)) (.agg (uc b))).run Try.prog w = .ok (decide (a = b)) w :=
  eq_ids Try.underlying44 cells44 (by kernel_rfl) ha hb w

theorem new_pm {p : Pm} (h : IsId p.id) (w : World) (t : TypeId) : PmCells (w.alloc (.cells (pc p) t)) w.heap.size 0 p := pmCells_of_range h (range_new w (pc p) t)

set_option maxHeartbeats 4000000 in
set_option maxRecDepth 20000 in
theorem matches_star (p : Pm) (act typ : ByteArray) (No : Nat) (o1 o2 o3 : Option (List Nat)) (w : World) (hp : IsId p.id) (ho : ObjAt w No typ o1 o2 o3) (h1 : (p.typ.toList == [42]) = true) :
    Calls Try.prog 43 #[.agg (pc p), .string act, .pointer (some ⟨No, 0, none⟩)] w fun e w' => e = .returned (.bool (mtch p act typ o1)) ∧ Below w.heap.size w w' := by
  have HB := hide ((Below.refl w.heap.size w).alloc (Nat.le_refl _) (.cells (pc p) 92))
  have HO := hide (ho.below HB.out)
  have HP := hide (new_pm hp w 92)
  have HI := hide hp
  have hsz := pc_size hp
  clear ho hp
  go_enter Try.func43, Try.ntmps43
  go_wp2_with fail
  have c2 := HP.out.2.2.1
  have c3 := HP.out.2.2.2.1
  have c5 := HP.out.2.2.2.2.2
  have HR := hide HP.out.2.2.2.2.1
  have d0 := HO.out.typ
  simp only [Nat.zero_add] at c2 c3 c5 HR
  clear HP
  generalize w.alloc (.cells (pc p) 92) = W at *
  generalize w.heap.size = N at c2 c3 c5 HR ⊢
  cases h3 : (p.act.toList == [42]) with
  | true =>
    cases ha : p.any with
    | true =>
      rw [ha] at c3
      have HX := hide ha
      clear ha
      refine wp_region_quiet_lit (by kernel_rfl) (by kernel_rfl) ?_
      repeat (go_big_quiet_step (fail))
      refine wpQuiet_nil ?_
      intro _ hw'
      obtain ⟨nq, hw''⟩ := hw'
      subst hw''
      go_wp2_with fail
      go_ret
      exact ⟨by simp [mtch, *, HX.out], below_drewN HB.out nq⟩
    | false =>
      rw [ha] at c3
      have HX := hide ha
      clear ha
      obtain ⟨q, d1, hq⟩ := HO.out.id
      rcases hq with ⟨rfl, rfl⟩ | ⟨bq, oq, id, rfl, rfl, hid, hlt, hr⟩
      · skip
        refine wp_region_quiet_lit (by kernel_rfl) (by kernel_rfl) ?_
        repeat (go_big_quiet_step (fail))
        refine wpQuiet_nil ?_
        intro _ hw'
        obtain ⟨nq, hw''⟩ := hw'
        subst hw''
        go_wp2_with fail
        go_ret
        exact ⟨by simp [mtch, *, HX.out], below_drewN HB.out nq⟩
      · have HQ := hide hr
        have HID := hide hid
        clear hr hid hlt
        have heq := eq44 HID.out HI.out
        by_cases he : id = p.id
        · rw [decide_eq_true he] at heq
          have HE := hide he
          clear he
          refine wp_region_quiet_lit (by kernel_rfl) (by kernel_rfl) ?_
          repeat (go_big_quiet_step (fail))
          refine wpQuiet_load 44 _ rfl rfl bq oq rfl (uc id) _ (fun w hw => by obtain ⟨n, rfl⟩ := hw; exact range_drewN HQ.out n) Try.underlying44 rfl (info44 HID.out) ?_
          simp only [Act.put, List.setIfInBounds_toArray, List.set_cons_zero, List.set_cons_succ]
          repeat (go_big_quiet_step (fail))
          refine wpQuiet_load 44 _ rfl rfl N 4 rfl (uc p.id) _ (fun w hw => by obtain ⟨n, rfl⟩ := hw; exact range_drewN HR.out n) Try.underlying44 rfl (info44 HI.out) ?_
          simp only [Act.put, List.setIfInBounds_toArray, List.set_cons_zero, List.set_cons_succ]
          repeat (go_big_quiet_step (fail))
          refine wpQuiet_nil ?_
          intro _ hw'
          obtain ⟨nq, hw''⟩ := hw'
          subst hw''
          go_wp2_with fail
          go_ret
          exact ⟨by simp [mtch, *, HX.out, HE.out], below_drewN HB.out nq⟩
        · rw [decide_eq_false he] at heq
          have HE := hide he
          clear he
          refine wp_region_quiet_lit (by kernel_rfl) (by kernel_rfl) ?_
          repeat (go_big_quiet_step (fail))
          refine wpQuiet_load 44 _ rfl rfl bq oq rfl (uc id) _ (fun w hw => by obtain ⟨n, rfl⟩ := hw; exact range_drewN HQ.out n) Try.underlying44 rfl (info44 HID.out) ?_
          simp only [Act.put, List.setIfInBounds_toArray, List.set_cons_zero, List.set_cons_succ]
          repeat (go_big_quiet_step (fail))
          refine wpQuiet_load 44 _ rfl rfl N 4 rfl (uc p.id) _ (fun w hw => by obtain ⟨n, rfl⟩ := hw; exact range_drewN HR.out n) Try.underlying44 rfl (info44 HI.out) ?_
          simp only [Act.put, List.setIfInBounds_toArray, List.set_cons_zero, List.set_cons_succ]
          repeat (go_big_quiet_step (fail))
          refine wpQuiet_nil ?_
          intro _ hw'
          obtain ⟨nq, hw''⟩ := hw'
          subst hw''
          go_wp2_with fail
          go_ret
          exact ⟨by simp [mtch, *, HX.out, HE.out], below_drewN HB.out nq⟩
  | false =>
    cases h4 : (p.act.toList == act.toList) with
    | true =>
      cases ha : p.any with
      | true =>
        rw [ha] at c3
        have HX := hide ha
        clear ha
        refine wp_region_quiet_lit (by kernel_rfl) (by kernel_rfl) ?_
        repeat (go_big_quiet_step (fail))
        refine wpQuiet_nil ?_
        intro _ hw'
        obtain ⟨nq, hw''⟩ := hw'
        subst hw''
        go_wp2_with fail
        go_ret
        exact ⟨by simp [mtch, *, HX.out], below_drewN HB.out nq⟩
      | false =>
        rw [ha] at c3
        have HX := hide ha
        clear ha
        obtain ⟨q, d1, hq⟩ := HO.out.id
        rcases hq with ⟨rfl, rfl⟩ | ⟨bq, oq, id, rfl, rfl, hid, hlt, hr⟩
        · skip
          refine wp_region_quiet_lit (by kernel_rfl) (by kernel_rfl) ?_
          repeat (go_big_quiet_step (fail))
          refine wpQuiet_nil ?_
          intro _ hw'
          obtain ⟨nq, hw''⟩ := hw'
          subst hw''
          go_wp2_with fail
          go_ret
          exact ⟨by simp [mtch, *, HX.out], below_drewN HB.out nq⟩
        · have HQ := hide hr
          have HID := hide hid
          clear hr hid hlt
          have heq := eq44 HID.out HI.out
          by_cases he : id = p.id
          · rw [decide_eq_true he] at heq
            have HE := hide he
            clear he
            refine wp_region_quiet_lit (by kernel_rfl) (by kernel_rfl) ?_
            repeat (go_big_quiet_step (fail))
            refine wpQuiet_load 44 _ rfl rfl bq oq rfl (uc id) _ (fun w hw => by obtain ⟨n, rfl⟩ := hw; exact range_drewN HQ.out n) Try.underlying44 rfl (info44 HID.out) ?_
            simp only [Act.put, List.setIfInBounds_toArray, List.set_cons_zero, List.set_cons_succ]
            repeat (go_big_quiet_step (fail))
            refine wpQuiet_load 44 _ rfl rfl N 4 rfl (uc p.id) _ (fun w hw => by obtain ⟨n, rfl⟩ := hw; exact range_drewN HR.out n) Try.underlying44 rfl (info44 HI.out) ?_
            simp only [Act.put, List.setIfInBounds_toArray, List.set_cons_zero, List.set_cons_succ]
            repeat (go_big_quiet_step (fail))
            refine wpQuiet_nil ?_
            intro _ hw'
            obtain ⟨nq, hw''⟩ := hw'
            subst hw''
            go_wp2_with fail
            go_ret
            exact ⟨by simp [mtch, *, HX.out, HE.out], below_drewN HB.out nq⟩
          · rw [decide_eq_false he] at heq
            have HE := hide he
            clear he
            refine wp_region_quiet_lit (by kernel_rfl) (by kernel_rfl) ?_
            repeat (go_big_quiet_step (fail))
            refine wpQuiet_load 44 _ rfl rfl bq oq rfl (uc id) _ (fun w hw => by obtain ⟨n, rfl⟩ := hw; exact range_drewN HQ.out n) Try.underlying44 rfl (info44 HID.out) ?_
            simp only [Act.put, List.setIfInBounds_toArray, List.set_cons_zero, List.set_cons_succ]
            repeat (go_big_quiet_step (fail))
            refine wpQuiet_load 44 _ rfl rfl N 4 rfl (uc p.id) _ (fun w hw => by obtain ⟨n, rfl⟩ := hw; exact range_drewN HR.out n) Try.underlying44 rfl (info44 HI.out) ?_
            simp only [Act.put, List.setIfInBounds_toArray, List.set_cons_zero, List.set_cons_succ]
            repeat (go_big_quiet_step (fail))
            refine wpQuiet_nil ?_
            intro _ hw'
            obtain ⟨nq, hw''⟩ := hw'
            subst hw''
            go_wp2_with fail
            go_ret
            exact ⟨by simp [mtch, *, HX.out, HE.out], below_drewN HB.out nq⟩
    | false =>
      refine wp_region_quiet_lit (by kernel_rfl) (by kernel_rfl) ?_
      repeat (go_big_quiet_step (fail))
      refine wpQuiet_nil ?_
      intro _ hw'
      obtain ⟨nq, hw''⟩ := hw'
      subst hw''
      go_wp2_with fail
      go_ret
      exact ⟨by simp [mtch, *], below_drewN HB.out nq⟩

set_option maxHeartbeats 4000000 in
set_option maxRecDepth 20000 in
theorem matches_name (p : Pm) (act typ : ByteArray) (No : Nat) (o1 o2 o3 : Option (List Nat)) (w : World) (hp : IsId p.id) (ho : ObjAt w No typ o1 o2 o3) (h1 : (p.typ.toList == [42]) = false) (h2 : (p.typ.toList == typ.toList) = true) :
    Calls Try.prog 43 #[.agg (pc p), .string act, .pointer (some ⟨No, 0, none⟩)] w fun e w' => e = .returned (.bool (mtch p act typ o1)) ∧ Below w.heap.size w w' := by
  have HB := hide ((Below.refl w.heap.size w).alloc (Nat.le_refl _) (.cells (pc p) 92))
  have HO := hide (ho.below HB.out)
  have HP := hide (new_pm hp w 92)
  have HI := hide hp
  have hsz := pc_size hp
  clear ho hp
  go_enter Try.func43, Try.ntmps43
  go_wp2_with fail
  have c2 := HP.out.2.2.1
  have c3 := HP.out.2.2.2.1
  have c5 := HP.out.2.2.2.2.2
  have HR := hide HP.out.2.2.2.2.1
  have d0 := HO.out.typ
  simp only [Nat.zero_add] at c2 c3 c5 HR
  clear HP
  generalize w.alloc (.cells (pc p) 92) = W at *
  generalize w.heap.size = N at c2 c3 c5 HR ⊢
  cases h3 : (p.act.toList == [42]) with
  | true =>
    cases ha : p.any with
    | true =>
      rw [ha] at c3
      have HX := hide ha
      clear ha
      refine wp_region_quiet_lit (by kernel_rfl) (by kernel_rfl) ?_
      repeat (go_big_quiet_step (fail))
      refine wpQuiet_nil ?_
      intro _ hw'
      obtain ⟨nq, hw''⟩ := hw'
      subst hw''
      go_wp2_with fail
      go_ret
      exact ⟨by simp [mtch, *, HX.out], below_drewN HB.out nq⟩
    | false =>
      rw [ha] at c3
      have HX := hide ha
      clear ha
      obtain ⟨q, d1, hq⟩ := HO.out.id
      rcases hq with ⟨rfl, rfl⟩ | ⟨bq, oq, id, rfl, rfl, hid, hlt, hr⟩
      · skip
        refine wp_region_quiet_lit (by kernel_rfl) (by kernel_rfl) ?_
        repeat (go_big_quiet_step (fail))
        refine wpQuiet_nil ?_
        intro _ hw'
        obtain ⟨nq, hw''⟩ := hw'
        subst hw''
        go_wp2_with fail
        go_ret
        exact ⟨by simp [mtch, *, HX.out], below_drewN HB.out nq⟩
      · have HQ := hide hr
        have HID := hide hid
        clear hr hid hlt
        have heq := eq44 HID.out HI.out
        by_cases he : id = p.id
        · rw [decide_eq_true he] at heq
          have HE := hide he
          clear he
          refine wp_region_quiet_lit (by kernel_rfl) (by kernel_rfl) ?_
          repeat (go_big_quiet_step (fail))
          refine wpQuiet_load 44 _ rfl rfl bq oq rfl (uc id) _ (fun w hw => by obtain ⟨n, rfl⟩ := hw; exact range_drewN HQ.out n) Try.underlying44 rfl (info44 HID.out) ?_
          simp only [Act.put, List.setIfInBounds_toArray, List.set_cons_zero, List.set_cons_succ]
          repeat (go_big_quiet_step (fail))
          refine wpQuiet_load 44 _ rfl rfl N 4 rfl (uc p.id) _ (fun w hw => by obtain ⟨n, rfl⟩ := hw; exact range_drewN HR.out n) Try.underlying44 rfl (info44 HI.out) ?_
          simp only [Act.put, List.setIfInBounds_toArray, List.set_cons_zero, List.set_cons_succ]
          repeat (go_big_quiet_step (fail))
          refine wpQuiet_nil ?_
          intro _ hw'
          obtain ⟨nq, hw''⟩ := hw'
          subst hw''
          go_wp2_with fail
          go_ret
          exact ⟨by simp [mtch, *, HX.out, HE.out], below_drewN HB.out nq⟩
        · rw [decide_eq_false he] at heq
          have HE := hide he
          clear he
          refine wp_region_quiet_lit (by kernel_rfl) (by kernel_rfl) ?_
          repeat (go_big_quiet_step (fail))
          refine wpQuiet_load 44 _ rfl rfl bq oq rfl (uc id) _ (fun w hw => by obtain ⟨n, rfl⟩ := hw; exact range_drewN HQ.out n) Try.underlying44 rfl (info44 HID.out) ?_
          simp only [Act.put, List.setIfInBounds_toArray, List.set_cons_zero, List.set_cons_succ]
          repeat (go_big_quiet_step (fail))
          refine wpQuiet_load 44 _ rfl rfl N 4 rfl (uc p.id) _ (fun w hw => by obtain ⟨n, rfl⟩ := hw; exact range_drewN HR.out n) Try.underlying44 rfl (info44 HI.out) ?_
          simp only [Act.put, List.setIfInBounds_toArray, List.set_cons_zero, List.set_cons_succ]
          repeat (go_big_quiet_step (fail))
          refine wpQuiet_nil ?_
          intro _ hw'
          obtain ⟨nq, hw''⟩ := hw'
          subst hw''
          go_wp2_with fail
          go_ret
          exact ⟨by simp [mtch, *, HX.out, HE.out], below_drewN HB.out nq⟩
  | false =>
    cases h4 : (p.act.toList == act.toList) with
    | true =>
      cases ha : p.any with
      | true =>
        rw [ha] at c3
        have HX := hide ha
        clear ha
        refine wp_region_quiet_lit (by kernel_rfl) (by kernel_rfl) ?_
        repeat (go_big_quiet_step (fail))
        refine wpQuiet_nil ?_
        intro _ hw'
        obtain ⟨nq, hw''⟩ := hw'
        subst hw''
        go_wp2_with fail
        go_ret
        exact ⟨by simp [mtch, *, HX.out], below_drewN HB.out nq⟩
      | false =>
        rw [ha] at c3
        have HX := hide ha
        clear ha
        obtain ⟨q, d1, hq⟩ := HO.out.id
        rcases hq with ⟨rfl, rfl⟩ | ⟨bq, oq, id, rfl, rfl, hid, hlt, hr⟩
        · skip
          refine wp_region_quiet_lit (by kernel_rfl) (by kernel_rfl) ?_
          repeat (go_big_quiet_step (fail))
          refine wpQuiet_nil ?_
          intro _ hw'
          obtain ⟨nq, hw''⟩ := hw'
          subst hw''
          go_wp2_with fail
          go_ret
          exact ⟨by simp [mtch, *, HX.out], below_drewN HB.out nq⟩
        · have HQ := hide hr
          have HID := hide hid
          clear hr hid hlt
          have heq := eq44 HID.out HI.out
          by_cases he : id = p.id
          · rw [decide_eq_true he] at heq
            have HE := hide he
            clear he
            refine wp_region_quiet_lit (by kernel_rfl) (by kernel_rfl) ?_
            repeat (go_big_quiet_step (fail))
            refine wpQuiet_load 44 _ rfl rfl bq oq rfl (uc id) _ (fun w hw => by obtain ⟨n, rfl⟩ := hw; exact range_drewN HQ.out n) Try.underlying44 rfl (info44 HID.out) ?_
            simp only [Act.put, List.setIfInBounds_toArray, List.set_cons_zero, List.set_cons_succ]
            repeat (go_big_quiet_step (fail))
            refine wpQuiet_load 44 _ rfl rfl N 4 rfl (uc p.id) _ (fun w hw => by obtain ⟨n, rfl⟩ := hw; exact range_drewN HR.out n) Try.underlying44 rfl (info44 HI.out) ?_
            simp only [Act.put, List.setIfInBounds_toArray, List.set_cons_zero, List.set_cons_succ]
            repeat (go_big_quiet_step (fail))
            refine wpQuiet_nil ?_
            intro _ hw'
            obtain ⟨nq, hw''⟩ := hw'
            subst hw''
            go_wp2_with fail
            go_ret
            exact ⟨by simp [mtch, *, HX.out, HE.out], below_drewN HB.out nq⟩
          · rw [decide_eq_false he] at heq
            have HE := hide he
            clear he
            refine wp_region_quiet_lit (by kernel_rfl) (by kernel_rfl) ?_
            repeat (go_big_quiet_step (fail))
            refine wpQuiet_load 44 _ rfl rfl bq oq rfl (uc id) _ (fun w hw => by obtain ⟨n, rfl⟩ := hw; exact range_drewN HQ.out n) Try.underlying44 rfl (info44 HID.out) ?_
            simp only [Act.put, List.setIfInBounds_toArray, List.set_cons_zero, List.set_cons_succ]
            repeat (go_big_quiet_step (fail))
            refine wpQuiet_load 44 _ rfl rfl N 4 rfl (uc p.id) _ (fun w hw => by obtain ⟨n, rfl⟩ := hw; exact range_drewN HR.out n) Try.underlying44 rfl (info44 HI.out) ?_
            simp only [Act.put, List.setIfInBounds_toArray, List.set_cons_zero, List.set_cons_succ]
            repeat (go_big_quiet_step (fail))
            refine wpQuiet_nil ?_
            intro _ hw'
            obtain ⟨nq, hw''⟩ := hw'
            subst hw''
            go_wp2_with fail
            go_ret
            exact ⟨by simp [mtch, *, HX.out, HE.out], below_drewN HB.out nq⟩
    | false =>
      refine wp_region_quiet_lit (by kernel_rfl) (by kernel_rfl) ?_
      repeat (go_big_quiet_step (fail))
      refine wpQuiet_nil ?_
      intro _ hw'
      obtain ⟨nq, hw''⟩ := hw'
      subst hw''
      go_wp2_with fail
      go_ret
      exact ⟨by simp [mtch, *], below_drewN HB.out nq⟩

set_option maxHeartbeats 4000000 in
set_option maxRecDepth 20000 in
theorem matches_no (p : Pm) (act typ : ByteArray) (No : Nat) (o1 o2 o3 : Option (List Nat)) (w : World) (hp : IsId p.id) (ho : ObjAt w No typ o1 o2 o3) (h1 : (p.typ.toList == [42]) = false) (h2 : (p.typ.toList == typ.toList) = false) :
    Calls Try.prog 43 #[.agg (pc p), .string act, .pointer (some ⟨No, 0, none⟩)] w fun e w' => e = .returned (.bool (mtch p act typ o1)) ∧ Below w.heap.size w w' := by
  have HB := hide ((Below.refl w.heap.size w).alloc (Nat.le_refl _) (.cells (pc p) 92))
  have HO := hide (ho.below HB.out)
  have HP := hide (new_pm hp w 92)
  have HI := hide hp
  have hsz := pc_size hp
  clear ho hp
  go_enter Try.func43, Try.ntmps43
  go_wp2_with fail
  have c2 := HP.out.2.2.1
  have c3 := HP.out.2.2.2.1
  have c5 := HP.out.2.2.2.2.2
  have HR := hide HP.out.2.2.2.2.1
  have d0 := HO.out.typ
  simp only [Nat.zero_add] at c2 c3 c5 HR
  clear HP
  generalize w.alloc (.cells (pc p) 92) = W at *
  generalize w.heap.size = N at c2 c3 c5 HR ⊢
  refine wp_region_quiet_lit (by kernel_rfl) (by kernel_rfl) ?_
  repeat (go_big_quiet_step (fail))
  refine wpQuiet_nil ?_
  intro _ hw'
  obtain ⟨nq, hw''⟩ := hw'
  subst hw''
  go_wp2_with fail
  go_ret
  exact ⟨by simp [mtch, *], below_drewN HB.out nq⟩

theorem matches_any (p : Pm) (act typ : ByteArray) (No : Nat) (o1 o2 o3 : Option (List Nat)) (w : World) (hp : IsId p.id) (ho : ObjAt w No typ o1 o2 o3) :
    Calls Try.prog 43 #[.agg (pc p), .string act, .pointer (some ⟨No, 0, none⟩)] w fun e w' => e = .returned (.bool (mtch p act typ o1)) ∧ Below w.heap.size w w' := by
  cases h1 : (p.typ.toList == [42]) with
  | true => exact matches_star p act typ No o1 o2 o3 w hp ho h1
  | false =>
    cases h2 : (p.typ.toList == typ.toList) with
    | true => exact matches_name p act typ No o1 o2 o3 w hp ho h1 h2
    | false => exact matches_no p act typ No o1 o2 o3 w hp ho h1 h2
end Go.Proofs.Qxb6602785a
