import Derived.Test.Qxb6600977aL2
import Derived.Deep.OwnRows
set_option linter.unusedVariables false
set_option linter.unusedSimpArgs false
namespace Go.Proofs.Qxb6600977a
open Go.RowKit

/-- The free nodes as a slice that was handed out. -/
structure FreeAt (w : World) (own : Nat → Prop) (fa : Option Addr) (l : List Nat) : Prop where
  cell : ∀ i, i < l.length → ∃ fb, fa = some ⟨fb, 0, none⟩ ∧ own fb ∧ fb < w.heap.size ∧ w.cell? ⟨fb, i, none⟩ = some (.int .u32 (l.getD i 0 : Int))

theorem FreeAt.step {w w' : World} {own own1 own2 : Nat → Prop} {fa : Option Addr} {l : List Nat} (h : FreeAt w own fa l) (hs : Step own1 own2 w w') (ho : ∀ k, own k → ¬ own1 k) : FreeAt w' own fa l := by
  refine ⟨fun i hi => ?_⟩
  obtain ⟨fb, h1, h2, h3, h4⟩ := h.cell i hi
  exact ⟨fb, h1, h2, Nat.lt_of_lt_of_le h3 hs.size, (hs.cell h3 (ho fb h2)).trans h4⟩

theorem RepAt.freeAt {w : World} {t : Nat} {S : Pl.St} {own good : Nat → Prop} {pa : Option Addr} {np pc : Nat} {fa : Option Addr} {fc : Nat} {pb : Nat → Nat} (h : RepAt w t S own good pa np pc fa fc pb) : FreeAt w own fa S.free := by
  refine ⟨fun i hi => ?_⟩
  obtain ⟨g, cap, cur, hv, _, hg, hn, _, _, ht⟩ := ownsRow_form h.free (by omega)
  injection hv with hv1 hv2 hv3
  subst hv1
  refine ⟨g, rfl, h.freeOwn g rfl, lt_of_heap hg, ?_⟩
  rw [cell_of_heap hg]
  have := congrArg (fun l => l[i]?) ht
  simp only [List.getElem?_take, Nat.mul_one, hi, if_true, refs_get] at this
  simp [List.getD, List.getElem?_eq_getElem hi] at this ⊢
  exact this

set_option maxHeartbeats 1000000 in
theorem zzFree_any {w : World} {t : Nat} {S : Pl.St} {own : Nat → Prop} (h : Rep w t S own) :
    Calls Try.prog 19 #[.pointer (some ⟨t, 0, none⟩)] w fun e w' => ∃ fa fc, e = .returned (.slice fa S.free.length fc) ∧ FreeAt w own fa S.free ∧ w = w' := by
  obtain ⟨pa, np, pc, fa, fc, pb, h⟩ := h
  have c : w.cell? ⟨t, 3, none⟩ = some (.slice fa S.free.length fc) := by rw [cell_of_heap h.tree]; rfl
  have HF := hide h.freeAt
  clear h
  go_enter Try.func19, Try.ntmps19
  go_wp2
  go_ret
  exact ⟨fa, fc, rfl, HF.out, rfl⟩

set_option maxHeartbeats 1000000 in
theorem bytes17 (v0 : Nat) (a : Option Addr) (len cap : Nat) (hm : len ≤ maxLen) (w : World) :
    Calls Try.prog 17 #[.int .u32 (v0 : Int), .slice a len cap] w fun e w' => e = .returned (.bool (decide (len ≤ 1048576))) ∧ w = w' := by
  unfold maxLen at hm
  by_cases h : len ≤ 1048576
  · rw [decide_eq_true h]
    go_enter Try.func17, Try.ntmps17
    go_wp2
    go_ret
    exact ⟨rfl, rfl⟩
  · rw [decide_eq_false h]
    go_enter Try.func17, Try.ntmps17
    go_wp2
    go_ret
    exact ⟨rfl, rfl⟩

theorem info5 : (Try.prog.info? 5).map (fun i => (i.zero, i.size, i.bytes)) = some (some (.int .u8 0), 1, 1) := by kernel_rfl

theorem make_marks (c : Nat) (hc : c ≤ 2147483648) : ∃ cur : Array Value, cur.size = c ∧ (∀ i, i < c → cur[i]? = some (.int .u8 0)) ∧ ∀ w : World, (Instr.makeSlice 40 (.int .i64 (c : Int)) (.int .i64 (c : Int))).run Try.prog w = .ok (.slice (some ⟨w.heap.size, 0, none⟩) c c) (w.alloc (.cells cur 5)) := by
  refine ⟨madeCells #[.int .u8 0] c, size_madeCells _ _, fun i hi => ?_, fun w => ?_⟩
  · have := toList_madeCells_one (.int .u8 0) c
    rw [← Array.getElem?_toList, this]
    simp [hi]
  · exact run_make_row' (P := Try.prog) 40 5 (.int .u8 0) 1 Try.underlying40 info5 rfl .i64 .i64 c (by omega) (by omega) w

theorem len_eq : ∀ (n : Nat) (l : List Nat), (∀ a, l.count a = if a < n then 1 else 0) → l.length = n
  | 0, l, h => by
    cases l with
    | nil => simp
    | cons x l => have := h x; simp at this
  | n + 1, l, h => by
    have ih := len_eq n (l.filter (fun a => !(a == n))) (fun a => by
      by_cases e : a = n
      · subst e
        have : (l.filter (fun b => !(b == a))).count a = 0 := by
          rw [List.count_eq_zero]; simp
        rw [this]; simp
      · have h1 := h a
        have h2 : (l.filter (fun a => !(a == n))).count a = l.count a := List.count_filter (by simpa using e)
        rw [h2, h1]
        by_cases e2 : a < n
        · rw [if_pos e2, if_pos (by omega)]
        · rw [if_neg e2, if_neg (by omega)])
    have hn := h n
    simp only [show n < n + 1 from by omega, if_true] at hn
    have hl : l.length = (l.filter (fun a => a == n)).length + (l.filter (fun a => !(a == n))).length := by
      have h1 := List.length_eq_countP_add_countP (fun a => a == n) (l := l)
      have h3 : (fun a => decide (¬ (a == n) = true)) = (fun a => !(a == n)) := by
        funext a; cases (a == n) <;> rfl
      rw [h3, List.countP_eq_length_filter, List.countP_eq_length_filter] at h1
      exact h1
    have hc : (l.filter (fun a => a == n)).length = l.count n := by
      rw [List.count, List.countP_eq_length_filter]
    omega

/-- The marks behind k rounds over the free nodes. -/
def marked2 (l fr : List Nat) (k : Nat) : Nat → Nat := fun i => if i ∈ l then 1 else if i ∈ fr.take k then 2 else 0

theorem marked2_step (l fr : List Nat) (k : Nat) (hk : k < fr.length) (x : Nat) (hx : fr.getD k 0 = x) (h1 : x ∉ l) (i : Nat) : (if i = x then 2 else marked2 l fr k i) = marked2 l fr (k + 1) i := by
  have hx' : fr[k] = x := by rw [← hx]; simp [List.getD, List.getElem?_eq_getElem hk]
  unfold marked2
  rw [List.take_succ_eq_append_getElem hk, hx']
  simp only [List.mem_append, List.mem_singleton]
  by_cases e : i = x
  · subst e; simp [h1]
  · simp [e]

theorem not_mem_take (l : List Nat) (k : Nat) (hk : k < l.length) {x : Nat} (hx : l.getD k 0 = x) (hc : l.count x ≤ 1) : x ∉ l.take k := by
  intro h
  have h1 := Pl.count_pos_of_mem h
  have hx' : l[k] = x := by rw [← hx]; simp [List.getD, List.getElem?_eq_getElem hk]
  have h2 : l.count x = (l.take k).count x + (l.drop k).count x := by rw [← List.count_append, List.take_append_drop]
  rw [List.drop_eq_getElem_cons hk, hx', List.count_cons_self] at h2
  omega

structure Acc (w wr : World) (t mb : Nat) (S : Pl.St) (own : Nat → Prop) (fa : Option Addr) (l : List Nat) (k : Nat) : Prop where
  marks : MarkAt wr mb S.cnt (marked2 l S.free k)
  fr : FreeAt wr own fa S.free
  step : Step (fun k => k = mb) (fun k => k = mb) w wr

set_option maxHeartbeats 2000000 in
theorem law5 (v0 : Nat) (a : Option Addr) (len cap : Nat) (sp : Nat → Sp) (w : World) (hv0 : v0 < 4294967296) (hm : len ≤ maxLen) (hnil : a = none → len = 0 ∧ cap = 0) (hok : ∀ i, i < len → SpOk (sp i)) (h : SpansAt w a len sp) :
    Calls Try.prog 5 #[.int .u32 (v0 : Int), .slice a len cap] w fun e w' => e = .returned (.bool true) ∧ Below w.heap.size w w' := by
  have HB := hide (bytes17 v0 a len cap hm w)
  have HS := hide (And.intro hnil (And.intro hok h))
  unfold maxLen at hm
  clear hnil hok h
  by_cases h1 : len ≤ 1048576
  · rw [decide_eq_true h1] at HB
    by_cases h2 : len ≤ 4096
    · by_cases h3 : len * 40 ≤ 1048576
      · have t1 : decide ((4096 : Int) < (len : Int)) = false := decide_eq_false (by omega)
        have t2 : decide ((1048576 : Int) < (len : Int) * 40) = false := decide_eq_false (by omega)
        have hinv := build_inv v0 sp len h2
        have hcb := hinv.2
        have HI := hide hinv.1
        clear hinv
        go_enter Try.func5, Try.ntmps5
        go_wp2_with fail
        refine HB.out.mono ?_
        rintro e w0 ⟨rfl, rfl⟩
        go_wp2_with fail
        refine (copySpans_any a len cap sp _ h2 HS.out.1 HS.out.2.2).mono ?_
        rintro e w1 ⟨a1, cap1, rfl, hs1, hb1⟩
        have H1 := hide (And.intro hs1 hb1)
        clear hs1 hb1 HB
        go_wp2_with fail
        refine (build_any v0 len cap1 a1 sp _ hv0 h2 HS.out.2.1 H1.out.1).mono ?_
        rintro e w2 ⟨rfl, own, hr⟩
        have H2 := hide (And.intro hr.above hr.low)
        have HR := hide hr.rep
        clear hr HS
        go_wp2_with fail
        refine (zzCount_any HR.out).mono ?_
        rintro e w3 ⟨rfl, rfl⟩
        generalize buildTo v0 sp len = bt at *
        obtain ⟨r, S⟩ := bt
        dsimp only at *
        have t3 : decide ((S.cnt : Int) < 0) = false := decide_eq_false (by omega)
        have t4 : decide ((16777216 : Int) < (S.cnt : Int)) = false := decide_eq_false (by omega)
        obtain ⟨cur, hcs, hcz, hmk⟩ := make_marks S.cnt (by omega)
        have HCZ := hide (And.intro hcs hcz)
        clear hcs hcz
        have htw : w1.heap.size < w2.heap.size := by obtain ⟨pa, np, pc, fa, fc, pb, hh⟩ := HR.out; exact hh.size _ hh.ownT
        obtain ⟨t, ht⟩ : ∃ t, t = w1.heap.size := ⟨_, rfl⟩
        rw [← ht] at HR htw ⊢
        have HTW := hide ht
        clear ht
        have hno : ¬ own w2.heap.size := fun h' => by obtain ⟨pa, np, pc, fa, fc, pb, hh⟩ := HR.out; have := hh.size _ h'; omega
        go_wp2_with fail
        have hcnt : S.cnt < 2147483648 := by omega
        have I := HI.out
        have hM := mark_any t w2.heap.size 128 S r 0 (fun _ => 0) own (w2.alloc (.cells cur 5)) (HR.out.below ((Below.refl _ _).alloc (Nat.le_refl _) _)) ⟨cur, heap_alloc_new' _ _, HCZ.out.1, HCZ.out.2⟩ hno I.deep (fun i hi => ⟨inv_node_lt I i hi, rfl⟩) (fun x => by have := I.once x; split at this <;> omega) hcnt rfl
        refine hM.mono ?_
        rintro e w4 ⟨rfl, M4, S4⟩
        have HR4 := hide ((HR.out.below ((Below.refl _ _).alloc (Nat.le_refl _) (.cells cur 5))).step S4 (fun k hk e => hno (e ▸ hk)))
        have HM4 := hide M4
        have HS4 := hide ((Step.alloc (fun k => k = w2.heap.size) w2 (.cells cur 5)).trans S4)
        clear hM M4 S4 hmk HCZ I
        go_wp2_with fail
        refine (zzFree_any HR4.out).mono ?_
        rintro e w5 ⟨fa, fc, rfl, hF, rfl⟩
        have HF := hide hF
        clear hF
        generalize hl : Pl.nodes S.mem 128 r = l at *
        go_wp2_with fail
        have HL := hide hl
        clear hl
        have hfl : S.free.length ≤ S.cnt := inv_len HI.out
        go_loopw [12] (fun i wr => ∃ k : Nat, k ≤ S.free.length ∧ i = .int .i64 k ∧ Acc w2 wr t w2.heap.size S own fa l k) (fun i _ => S.free.length - (intOf i).toNat)
        case atStart =>
          exact ⟨0, Nat.zero_le _, rfl, HM4.out.congr (fun i _ => by simp [marked, marked2]), HF.out, HS4.out⟩
        case round =>
          obtain ⟨k, hk, rfl, hacc⟩ := hrel
          have HA := hide hacc
          clear hacc HM4 HS4 HF HR4
          by_cases hlt : k < S.free.length
          · obtain ⟨fb, rfl, hof, hfb, cx⟩ := HA.out.fr.cell k hlt
            have hxm : S.free.getD k 0 ∈ S.free := by simp [List.getD, List.getElem?_eq_getElem hlt]
            have hxc := inv_free_lt HI.out _ hxm
            generalize hx : S.free.getD k 0 = x at *
            have hxl : x ∉ l := by
              intro h'
              have h1 := HI.out.once x
              have h2 := Pl.count_pos_of_mem hxm
              rw [← HL.out] at h'
              have h3 := Pl.count_pos_of_mem h'
              split at h1 <;> omega
            have hx0 : marked2 l S.free k x = 0 := by
              have hnt : x ∉ S.free.take k := not_mem_take S.free k hlt hx (by have h1 := HI.out.once x; split at h1 <;> omega)
              simp [marked2, hxl, hnt]
            have hx32 : x < 4294967296 := by omega
            have hxlf : Pl.leaf x = false := Pl.leaf_false_of_lt (by omega)
            obtain ⟨cm, zm⟩ := HA.out.marks.cell hxc
            rw [hx0] at cm
            have t5 : decide ((x : Int) < 0) = false := decide_eq_false (by omega)
            have t6 : decide ((S.cnt : Int) ≤ (x : Int)) = false := decide_eq_false (by omega)
            have t7 : (x : Int) < (S.cnt : Int) := by omega
            have HX := hide (And.intro hx hxl)
            clear hx hxm hxl hx0 hof hfb
            go_wp2_with (go_at_call 20; refine (isLeaf_any x hx32 _).mono ?_; rintro e w' ⟨rfl, rfl⟩)
            go_roundw
            case rel =>
              refine ⟨k + 1, by omega, by go_num, ?_, ?_, ?_⟩
              · exact (HA.out.marks.set hxc 2).congr (fun i _ => marked2_step l S.free k hlt x HX.out.1 HX.out.2 i)
              · exact HA.out.fr.step (Step.set (own := fun k => k = w2.heap.size) rfl) (fun q hq e => hno (e ▸ hq))
              · exact HA.out.step.trans (Step.set rfl)
            case measure => simp [intOf]; omega
          · obtain rfl : S.free.length = k := by omega
            go_wp2_with fail
            have hall : ∀ i, i < S.cnt → marked2 l S.free S.free.length i ≠ 0 := by
              intro i hi
              have h1 := HI.out.once i
              rw [if_pos hi, HL.out] at h1
              unfold marked2
              rw [List.take_length]
              by_cases e1 : i ∈ l
              · simp [e1]
              · rw [List.count_eq_zero_of_not_mem e1] at h1
                have : i ∈ S.free := List.count_pos_iff.1 (by omega)
                simp [e1, this]
            have HAL := hide hall
            have hsum : l.length + S.free.length = S.cnt := by
              rw [← List.length_append]
              exact len_eq _ _ (fun x => by have := HI.out.once x; rw [HL.out] at this; rw [List.count_append]; omega)
            clear hall
            go_loop [15] (fun i => ∃ k : Nat, k ≤ S.cnt ∧ i = .int .i64 k) (fun i => S.cnt - (intOf i).toNat)
            case atStart => exact ⟨0, Nat.zero_le _, rfl⟩
            case round =>
              obtain ⟨k, hk, rfl⟩ := hrel
              by_cases hlt : k < S.cnt
              · obtain ⟨cm, zm⟩ := HA.out.marks.cell hlt
                have hne := HAL.out k hlt
                generalize marked2 l S.free S.free.length k = m at cm hne
                have t8 : ((m : Int) == 0) = false := by rw [beq_eq_false_iff_ne]; omega
                clear hne
                go_wp2_with fail
                go_round
                case rel => exact ⟨k + 1, by omega, by go_num⟩
                case measure => simp [intOf]; omega
              · obtain rfl : S.cnt = k := by omega
                have t9 : (((l.length : Int) + (S.free.length : Int)) != (S.cnt : Int)) = false := by simp; omega
                have t10 : decide ((l.length : Int) ≤ 256 * (len : Int)) = true := decide_eq_true (by omega)
                go_wp2_with fail
                go_ret
                refine ⟨rfl, ?_⟩
                have b1 := H1.out.2
                have b2 := H2.out.2
                have b3 := HA.out.step.toBelow (B := w.heap.size) (Nat.le_trans b1.size b2.size) (fun k hk => by have := b1.size; have := b2.size; omega)
                exact (b1.trans (b2.mono b1.size)).trans b3
      · have t1 : decide ((4096 : Int) < (len : Int)) = false := decide_eq_false (by omega)
        have t2 : decide ((1048576 : Int) < (len : Int) * 40) = true := decide_eq_true (by omega)
        go_enter Try.func5, Try.ntmps5
        go_wp2_with fail
        refine HB.out.mono ?_
        rintro e w0 ⟨rfl, rfl⟩
        go_wp2_with fail
        go_ret
        exact ⟨rfl, Below.refl _ _⟩
    · have t1 : decide ((4096 : Int) < (len : Int)) = true := decide_eq_true (by omega)
      go_enter Try.func5, Try.ntmps5
      go_wp2_with fail
      refine HB.out.mono ?_
      rintro e w0 ⟨rfl, rfl⟩
      go_wp2_with fail
      go_ret
      exact ⟨rfl, Below.refl _ _⟩
  · rw [decide_eq_false h1] at HB
    go_enter Try.func5, Try.ntmps5
    go_wp2_with fail
    refine HB.out.mono ?_
    rintro e w0 ⟨rfl, rfl⟩
    go_wp2_with fail
    go_ret
    exact ⟨rfl, Below.refl _ _⟩
end Go.Proofs.Qxb6600977a
