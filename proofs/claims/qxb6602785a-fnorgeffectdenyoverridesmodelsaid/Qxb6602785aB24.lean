/-
  SEAT b6602785a: effect.fold.
-/
import Derived.Test.Qxb6602785aB23
import Derived.Test.Qxb6602785aB8
set_option linter.unusedVariables false
set_option linter.unusedSimpArgs false
namespace Go.Proofs.Qxb6602785a
open Go.RowKit Go.Maps

/-- An effect, out of (a deny was met, an allow was met). -/
def code (s : Bool × Bool) : Nat := if s.1 then 2 else if s.2 then 1 else 0
/-- One permission more: no match, a deny, an allow. -/
def stp (s : Bool × Bool) : Option Bool → Bool × Bool
  | none => s
  | some true => (true, s.2)
  | some false => (s.1, true)
def scan (s : Bool × Bool) (f : Nat → Option Bool) : Nat → Bool × Bool
  | 0 => s
  | k + 1 => stp (scan s f k) (f k)
def verd (ps : Nat → Pm) (act typ : ByteArray) (o : Option (List Nat)) (k : Nat) : Option Bool := if mtch (ps k) act typ o then some (ps k).neg else none

theorem scan_stays {s : Bool × Bool} {f : Nat → Option Bool} {k : Nat} (h : (scan s f k).1 = true) : ∀ n, (scan s f (k + n)).1 = true
  | 0 => h
  | n + 1 => by
    show (stp (scan s f (k + n)) (f (k + n))).1 = true
    have := scan_stays h n
    cases f (k + n) with
    | none => exact this
    | some b => cases b <;> first | rfl | exact this
theorem code_deny {s : Bool × Bool} (h : s.1 = true) : code s = 2 := by unfold code; rw [h]; rfl
theorem code_lt (s : Bool × Bool) : code s < 3 := by unfold code; split <;> (try split) <;> omega

set_option maxHeartbeats 1000000 in
set_option maxRecDepth 20000 in
theorem fold_deny (v : Value) (act : ByteArray) (No : Nat) (w : World) :
    Calls Try.prog 42 #[.int .u8 2, v, .string act, .pointer (some ⟨No, 0, none⟩)] w fun e w' => e = .returned (.int .u8 2) ∧ w = w' := by
  go_enter Try.func42, Try.ntmps42
  go_wp2_with fail
  go_ret
  exact ⟨rfl, rfl⟩

/-- While fold runs. -/
structure FRel (w wr : World) (s : Bool × Bool) (f : Nat → Option Bool) (k : Nat) (v : Value) : Prop where
  low : Below w.heap.size w wr
  val : v = .int .u8 (code (scan s f k) : Int)
  no : (scan s f k).1 = false

set_option maxHeartbeats 2000000 in
set_option maxRecDepth 20000 in
theorem fold_go (s : Bool × Bool) (a : Option Addr) (len cap : Nat) (ps : Nat → Pm) (act typ : ByteArray) (No : Nat) (o1 o2 o3 : Option (List Nat)) (w : World) (hs : s.1 = false) (hm : len ≤ 1048576) (hok : ∀ i, i < len → PmOk (ps i)) (h : PermsAt w a len ps) (ho : ObjAt w No typ o1 o2 o3) :
    Calls Try.prog 42 #[.int .u8 (code s : Int), .slice a len cap, .string act, .pointer (some ⟨No, 0, none⟩)] w fun e w' => e = .returned (.int .u8 (code (scan s (verd ps act typ o1) len) : Int)) ∧ Below w.heap.size w w' := by
  have HS := hide h
  have HK := hide hok
  have HO := hide ho
  have h2 : code s ≠ 2 := by unfold code; rw [hs]; simp; split <;> omega
  have t1 : ((code s : Int) == 2) = false := by simp; omega
  have HF := hide (FRel.mk (Below.refl w.heap.size w) rfl hs : FRel w w s (verd ps act typ o1) 0 (.int .u8 (code s : Int)))
  clear h hok ho
  generalize code s = cs at *
  go_enter Try.func42, Try.ntmps42
  go_wp2_with fail
  go_loopw [0, 15] (fun v i wr => ∃ k : Nat, k ≤ len ∧ i = .int .i64 k ∧ FRel w wr s (verd ps act typ o1) k v) (fun _ i _ => len - (intOf i).toNat)
  case atStart => exact ⟨0, Nat.zero_le _, rfl, HF.out⟩
  case round =>
    obtain ⟨k, hk, rfl, hn⟩ := hrel
    have HN := hide hn
    clear hn
    by_cases hlt : k < len
    · obtain ⟨b, off, rfl, hbl, hp⟩ := HS.out k hlt
      have hid := (HK.out k hlt).id
      have HP := hide (range_of_pm hid (hp.of (fun o => HN.out.low.cell hbl)))
      have HI := hide hid
      have hfl : ∀ V : World, (storeCells ⟨V.heap.size, 0, none⟩ (pc (ps k)).toList).run Try.prog (V.alloc (.cells #[.bool false, .int .u8 0, .string ⟨#[]⟩, .bool false, .int .u8 0, .int .u8 0, .int .u8 0, .int .u8 0, .int .u8 0, .int .u8 0, .int .u8 0, .int .u8 0, .int .u8 0, .int .u8 0, .int .u8 0, .int .u8 0, .int .u8 0, .int .u8 0, .int .u8 0, .int .u8 0, .string ⟨#[]⟩] 92)) = .ok () (V.alloc (.cells (pc (ps k)) 92)) := fun V => fill92 hid V _ rfl
      have hsz := pc_size hid
      have HB1 := hide ((Below.refl wr.heap.size wr).alloc (Nat.le_refl _) (.cells (pc (ps k)) 92))
      have HM := hide (matches_any (ps k) act typ No o1 o2 o3 (wr.alloc (.cells (pc (ps k)) 92)) hid ((HO.out.below HN.out.low).below HB1.out))
      have HX := hide (show wr.heap.size < (wr.alloc (.cells (pc (ps k)) 92)).heap.size by simp)
      have HC := hide (pmCells_of_range hid (range_new wr (pc (ps k)) 92)).1
      clear hp hbl hid
      go_wp2_with (first
        | (refine wpList_load_mid rfl 92 _ rfl b (off + k * 21) rfl (pc (ps k)).toList _ HP.out Try.underlying92 rfl (info92s HI.out) ?_)
        | (refine wpList_load_mid rfl 92 _ rfl wr.heap.size 0 rfl (pc (ps k)).toList _ (range_new wr _ 92) Try.underlying92 rfl (info92s HI.out) ?_))
      refine HM.out.mono ?_
      rintro e w1 ⟨rfl, hb⟩
      have HB := hide (And.intro (hb.cell HX.out |>.trans HC.out) (HN.out.low.trans ((HB1.out.trans (hb.mono HB1.out.size)).mono HN.out.low.size)))
      clear hb hfl
      cases hmt : mtch (ps k) act typ o1 with
      | false =>
        have HV := hide (show scan s (verd ps act typ o1) (k + 1) = scan s (verd ps act typ o1) k by show stp _ (verd ps act typ o1 k) = _; unfold verd; rw [hmt]; rfl)
        clear hmt
        go_wp2_with fail
        go_roundw
        case rel => exact ⟨k + 1, by omega, by go_num, HB.out.2, by rw [HV.out]; exact HN.out.val, by rw [HV.out]; exact HN.out.no⟩
        case measure => simp [intOf]; omega
      | true =>
        cases hng : (ps k).neg with
        | true =>
          have HV := hide (show (scan s (verd ps act typ o1) (k + 1)).1 = true by show (stp _ (verd ps act typ o1 k)).1 = _; unfold verd; rw [hmt, hng]; rfl)
          have cn := HB.out.1
          rw [hng] at cn
          clear hmt hng
          go_wp2_with fail
          go_ret
          refine ⟨?_, HB.out.2⟩
          obtain ⟨n, hn⟩ : ∃ n, len = k + 1 + n := ⟨len - (k + 1), by omega⟩
          rw [hn, code_deny (scan_stays HV.out n)]
          rfl
        | false =>
          have HV := hide (show scan s (verd ps act typ o1) (k + 1) = ((scan s (verd ps act typ o1) k).1, true) by show stp _ (verd ps act typ o1 k) = _; unfold verd; rw [hmt, hng]; rfl)
          have cn := HB.out.1
          rw [hng] at cn
          clear hmt hng
          go_wp2_with fail
          go_roundw
          case rel => exact ⟨k + 1, by omega, by go_num, HB.out.2, by rw [HV.out, HN.out.no]; rfl, by rw [HV.out]; exact HN.out.no⟩
          case measure => simp [intOf]; omega
    · obtain rfl : len = k := by omega
      go_wp2_with fail
      go_ret
      exact ⟨by rw [HN.out.val]; rfl, HN.out.low⟩

theorem fold_any (s : Bool × Bool) (a : Option Addr) (len cap : Nat) (ps : Nat → Pm) (act typ : ByteArray) (No : Nat) (o1 o2 o3 : Option (List Nat)) (w : World) (hm : len ≤ 1048576) (hok : ∀ i, i < len → PmOk (ps i)) (h : PermsAt w a len ps) (ho : ObjAt w No typ o1 o2 o3) :
    Calls Try.prog 42 #[.int .u8 (code s : Int), .slice a len cap, .string act, .pointer (some ⟨No, 0, none⟩)] w fun e w' => e = .returned (.int .u8 (code (scan s (verd ps act typ o1) len) : Int)) ∧ Below w.heap.size w w' := by
  cases hs : s.1 with
  | false => exact fold_go s a len cap ps act typ No o1 o2 o3 w hs hm hok h ho
  | true =>
    have e2 : code (scan s (verd ps act typ o1) len) = 2 := by
      have := scan_stays (f := verd ps act typ o1) (k := 0) (s := s) hs len
      rw [Nat.zero_add] at this
      exact code_deny this
    rw [code_deny hs, e2]
    refine (fold_deny _ act No w).mono ?_
    rintro e w' ⟨rfl, rfl⟩
    exact ⟨rfl, Below.refl _ _⟩
end Go.Proofs.Qxb6602785a
