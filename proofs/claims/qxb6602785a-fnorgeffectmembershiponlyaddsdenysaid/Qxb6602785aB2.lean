/-
  SEAT b6602785a: the lists of permissions and of entries in memory; the counters of bytes.
-/
import Derived.Test.Qxb6602785aB1
set_option linter.unusedVariables false
set_option linter.unusedSimpArgs false
namespace Go.Proofs.Qxb6602785a
open Go.RowKit Go.Maps

structure Pm where
  neg : Bool
  lv : Nat
  typ : ByteArray
  any : Bool
  id : List Nat
  act : ByteArray

structure PmOk (p : Pm) : Prop where
  id : IsId p.id
  lv : p.lv < 256
  typ : p.typ.size ≤ maxLen
  act : p.act.size ≤ maxLen

def pm0 : Pm := ⟨false, 0, ByteArray.empty, false, [], ByteArray.empty⟩

/-- One permission's cells, from offset o of block b on. -/
def PmCells (w : World) (b o : Nat) (p : Pm) : Prop :=
  w.cell? ⟨b, o, none⟩ = some (.bool p.neg) ∧ w.cell? ⟨b, o + 1, none⟩ = some (.int .u8 (p.lv : Int)) ∧ w.cell? ⟨b, o + 2, none⟩ = some (.string p.typ) ∧ w.cell? ⟨b, o + 3, none⟩ = some (.bool p.any) ∧ w.rangeAt b (o + 4) (uc p.id).toList ∧ w.cell? ⟨b, o + 20, none⟩ = some (.string p.act)

def PermsAt (w : World) (a : Option Addr) (len : Nat) (ps : Nat → Pm) : Prop := ∀ i, i < len → ∃ b off, a = some ⟨b, off, none⟩ ∧ b < w.heap.size ∧ PmCells w b (off + i * 21) (ps i)

theorem rangeAt_of {w w' : World} {b : Nat} (h : ∀ o, w'.cell? ⟨b, o, none⟩ = w.cell? ⟨b, o, none⟩) {o : Nat} {cs : List Value} (hr : w.rangeAt b o cs) : w'.rangeAt b o cs := fun j v hv => (h _).trans (hr j v hv)

theorem PmCells.of {w w' : World} {b o : Nat} {p : Pm} (h : PmCells w b o p) (he : ∀ o, w'.cell? ⟨b, o, none⟩ = w.cell? ⟨b, o, none⟩) : PmCells w' b o p := by
  obtain ⟨h0, h1, h2, h3, h4, h5⟩ := h
  exact ⟨(he _).trans h0, (he _).trans h1, (he _).trans h2, (he _).trans h3, rangeAt_of he h4, (he _).trans h5⟩

theorem PermsAt.below {w w' : World} {a : Option Addr} {len : Nat} {ps : Nat → Pm} (h : PermsAt w a len ps) (hb : Below w.heap.size w w') : PermsAt w' a len ps := by
  intro i hi
  obtain ⟨b, off, ha, hlt, hc⟩ := h i hi
  exact ⟨b, off, ha, Nat.lt_of_lt_of_le hlt hb.size, hc.of (fun o => hb.cell hlt)⟩

/-- One entry: the organization's id and a list of permissions. -/
structure En where
  org : List Nat
  la : Option Addr
  ll : Nat
  lc : Nat
  ps : Nat → Pm

structure EnOk (e : En) : Prop where
  org : IsId e.org
  len : e.ll ≤ maxLen
  nil : e.la = none → e.ll = 0 ∧ e.lc = 0
  ps : ∀ i, i < e.ll → PmOk (e.ps i)

def EnCells (w : World) (b o : Nat) (e : En) : Prop :=
  w.rangeAt b o (uc e.org).toList ∧ w.cell? ⟨b, o + 16, none⟩ = some (.slice e.la e.ll e.lc) ∧ PermsAt w e.la e.ll e.ps

def EntriesAt (w : World) (a : Option Addr) (len : Nat) (es : Nat → En) : Prop := ∀ i, i < len → ∃ b off, a = some ⟨b, off, none⟩ ∧ b < w.heap.size ∧ EnCells w b (off + i * 17) (es i)

theorem EntriesAt.below {w w' : World} {a : Option Addr} {len : Nat} {es : Nat → En} (h : EntriesAt w a len es) (hb : Below w.heap.size w w') : EntriesAt w' a len es := by
  intro i hi
  obtain ⟨b, off, ha, hlt, h0, h1, h2⟩ := h i hi
  exact ⟨b, off, ha, Nat.lt_of_lt_of_le hlt hb.size, rangeAt_of (fun o => hb.cell hlt) h0, (hb.cell hlt).trans h1, h2.below hb⟩

set_option maxHeartbeats 400000 in
theorem add_any (t n : Nat) (ht : t ≤ 9223372036854775807) (hn : n ≤ 9223372036854775807) (w : World) :
    Calls Try.prog 32 #[.int .i64 (t : Int), .int .i64 (n : Int)] w fun e w' => ∃ r : Nat, e = .returned (.int .i64 (r : Int)) ∧ r ≤ 2097152 ∧ (r ≤ 1048576 → t ≤ 1048576 ∧ n ≤ 1048576) ∧ w = w' := by
  by_cases h1 : t ≤ 1048576
  · have t1 : decide ((1048576 : Int) < (t : Int)) = false := decide_eq_false (by omega)
    by_cases h2 : n ≤ 1048576
    · have t2 : decide ((1048576 : Int) < (n : Int)) = false := decide_eq_false (by omega)
      go_enter Try.func32, Try.ntmps32
      go_wp2
      go_ret
      exact ⟨t + n, by simp, by omega, fun _ => ⟨h1, h2⟩, rfl⟩
    · have t2 : decide ((1048576 : Int) < (n : Int)) = true := decide_eq_true (by omega)
      go_enter Try.func32, Try.ntmps32
      go_wp2
      go_ret
      exact ⟨1048577, rfl, by omega, fun h => by omega, rfl⟩
  · have t1 : decide ((1048576 : Int) < (t : Int)) = true := decide_eq_true (by omega)
    go_enter Try.func32, Try.ntmps32
    go_wp2
    go_ret
    exact ⟨1048577, rfl, by omega, fun h => by omega, rfl⟩

set_option maxHeartbeats 1000000 in
theorem permBytes_any (a : Option Addr) (len cap t : Nat) (ps : Nat → Pm) (w : World) (hm : len ≤ maxLen) (ht : t ≤ 2097152) (hok : ∀ i, i < len → PmOk (ps i)) (h : PermsAt w a len ps) :
    Calls Try.prog 38 #[.slice a len cap, .int .i64 (t : Int)] w fun e w' => ∃ r : Nat, e = .returned (.int .i64 (r : Int)) ∧ r ≤ 2097152 ∧ (r ≤ 1048576 → t ≤ 1048576 ∧ len ≤ 1048576) ∧ w = w' := by
  have HS := hide h
  have HK := hide hok
  clear h hok
  unfold maxLen at hm
  by_cases h1 : len ≤ 1048576
  · have t1 : decide ((1048576 : Int) < (len : Int)) = false := decide_eq_false (by omega)
    go_enter Try.func38, Try.ntmps38
    go_wp2_with fail
    have e48 : (48 : Int) * (len : Int) = ((48 * len : Nat) : Int) := by omega
    rw [e48]
    refine (add_any t (48 * len) (by omega) (by omega) _).mono ?_
    rintro e w0 ⟨r, rfl, hr1, hr2, rfl⟩
    clear e48
    go_wp2_with fail
    go_loop [1, 5] (fun tv i => ∃ k T : Nat, k ≤ len ∧ i = .int .i64 k ∧ tv = .int .i64 (T : Int) ∧ T ≤ 2097152 ∧ (T ≤ 1048576 → t ≤ 1048576)) (fun _ i => len - (intOf i).toNat)
    case atStart => exact ⟨0, r, Nat.zero_le _, rfl, rfl, hr1, fun h => (hr2 h).1⟩
    case round =>
      obtain ⟨k, T, hk, rfl, rfl, hT1, hT2⟩ := hrel
      by_cases hlt : k < len
      · by_cases hT : T ≤ 1048576
        · have t2 : decide ((1048576 : Int) < (T : Int)) = false := decide_eq_false (by omega)
          obtain ⟨b, off, rfl, hbl, c0, c1, c2, c3, c4, c5⟩ := HS.out k hlt
          have ok1 := (HK.out k hlt).typ
          have ok2 := (HK.out k hlt).act
          unfold maxLen at ok1 ok2
          clear c0 c1 c3 c4 hbl
          generalize (ps k).typ = s1 at *
          generalize (ps k).act = s2 at *
          go_wp2_with fail
          refine (add_any T s1.size (by omega) (by omega) _).mono ?_
          rintro e w0 ⟨r1, rfl, hr1', hr2', rfl⟩
          go_wp2_with fail
          refine (add_any r1 s2.size (by omega) (by omega) _).mono ?_
          rintro e w0 ⟨r2, rfl, hr1'', hr2'', rfl⟩
          go_wp2_with fail
          go_round
          case rel => exact ⟨k + 1, r2, by omega, by go_num, rfl, hr1'', fun h => hT2 ((hr2' ((hr2'' h).1)).1)⟩
          case measure => simp [intOf]; omega
        · have t2 : decide ((1048576 : Int) < (T : Int)) = true := decide_eq_true (by omega)
          go_wp2_with fail
          go_ret
          exact ⟨T, rfl, hT1, fun h => by omega, rfl⟩
      · obtain rfl : len = k := by omega
        go_wp2_with fail
        go_ret
        exact ⟨T, rfl, hT1, fun h => (by first | exact ⟨hT2 h, h1⟩ | exact hT2 h), rfl⟩
  · have t1 : decide ((1048576 : Int) < (len : Int)) = true := decide_eq_true (by omega)
    go_enter Try.func38, Try.ntmps38
    go_wp2
    go_ret
    exact ⟨1048577, rfl, by omega, fun h => by omega, rfl⟩

set_option maxHeartbeats 1000000 in
theorem entryBytes_any (a : Option Addr) (len cap t : Nat) (es : Nat → En) (w : World) (hm : len ≤ maxLen) (ht : t ≤ 2097152) (hok : ∀ i, i < len → EnOk (es i)) (h : EntriesAt w a len es) :
    Calls Try.prog 39 #[.slice a len cap, .int .i64 (t : Int)] w fun e w' => ∃ r : Nat, e = .returned (.int .i64 (r : Int)) ∧ r ≤ 2097152 ∧ (r ≤ 1048576 → t ≤ 1048576 ∧ len ≤ 1048576 ∧ ∀ i, i < len → (es i).ll ≤ 1048576) ∧ w = w' := by
  have HS := hide h
  have HK := hide hok
  clear h hok
  unfold maxLen at hm
  by_cases h1 : len ≤ 1048576
  · have t1 : decide ((1048576 : Int) < (len : Int)) = false := decide_eq_false (by omega)
    go_enter Try.func39, Try.ntmps39
    go_wp2_with fail
    have e48 : (40 : Int) * (len : Int) = ((40 * len : Nat) : Int) := by omega
    rw [e48]
    refine (add_any t (40 * len) (by omega) (by omega) _).mono ?_
    rintro e w0 ⟨r, rfl, hr1, hr2, rfl⟩
    clear e48
    go_wp2_with fail
    go_loop [1, 5] (fun tv i => ∃ k T : Nat, k ≤ len ∧ i = .int .i64 k ∧ tv = .int .i64 (T : Int) ∧ T ≤ 2097152 ∧ (T ≤ 1048576 → t ≤ 1048576 ∧ ∀ i, i < k → (es i).ll ≤ 1048576)) (fun _ i => len - (intOf i).toNat)
    case atStart => exact ⟨0, r, Nat.zero_le _, rfl, rfl, hr1, fun h => ⟨(hr2 h).1, fun i hi => by omega⟩⟩
    case round =>
      obtain ⟨k, T, hk, rfl, rfl, hT1, hT2⟩ := hrel
      have HT2 := hide hT2
      clear hT2
      by_cases hlt : k < len
      · by_cases hT : T ≤ 1048576
        · have t2 : decide ((1048576 : Int) < (T : Int)) = false := decide_eq_false (by omega)
          obtain ⟨b, off, rfl, hbl, c0, c1, c2⟩ := HS.out k hlt
          have HC := hide (permBytes_any (es k).la (es k).ll (es k).lc T (es k).ps w (HK.out k hlt).len hT1 (HK.out k hlt).ps c2)
          clear c0 c2 hbl
          go_wp2_with fail
          refine HC.out.mono ?_
          rintro e w0 ⟨r1, rfl, hr1', hr2', rfl⟩
          have HR := hide hr2'
          clear hr2'
          go_wp2_with fail
          go_round
          case rel =>
            refine ⟨k + 1, r1, by omega, by go_num, rfl, hr1', fun h => ⟨(HT2.out hT).1, fun i hi => ?_⟩⟩
            by_cases e : i = k
            · subst e; exact (HR.out h).2
            · exact (HT2.out hT).2 i (by omega)
          case measure => simp [intOf]; omega
        · have t2 : decide ((1048576 : Int) < (T : Int)) = true := decide_eq_true (by omega)
          go_wp2_with fail
          go_ret
          exact ⟨T, rfl, hT1, fun h => by omega, rfl⟩
      · obtain rfl : len = k := by omega
        go_wp2_with fail
        go_ret
        exact ⟨T, rfl, hT1, fun h => (by first | exact ⟨(HT2.out h).1, h1, (HT2.out h).2⟩ | exact ⟨(HT2.out h).1, (HT2.out h).2⟩ | exact (HT2.out h).2), rfl⟩
  · have t1 : decide ((1048576 : Int) < (len : Int)) = true := decide_eq_true (by omega)
    go_enter Try.func39, Try.ntmps39
    go_wp2
    go_ret
    exact ⟨1048577, rfl, by omega, fun h => by omega, rfl⟩

set_option maxHeartbeats 1000000 in
theorem scopeBytes_any (a1 a2 a3 : Option Addr) (len1 cap1 len2 cap2 len3 cap3 : Nat) (ps qs : Nat → Pm) (es : Nat → En) (s1 s2 s3 : ByteArray) (w : World) (hm1 : len1 ≤ maxLen) (hm2 : len2 ≤ maxLen) (hm3 : len3 ≤ maxLen)
    (hs1 : s1.size ≤ maxLen) (hs2 : s2.size ≤ maxLen) (hs3 : s3.size ≤ maxLen) (ok1 : ∀ i, i < len1 → PmOk (ps i)) (ok2 : ∀ i, i < len2 → EnOk (es i)) (ok3 : ∀ i, i < len3 → PmOk (qs i)) (h1 : PermsAt w a1 len1 ps) (h2 : EntriesAt w a2 len2 es) (h3 : PermsAt w a3 len3 qs) :
    Calls Try.prog 20 #[.slice a1 len1 cap1, .slice a2 len2 cap2, .slice a3 len3 cap3, .string s1, .string s2, .string s3] w fun e w' => ∃ r : Nat, e = .returned (.int .i64 (r : Int)) ∧ r ≤ 2097152 ∧ (r ≤ 1048576 → len1 ≤ 1048576 ∧ (len2 ≤ 1048576 ∧ ∀ i, i < len2 → (es i).ll ≤ 1048576) ∧ len3 ≤ 1048576) ∧ w = w' := by
  have H1 := hide (permBytes_any a1 len1 cap1 0 ps w hm1 (by omega) ok1 h1)
  have H2 := hide (fun t ht => entryBytes_any a2 len2 cap2 t es w hm2 ht ok2 h2)
  have H3 := hide (fun t ht => permBytes_any a3 len3 cap3 t qs w hm3 ht ok3 h3)
  unfold maxLen at hs1 hs2 hs3
  clear hm1 hm2 hm3 ok1 ok2 ok3 h1 h2 h3
  go_enter Try.func20, Try.ntmps20
  go_wp2_with fail
  refine H1.out.mono ?_
  rintro e w0 ⟨r1, rfl, b1, c1, rfl⟩
  have C1 := hide c1
  clear c1
  go_wp2_with fail
  refine (H2.out r1 b1).mono ?_
  rintro e w0 ⟨r2, rfl, b2, c2, rfl⟩
  have C2 := hide c2
  clear c2
  go_wp2_with fail
  refine (H3.out r2 b2).mono ?_
  rintro e w0 ⟨r3, rfl, b3, c3, rfl⟩
  have C3 := hide c3
  clear c3
  go_wp2_with fail
  refine (add_any r3 s1.size (by omega) (by omega) _).mono ?_
  rintro e w0 ⟨r4, rfl, b4, c4, rfl⟩
  have C4 := hide c4
  clear c4
  go_wp2_with fail
  refine (add_any r4 s2.size (by omega) (by omega) _).mono ?_
  rintro e w0 ⟨r5, rfl, b5, c5, rfl⟩
  have C5 := hide c5
  clear c5
  go_wp2_with fail
  refine (add_any r5 s3.size (by omega) (by omega) _).mono ?_
  rintro e w0 ⟨r6, rfl, b6, c6, rfl⟩
  have C6 := hide c6
  clear c6
  go_wp2_with fail
  go_ret
  refine ⟨r6, rfl, b6, fun h => ?_, rfl⟩
  have d5 := (C6.out h).1
  have d4 := (C5.out d5).1
  have d3 := (C4.out d4).1
  have d2 := C3.out d3
  have d1 := C2.out d2.1
  exact ⟨(C1.out d1.1).2, d1.2, d2.2⟩
end Go.Proofs.Qxb6602785a
