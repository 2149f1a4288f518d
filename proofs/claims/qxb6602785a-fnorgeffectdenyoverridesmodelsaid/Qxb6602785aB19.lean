/-
  SEAT b6602785a: roles in memory; zzRoleBytes, zzRolesArgsBytes.
-/
import Derived.Test.Qxb6602785aB18
set_option linter.unusedVariables false
set_option linter.unusedSimpArgs false
namespace Go.Proofs.Qxb6602785a
open Go.ChangeShapes Go.WideShapes Go.ChangeAt Go.RowKit Go.Deep

/-- One role. -/
structure Rl where
  nm : ByteArray
  dn : ByteArray
  sa : Option Addr
  sl : Nat
  sp : Nat
  ps : Nat → Pm
  oa : Option Addr
  ol : Nat
  op : Nat
  es : Nat → En
  ua : Option Addr
  ul : Nat
  up : Nat
  qs : Nat → Pm

structure RlOk (r : Rl) : Prop where
  nm : r.nm.size ≤ maxLen
  dn : r.dn.size ≤ maxLen
  sl : r.sl ≤ maxLen
  sn : r.sa = none → r.sl = 0 ∧ r.sp = 0
  ps : ∀ i, i < r.sl → PmOk (r.ps i)
  ol : r.ol ≤ maxLen
  on : r.oa = none → r.ol = 0 ∧ r.op = 0
  es : ∀ i, i < r.ol → EnOk (r.es i)
  ul : r.ul ≤ maxLen
  un : r.ua = none → r.ul = 0 ∧ r.up = 0
  qs : ∀ i, i < r.ul → PmOk (r.qs i)

structure RlSmall (r : Rl) : Prop where
  sl : r.sl ≤ 1048576
  ol : r.ol ≤ 1048576
  ll : ∀ i, i < r.ol → (r.es i).ll ≤ 1048576
  ul : r.ul ≤ 1048576

def rl0 : Rl := ⟨ByteArray.empty, ByteArray.empty, none, 0, 0, fun _ => pm0, none, 0, 0, fun _ => en0, none, 0, 0, fun _ => pm0⟩

def RlCells (w : World) (b o : Nat) (r : Rl) : Prop :=
  w.cell? ⟨b, o, none⟩ = some (.string r.nm) ∧ w.cell? ⟨b, o + 1, none⟩ = some (.string r.dn) ∧ w.cell? ⟨b, o + 2, none⟩ = some (.slice r.sa r.sl r.sp) ∧ w.cell? ⟨b, o + 3, none⟩ = some (.slice r.oa r.ol r.op) ∧ w.cell? ⟨b, o + 4, none⟩ = some (.slice r.ua r.ul r.up) ∧
    PermsAt w r.sa r.sl r.ps ∧ EntriesAt w r.oa r.ol r.es ∧ PermsAt w r.ua r.ul r.qs

def RolesAt (w : World) (a : Option Addr) (len : Nat) (rs : Nat → Rl) : Prop := ∀ i, i < len → ∃ b off, a = some ⟨b, off, none⟩ ∧ b < w.heap.size ∧ RlCells w b (off + i * 5) (rs i)

theorem RolesAt.below {w w' : World} {a : Option Addr} {len : Nat} {rs : Nat → Rl} (h : RolesAt w a len rs) (hb : Below w.heap.size w w') : RolesAt w' a len rs := by
  intro i hi
  obtain ⟨b, off, ha, hlt, h0, h1, h2, h3, h4, h5, h6, h7⟩ := h i hi
  exact ⟨b, off, ha, Nat.lt_of_lt_of_le hlt hb.size, (hb.cell hlt).trans h0, (hb.cell hlt).trans h1, (hb.cell hlt).trans h2, (hb.cell hlt).trans h3, (hb.cell hlt).trans h4, h5.below hb, h6.below hb, h7.below hb⟩

section
variable {H : Type} {enc : TypeId × Value → H} {W : World}

/-- One role's cells. -/
theorem role_cells {n b o : Nat} {cs : List Value} {y : DataW H × List MemPlace} (hcell : ∀ j, j < 5 → W.cell? ⟨b, o + j, none⟩ = cs[j]?) (h : DataW.trod enc Try.prog W 0 (fun _ => true) true n 38 cs = some y) : ∃ r : Rl, RlOk r ∧ RlCells W b o r := by
  obtain ⟨xs, n', _, _, hcl, hsz, hfld⟩ := DataW.trod_struct Try.underlying38 h
  rw [oc38] at hcl
  have hsz' : xs.length = 5 := hsz
  have get : ∀ j, j < 5 → ∃ y, xs[j]? = some y := fun j hj => ⟨xs[j]'(by omega), List.getElem?_eq_getElem (by omega)⟩
  obtain ⟨y0, g0⟩ := get 0 (by omega)
  obtain ⟨y1, g1⟩ := get 1 (by omega)
  obtain ⟨y2, g2⟩ := get 2 (by omega)
  obtain ⟨y3, g3⟩ := get 3 (by omega)
  obtain ⟨y4, g4⟩ := get 4 (by omega)
  obtain ⟨nm, e0, l0⟩ := str_at (o := 0) ((hfld 0 _ rfl).trans g0)
  obtain ⟨dn, e1, l1⟩ := str_at (o := 1) ((hfld 1 _ rfl).trans g1)
  have h2 : DataW.trod enc Try.prog W 0 (fun _ => true) true n' 35 ((cs.drop 2).take (Try.prog.cellsOf 35)) = some y2 := (hfld 2 _ rfl).trans g2
  have h3 : DataW.trod enc Try.prog W 0 (fun _ => true) true n' 36 ((cs.drop 3).take (Try.prog.cellsOf 36)) = some y3 := (hfld 3 _ rfl).trans g3
  have h4 : DataW.trod enc Try.prog W 0 (fun _ => true) true n' 35 ((cs.drop 4).take (Try.prog.cellsOf 35)) = some y4 := (hfld 4 _ rfl).trans g4
  rw [oc35] at h2 h4
  rw [oc36] at h3
  obtain ⟨a2, len2, cap2, e2⟩ := one_slice Try.underlying35 h2
  obtain ⟨a3, len3, cap3, e3⟩ := one_slice Try.underlying36 h3
  obtain ⟨a4, len4, cap4, e4⟩ := one_slice Try.underlying35 h4
  rw [e2] at h2
  rw [e3] at h3
  rw [e4] at h4
  obtain ⟨k1, k2, ps, k3, k4⟩ := open_perms h2
  obtain ⟨m1, m2, es, m3, m4⟩ := open_entries h3
  obtain ⟨n1, n2, qs, n3, n4⟩ := open_perms h4
  exact ⟨⟨nm, dn, a2, len2, cap2, ps, a3, len3, cap3, es, a4, len4, cap4, qs⟩, ⟨l0, l1, k2, k1, k3, m2, m1, m3, n2, n1, n3⟩,
    (hcell 0 (by omega)).trans e0, (hcell 1 (by omega)).trans e1, (hcell 2 (by omega)).trans (take1_at e2), (hcell 3 (by omega)).trans (take1_at e3), (hcell 4 (by omega)).trans (take1_at e4), k4, m4, n4⟩

/-- A list of roles. -/
theorem open_roles {fuel : Nat} {a : Option Addr} {len cap : Nat} {x : DataW H × List MemPlace} (h : DataW.trod enc Try.prog W 0 (fun _ => true) true fuel 22 [.slice a len cap] = some x) :
    (a = none → len = 0 ∧ cap = 0) ∧ len ≤ maxLen ∧ ∃ rs : Nat → Rl, (∀ i, i < len → RlOk (rs i)) ∧ RolesAt W a len rs := by
  obtain ⟨h1, h2, h3⟩ := open_row Try.underlying22 oc38 (by omega) h
  have key : ∀ i, i < len → ∃ p : Rl, RlOk p ∧ ∃ b off, a = some ⟨b, off, none⟩ ∧ b < W.heap.size ∧ RlCells W b (off + i * 5) p := by
    intro i hi
    obtain ⟨b, off, cs, n, y, ha, hb, _, hcell, hy⟩ := h3 i hi
    obtain ⟨p, hp, hc⟩ := role_cells hcell hy
    exact ⟨p, hp, b, off, ha, hb, hc⟩
  obtain ⟨ps, hps⟩ := @choose_lt Rl ⟨rl0⟩ len _ key
  exact ⟨h1, h2, ps, fun i hi => (hps i hi).1, fun i hi => (hps i hi).2⟩
end

set_option maxHeartbeats 2000000 in
set_option maxRecDepth 20000 in
theorem roleBytes_any (a : Option Addr) (len cap t : Nat) (rs : Nat → Rl) (w : World) (hm : len ≤ maxLen) (ht : t ≤ 2097152) (hok : ∀ i, i < len → RlOk (rs i)) (h : RolesAt w a len rs) :
    Calls Try.prog 31 #[.slice a len cap, .int .i64 (t : Int)] w fun e w' => ∃ r : Nat, e = .returned (.int .i64 (r : Int)) ∧ r ≤ 2097152 ∧ (r ≤ 1048576 → len ≤ 1048576 ∧ ∀ i, i < len → RlSmall (rs i)) ∧ w = w' := by
  have HS := hide h
  have HK := hide hok
  clear h hok
  unfold maxLen at hm
  by_cases h1 : len ≤ 1048576
  · have t1 : decide ((1048576 : Int) < (len : Int)) = false := decide_eq_false (by omega)
    go_enter Try.func31, Try.ntmps31
    go_wp2_with fail
    have e96 : (96 : Int) * (len : Int) = ((96 * len : Nat) : Int) := by omega
    rw [e96]
    refine (add_any t (96 * len) (by omega) (by omega) _).mono ?_
    rintro e w0 ⟨r, rfl, hr1, hr2, rfl⟩
    clear e96 hr2
    go_wp2_with fail
    go_loop [1, 5] (fun tv i => ∃ k T : Nat, k ≤ len ∧ i = .int .i64 k ∧ tv = .int .i64 (T : Int) ∧ T ≤ 2097152 ∧ (T ≤ 1048576 → ∀ i, i < k → RlSmall (rs i))) (fun _ i => len - (intOf i).toNat)
    case atStart => exact ⟨0, r, Nat.zero_le _, rfl, rfl, hr1, fun h i hi => by omega⟩
    case round =>
      obtain ⟨k, T, hk, rfl, rfl, hT1, hT2⟩ := hrel
      have HT2 := hide hT2
      clear hT2
      by_cases hlt : k < len
      · by_cases hT : T ≤ 1048576
        · have t2 : decide ((1048576 : Int) < (T : Int)) = false := decide_eq_false (by omega)
          obtain ⟨b, off, rfl, hbl, c0, c1, c2, c3, c4, cp, ce, cq⟩ := HS.out k hlt
          have ok1 := (HK.out k hlt).nm
          have ok2 := (HK.out k hlt).dn
          have HP := hide (And.intro cp (And.intro ce cq))
          have HR := hide (HK.out k hlt)
          unfold maxLen at ok1 ok2
          clear hbl cp ce cq
          go_wp2_with fail
          refine (add_any T (rs k).nm.size (by omega) (by omega) _).mono ?_
          rintro e w0 ⟨r1, rfl, hr1', hr2', rfl⟩
          go_wp2_with fail
          refine (add_any r1 (rs k).dn.size (by omega) (by omega) _).mono ?_
          rintro e w0 ⟨r2, rfl, hr1'', hr2'', rfl⟩
          go_wp2_with fail
          refine (permBytes_any (rs k).sa (rs k).sl (rs k).sp r2 (rs k).ps _ HR.out.sl hr1'' HR.out.ps HP.out.1).mono ?_
          rintro e w0 ⟨r3, rfl, hr3, hr3', rfl⟩
          go_wp2_with fail
          refine (entryBytes_any (rs k).oa (rs k).ol (rs k).op r3 (rs k).es _ HR.out.ol hr3 HR.out.es HP.out.2.1).mono ?_
          rintro e w0 ⟨r4, rfl, hr4, hr4', rfl⟩
          have H4 := hide hr4'
          clear hr4'
          go_wp2_with fail
          refine (permBytes_any (rs k).ua (rs k).ul (rs k).up r4 (rs k).qs _ HR.out.ul hr4 HR.out.qs HP.out.2.2).mono ?_
          rintro e w0 ⟨r5, rfl, hr5, hr5', rfl⟩
          have H5 := hide hr5'
          clear hr5'
          go_wp2_with fail
          go_round
          case rel =>
            refine ⟨k + 1, r5, by omega, by go_num, rfl, hr5, fun h i hi => ?_⟩
            obtain ⟨g5, g5'⟩ := H5.out h
            obtain ⟨g4, g4', g4''⟩ := H4.out g5
            obtain ⟨g3, g3'⟩ := hr3' g4
            by_cases e : i = k
            · subst e
              exact ⟨g3', g4', g4'', g5'⟩
            · exact HT2.out ((hr2' ((hr2'' g3).1)).1) i (by omega)
          case measure => simp [intOf]; omega
        · have t2 : decide ((1048576 : Int) < (T : Int)) = true := decide_eq_true (by omega)
          go_wp2_with fail
          go_ret
          exact ⟨T, rfl, hT1, fun h => by omega, rfl⟩
      · obtain rfl : len = k := by omega
        go_wp2_with fail
        go_ret
        exact ⟨T, rfl, hT1, fun h => (by first | exact ⟨h1, HT2.out h⟩ | exact HT2.out h), rfl⟩
  · have t1 : decide ((1048576 : Int) < (len : Int)) = true := decide_eq_true (by omega)
    go_enter Try.func31, Try.ntmps31
    go_wp2
    go_ret
    exact ⟨1048577, rfl, by omega, fun h => by omega, rfl⟩

set_option maxHeartbeats 1000000 in
theorem rolesArgs_any (a : Option Addr) (len cap : Nat) (rs : Nat → Rl) (x1 x2 : ByteArray) (w : World) (hm : len ≤ maxLen) (hs1 : x1.size ≤ maxLen) (hs2 : x2.size ≤ maxLen) (hok : ∀ i, i < len → RlOk (rs i)) (h : RolesAt w a len rs) :
    Calls Try.prog 10 #[.slice a len cap, .string x1, .string x2] w fun e w' => ∃ r : Nat, e = .returned (.int .i64 (r : Int)) ∧ r ≤ 2097152 ∧ (r ≤ 1048576 → len ≤ 1048576 ∧ ∀ i, i < len → RlSmall (rs i)) ∧ w = w' := by
  have HS := hide (roleBytes_any a len cap 0 rs w hm (by omega) hok h)
  clear h hok
  unfold maxLen at hm hs1 hs2
  go_enter Try.func10, Try.ntmps10
  go_wp2_with fail
  refine HS.out.mono ?_
  rintro e w0 ⟨r, rfl, hr1, hr2, rfl⟩
  have H2 := hide hr2
  clear hr2
  go_wp2_with fail
  refine (add_any r x1.size (by omega) (by omega) _).mono ?_
  rintro e w0 ⟨r1, rfl, hr3, hr4, rfl⟩
  go_wp2_with fail
  refine (add_any r1 x2.size (by omega) (by omega) _).mono ?_
  rintro e w0 ⟨r2, rfl, hr5, hr6, rfl⟩
  go_wp2_with fail
  go_ret
  exact ⟨r2, rfl, hr5, fun h => H2.out ((hr4 ((hr6 h).1)).1), rfl⟩
end Go.Proofs.Qxb6602785a
