/-
  SEAT b6602785a: zzRoles.
-/
import Derived.Test.Qxb6602785aB19
import Derived.Test.Qxb6602785aB7
set_option linter.unusedVariables false
set_option linter.unusedSimpArgs false
namespace Go.Proofs.Qxb6602785a
open Go.RowKit Go.Maps

def zero48 : Value := .agg #[.string ByteArray.empty, .string ByteArray.empty, .slice none 0 0, .map none, .slice none 0 0]
theorem info48 : (Try.prog.info? 48).map (fun i => (i.zero, i.size, i.bytes)) = some (some zero48, 5, 88) := by kernel_rfl

theorem zero48_bool (n o : Nat) (x : Bool) : (madeCells zero48.cells n)[o]? ≠ some (Value.bool x) := by
  intro h
  obtain ⟨h1, h2⟩ := Array.getElem?_eq_some_iff.1 h
  have h3 : zero48.cells[o % 5]! = .bool x := by
    simpa [madeCells, zero48, Value.cells] using h2
  have h4 : o % 5 < 5 := Nat.mod_lt _ (by omega)
  generalize o % 5 = m at *
  match m, h4 with
  | 0, _ | 1, _ | 2, _ | 3, _ | 4, _ => simp [zero48, Value.cells] at h3

theorem make_roles (len : Nat) (hlen : len ≤ 1048576) : ∃ cur : Array Value, cur.size = len * 5 ∧ (∀ (o : Nat) (x : Bool), cur[o]? ≠ some (Value.bool x)) ∧ ∀ w : World, (Instr.makeSlice 27 (.int .i64 (len : Int)) (.int .i64 (len : Int))).run Try.prog w = .ok (.slice (some ⟨w.heap.size, 0, none⟩) len len) (w.alloc (.cells cur 48)) := by
  obtain ⟨i0, hi, hz0, hz1, hz2⟩ := info_parts info48
  refine ⟨madeCells zero48.cells (len * i0.size), by rw [size_madeCells, hz1], fun o x => zero48_bool _ o x, fun w => ?_⟩
  have := run_make (P := Try.prog) w 27 48 i0 _ Try.underlying27 hi hz0 .i64 .i64 len len (by omega) (by omega) (by rw [hz2]; omega) (by omega)
  rw [this, Int.toNat_natCast]

/-- The Org maps of a list of roles. -/
def RMapAt (w : World) (a : Option Addr) (len : Nat) (rs : Nat → Rl) : Prop := ∀ i, i < len → ∃ b off m, a = some ⟨b, off, none⟩ ∧ b < w.heap.size ∧ w.cell? ⟨b, off + i * 5 + 3, none⟩ = some (.map m) ∧ OrgMapAt w m (rs i).ol (rs i).es

theorem RMapAt.below {w w' : World} {a : Option Addr} {len : Nat} {rs : Nat → Rl} (h : RMapAt w a len rs) (hb : Below w.heap.size w w') : RMapAt w' a len rs := fun i hi => by
  obtain ⟨b, off, m, ha, hlt, hc, hm⟩ := h i hi
  exact ⟨b, off, m, ha, Nat.lt_of_lt_of_le hlt hb.size, (hb.cell hlt).trans hc, hm.below hb⟩

/-- While zzRoles runs: k roles are laid in block w.heap.size. -/
structure RolRel (w wr : World) (len k : Nat) (rs : Nat → Rl) : Prop where
  low : Below w.heap.size w wr
  row : ∃ cur : Array Value, wr.heap[w.heap.size]? = some (.cells cur 48 (0, 0)) ∧ cur.size = len * 5 ∧ ∀ (o : Nat) (x : Bool), cur[o]? ≠ some (Value.bool x)
  maps : ∀ i, i < k → ∃ m, wr.cell? ⟨w.heap.size, i * 5 + 3, none⟩ = some (.map m) ∧ OrgMapAt wr m (rs i).ol (rs i).es

theorem RolRel.lt {w wr : World} {len k : Nat} {rs : Nat → Rl} (h : RolRel w wr len k rs) : w.heap.size < wr.heap.size := by
  obtain ⟨cur, h1, _⟩ := h.row
  exact (Array.getElem?_eq_some_iff.1 h1).1

theorem RolRel.step {w wr W : World} {len k : Nat} {rs : Nat → Rl} (h : RolRel w wr len k rs) (hb : Below wr.heap.size wr W) : RolRel w W len k rs := by
  obtain ⟨cur, h1, h2, h3⟩ := h.row
  refine ⟨h.low.trans (hb.mono h.low.size), ⟨cur, (hb.block _ h.lt).trans h1, h2, h3⟩, fun i hi => ?_⟩
  obtain ⟨m, g1, g2⟩ := h.maps i hi
  exact ⟨m, (hb.cell h.lt).trans g1, g2.below hb⟩

theorem RolRel.drew {w wr : World} {len k : Nat} {rs : Nat → Rl} (h : RolRel w wr len k rs) : RolRel w wr.drew len k rs := h.step ((Below.refl _ _).drew)

theorem RolRel.there {w wr : World} {len j : Nat} {rs : Nat → Rl} (h : RolRel w wr len j rs) {k : Nat} (hk : k < len) : wr.there w.heap.size (k * 5) 5 := by
  obtain ⟨cur, h1, h2, _⟩ := h.row
  intro i hi
  have hlt : k * 5 + i < cur.size := by rw [h2]; omega
  refine ⟨by rw [cell_of_heap h1, Array.getElem?_eq_getElem hlt]; rfl, ?_⟩
  simp [World.frozen?, h1]

theorem RolRel.not_pm {w wr : World} {len j : Nat} {rs : Nat → Rl} (h : RolRel w wr len j rs) (o : Nat) (p : Pm) : ¬ PmCells wr w.heap.size o p := by
  rintro ⟨h0, _⟩
  obtain ⟨cur, h1, _, h3⟩ := h.row
  rw [cell_of_heap h1] at h0
  exact h3 _ _ h0

theorem RolRel.not_map {w wr : World} {len j : Nat} {rs : Nat → Rl} (h : RolRel w wr len j rs) (es : Array MapEntry) (c : Nat) : wr.heap[w.heap.size]? ≠ some (.map es c) := by
  obtain ⟨cur, h1, _⟩ := h.row
  rw [h1]
  intro h'
  cases h'

theorem setCells_nobool {g : Nat} {e : TypeId} : ∀ (vs : List Value) (o : Nat) (w : World) {cur : Array Value}, w.heap[g]? = some (.cells cur e (0, 0)) → (∀ (o : Nat) (x : Bool), cur[o]? ≠ some (Value.bool x)) → (∀ v ∈ vs, ∀ x, v ≠ Value.bool x) →
    (∃ cur', (w.setCells g o vs).heap[g]? = some (.cells cur' e (0, 0)) ∧ cur'.size = cur.size ∧ ∀ (o : Nat) (x : Bool), cur'[o]? ≠ some (Value.bool x))
  | [], o, w, cur, h, hn, _ => ⟨cur, h, rfl, hn⟩
  | v :: r, o, w, cur, h, hn, hv => by
    rw [World.setCells]
    have h1 : (w.setCell ⟨g, o, none⟩ v).heap[g]? = some (.cells (cur.setIfInBounds o v) e (0, 0)) := by simp [World.setCell, Array.getElem?_modify, h]
    obtain ⟨cur', h2, h3, h4⟩ := setCells_nobool r (o + 1) _ h1 (fun o' x hx => by
      rw [Array.getElem?_setIfInBounds] at hx
      split at hx
      · split at hx
        · simp only [Option.some.injEq] at hx
          exact hv v (by simp) x hx
        · cases hx
      · exact hn o' x hx) (fun u hu => hv u (by simp [hu]))
    exact ⟨cur', h2, by rw [h3]; simp, h4⟩

/-- The five cells of a role. -/
def rc (nm dn : ByteArray) (sa : Option Addr) (sl sp : Nat) (m : Option Nat) (ua : Option Addr) (ul up : Nat) : List Value := [.string nm, .string dn, .slice sa sl sp, .map m, .slice ua ul up]

theorem RolRel.store {w wr : World} {len k : Nat} {rs : Nat → Rl} (h : RolRel w wr len k rs) (hk : k < len) (nm dn : ByteArray) (sa : Option Addr) (sl sp : Nat) (m : Option Nat) (ua : Option Addr) (ul up : Nat) (hm : OrgMapAt wr m (rs k).ol (rs k).es) : RolRel w (wr.setCells w.heap.size (k * 5) (rc nm dn sa sl sp m ua ul up)) len (k + 1) rs := by
  obtain ⟨cur, h1, h2, h3⟩ := h.row
  obtain ⟨cur', g1, g2, g3⟩ := setCells_nobool (rc nm dn sa sl sp m ua ul up) (k * 5) wr h1 h3 (by
    intro v hv x
    simp only [rc, List.mem_cons, List.not_mem_nil, or_false] at hv
    rcases hv with rfl | rfl | rfl | rfl | rfl <;> simp)
  have hs : wr.heap.size ≤ (wr.setCells w.heap.size (k * 5) (rc nm dn sa sl sp m ua ul up)).heap.size := Nat.le_of_eq (setCells_size _ _ _).symm
  have hO : ∀ {m' : Option Nat} {l : Nat} {es : Nat → En}, OrgMapAt wr m' l es → OrgMapAt (wr.setCells w.heap.size (k * 5) (rc nm dn sa sl sp m ua ul up)) m' l es := fun hx => hx.other (X := w.heap.size) h.not_pm h.not_map hs (fun b hb => setCells_other _ _ _ hb)
  refine ⟨h.low.trans (setCells_below _ _ _), ⟨cur', g1, by omega, g3⟩, fun i hi => ?_⟩
  by_cases e : i = k
  · subst e
    refine ⟨m, ?_, hO hm⟩
    have := World.rangeAt_setCells_same wr w.heap.size (i * 5) (rc nm dn sa sl sp m ua ul up) (by simpa [rc] using h.there hk)
    exact this 3 _ rfl
  · obtain ⟨m', e1, e2⟩ := h.maps i (by omega)
    refine ⟨m', ?_, hO e2⟩
    rw [World.cell?_setCells_out _ _ _ _ _ (fun _ _ => Or.inl (by show i * 5 + 3 < k * 5; omega))]
    exact e1

theorem RolRel.at {w wr : World} {len : Nat} {rs : Nat → Rl} (h : RolRel w wr len len rs) : RMapAt wr (some ⟨w.heap.size, 0, none⟩) len rs := fun i hi => by
  obtain ⟨m, h1, h2⟩ := h.maps i hi
  exact ⟨_, _, m, rfl, h.lt, by rw [Nat.zero_add]; exact h1, h2⟩

theorem there_set1 {V : World} {b o n : Nat} (h : V.there b o n) (c p : Nat) (v : Value) : (V.setCell ⟨c, p, none⟩ v).there b o n := World.there_setCells h c p [v]

/-- What the five stores of one role want. -/
theorem store5 {V : World} {N o : Nat} (h : V.there N o 5) (a0 a1 a2 a3 : Value) :
    ∃ v0 v1 v2 v3 v4, V.cell? ⟨N, o, none⟩ = some v0 ∧ V.frozen? ⟨N, o, none⟩ = false
      ∧ (V.setCell ⟨N, o, none⟩ a0).cell? ⟨N, o + 1, none⟩ = some v1 ∧ (V.setCell ⟨N, o, none⟩ a0).frozen? ⟨N, o + 1, none⟩ = false
      ∧ ((V.setCell ⟨N, o, none⟩ a0).setCell ⟨N, o + 1, none⟩ a1).cell? ⟨N, o + 2, none⟩ = some v2 ∧ ((V.setCell ⟨N, o, none⟩ a0).setCell ⟨N, o + 1, none⟩ a1).frozen? ⟨N, o + 2, none⟩ = false
      ∧ (((V.setCell ⟨N, o, none⟩ a0).setCell ⟨N, o + 1, none⟩ a1).setCell ⟨N, o + 2, none⟩ a2).cell? ⟨N, o + 3, none⟩ = some v3 ∧ (((V.setCell ⟨N, o, none⟩ a0).setCell ⟨N, o + 1, none⟩ a1).setCell ⟨N, o + 2, none⟩ a2).frozen? ⟨N, o + 3, none⟩ = false
      ∧ ((((V.setCell ⟨N, o, none⟩ a0).setCell ⟨N, o + 1, none⟩ a1).setCell ⟨N, o + 2, none⟩ a2).setCell ⟨N, o + 3, none⟩ a3).cell? ⟨N, o + 4, none⟩ = some v4 ∧ ((((V.setCell ⟨N, o, none⟩ a0).setCell ⟨N, o + 1, none⟩ a1).setCell ⟨N, o + 2, none⟩ a2).setCell ⟨N, o + 3, none⟩ a3).frozen? ⟨N, o + 4, none⟩ = false := by
  have h1 := there_set1 h N o a0
  have h2 := there_set1 h1 N (o + 1) a1
  have h3 := there_set1 h2 N (o + 2) a2
  have h4 := there_set1 h3 N (o + 3) a3
  obtain ⟨v0, e0⟩ := Option.isSome_iff_exists.1 (h 0 (by omega)).1
  obtain ⟨v1, e1⟩ := Option.isSome_iff_exists.1 (h1 1 (by omega)).1
  obtain ⟨v2, e2⟩ := Option.isSome_iff_exists.1 (h2 2 (by omega)).1
  obtain ⟨v3, e3⟩ := Option.isSome_iff_exists.1 (h3 3 (by omega)).1
  obtain ⟨v4, e4⟩ := Option.isSome_iff_exists.1 (h4 4 (by omega)).1
  exact ⟨v0, v1, v2, v3, v4, e0, (h 0 (by omega)).2, e1, (h1 1 (by omega)).2, e2, (h2 2 (by omega)).2, e3, (h3 3 (by omega)).2, e4, (h4 4 (by omega)).2⟩

set_option maxHeartbeats 400000 in
theorem roles_nil (w : World) : Calls Try.prog 12 #[.slice none 0 0] w fun e w' => e = .returned (.slice none 0 0) ∧ w = w' := by
  have hq : ∀ (w : World) (a : Option Addr) (n c n' c' : Nat), (binOp .eql 22 (.slice a n c) (.slice none n' c')).run Try.prog w = .ok (.bool a.isNone) w := fun w a n c n' c' => Lib.run_eql_slice_nil w _ _ a n c n' c' Try.underlying22
  go_enter Try.func12, Try.ntmps12
  go_wp2
  go_ret
  exact ⟨rfl, rfl⟩

set_option maxHeartbeats 4000000 in
set_option maxRecDepth 20000 in
theorem roles_some (ad : Addr) (len cap : Nat) (rs : Nat → Rl) (w : World) (hm : len ≤ 1048576) (hsm : ∀ i, i < len → RlSmall (rs i)) (hok : ∀ i, i < len → RlOk (rs i)) (h : RolesAt w (some ad) len rs) :
    Calls Try.prog 12 #[.slice (some ad) len cap] w fun e w' => ∃ a' cap', e = .returned (.slice a' len cap') ∧ RMapAt w' a' len rs ∧ Below w.heap.size w w' := by
  have hq : ∀ (w : World) (a : Option Addr) (n c n' c' : Nat), (binOp .eql 22 (.slice a n c) (.slice none n' c')).run Try.prog w = .ok (.bool a.isNone) w := fun w a n c n' c' => Lib.run_eql_slice_nil w _ _ a n c n' c' Try.underlying22
  obtain ⟨cur0, hc0, hc1, hmk⟩ := make_roles len hm
  have HS := hide h
  have HK := hide hok
  have HM := hide hsm
  have HC0 := hide (And.intro hc0 hc1)
  clear h hok hc0 hc1 hsm
  go_enter Try.func12, Try.ntmps12
  go_wp2_with fail
  go_loopw [4] (fun i wr => ∃ k : Nat, k ≤ len ∧ i = .int .i64 k ∧ RolRel w wr len k rs) (fun i _ => len - (intOf i).toNat)
  case atStart => exact ⟨0, Nat.zero_le _, rfl, (Below.refl _ _).alloc (Nat.le_refl _) _, ⟨cur0, heap_alloc_new' _ _, HC0.out.1, HC0.out.2⟩, fun i hi => by omega⟩
  case round =>
    obtain ⟨k, hk, rfl, hc⟩ := hrel
    have HC := hide hc
    clear hc
    by_cases hlt : k < len
    · obtain ⟨b, off, hab, hbl, c0, c1, c2, c3, c4, cp, ce, cq⟩ := HS.out k hlt
      simp only [Option.some.injEq] at hab
      subst hab
      have HR := hide (HK.out k hlt)
      have HX := hide (HM.out k hlt)
      have HP1 := hide (fun (V : World) (hV : Below wr.heap.size wr V) => perms_any (rs k).sa (rs k).sl (rs k).sp (rs k).ps V HX.out.sl HR.out.sn HR.out.ps ((cp.below HC.out.low).below hV))
      have HP2 := hide (fun (V : World) (hV : Below wr.heap.size wr V) => orgMap_any (rs k).oa (rs k).ol (rs k).op (rs k).es V HX.out.ol HR.out.on HX.out.ll HR.out.es ((ce.below HC.out.low).below hV))
      have HP3 := hide (fun (V : World) (hV : Below wr.heap.size wr V) => perms_any (rs k).ua (rs k).ul (rs k).up (rs k).qs V HX.out.ul HR.out.un HR.out.qs ((cq.below HC.out.low).below hV))
      have hne : b ≠ w.heap.size := by omega
      have hbr : b < wr.heap.size := Nat.lt_of_lt_of_le hbl HC.out.low.size
      have he : ∀ o, wr.cell? ⟨b, o, none⟩ = w.cell? ⟨b, o, none⟩ := fun o => HC.out.low.cell hbl
      rw [← he] at c0 c1 c2 c3 c4
      have ht := HC.out.there hlt
      have HCS := hide (fun (V : World) (hV : Below wr.heap.size wr V) => And.intro ((hV.cell hbr).trans c0) (And.intro ((hV.cell hbr).trans c1) (And.intro ((hV.cell hbr).trans c2) (And.intro ((hV.cell hbr).trans c3) (And.intro ((hV.cell hbr).trans c4) ((HC.out.step hV).there hlt))))))
      obtain ⟨N, hN⟩ : ∃ N, N = w.heap.size := ⟨_, rfl⟩
      rw [← hN] at ht HCS hne ⊢
      have HNE := hide hN
      have HD4 := hide (fun (V : World) (hV : Below wr.heap.size wr V) (cs : List Value) =>
        have q2 : ∀ o, (V.setCells N (k * 5) cs).cell? ⟨b, o, none⟩ = V.cell? ⟨b, o, none⟩ := fun o => World.cell?_setCells_out N cs (k * 5) V ⟨b, o, none⟩ (fun hb _ => absurd hb hne)
        And.intro ((q2 _).trans (HCS.out V hV).1) (And.intro ((q2 _).trans (HCS.out V hV).2.1) (And.intro ((q2 _).trans (HCS.out V hV).2.2.1) (And.intro ((q2 _).trans (HCS.out V hV).2.2.2.1) (And.intro ((q2 _).trans (HCS.out V hV).2.2.2.2.1) (World.there_setCells (w := V) (HCS.out V hV).2.2.2.2.2 N (k * 5) cs))))))
      clear hN cp ce cq he hbl
      go_wp2_with fail
      go_region_held3 (fun w' => w'.cell? ⟨b, off + k * 5, none⟩ = some (.string (rs k).nm) ∧ w'.cell? ⟨b, off + k * 5 + 1, none⟩ = some (.string (rs k).dn) ∧ w'.cell? ⟨b, off + k * 5 + 2, none⟩ = some (.slice (rs k).sa (rs k).sl (rs k).sp) ∧ w'.cell? ⟨b, off + k * 5 + 3, none⟩ = some (.slice (rs k).oa (rs k).ol (rs k).op) ∧ w'.cell? ⟨b, off + k * 5 + 4, none⟩ = some (.slice (rs k).ua (rs k).ul (rs k).up) ∧ w'.there N (k * 5) 5)
        (first | with_reducible exact hd3 | with_reducible exact hd2 | with_reducible exact hd1 | exact hd4 | exact ⟨c0, c1, c2, c3, c4, ht⟩)
        (first
          | (go_at_call 35; refine (HP2.out _ HB1.out).mono ?_; rintro e w2 ⟨mm, rfl, hp2, hb2⟩; have HB2 := hide (HB1.out.trans (hb2.mono HB1.out.size)); have HO2 := hide hp2; clear hp2 hb2; have hd2 := HCS.out _ HB2.out)
          | (go_at_call 34; refine (HP3.out _ HB2.out).mono ?_; rintro e w3 ⟨ua, uq, rfl, hp3, hb3⟩; have HB3 := hide (HB2.out.trans (hb3.mono HB2.out.size)); have HO3 := hide (HO2.out.below hb3); clear hp3 hb3; have hd3 := HCS.out _ HB3.out; have hd4 := HD4.out _ HB3.out [.string (rs k).nm, .string (rs k).dn, .slice va (rs k).sl vc, .map mm, .slice ua (rs k).ul uq]; obtain ⟨v0, v1, v2, v3, v4, g0, f0, g1, f1, g2, f2, g3, f3, g4, f4⟩ := store5 hd3.2.2.2.2.2 (.string (rs k).nm) (.string (rs k).dn) (.slice va (rs k).sl vc) (.map mm))
          | (go_at_call 34; refine (HP1.out _ ((Below.refl _ _).drew)).mono ?_; rintro e w1 ⟨va, vc, rfl, hp1, hb1⟩; have HB1 := hide ((Below.refl wr.heap.size wr).drew.trans hb1); clear hp1 hb1; have hd1 := HCS.out _ HB1.out))
      have HN4 : Hid (RolRel w (w3.setCells N (k * 5) (rc (rs k).nm (rs k).dn va (rs k).sl vc mm ua (rs k).ul uq)) len (k + 1) rs) := hide (by
        have := (HC.out.step HB3.out).store hlt (rs k).nm (rs k).dn va (rs k).sl vc mm ua (rs k).ul uq HO3.out
        rw [← HNE.out] at this
        exact this)
      clear hd1 hd2 hd3 hd4 g0 g1 g2 g3 g4 f0 f1 f2 f3 f4 HCS HD4 HP1 HP2 HP3
      go_wp2_with fail
      go_roundw
      case rel => exact ⟨k + 1, by omega, by go_num, HN4.out⟩
      case measure => simp [intOf]; omega
    · obtain rfl : len = k := by omega
      go_wp2_with fail
      go_ret
      exact ⟨_, _, rfl, HC.out.at, HC.out.low⟩

theorem roles_any (a : Option Addr) (len cap : Nat) (rs : Nat → Rl) (w : World) (hm : len ≤ 1048576) (hnil : a = none → len = 0 ∧ cap = 0) (hsm : ∀ i, i < len → RlSmall (rs i)) (hok : ∀ i, i < len → RlOk (rs i)) (h : RolesAt w a len rs) :
    Calls Try.prog 12 #[.slice a len cap] w fun e w' => ∃ a' cap', e = .returned (.slice a' len cap') ∧ RMapAt w' a' len rs ∧ Below w.heap.size w w' := by
  cases a with
  | none =>
    obtain ⟨rfl, rfl⟩ := hnil rfl
    refine (roles_nil w).mono ?_
    rintro e w' ⟨rfl, rfl⟩
    exact ⟨none, 0, rfl, fun i hi => by omega, Below.refl _ _⟩
  | some ad => exact roles_some ad len cap rs w hm hsm hok h
end Go.Proofs.Qxb6602785a
