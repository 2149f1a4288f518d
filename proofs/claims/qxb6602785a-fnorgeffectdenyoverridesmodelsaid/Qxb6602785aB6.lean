/-
  SEAT b6602785a: zzOrgMap.
-/
import Derived.Test.Qxb6602785aB5
set_option linter.unusedVariables false
set_option linter.unusedSimpArgs false
namespace Go.Proofs.Qxb6602785a
open Go.RowKit Go.Maps

theorem MapIs.noCell {w : World} {b n : Nat} {f : List Nat → Option Value} (h : MapIs w b n f) (o : Nat) : w.cell? ⟨b, o, none⟩ = none := by
  obtain ⟨D, ⟨es, clock, h1, _⟩, _⟩ := h
  simp [World.cell?, h1]

theorem cell_turn {w w' : World} {B b o : Nat} {v : Value} (hg : w.grownBy w' (some B)) (hB : ∀ o, w.cell? ⟨B, o, none⟩ = none) (h : w.cell? ⟨b, o, none⟩ = some v) : w'.cell? ⟨b, o, none⟩ = some v := by
  have hne : b ≠ B := fun e => by rw [e, hB] at h; cases h
  rw [World.cell?_of_block (w := w) (hg.block b (World.block_lt_of_cell? w _ h) (by simpa using hne))]
  exact h

theorem PmCells.turn {w w' : World} {B b o : Nat} {p : Pm} (h : PmCells w b o p) (hg : w.grownBy w' (some B)) (hB : ∀ o, w.cell? ⟨B, o, none⟩ = none) : PmCells w' b o p := by
  obtain ⟨c0, c1, c2, c3, c4, c5⟩ := h
  exact ⟨cell_turn hg hB c0, cell_turn hg hB c1, cell_turn hg hB c2, cell_turn hg hB c3, fun j v hv => cell_turn hg hB (c4 j v hv), cell_turn hg hB c5⟩

theorem PermsAt.turn {w w' : World} {B : Nat} {a : Option Addr} {len : Nat} {ps : Nat → Pm} (h : PermsAt w a len ps) (hg : w.grownBy w' (some B)) (hB : ∀ o, w.cell? ⟨B, o, none⟩ = none) : PermsAt w' a len ps := fun i hi => by
  obtain ⟨b, off, ha, hlt, hc⟩ := h i hi
  exact ⟨b, off, ha, Nat.lt_of_lt_of_le hlt hg.size, hc.turn hg hB⟩

/-- What the map of the first k entries holds. -/
def Holds (w : World) (es : Nat → En) (k : Nat) (f : List Nat → Option Value) : Prop :=
  ∀ id, IsId id → (firstTo es id k = none → f id = none) ∧ ∀ j, firstTo es id k = some j → ∃ a c, f id = some (.slice a (es j).ll c) ∧ PermsAt w a (es j).ll (es j).ps

theorem Holds.below {w w' : World} {es : Nat → En} {k : Nat} {f : List Nat → Option Value} (h : Holds w es k f) (hb : Below w.heap.size w w') : Holds w' es k f := fun id hid => by
  refine ⟨(h id hid).1, fun j hj => ?_⟩
  obtain ⟨a, c, h1, h2⟩ := (h id hid).2 j hj
  exact ⟨a, c, h1, h2.below hb⟩

/-- The key is there already. -/
theorem Holds.same {w : World} {es : Nat → En} {k j : Nat} {f : List Nat → Option Value} (h : Holds w es k f) (hj : firstTo es (es k).org k = some j) : Holds w es (k + 1) f := fun id hid => by
  have e : firstTo es id (k + 1) = firstTo es id k := by
    by_cases e : (es k).org = id
    · subst e
      rw [firstTo_stays hj 1, hj]
    · show (match firstTo es id k with | some j => some j | none => if (es k).org = id then some k else none) = _
      rw [if_neg e]
      cases firstTo es id k <;> rfl
  rw [e]
  exact h id hid

/-- The key is new. -/
theorem Holds.put {w w' : World} {es : Nat → En} {k B : Nat} {f : List Nat → Option Value} {a : Option Addr} {c : Nat} (h : Holds w es k f) (hj : firstTo es (es k).org k = none) (hp : PermsAt w a (es k).ll (es k).ps) (hg : w.grownBy w' (some B)) (hB : ∀ o, w.cell? ⟨B, o, none⟩ = none) :
    Holds w' es (k + 1) (fun x => if x = (es k).org then some (.slice a (es k).ll c) else f x) := fun id hid => by
  by_cases e : (es k).org = id
  · subst e
    have e2 : firstTo es (es k).org (k + 1) = some k := by
      show (match firstTo es (es k).org k with | some j => some j | none => if (es k).org = (es k).org then some k else none) = _
      rw [hj]
      simp
    refine ⟨fun h' => (by rw [e2] at h'; cases h'), fun j hj' => ?_⟩
    rw [e2] at hj'
    simp only [Option.some.injEq] at hj'
    subst hj'
    exact ⟨a, c, by simp, hp.turn hg hB⟩
  · have e2 : firstTo es id (k + 1) = firstTo es id k := by
      show (match firstTo es id k with | some j => some j | none => if (es k).org = id then some k else none) = _
      rw [if_neg e]
      cases firstTo es id k <;> rfl
    have e3 : ¬ id = (es k).org := fun h' => e h'.symm
    rw [e2]
    refine ⟨fun h' => (by simp only [if_neg e3]; exact (h id hid).1 h'), fun j hj' => ?_⟩
    obtain ⟨a2, c2, h1, h2⟩ := (h id hid).2 j hj'
    exact ⟨a2, c2, by simp only [if_neg e3]; exact h1, h2.turn hg hB⟩

/-- A map of permissions by organization: nil, or a block. -/
def OrgMapAt (w : World) (m : Option Nat) (len : Nat) (es : Nat → En) : Prop :=
  (m = none ∧ len = 0) ∨ ∃ B f, m = some B ∧ MapIs w B len f ∧ Holds w es len f

theorem OrgMapAt.below {w w' : World} {m : Option Nat} {len : Nat} {es : Nat → En} (h : OrgMapAt w m len es) (hb : Below w.heap.size w w') : OrgMapAt w' m len es := by
  rcases h with h | ⟨B, f, h1, h2, h3⟩
  · exact Or.inl h
  · exact Or.inr ⟨B, f, h1, h2.below hb, h3.below hb⟩

structure OrgRel (w wr : World) (es : Nat → En) (k : Nat) (f : List Nat → Option Value) : Prop where
  low : Below w.heap.size w wr
  map : MapIs wr w.heap.size k f
  holds : Holds wr es k f

theorem OrgRel.step {w wr W : World} {es : Nat → En} {k : Nat} {f : List Nat → Option Value} (h : OrgRel w wr es k f) (hb : Below wr.heap.size wr W) : OrgRel w W es k f :=
  ⟨h.low.trans (hb.mono h.low.size), h.map.below hb, h.holds.below hb⟩

theorem zero45 (w : World) : (zeroValue 45).run Try.prog w = .ok (.slice none 0 0) w := by kernel_rfl

theorem makeMap46 (len : Nat) (hl : len ≤ 1048576) (w : World) : (Instr.makeMap 46 (some (.int .i64 (len : Int)))).run Try.prog w = .ok (.map (some w.heap.size)) (w.alloc (.map #[] 0)) := by
  simp [Instr.makeMap, asInt, asIntOf, Result.andThen]

set_option maxHeartbeats 400000 in
theorem orgMap_nil (w : World) : Calls Try.prog 35 #[.slice none 0 0] w fun e w' => e = .returned (.map none) ∧ w = w' := by
  have hq : ∀ (w : World) (a : Option Addr) (n c n' c' : Nat), (binOp .eql 36 (.slice a n c) (.slice none n' c')).run Try.prog w = .ok (.bool a.isNone) w := fun w a n c n' c' => Lib.run_eql_slice_nil w _ _ a n c n' c' Try.underlying36
  go_enter Try.func35, Try.ntmps35
  go_wp2
  go_ret
  exact ⟨rfl, rfl⟩

set_option maxHeartbeats 2000000 in
set_option maxRecDepth 20000 in
theorem orgMap_some (ad : Addr) (len cap : Nat) (es : Nat → En) (w : World) (hm : len ≤ 1048576) (hll : ∀ i, i < len → (es i).ll ≤ 1048576) (hok : ∀ i, i < len → EnOk (es i)) (h : EntriesAt w (some ad) len es) :
    Calls Try.prog 35 #[.slice (some ad) len cap] w fun e w' => ∃ m, e = .returned (.map m) ∧ OrgMapAt w' m len es ∧ Below w.heap.size w w' := by
  have hq : ∀ (w : World) (a : Option Addr) (n c n' c' : Nat), (binOp .eql 36 (.slice a n c) (.slice none n' c')).run Try.prog w = .ok (.bool a.isNone) w := fun w a n c n' c' => Lib.run_eql_slice_nil w _ _ a n c n' c' Try.underlying36
  have HS := hide h
  have HK := hide hok
  have HL := hide hll
  have hmk := makeMap46 len hm
  clear h hok hll
  go_enter Try.func35, Try.ntmps35
  go_wp2_with fail
  go_loopw [4] (fun i wr => ∃ k : Nat, k ≤ len ∧ i = .int .i64 k ∧ ∃ f, OrgRel w wr es k f) (fun i _ => len - (intOf i).toNat)
  case atStart => exact ⟨0, Nat.zero_le _, rfl, _, (Below.refl _ _).alloc (Nat.le_refl _) _, MapIs.made w, fun id _ => ⟨fun _ => rfl, fun j hj => by simp [firstTo] at hj⟩⟩
  case round =>
    obtain ⟨k, hk, rfl, f, hr⟩ := hrel
    have HR := hide hr
    clear hr
    by_cases hlt : k < len
    · obtain ⟨b, off, hab, hbl, c0, c1, c2⟩ := HS.out k hlt
      simp only [Option.some.injEq] at hab
      subst hab
      have hlow : ∀ o, wr.cell? ⟨b, o, none⟩ = w.cell? ⟨b, o, none⟩ := fun o => HR.out.low.cell hbl
      have hr1 := rangeAt_of hlow c0
      have ce := (hlow _).trans c1
      have hid := (HK.out k hlt).org
      have hfl := fill_new hid
      have hus : (uc (es k).org).size = 16 := by rw [uc_size]; exact hid.len
      have H1 := hide (HR.out.step ((Below.refl _ _).alloc (Nat.le_refl _) (.cells (uc (es k).org) 44)))
      have hlk := H1.out.map.look_ok Try.underlying46 (zero45 _) hid
      have HI := hide hid
      have HR1 := hide hr1
      clear c0 c1 c2 hlow hid hr1
      cases hj : firstTo es (es k).org k with
      | some j =>
        obtain ⟨va, vc, hv, _⟩ := (HR.out.holds _ HI.out).2 j hj
        rw [hv] at hlk
        simp only [Option.getD_some, Option.isSome_some] at hlk
        have HJ := hide hj
        clear hj hv
        go_wp2_with (first
          | (refine wpList_load_mid rfl 39 _ rfl b (off + k * 17) rfl (uc (es k).org).toList _ HR1.out Try.underlying39 rfl (info39 HI.out) ?_)
          | (refine wpList_load_mid rfl 44 _ rfl wr.heap.size 0 rfl (uc (es k).org).toList _ (range_new wr _ 44) Try.underlying44 rfl (info44 HI.out) ?_))
        go_roundw
        case rel => exact ⟨k + 1, by omega, by go_num, f, ⟨H1.out.low, H1.out.map.mono (by omega), H1.out.holds.same HJ.out⟩⟩
        case measure => simp [intOf]; omega
      | none =>
        rw [(HR.out.holds _ HI.out).1 hj] at hlk
        simp only [Option.getD_none, Option.isSome_none] at hlk
        have HJ := hide hj
        clear hj
        have ce2 : (wr.alloc (.cells (uc (es k).org) 44)).cell? ⟨b, off + k * 17 + 16, none⟩ = some (.slice (es k).la (es k).ll (es k).lc) := by rw [World.cell?_alloc_lt _ _ _ (Nat.lt_of_lt_of_le hbl HR.out.low.size)]; exact ce
        go_wp2_with (first
          | (refine wpList_load_mid rfl 39 _ rfl b (off + k * 17) rfl (uc (es k).org).toList _ HR1.out Try.underlying39 rfl (info39 HI.out) ?_)
          | (refine wpList_load_mid rfl 44 _ rfl wr.heap.size 0 rfl (uc (es k).org).toList _ (range_new wr _ 44) Try.underlying44 rfl (info44 HI.out) ?_))
        have HX := hide (range_new wr (uc (es k).org) 44)
        have HXL := hide (show wr.heap.size < (wr.alloc (.cells (uc (es k).org) 44)).heap.size by simp)
        have HBL := hide hbl
        clear hlk hfl ce
        generalize wr.alloc (.cells (uc (es k).org) 44) = W at H1 HX HXL ce2 ⊢
        generalize wr.heap.size = X at HX HXL ⊢
        have hx := HX.out
        have hu44 := Try.underlying44
        have hi44 := info44 HI.out
        have HP := hide (fun (V : World) (hV : Below W.heap.size W V) => perms_any (es k).la (es k).ll (es k).lc (es k).ps V (HL.out k hlt) (HK.out k hlt).nil (HK.out k hlt).ps (by obtain ⟨b', off', h1, h2, h3, h4, h5⟩ := HS.out k hlt; exact (h5.below H1.out.low).below hV))
        have HC := hide (fun (V : World) (hV : Below W.heap.size W V) => And.intro (rangeAt_of (fun o => hV.cell HXL.out) hx) ((hV.cell (Nat.lt_of_lt_of_le HBL.out H1.out.low.size)).trans ce2))
        go_region_held3 (fun w' => w'.rangeAt X 0 (uc (es k).org).toList ∧ w'.cell? ⟨b, off + k * 17 + 16, none⟩ = some (.slice (es k).la (es k).ll (es k).lc)) (first | exact ⟨hx, ce2⟩ | exact hd1 | exact hd2)
          (first
            | (go_at_call 34; refine (HP.out _ ((Below.refl _ _).drew)).mono ?_; rintro e w2 ⟨va, vc, rfl, hp2, hb2⟩; have HB2 := hide ((Below.refl W.heap.size W).drew.trans hb2); have H2 := hide (And.intro hp2 (H1.out.step HB2.out)); clear hp2 hb2; have hd1 := HC.out _ HB2.out; obtain ⟨w3, hup, hm3, hg3⟩ := H2.out.2.map.update Try.underlying46 (by unfold maxLen; omega) HI.out (.slice va (es k).ll vc); have H3 := hide (And.intro hm3 hg3); have hd2 := And.intro (show w3.rangeAt X 0 (uc (es k).org).toList from fun j v hv => cell_turn hg3 H2.out.2.map.noCell (hd1.1 j v hv)) (cell_turn hg3 H2.out.2.map.noCell hd1.2); clear hm3 hg3))
        go_wp2_with fail
        go_roundw
        case rel => exact ⟨k + 1, by omega, by go_num, _, ⟨H2.out.2.low.grown H3.out.2 H2.out.2.low.size (fun j hj => by cases hj; exact Nat.le_refl _), H3.out.1, H2.out.2.holds.put HJ.out H2.out.1 H3.out.2 H2.out.2.map.noCell⟩⟩
        case measure => simp [intOf]; omega
    · obtain rfl : len = k := by omega
      go_wp2_with fail
      go_ret
      exact ⟨_, rfl, Or.inr ⟨_, f, rfl, HR.out.map, HR.out.holds⟩, HR.out.low⟩

theorem orgMap_any (a : Option Addr) (len cap : Nat) (es : Nat → En) (w : World) (hm : len ≤ 1048576) (hnil : a = none → len = 0 ∧ cap = 0) (hll : ∀ i, i < len → (es i).ll ≤ 1048576) (hok : ∀ i, i < len → EnOk (es i)) (h : EntriesAt w a len es) :
    Calls Try.prog 35 #[.slice a len cap] w fun e w' => ∃ m, e = .returned (.map m) ∧ OrgMapAt w' m len es ∧ Below w.heap.size w w' := by
  cases a with
  | none =>
    obtain ⟨rfl, rfl⟩ := hnil rfl
    refine (orgMap_nil w).mono ?_
    rintro e w' ⟨rfl, rfl⟩
    exact ⟨none, rfl, Or.inl ⟨rfl, rfl⟩, Below.refl _ _⟩
  | some ad => exact orgMap_some ad len cap es w hm hll hok h
end Go.Proofs.Qxb6602785a
