/-
  SEAT b6602785a: ZZnamedIDs.
-/
import Derived.Test.Qxb6602785aB10
set_option linter.unusedVariables false
set_option linter.unusedSimpArgs false
namespace Go.Proofs.Qxb6602785a
open Go.RowKit Go.Maps

/-- The list that the step reads: its permissions and how many they are. -/
def sel (st : Nat) (ps : Nat → Pm) (len1 : Nat) (es : Nat → En) (len2 : Nat) (qs : Nat → Pm) (len3 : Nat) (o3 : Option (List Nat)) : (Nat → Pm) × Nat :=
  if st = 4 then (ps, len1)
  else if st = 5 then (match o3 with
    | none => (ps, 0)
    | some id => match firstTo es id len2 with
      | none => (ps, 0)
      | some j => ((es j).ps, (es j).ll))
  else if st = 6 then (qs, len3) else (ps, 0)

/-- What namedIDs hands back. -/
def NamedPost (w : World) (l : List (List Nat)) (e : Ending) (w' : World) : Prop :=
  ∃ v base, e = .returned v ∧ Ids w' base 44 v l ∧ (l = [] → v = .slice none 0 0) ∧ Below w.heap.size w w'

theorem named_post_nil {w w' : World} {e : Ending} (h : e = .returned (.slice none 0 0) ∧ Below w.heap.size w w') : NamedPost w [] e w' :=
  ⟨_, 0, h.1, World.ownsRow_nil _ _ _ _, fun _ => rfl, h.2⟩

theorem namedIDs_any (Pp No st : Nat) (s1 : Option Addr) (len1 c1 : Nat) (m : Option Nat) (s3 : Option Addr) (len3 c3 len2 : Nat) (ps qs : Nat → Pm) (es : Nat → En) (typ : ByteArray) (o1 o2 o3 : Option (List Nat)) (w : World)
    (hm1 : len1 ≤ 1048576) (hm3 : len3 ≤ 1048576) (hll : ∀ i, i < len2 → (es i).ll ≤ 1048576) (ok1 : ∀ i, i < len1 → PmOk (ps i)) (ok2 : ∀ i, i < len2 → EnOk (es i)) (ok3 : ∀ i, i < len3 → PmOk (qs i))
    (d1 : w.cell? ⟨Pp, 20, none⟩ = some (.slice s1 len1 c1)) (d2 : w.cell? ⟨Pp, 21, none⟩ = some (.map m)) (d3 : w.cell? ⟨Pp, 22, none⟩ = some (.slice s3 len3 c3)) (h1 : PermsAt w s1 len1 ps) (h2 : OrgMapAt w m len2 es) (h3 : PermsAt w s3 len3 qs) (ho : ObjAt w No typ o1 o2 o3) :
    Calls Try.prog 40 #[.pointer (some ⟨Pp, 0, none⟩), .int .u8 (st : Int), .pointer (some ⟨No, 0, none⟩)] w (NamedPost w (named (sel st ps len1 es len2 qs len3 o3).1 (sel st ps len1 es len2 qs len3 o3).2)) := by
  by_cases h4 : st = 4
  · subst h4
    exact named_site Pp No s1 len1 c1 ps w hm1 ok1 d1 h1
  · by_cases h5 : st = 5
    · subst h5
      obtain ⟨q, hq, hp⟩ := ho.org
      rcases hp with ⟨rfl, rfl⟩ | ⟨b, off, id, rfl, rfl, hid, hlt, hr⟩
      · exact (named_orgnil Pp No ps w hq).mono fun e w' h => named_post_nil h
      · have hz : ∀ n, (zeroValue 45).run Try.prog (w.drewN n) = .ok (.slice none 0 0) (w.drewN n) := fun n => zero45 _
        have hsel : sel 5 ps len1 es len2 qs len3 (some id) = (match firstTo es id len2 with | none => (ps, 0) | some j => ((es j).ps, (es j).ll)) := rfl
        rw [hsel]
        rcases h2 with ⟨rfl, rfl⟩ | ⟨B, f, rfl, hM, hH⟩
        · have e0 : firstTo es id 0 = none := rfl
          rw [e0]
          exact named_org Pp No none b off id none 0 0 ps w (by omega) (fun i hi => by omega) d2 hq hid hr (fun n => look_none Try.underlying46 (hz n) hid) (fun i hi => by omega)
        · have hM' : ∀ n, MapIs (w.drewN n) B len2 f := fun n => hM.keep rfl
          cases hf : firstTo es id len2 with
          | none =>
            have hv := (hH id hid).1 hf
            refine named_org Pp No (some B) b off id none 0 0 ps w (by omega) (fun i hi => by omega) d2 hq hid hr (fun n => ?_) (fun i hi => by omega)
            have := (hM' n).look Try.underlying46 (hz n) hid
            rw [hv] at this
            exact this
          | some j =>
            obtain ⟨a, c, hv, hp⟩ := (hH id hid).2 j hf
            have hj := (firstTo_lt hf).1
            refine named_org Pp No (some B) b off id a (es j).ll c (es j).ps w (hll j hj) (ok2 j hj).ps d2 hq hid hr (fun n => ?_) hp
            have := (hM' n).look Try.underlying46 (hz n) hid
            rw [hv] at this
            exact this
    · by_cases h6 : st = 6
      · subst h6
        exact named_user Pp No s3 len3 c3 qs w hm3 ok3 d3 h3
      · have hsel : sel st ps len1 es len2 qs len3 o3 = (ps, 0) := by unfold sel; rw [if_neg h4, if_neg h5, if_neg h6]
        rw [hsel]
        exact (named_none Pp No st ps w h4 h5 h6).mono fun e w' h => named_post_nil h

/-- The cells of a preparer. -/
def pp (s1 : Option Addr) (len1 c1 : Nat) (m : Option Nat) (s3 : Option Addr) (len3 c3 : Nat) (x1 x2 : ByteArray) : Array Value := sc s1 len1 c1 m s3 len3 c3 ++ #[.string x1, .string x2]

theorem build82 (s1 : Option Addr) (len1 c1 : Nat) (m : Option Nat) (s3 : Option Addr) (len3 c3 : Nat) (x1 x2 : ByteArray) (w : World) : (Instr.build 82 #[(0, .agg (sc s1 len1 c1 m s3 len3 c3)), (1, .string x1), (2, .string x2)]).run Try.prog w = .ok (.agg (pp s1 len1 c1 m s3 len3 c3 x1 x2)) w := by kernel_rfl

theorem wpList_build82 {w : World} {ops : Array Oper} {rest : List Oper} {o : Oper} {a : Act} {Q : Exit → Act → World → Prop} (hgd : o.guard = none) (x y z : Operand) (hop : o.op = Op.build 82 #[(0, x), (1, y), (2, z)])
    (s1 : Option Addr) (len1 c1 : Nat) (m : Option Nat) (s3 : Option Addr) (len3 c3 : Nat) (x1 x2 : ByteArray) (hx : a.eval x = .agg (sc s1 len1 c1 m s3 len3 c3)) (hy : a.eval y = .string x1) (hz : a.eval z = .string x2)
    (hK : wpList Try.prog ops Q rest (a.put o.dst (.agg (pp s1 len1 c1 m s3 len3 c3 x1 x2))) w) : wpList Try.prog ops Q (o :: rest) a w := by
  refine wpList_plain hgd fun K' hK' => ?_
  unfold Oper.wp
  simp only [execOp, hop, List.map_toArray, List.map_cons, List.map_nil, hx, hy, hz, Sem.run_bind, build82, Result.andThen_ok, Sem.run_pure]
  exact hK' _ _ hK

theorem prep_cell (w : World) (z1 z2 : Array Value) (o : Nat) {v : Value} (h : z2[o]? = some v) : ((w.alloc (.cells z1 52)).alloc (.cells z2 82)).cell? ⟨w.heap.size + 1, o, none⟩ = some v := by
  have := heap_alloc_new' (w.alloc (.cells z1 52)) (.cells z2 82)
  rw [show (w.alloc (.cells z1 52)).heap.size = w.heap.size + 1 by simp] at this
  rw [cell_of_heap this]
  exact h
theorem pp20 (s1 : Option Addr) (len1 c1 : Nat) (m : Option Nat) (s3 : Option Addr) (len3 c3 : Nat) (x1 x2 : ByteArray) : (pp s1 len1 c1 m s3 len3 c3 x1 x2)[20]? = some (.slice s1 len1 c1) ∧ (pp s1 len1 c1 m s3 len3 c3 x1 x2)[21]? = some (.map m) ∧ (pp s1 len1 c1 m s3 len3 c3 x1 x2)[22]? = some (.slice s3 len3 c3) := by
  refine ⟨?_, ?_, ?_⟩ <;> kernel_rfl

set_option maxHeartbeats 1000000 in
set_option maxRecDepth 20000 in
theorem zzNamed_any (s1 : Option Addr) (len1 c1 : Nat) (m : Option Nat) (s3 : Option Addr) (len3 c3 : Nat) (x1 x2 : ByteArray) (st No : Nat) (l : List (List Nat)) (w : World)
    (h : ∀ (W : World) (Pp : Nat), Below w.heap.size w W → W.cell? ⟨Pp, 20, none⟩ = some (.slice s1 len1 c1) → W.cell? ⟨Pp, 21, none⟩ = some (.map m) → W.cell? ⟨Pp, 22, none⟩ = some (.slice s3 len3 c3) →
      Calls Try.prog 40 #[.pointer (some ⟨Pp, 0, none⟩), .int .u8 (st : Int), .pointer (some ⟨No, 0, none⟩)] W (NamedPost W l)) :
    Calls Try.prog 21 #[.agg (sc s1 len1 c1 m s3 len3 c3), .string x1, .string x2, .int .u8 (st : Int), .pointer (some ⟨No, 0, none⟩)] w (NamedPost w l) := by
  have HH := hide h
  clear h
  go_enter Try.func21, Try.ntmps21
  go_wp2_with (first
    | (refine wpList_load_mid rfl 52 _ rfl w.heap.size 0 rfl (sc s1 len1 c1 m s3 len3 c3).toList _ (range_new w _ 52) Try.underlying52 rfl (info52 _ _ _ _ _ _ _) ?_)
    | (refine wpList_build82 rfl _ _ _ rfl s1 len1 c1 m s3 len3 c3 x1 x2 rfl rfl rfl ?_))
  refine (HH.out _ (w.heap.size + 1) (((Below.refl _ _).alloc (Nat.le_refl _) _).alloc (by simp) _) (prep_cell w _ _ 20 (pp20 s1 len1 c1 m s3 len3 c3 x1 x2).1) (prep_cell w _ _ 21 (pp20 s1 len1 c1 m s3 len3 c3 x1 x2).2.1) (prep_cell w _ _ 22 (pp20 s1 len1 c1 m s3 len3 c3 x1 x2).2.2)).mono ?_
  rintro e w1 ⟨v, base, rfl, hi, hn, hb⟩
  have HI := hide (And.intro hi (And.intro hn (show Below w.heap.size w w1 from (((Below.refl w.heap.size w).alloc (Nat.le_refl _) _).alloc (by simp) _).trans (hb.mono (by simp; omega)))))
  clear hi hn hb
  go_wp2_with fail
  go_ret
  exact ⟨v, base, rfl, HI.out.1, HI.out.2.1, HI.out.2.2⟩
end Go.Proofs.Qxb6602785a
