/-
  SEAT b6602785a: the law FnNamedIDsFirstOccurrenceModel, walked.
-/
import Derived.Test.Qxb6602785aB16
import Derived.Test.Qxb6602785aB3
set_option linter.unusedVariables false
set_option linter.unusedSimpArgs false
namespace Go.Proofs.Qxb6602785a
open Go.RowKit Go.Maps

def ModelPost (w : World) (l : List (List Nat)) (e : Ending) (w' : World) : Prop :=
  ∃ v, e = .returned v ∧ Ids w' w.heap.size 39 v l ∧ (l = [] → v = .slice none 0 0) ∧ Below w.heap.size w w'

theorem model_post_nil {w w' : World} {e : Ending} (h : e = .returned (.slice none 0 0) ∧ Below w.heap.size w w') : ModelPost w [] e w' :=
  ⟨_, h.1, World.ownsRow_nil _ _ _ _, fun _ => rfl, h.2⟩

theorem model_any' (st : Nat) (a1 a2 a3 : Option Addr) (len1 cap1 len2 cap2 len3 cap3 : Nat) (ps qs : Nat → Pm) (es : Nat → En) (p3 : Option Addr) (o3 : Option (List Nat)) (w : World)
    (hm1 : len1 ≤ 1048576) (hm2 : len2 ≤ maxLen) (hm3 : len3 ≤ 1048576) (hll : ∀ i, i < len2 → (es i).ll ≤ 1048576) (ok1 : ∀ i, i < len1 → PmOk (ps i)) (ok2 : ∀ i, i < len2 → EnOk (es i)) (ok3 : ∀ i, i < len3 → PmOk (qs i))
    (h1 : PermsAt w a1 len1 ps) (h2 : EntriesAt w a2 len2 es) (h3 : PermsAt w a3 len3 qs) (hp : PtrAt w p3 o3) :
    Calls Try.prog 24 #[.slice a1 len1 cap1, .slice a2 len2 cap2, .slice a3 len3 cap3, .int .u8 (st : Int), .pointer p3] w (ModelPost w (named (sel st ps len1 es len2 qs len3 o3).1 (sel st ps len1 es len2 qs len3 o3).2)) := by
  by_cases h4 : st = 4
  · subst h4
    exact model_site a1 len1 cap1 _ _ p3 ps w hm1 ok1 h1
  · by_cases h5 : st = 5
    · subst h5
      rcases hp with ⟨rfl, rfl⟩ | ⟨b, off, id, rfl, rfl, hid, hlt, hr⟩
      · exact (model_orgnil _ _ _ w).mono fun e w' h => model_post_nil h
      · have hsel : sel 5 ps len1 es len2 qs len3 (some id) = (match firstTo es id len2 with | none => (ps, 0) | some j => ((es j).ps, (es j).ll)) := rfl
        rw [hsel]
        cases hf : firstTo es id len2 with
        | none => exact (model_orgmiss _ _ a2 len2 cap2 es b off id w hm2 ok2 h2 hid hr hf).mono fun e w' h => model_post_nil h
        | some j => exact model_org _ _ a2 len2 cap2 es b off j id _ _ _ _ w hm2 ok2 h2 hid hr hf rfl rfl rfl rfl (hll j (firstTo_lt hf).1)
    · by_cases h6 : st = 6
      · subst h6
        exact model_user a3 len3 cap3 _ _ p3 qs w hm3 ok3 h3
      · have hsel : sel st ps len1 es len2 qs len3 o3 = (ps, 0) := by unfold sel; rw [if_neg h4, if_neg h5, if_neg h6]
        rw [hsel]
        exact (model_none st _ _ _ p3 w h4 h5 h6).mono fun e w' h => model_post_nil h

theorem sel_ok {st : Nat} {ps qs : Nat → Pm} {es : Nat → En} {len1 len2 len3 : Nat} {o3 : Option (List Nat)} (hm1 : len1 ≤ 1048576) (hm3 : len3 ≤ 1048576) (hll : ∀ i, i < len2 → (es i).ll ≤ 1048576) (ok1 : ∀ i, i < len1 → PmOk (ps i)) (ok2 : ∀ i, i < len2 → EnOk (es i)) (ok3 : ∀ i, i < len3 → PmOk (qs i)) :
    (sel st ps len1 es len2 qs len3 o3).2 ≤ 1048576 ∧ ∀ i, i < (sel st ps len1 es len2 qs len3 o3).2 → PmOk ((sel st ps len1 es len2 qs len3 o3).1 i) := by
  unfold sel
  split
  · exact ⟨hm1, ok1⟩
  · split
    · cases o3 with
      | none => exact ⟨Nat.zero_le _, fun i hi => by simp at hi⟩
      | some id =>
        dsimp only
        cases hf : firstTo es id len2 with
        | none => exact ⟨Nat.zero_le _, fun i hi => by simp at hi⟩
        | some j =>
          have hj := (firstTo_lt hf).1
          exact ⟨hll j hj, (ok2 j hj).ps⟩
    · split
      · exact ⟨hm3, ok3⟩
      · exact ⟨Nat.zero_le _, fun i hi => by simp at hi⟩

theorem named_ids {ps : Nat → Pm} {k : Nat} (h : ∀ i, i < k → PmOk (ps i)) : ∀ x ∈ named ps k, IsId x := fun x hx => by
  obtain ⟨j, h1, _, h3⟩ := (named_mem ps x k).1 hx
  rw [← h3]
  exact (h j h1).id

theorem same_any {w : World} {b1 b2 : Nat} {v1 v2 : Value} {l : List (List Nat)} (hl : ∀ x ∈ l, IsId x) (hm : l.length ≤ 1048576) (h1 : Ids w b1 44 v1 l) (n1 : l = [] → v1 = .slice none 0 0) (h2 : Ids w b2 39 v2 l) (n2 : l = [] → v2 = .slice none 0 0) :
    Calls Try.prog 23 #[v1, v2] w fun e w' => e = .returned (.bool true) ∧ Below w.heap.size w w' := by
  rcases ids_form h1 n1 with ⟨rfl, rfl⟩ | ⟨g, cap, rfl⟩
  · rw [n2 rfl]
    exact same_nil 0 w
  · rcases ids_form h2 n2 with ⟨rfl, rfl⟩ | ⟨g2, cap2, rfl⟩
    · exact absurd (n1 rfl) (by simp)
    · by_cases hp : 0 < l.length
      · exact same_some g cap g2 cap2 b1 b2 l w hl hp hm h1 h2
      · have : l = [] := List.eq_nil_of_length_eq_zero (by omega)
        exact absurd (n1 this) (by simp)

theorem Ids.below {w w' : World} {base : Nat} {e : TypeId} {v : Value} {l : List (List Nat)} (h : Ids w base e v l) (hb : Below w.heap.size w w') : Ids w' base e v l := by
  obtain ⟨h1, h2⟩ := h
  refine ⟨h1, ?_⟩
  rcases h2 with h2 | ⟨g, cap, cur, e1, e2, e3, e4⟩
  · exact Or.inl h2
  · exact Or.inr ⟨g, cap, cur, e1, e2, (hb.block g (Array.getElem?_eq_some_iff.1 e3).1).trans e3, e4⟩

set_option maxHeartbeats 2000000 in
set_option maxRecDepth 20000 in
theorem law6 (a1 a2 a3 : Option Addr) (len1 cap1 len2 cap2 len3 cap3 : Nat) (ps qs : Nat → Pm) (es : Nat → En) (x1 x2 x3 : ByteArray) (st : Nat) (p1 p2 p3 : Option Addr) (o1 o2 o3 : Option (List Nat)) (w : World) (hm1 : len1 ≤ maxLen) (hm2 : len2 ≤ maxLen) (hm3 : len3 ≤ maxLen) (hn1 : a1 = none → len1 = 0 ∧ cap1 = 0) (hn2 : a2 = none → len2 = 0 ∧ cap2 = 0) (hn3 : a3 = none → len3 = 0 ∧ cap3 = 0)
    (hs1 : x1.size ≤ maxLen) (hs2 : x2.size ≤ maxLen) (hs3 : x3.size ≤ maxLen) (ok1 : ∀ i, i < len1 → PmOk (ps i)) (ok2 : ∀ i, i < len2 → EnOk (es i)) (ok3 : ∀ i, i < len3 → PmOk (qs i)) (h1 : PermsAt w a1 len1 ps) (h2 : EntriesAt w a2 len2 es) (h3 : PermsAt w a3 len3 qs) (q1 : PtrAt w p1 o1) (q2 : PtrAt w p2 o2) (q3 : PtrAt w p3 o3) :
    Calls Try.prog 6 #[.slice a1 len1 cap1, .slice a2 len2 cap2, .slice a3 len3 cap3, .string x1, .string x2, .int .u8 (st : Int), .string x3, .pointer p1, .pointer p2, .pointer p3] w fun e w' => e = .returned (.bool true) ∧ Below w.heap.size w w' := by
  have HB := hide (bytes19 a1 a2 a3 len1 cap1 len2 cap2 len3 cap3 ps qs es x1 x2 x3 st p1 p2 p3 w hm1 hm2 hm3 hs1 hs2 hs3 ok2 h1 h2 h3)
  have HC := hide (scopeBytes_any a1 a2 a3 len1 cap1 len2 cap2 len3 cap3 ps qs es x1 x2 x3 w hm1 hm2 hm3 hs1 hs2 hs3 ok1 ok2 ok3 h1 h2 h3)
  have HSU := hide (fun (l1 : len1 ≤ 1048576) (l2 : len2 ≤ 1048576) (l3 : len3 ≤ 1048576) (hll : ∀ i, i < len2 → (es i).ll ≤ 1048576) => subject_any a1 a2 a3 len1 cap1 len2 cap2 len3 cap3 ps qs es w l1 l2 l3 hn1 hn2 hn3 hll ok1 ok2 ok3 h1 h2 h3)
  have HOB := hide (fun (W : World) (hW : Below w.heap.size w W) => object_any x3 p1 p2 p3 o1 o2 o3 W (q1.below hW) (q2.below hW) (q3.below hW))
  have HND := hide (fun (l1 : len1 ≤ 1048576) (l3 : len3 ≤ 1048576) (hll : ∀ i, i < len2 → (es i).ll ≤ 1048576) (W : World) (Pp No : Nat) (s1 : Option Addr) (c1 : Nat) (m : Option Nat) (s3 : Option Addr) (c3 : Nat) d1 d2 d3 g1 g2 g3 go => namedIDs_any Pp No st s1 len1 c1 m s3 len3 c3 len2 ps qs es x3 o1 o2 o3 W l1 l3 hll ok1 ok2 ok3 d1 d2 d3 g1 g2 g3 go)
  have HMO := hide (fun (l1 : len1 ≤ 1048576) (l3 : len3 ≤ 1048576) (hll : ∀ i, i < len2 → (es i).ll ≤ 1048576) (W : World) (hW : Below w.heap.size w W) => model_any' st a1 a2 a3 len1 cap1 len2 cap2 len3 cap3 ps qs es p3 o3 W l1 hm2 l3 hll ok1 ok2 ok3 (h1.below hW) (h2.below hW) (h3.below hW) (q3.below hW))
  have HSE := hide (fun (l1 : len1 ≤ 1048576) (l3 : len3 ≤ 1048576) (hll : ∀ i, i < len2 → (es i).ll ≤ 1048576) => sel_ok (st := st) (o3 := o3) l1 l3 hll ok1 ok2 ok3)
  clear hm1 hm2 hm3 hn1 hn2 hn3 hs1 hs2 hs3 ok1 ok2 ok3 h1 h2 h3 q1 q2 q3
  go_enter Try.func6, Try.ntmps6
  go_wp2_with fail
  refine HB.out.mono ?_
  rintro e w0 ⟨⟨b, rfl⟩, rfl⟩
  cases b
  · go_wp2_with fail
    go_ret
    exact ⟨rfl, Below.refl _ _⟩
  · go_wp2_with fail
    refine HC.out.mono ?_
    rintro e w0 ⟨r, rfl, hr1, hr2, rfl⟩
    by_cases hr : r ≤ 1048576
    · have t1 : decide ((1048576 : Int) < (r : Int)) = false := decide_eq_false (by omega)
      obtain ⟨l1, ⟨l2, hll⟩, l3⟩ := hr2 hr
      have HL := hide hll
      clear hll HB HC
      go_wp2_with fail
      refine (HSU.out l1 l2 l3 HL.out).mono ?_
      rintro e w1 ⟨s1, c1, m, s3, c3, rfl, g1, g2, g3, hb1⟩
      have G1 := hide (And.intro g1 (And.intro g2 (And.intro g3 hb1)))
      clear g1 g2 g3 hb1 HSU
      generalize hsc : sc s1 len1 c1 m s3 len3 c3 = SC at *
      have HSC := hide hsc
      clear hsc
      go_wp2_with fail
      refine (HOB.out _ G1.out.2.2.2).mono ?_
      rintro e w2 ⟨No, rfl, ho, hb2⟩
      have G2 := hide (And.intro (G1.out.1.below hb2) (And.intro (G1.out.2.1.below hb2) (And.intro (G1.out.2.2.1.below hb2) (And.intro ho (G1.out.2.2.2.trans (hb2.mono G1.out.2.2.2.size))))))
      clear ho hb2 G1 HOB
      go_wp2_with fail
      have HZ := hide (zzNamed_any s1 len1 c1 m s3 len3 c3 x1 x2 st No _ w2 (fun W Pp hW d1 d2 d3 => HND.out l1 l3 HL.out W Pp No s1 c1 m s3 c3 d1 d2 d3 (G2.out.1.below hW) (G2.out.2.1.below hW) (G2.out.2.2.1.below hW) (G2.out.2.2.2.1.below hW)))
      rw [HSC.out] at HZ
      refine HZ.out.mono ?_
      rintro e w3 ⟨v1, base, rfl, i1, n1, hb3⟩
      have G3 := hide (And.intro i1 (And.intro n1 (G2.out.2.2.2.2.trans (hb3.mono G2.out.2.2.2.2.size))))
      clear i1 n1 hb3 HZ HND G2
      go_wp2_with fail
      refine (HMO.out l1 l3 HL.out _ G3.out.2.2).mono ?_
      rintro e w4 ⟨v2, rfl, i2, n2, hb4⟩
      have G4 := hide (And.intro (Ids.below G3.out.1 hb4) (And.intro i2 (And.intro n2 (G3.out.2.2.trans (hb4.mono G3.out.2.2.size)))))
      have N1 := hide G3.out.2.1
      clear i2 n2 hb4 HMO G3
      go_wp2_with fail
      obtain ⟨hsl, hso⟩ := HSE.out l1 l3 HL.out
      refine (same_any (named_ids hso) (Nat.le_trans (named_len _ _) hsl) G4.out.1 N1.out G4.out.2.1 G4.out.2.2.1).mono ?_
      rintro e w5 ⟨rfl, hb5⟩
      have G5 := hide (G4.out.2.2.2.trans (hb5.mono G4.out.2.2.2.size))
      clear hb5
      go_wp2_with fail
      go_ret
      exact ⟨rfl, G5.out⟩
    · have t1 : decide ((1048576 : Int) < (r : Int)) = true := decide_eq_true (by omega)
      go_wp2_with fail
      go_ret
      exact ⟨rfl, Below.refl _ _⟩
end Go.Proofs.Qxb6602785a
