/-
  SEAT b6602785a: zzSubject.
-/
import Derived.Test.Qxb6602785aB6
set_option linter.unusedVariables false
set_option linter.unusedSimpArgs false
namespace Go.Proofs.Qxb6602785a
open Go.RowKit Go.Maps

/-- The cells of a subject whose scope holds the three. -/
def sc (a1 : Option Addr) (l1 c1 : Nat) (m : Option Nat) (a3 : Option Addr) (l3 c3 : Nat) : Array Value :=
  #[.int .u8 0, .int .u8 0, .int .u8 0, .int .u8 0, .int .u8 0, .int .u8 0, .int .u8 0, .int .u8 0, .int .u8 0, .int .u8 0, .int .u8 0, .int .u8 0, .int .u8 0, .int .u8 0, .int .u8 0, .int .u8 0,
    .slice none 0 0, .slice none 0 0, .string ByteArray.empty, .string ByteArray.empty, .slice a1 l1 c1, .map m, .slice a3 l3 c3, .bool false, .slice none 0 0]

/-- Block X is a subject's. -/
def Sub (w : World) (X : Nat) (a1 : Option Addr) (l1 c1 : Nat) (m : Option Nat) (a3 : Option Addr) (l3 c3 : Nat) : Prop := w.heap[X]? = some (.cells (sc a1 l1 c1 m a3 l3 c3) 52 (0, 0))

theorem sc_bool {a1 : Option Addr} {l1 c1 : Nat} {m : Option Nat} {a3 : Option Addr} {l3 c3 : Nat} : ∀ (o : Nat) {x : Bool}, (sc a1 l1 c1 m a3 l3 c3)[o]? = some (.bool x) → o = 23
  | 0, _, h | 1, _, h | 2, _, h | 3, _, h | 4, _, h | 5, _, h | 6, _, h | 7, _, h | 8, _, h | 9, _, h | 10, _, h | 11, _, h | 12, _, h | 13, _, h | 14, _, h | 15, _, h | 16, _, h | 17, _, h | 18, _, h | 19, _, h | 20, _, h | 21, _, h | 22, _, h | 24, _, h => by simp [sc] at h
  | 23, _, _ => rfl
  | n + 25, _, h => by simp [sc] at h

theorem Sub.not_pm {w : World} {X : Nat} {a1 : Option Addr} {l1 c1 : Nat} {m : Option Nat} {a3 : Option Addr} {l3 c3 : Nat} (h : Sub w X a1 l1 c1 m a3 l3 c3) {o : Nat} {p : Pm} : ¬ PmCells w X o p := by
  rintro ⟨h0, h1, _⟩
  unfold Sub at h
  rw [cell_of_heap h] at h0 h1
  have := sc_bool o h0
  subst this
  simp [sc] at h1

theorem PermsAt.other {w w' : World} {X : Nat} {a : Option Addr} {len : Nat} {ps : Nat → Pm} (h : PermsAt w a len ps) (hX : ∀ o p, ¬ PmCells w X o p) (hs : w.heap.size ≤ w'.heap.size) (hc : ∀ b o, b ≠ X → w'.cell? ⟨b, o, none⟩ = w.cell? ⟨b, o, none⟩) : PermsAt w' a len ps := fun i hi => by
  obtain ⟨b, off, ha, hlt, hp⟩ := h i hi
  have hne : b ≠ X := fun e => hX _ _ (e ▸ hp)
  exact ⟨b, off, ha, Nat.lt_of_lt_of_le hlt hs, hp.of (fun o => hc b o hne)⟩

theorem OrgMapAt.other {w w' : World} {X : Nat} {m : Option Nat} {len : Nat} {es : Nat → En} (h : OrgMapAt w m len es) (hX : ∀ o p, ¬ PmCells w X o p) (hXm : ∀ es c, w.heap[X]? ≠ some (.map es c)) (hs : w.heap.size ≤ w'.heap.size) (hb : ∀ b, b ≠ X → w'.heap[b]? = w.heap[b]?) : OrgMapAt w' m len es := by
  rcases h with h | ⟨B, f, h1, h2, h3⟩
  · exact Or.inl h
  · have hne : B ≠ X := fun e => by
      obtain ⟨D, ⟨es', clock, h4, _⟩, _⟩ := h2
      exact hXm _ _ (e ▸ h4)
    refine Or.inr ⟨B, f, h1, h2.keep (hb B hne), fun id hid => ⟨(h3 id hid).1, fun j hj => ?_⟩⟩
    obtain ⟨a, c, g1, g2⟩ := (h3 id hid).2 j hj
    exact ⟨a, c, g1, g2.other hX hs (fun b o hb' => World.cell?_of_block (hb b hb'))⟩

theorem Sub.not_map {w : World} {X : Nat} {a1 : Option Addr} {l1 c1 : Nat} {m : Option Nat} {a3 : Option Addr} {l3 c3 : Nat} (h : Sub w X a1 l1 c1 m a3 l3 c3) (es : Array MapEntry) (c : Nat) : w.heap[X]? ≠ some (.map es c) := by
  unfold Sub at h
  rw [h]
  intro h'
  cases h'

theorem set_other {w : World} {X o : Nat} {v : Value} {b : Nat} (h : b ≠ X) : (w.setCell ⟨X, o, none⟩ v).heap[b]? = w.heap[b]? := Below.heap_setCell w _ v b h
theorem setCells_other {X : Nat} : ∀ (vs : List Value) (o : Nat) (w : World) {b : Nat}, b ≠ X → (w.setCells X o vs).heap[b]? = w.heap[b]?
  | [], _, _, _, _ => rfl
  | v :: r, o, w, b, h => by rw [World.setCells, setCells_other r (o + 1) _ h, set_other h]
theorem setCells_size {X : Nat} : ∀ (vs : List Value) (o : Nat) (w : World), (w.setCells X o vs).heap.size = w.heap.size
  | [], _, _ => rfl
  | v :: r, o, w => by rw [World.setCells, setCells_size r (o + 1)]; simp

theorem Sub.set1 {w : World} {X : Nat} {a1 : Option Addr} {l1 c1 : Nat} {m : Option Nat} {a3 : Option Addr} {l3 c3 : Nat} (h : Sub w X a1 l1 c1 m a3 l3 c3) (a : Option Addr) (l c : Nat) : Sub (w.setCell ⟨X, 20, none⟩ (.slice a l c)) X a l c m a3 l3 c3 := by
  unfold Sub at h ⊢
  simp [World.setCell, Array.getElem?_modify, h, sc]
theorem Sub.set2 {w : World} {X : Nat} {a1 : Option Addr} {l1 c1 : Nat} {m : Option Nat} {a3 : Option Addr} {l3 c3 : Nat} (h : Sub w X a1 l1 c1 m a3 l3 c3) (m' : Option Nat) : Sub (w.setCell ⟨X, 21, none⟩ (.map m')) X a1 l1 c1 m' a3 l3 c3 := by
  unfold Sub at h ⊢
  simp [World.setCell, Array.getElem?_modify, h, sc]
theorem Sub.set3 {w : World} {X : Nat} {a1 : Option Addr} {l1 c1 : Nat} {m : Option Nat} {a3 : Option Addr} {l3 c3 : Nat} (h : Sub w X a1 l1 c1 m a3 l3 c3) (a : Option Addr) (l c : Nat) : Sub (w.setCell ⟨X, 22, none⟩ (.slice a l c)) X a1 l1 c1 m a l c := by
  unfold Sub at h ⊢
  simp [World.setCell, Array.getElem?_modify, h, sc]
theorem Sub.lt {w : World} {X : Nat} {a1 : Option Addr} {l1 c1 : Nat} {m : Option Nat} {a3 : Option Addr} {l3 c3 : Nat} (h : Sub w X a1 l1 c1 m a3 l3 c3) : X < w.heap.size := (Array.getElem?_eq_some_iff.1 h).1
theorem Sub.keep {w w' : World} {X : Nat} {a1 : Option Addr} {l1 c1 : Nat} {m : Option Nat} {a3 : Option Addr} {l3 c3 : Nat} (h : Sub w X a1 l1 c1 m a3 l3 c3) (hb : Below w.heap.size w w') : Sub w' X a1 l1 c1 m a3 l3 c3 := (hb.block _ h.lt).trans h
theorem Sub.cells {w : World} {X : Nat} {a1 : Option Addr} {l1 c1 : Nat} {m : Option Nat} {a3 : Option Addr} {l3 c3 : Nat} (h : Sub w X a1 l1 c1 m a3 l3 c3) :
    w.cell? ⟨X, 20, none⟩ = some (.slice a1 l1 c1) ∧ w.cell? ⟨X, 21, none⟩ = some (.map m) ∧ w.cell? ⟨X, 22, none⟩ = some (.slice a3 l3 c3) ∧ ∀ o, w.frozen? ⟨X, o, none⟩ = false := by
  unfold Sub at h
  refine ⟨by rw [cell_of_heap h]; rfl, by rw [cell_of_heap h]; rfl, by rw [cell_of_heap h]; rfl, fun o => ?_⟩
  rw [World.frozen?, h]
  simp
theorem Sub.range {w : World} {X : Nat} {a1 : Option Addr} {l1 c1 : Nat} {m : Option Nat} {a3 : Option Addr} {l3 c3 : Nat} (h : Sub w X a1 l1 c1 m a3 l3 c3) : w.rangeAt X 0 (sc a1 l1 c1 m a3 l3 c3).toList := fun j v hv => by
  unfold Sub at h
  rw [cell_of_heap h, Nat.zero_add]
  simpa using hv

/-- While zzSubject runs: its result's block R, its variable's block X. -/
structure SubRel (w W : World) (a1 : Option Addr) (l1 c1 : Nat) (m : Option Nat) (a3 : Option Addr) (l3 c3 : Nat) : Prop where
  low : Below w.heap.size w W
  res : Sub W w.heap.size none 0 0 none none 0 0
  var : Sub W (w.heap.size + 1) a1 l1 c1 m a3 l3 c3

theorem SubRel.step {w W W' : World} {a1 : Option Addr} {l1 c1 : Nat} {m : Option Nat} {a3 : Option Addr} {l3 c3 : Nat} (h : SubRel w W a1 l1 c1 m a3 l3 c3) (hb : Below W.heap.size W W') : SubRel w W' a1 l1 c1 m a3 l3 c3 :=
  ⟨h.low.trans (hb.mono h.low.size), h.res.keep hb, h.var.keep hb⟩

theorem below_set {w W : World} (h : Below w.heap.size w W) (o : Nat) (v : Value) : Below w.heap.size w (W.setCell ⟨w.heap.size + 1, o, none⟩ v) :=
  h.trans ⟨rfl, rfl, rfl, by simp, fun k hk => set_other (by omega)⟩

theorem SubRel.set1 {w W : World} {a1 : Option Addr} {l1 c1 : Nat} {m : Option Nat} {a3 : Option Addr} {l3 c3 : Nat} (h : SubRel w W a1 l1 c1 m a3 l3 c3) (a : Option Addr) (l c : Nat) : SubRel w (W.setCell ⟨w.heap.size + 1, 20, none⟩ (.slice a l c)) a l c m a3 l3 c3 :=
  ⟨below_set h.low _ _, (set_other (by omega)).trans h.res, h.var.set1 a l c⟩
theorem SubRel.set2 {w W : World} {a1 : Option Addr} {l1 c1 : Nat} {m : Option Nat} {a3 : Option Addr} {l3 c3 : Nat} (h : SubRel w W a1 l1 c1 m a3 l3 c3) (m' : Option Nat) : SubRel w (W.setCell ⟨w.heap.size + 1, 21, none⟩ (.map m')) a1 l1 c1 m' a3 l3 c3 :=
  ⟨below_set h.low _ _, (set_other (by omega)).trans h.res, h.var.set2 m'⟩
theorem SubRel.set3 {w W : World} {a1 : Option Addr} {l1 c1 : Nat} {m : Option Nat} {a3 : Option Addr} {l3 c3 : Nat} (h : SubRel w W a1 l1 c1 m a3 l3 c3) (a : Option Addr) (l c : Nat) : SubRel w (W.setCell ⟨w.heap.size + 1, 22, none⟩ (.slice a l c)) a1 l1 c1 m a l c :=
  ⟨below_set h.low _ _, (set_other (by omega)).trans h.res, h.var.set3 a l c⟩

theorem PermsAt.setVar {w W : World} {a1 : Option Addr} {l1 c1 : Nat} {m : Option Nat} {a3 : Option Addr} {l3 c3 : Nat} (h : SubRel w W a1 l1 c1 m a3 l3 c3) {a : Option Addr} {len : Nat} {ps : Nat → Pm} (hp : PermsAt W a len ps) (o : Nat) (v : Value) : PermsAt (W.setCell ⟨w.heap.size + 1, o, none⟩ v) a len ps :=
  hp.other (X := w.heap.size + 1) (fun _ _ => h.var.not_pm) (by simp) (fun b o' hb => World.cell?_of_block (set_other hb))
theorem OrgMapAt.setVar {w W : World} {a1 : Option Addr} {l1 c1 : Nat} {m : Option Nat} {a3 : Option Addr} {l3 c3 : Nat} (h : SubRel w W a1 l1 c1 m a3 l3 c3) {m' : Option Nat} {len : Nat} {es : Nat → En} (hp : OrgMapAt W m' len es) (o : Nat) (v : Value) : OrgMapAt (W.setCell ⟨w.heap.size + 1, o, none⟩ v) m' len es :=
  hp.other (X := w.heap.size + 1) (fun _ _ => h.var.not_pm) h.var.not_map (by simp) (fun b hb => set_other hb)

theorem SubRel.start (w : World) (z : Array Value) (hz : z = sc none 0 0 none none 0 0) : SubRel w ((w.alloc (.cells z 52)).alloc (.cells z 52)) none 0 0 none none 0 0 := by
  subst hz
  refine ⟨((Below.refl _ _).alloc (Nat.le_refl _) _).alloc (by simp) _, ?_, ?_⟩
  · unfold Sub
    rw [Below.heap_alloc _ _ _ (by simp)]
    exact heap_alloc_new' _ _
  · unfold Sub
    have := heap_alloc_new' (w.alloc (.cells (sc none 0 0 none none 0 0) 52)) (.cells (sc none 0 0 none none 0 0) 52)
    simpa using this

theorem info52 (a1 : Option Addr) (l1 c1 : Nat) (m : Option Nat) (a3 : Option Addr) (l3 c3 : Nat) : (Try.prog.info? 52).map (·.size) = some (sc a1 l1 c1 m a3 l3 c3).toList.length := by kernel_rfl
theorem sc_one (a1 : Option Addr) (l1 c1 : Nat) (m : Option Nat) (a3 : Option Addr) (l3 c3 : Nat) : ∀ v ∈ (sc a1 l1 c1 m a3 l3 c3).toList, v.oneCell' = true := by
  have : (sc a1 l1 c1 m a3 l3 c3).toList.all (·.oneCell') = true := by kernel_rfl
  exact List.all_eq_true.1 this

theorem sub_there {w W : World} {a1 : Option Addr} {l1 c1 : Nat} {m : Option Nat} {a3 : Option Addr} {l3 c3 : Nat} (h : SubRel w W a1 l1 c1 m a3 l3 c3) : W.there w.heap.size 0 (sc a1 l1 c1 m a3 l3 c3).toList.length := fun j hj => by
  have hr := h.res
  unfold Sub at hr
  refine ⟨?_, by rw [World.frozen?, hr]; simp⟩
  rw [cell_of_heap hr, Array.getElem?_eq_getElem (show 0 + j < (sc none 0 0 none none 0 0).size by simpa [sc] using hj)]
  rfl

theorem sub_fill {w W : World} {a1 : Option Addr} {l1 c1 : Nat} {m : Option Nat} {a3 : Option Addr} {l3 c3 : Nat} (h : SubRel w W a1 l1 c1 m a3 l3 c3) : (storeCells ⟨w.heap.size, 0, none⟩ (sc a1 l1 c1 m a3 l3 c3).toList).run Try.prog W = .ok () (W.setCells w.heap.size 0 (sc a1 l1 c1 m a3 l3 c3).toList) := by
  have hr := h.res
  unfold Sub at hr
  have := run_storeCells_cells (P := Try.prog) w.heap.size 0 (sc a1 l1 c1 m a3 l3 c3).toList 0 W (fun j hj => by
      rw [cell_of_heap hr, Array.getElem?_eq_getElem (show 0 + 0 + j < (sc none 0 0 none none 0 0).size by simpa [sc] using hj)]; rfl)
    (fun j hj => by rw [World.frozen?, hr]; simp) (sc_one _ _ _ _ _ _ _)
  simpa using this

set_option maxHeartbeats 2000000 in
set_option maxRecDepth 20000 in
theorem subject_any (a1 a2 a3 : Option Addr) (len1 cap1 len2 cap2 len3 cap3 : Nat) (ps qs : Nat → Pm) (es : Nat → En) (w : World) (hm1 : len1 ≤ 1048576) (hm2 : len2 ≤ 1048576) (hm3 : len3 ≤ 1048576) (hn1 : a1 = none → len1 = 0 ∧ cap1 = 0) (hn2 : a2 = none → len2 = 0 ∧ cap2 = 0) (hn3 : a3 = none → len3 = 0 ∧ cap3 = 0)
    (hll : ∀ i, i < len2 → (es i).ll ≤ 1048576) (ok1 : ∀ i, i < len1 → PmOk (ps i)) (ok2 : ∀ i, i < len2 → EnOk (es i)) (ok3 : ∀ i, i < len3 → PmOk (qs i)) (h1 : PermsAt w a1 len1 ps) (h2 : EntriesAt w a2 len2 es) (h3 : PermsAt w a3 len3 qs) :
    Calls Try.prog 22 #[.slice a1 len1 cap1, .slice a2 len2 cap2, .slice a3 len3 cap3] w fun e w' => ∃ s1 c1 m s3 c3, e = .returned (.agg (sc s1 len1 c1 m s3 len3 c3)) ∧ PermsAt w' s1 len1 ps ∧ OrgMapAt w' m len2 es ∧ PermsAt w' s3 len3 qs ∧ Below w.heap.size w w' := by
  have H1 := hide (fun (W : World) (hW : Below w.heap.size w W) => perms_any a1 len1 cap1 ps W hm1 hn1 ok1 (h1.below hW))
  have H2 := hide (fun (W : World) (hW : Below w.heap.size w W) => orgMap_any a2 len2 cap2 es W hm2 hn2 hll ok2 (h2.below hW))
  have H3 := hide (fun (W : World) (hW : Below w.heap.size w W) => perms_any a3 len3 cap3 qs W hm3 hn3 ok3 (h3.below hW))
  clear hn1 hn2 hn3 hll ok1 ok2 ok3 h1 h2 h3
  go_enter Try.func22, Try.ntmps22
  go_wp2_with fail
  have R0 := hide (SubRel.start w _ rfl)
  refine (H1.out _ R0.out.low).mono ?_
  rintro e w1 ⟨s1, c1, rfl, hp1, hb1⟩
  have R1 := hide (R0.out.step hb1)
  have P1 := hide hp1
  clear hp1 hb1 R0
  obtain ⟨d1, d2, d3, d4⟩ := R1.out.var.cells
  have f1 := d4 20
  have R1' := hide (R1.out.set1 s1 len1 c1)
  have P1' := hide (PermsAt.setVar R1.out P1.out 20 (.slice s1 len1 c1))
  clear d2 d3 d4 R1 P1
  go_wp2_with fail
  refine (H2.out _ R1'.out.low).mono ?_
  rintro e w2 ⟨m, rfl, hp2, hb2⟩
  have R2 := hide (R1'.out.step hb2)
  have P2 := hide (And.intro (P1'.out.below hb2) hp2)
  clear hp2 hb2 R1' P1' d1 f1
  obtain ⟨d1, d2, d3, d4⟩ := R2.out.var.cells
  have f1 := d4 21
  have R2' := hide (R2.out.set2 m)
  have P2' := hide (And.intro (PermsAt.setVar R2.out P2.out.1 21 (.map m)) (OrgMapAt.setVar R2.out P2.out.2 21 (.map m)))
  clear d1 d3 d4 R2 P2
  go_wp2_with fail
  refine (H3.out _ R2'.out.low).mono ?_
  rintro e w3 ⟨s3, c3, rfl, hp3, hb3⟩
  have R3 := hide (R2'.out.step hb3)
  have P3 := hide (And.intro (P2'.out.1.below hb3) (And.intro (P2'.out.2.below hb3) hp3))
  clear hp3 hb3 R2' P2' d2 f1
  obtain ⟨d1, d2, d3, d4⟩ := R3.out.var.cells
  have f1 := d4 22
  have R3' := hide (R3.out.set3 s3 len3 c3)
  have P3' := hide (And.intro (PermsAt.setVar R3.out P3.out.1 22 (.slice s3 len3 c3)) (And.intro (OrgMapAt.setVar R3.out P3.out.2.1 22 (.slice s3 len3 c3)) (PermsAt.setVar R3.out P3.out.2.2 22 (.slice s3 len3 c3))))
  clear d1 d2 d4 R3 P3
  have hst := sub_fill R3'.out
  have hsz : (sc s1 len1 c1 m s3 len3 c3).size = 25 := rfl
  go_wp2_with (refine wpList_load_mid rfl 52 _ rfl (w.heap.size + 1) 0 rfl (sc s1 len1 c1 m s3 len3 c3).toList _ R3'.out.var.range Try.underlying52 rfl (info52 _ _ _ _ _ _ _) ?_)
  have hT : (w3.setCell ⟨w.heap.size + 1, 22, none⟩ (.slice s3 len3 c3)).there w.heap.size 0 (sc s1 len1 c1 m s3 len3 c3).toList.length := sub_there R3'.out
  have hld := run_loadVar_mid (P := Try.prog) _ w.heap.size 0 52 _ _ (World.rangeAt_setCells_same _ _ _ _ hT) Try.underlying52 rfl (info52 s1 len1 c1 m s3 len3 c3)
  have hr4 : ∀ b, b ≠ w.heap.size → ((w3.setCell ⟨w.heap.size + 1, 22, none⟩ (.slice s3 len3 c3)).setCells w.heap.size 0 (sc s1 len1 c1 m s3 len3 c3).toList).heap[b]? = (w3.setCell ⟨w.heap.size + 1, 22, none⟩ (.slice s3 len3 c3)).heap[b]? := fun b hb => setCells_other _ _ _ hb
  have hs4 : (w3.setCell ⟨w.heap.size + 1, 22, none⟩ (.slice s3 len3 c3)).heap.size ≤ ((w3.setCell ⟨w.heap.size + 1, 22, none⟩ (.slice s3 len3 c3)).setCells w.heap.size 0 (sc s1 len1 c1 m s3 len3 c3).toList).heap.size := Nat.le_of_eq (setCells_size _ _ _).symm
  refine bodyPost_ret (v := .agg (sc s1 len1 c1 m s3 len3 c3)) (by simp only [results, Try.results22]; simp [asAddr, hld]) rfl ⟨s1, c1, m, s3, c3, rfl, ?_, ?_, ?_, ?_⟩
  · exact P3'.out.1.other (X := w.heap.size) (fun _ _ => R3'.out.res.not_pm) hs4 (fun b o hb => World.cell?_of_block (hr4 b hb))
  · exact P3'.out.2.1.other (X := w.heap.size) (fun _ _ => R3'.out.res.not_pm) R3'.out.res.not_map hs4 hr4
  · exact P3'.out.2.2.other (X := w.heap.size) (fun _ _ => R3'.out.res.not_pm) hs4 (fun b o hb => World.cell?_of_block (hr4 b hb))
  · exact R3'.out.low.trans (setCells_below _ _ _)
end Go.Proofs.Qxb6602785a
