/-
  SEAT b6600977a: THE PLAIN LAW: no Go in sight. A store of two-child nodes ('St'), what newNode, release and set do to it, and what stands behind a run of set.
-/
set_option linter.unusedVariables false
set_option linter.unusedSimpArgs false
namespace Go.Proofs.Qxb6600977a.Pl

/-- A reference from 2^31 on is a leaf. -/
def leaf (r : Nat) : Bool := decide (2147483648 ≤ r)

structure St where
  cnt : Nat
  mem : Nat → Nat × Nat
  free : List Nat

def upd (m : Nat → Nat × Nat) (i : Nat) (v : Nat × Nat) : Nat → Nat × Nat := fun j => if j = i then v else m j

theorem upd_same (m : Nat → Nat × Nat) (i : Nat) (v : Nat × Nat) : upd m i v i = v := by simp [upd]
theorem upd_other (m : Nat → Nat × Nat) (i : Nat) (v : Nat × Nat) {j : Nat} (h : j ≠ i) : upd m i v j = m j := by simp [upd, h]

def newNode (S : St) (v : Nat × Nat) : Nat × St :=
  match S.free.getLast? with
  | some r => (r, { cnt := S.cnt, mem := upd S.mem r v, free := S.free.dropLast })
  | none => (S.cnt, { cnt := S.cnt + 1, mem := upd S.mem S.cnt v, free := [] })

def release : Nat → St → Nat → St
  | 0, S, _ => S
  | n + 1, S, r => if leaf r = true then S else
      { cnt := (release n (release n S (S.mem r).1) (S.mem r).2).cnt, mem := (release n (release n S (S.mem r).1) (S.mem r).2).mem, free := (release n (release n S (S.mem r).1) (S.mem r).2).free ++ [r] }

def split (S : St) (r : Nat) : Nat × St := if leaf r = true then newNode S (r, r) else (r, S)

def fin (r l t : Nat) (S : St) : Nat × St :=
  if l = t ∧ leaf l = true then (l, { cnt := S.cnt, mem := S.mem, free := S.free ++ [r] }) else (r, { cnt := S.cnt, mem := upd S.mem r (l, t), free := S.free })

def set (lo hi lf : Nat) : Nat → St → Nat → Nat → Nat → Nat × St
  | 0, S, r, first, last => if hi < first ∨ last < lo then (r, S) else (lf, S)
  | n + 1, S, r, first, last =>
    if hi < first ∨ last < lo then (r, S) else
    if lo ≤ first ∧ last ≤ hi then (lf, release (n + 1) S r) else
    fin (split S r).1
      (set lo hi lf n (split S r).2 ((split S r).2.mem (split S r).1).1 first (last - 2 ^ n)).1
      (set lo hi lf n (set lo hi lf n (split S r).2 ((split S r).2.mem (split S r).1).1 first (last - 2 ^ n)).2 ((split S r).2.mem (split S r).1).2 (first + 2 ^ n) last).1
      (set lo hi lf n (set lo hi lf n (split S r).2 ((split S r).2.mem (split S r).1).1 first (last - 2 ^ n)).2 ((split S r).2.mem (split S r).1).2 (first + 2 ^ n) last).2

/-! ### What a reference reaches -/
def nodes (m : Nat → Nat × Nat) : Nat → Nat → List Nat
  | 0, _ => []
  | n + 1, r => if leaf r = true then [] else r :: (nodes m n (m r).1 ++ nodes m n (m r).2)

/-- Every way down from r ends at a leaf within n steps; each leaf is a 32-bit number. -/
def deep (m : Nat → Nat × Nat) : Nat → Nat → Prop
  | 0, r => leaf r = true ∧ r < 4294967296
  | n + 1, r => (leaf r = true ∧ r < 4294967296) ∨ (leaf r = false ∧ deep m n (m r).1 ∧ deep m n (m r).2)

def look (m : Nat → Nat × Nat) : Nat → Nat → Nat → Nat
  | 0, r, _ => r
  | n + 1, r, a => if leaf r = true then r else if a / 2 ^ n % 2 = 0 then look m n (m r).1 a else look m n (m r).2 a

def minimal (m : Nat → Nat × Nat) : Nat → Nat → Prop
  | 0, _ => True
  | n + 1, r => leaf r = true ∨ (¬ (leaf (m r).1 = true ∧ (m r).1 = (m r).2) ∧ minimal m n (m r).1 ∧ minimal m n (m r).2)

theorem nodes_leaf {m : Nat → Nat × Nat} {n r : Nat} (h : leaf r = true) : nodes m n r = [] := by cases n <;> simp [nodes, h]
theorem nodes_node {m : Nat → Nat × Nat} {n r : Nat} (h : leaf r = false) : nodes m (n + 1) r = r :: (nodes m n (m r).1 ++ nodes m n (m r).2) := by simp [nodes, h]
theorem deep_leaf {m : Nat → Nat × Nat} {n r : Nat} (h : leaf r = true) (h' : r < 4294967296) : deep m n r := by cases n <;> simp [deep, h, h']
theorem look_leaf {m : Nat → Nat × Nat} {n r a : Nat} (h : leaf r = true) : look m n r a = r := by cases n <;> simp [look, h]
theorem minimal_leaf {m : Nat → Nat × Nat} {n r : Nat} (h : leaf r = true) : minimal m n r := by cases n <;> simp [minimal, h]
theorem deep_node {m : Nat → Nat × Nat} {n r : Nat} (h : leaf r = false) (d : deep m (n + 1) r) : deep m n (m r).1 ∧ deep m n (m r).2 := by
  rcases d with ⟨h', _⟩ | ⟨_, d⟩
  · rw [h] at h'; cases h'
  · exact d
theorem deep_lt {m : Nat → Nat × Nat} {n r : Nat} (d : deep m n r) : r < 4294967296 := by
  cases n with
  | zero => exact d.2
  | succ n =>
    rcases d with ⟨_, h⟩ | ⟨h, _⟩
    · exact h
    · simp [leaf] at h; omega

/-- Two memories that agree on what r reaches give r the same tree. -/
theorem agree {m m' : Nat → Nat × Nat} : ∀ (n r : Nat), (∀ i, i ∈ nodes m n r → m' i = m i) →
    nodes m' n r = nodes m n r ∧ (deep m n r → deep m' n r) ∧ (∀ a, look m' n r a = look m n r a) ∧ (minimal m n r → minimal m' n r)
  | 0, _, _ => ⟨rfl, fun h => h, fun _ => rfl, fun h => h⟩
  | n + 1, r, h => by
    cases hl : leaf r with
    | true => exact ⟨by simp [nodes, hl], fun d => deep_leaf hl (deep_lt d), fun a => by simp [look, hl], fun _ => minimal_leaf hl⟩
    | false =>
      rw [nodes_node hl] at h
      have hr : m' r = m r := h r (by simp)
      obtain ⟨a1, a2, a3, a4⟩ := agree n (m r).1 (fun i hi => h i (by simp [hi]))
      obtain ⟨b1, b2, b3, b4⟩ := agree n (m r).2 (fun i hi => h i (by simp [hi]))
      refine ⟨by rw [nodes_node hl, nodes_node hl, hr, a1, b1], fun d => ?_, fun a => ?_, fun d => ?_⟩
      · obtain ⟨d1, d2⟩ := deep_node hl d
        exact Or.inr ⟨hl, by rw [hr]; exact a2 d1, by rw [hr]; exact b2 d2⟩
      · simp only [look, hl, hr, a3, b3]
      · rcases d with d | ⟨d0, d1, d2⟩
        · rw [hl] at d; cases d
        · exact Or.inr ⟨by rw [hr]; exact d0, by rw [hr]; exact a4 d1, by rw [hr]; exact b4 d2⟩

/-! ### release -/
theorem release_leaf {n : Nat} {S : St} {r : Nat} (h : leaf r = true) : release n S r = S := by cases n <;> simp [release, h]

theorem release_mem : ∀ (n : Nat) (S : St) (r : Nat), (release n S r).mem = S.mem ∧ (release n S r).cnt = S.cnt ∧ ∀ a, (release n S r).free.count a = S.free.count a + (nodes S.mem n r).count a
  | 0, S, r => ⟨rfl, rfl, fun a => by simp [release, nodes]⟩
  | n + 1, S, r => by
    cases hl : leaf r with
    | true => rw [release_leaf hl, nodes_leaf hl]; exact ⟨rfl, rfl, fun a => by simp⟩
    | false =>
      obtain ⟨a1, a2, a3⟩ := release_mem n S (S.mem r).1
      obtain ⟨b1, b2, b3⟩ := release_mem n (release n S (S.mem r).1) (S.mem r).2
      simp only [release, hl, Bool.false_eq_true, if_false]
      refine ⟨b1.trans a1, b2.trans a2, fun a => ?_⟩
      rw [List.count_append, b3, a3, a1, nodes_node hl]
      simp only [List.count_cons, List.count_append, List.count_nil]
      omega

/-! ### The invariant: r reaches each of its nodes once; what r reaches, what the others reach (x), what is free are together each node once -/
structure Inv (n : Nat) (S : St) (r : Nat) (x : Nat → Nat) : Prop where
  deep : deep S.mem n r
  once : ∀ a, (nodes S.mem n r).count a + x a + S.free.count a = if a < S.cnt then 1 else 0

theorem Inv.lt {n : Nat} {S : St} {r : Nat} {x : Nat → Nat} (h : Inv n S r x) {a : Nat} (ha : 0 < (nodes S.mem n r).count a + x a + S.free.count a) : a < S.cnt := by
  have := h.once a
  split at this
  · assumption
  · omega

theorem count_pos_of_mem {a : Nat} {l : List Nat} (h : a ∈ l) : 0 < l.count a := List.count_pos_iff.2 h

/-! ### newNode -/
theorem newNode_some {S : St} {r : Nat} {fr : List Nat} (v : Nat × Nat) (h : S.free = fr ++ [r]) : newNode S v = (r, { cnt := S.cnt, mem := upd S.mem r v, free := fr }) := by
  simp [newNode, h]
theorem newNode_none {S : St} (v : Nat × Nat) (h : S.free = []) : newNode S v = (S.cnt, { cnt := S.cnt + 1, mem := upd S.mem S.cnt v, free := [] }) := by
  simp [newNode, h]

/-- Free or not: the two ways of newNode. -/
theorem free_cases (S : St) : S.free = [] ∨ ∃ fr r, S.free = fr ++ [r] := by
  cases h : S.free.reverse with
  | nil => exact Or.inl (by simpa using h)
  | cons r fr => exact Or.inr ⟨fr.reverse, r, by simpa using congrArg List.reverse h⟩

/-- What newNode does: the node was none of those in use, and is none of the free ones any more. -/
theorem newNode_spec (S : St) (v : Nat × Nat) (y : Nat → Nat) (h : ∀ a, y a + S.free.count a = if a < S.cnt then 1 else 0) :
    (∀ a, y a + (if a = (newNode S v).1 then 1 else 0) + (newNode S v).2.free.count a = if a < (newNode S v).2.cnt then 1 else 0) ∧
    (newNode S v).2.mem = upd S.mem (newNode S v).1 v ∧ S.cnt ≤ (newNode S v).2.cnt ∧ (newNode S v).2.cnt ≤ S.cnt + 1 ∧ (newNode S v).1 < (newNode S v).2.cnt ∧ y (newNode S v).1 = 0 := by
  rcases free_cases S with hf | ⟨fr, r, hf⟩
  · rw [newNode_none v hf]
    rw [hf] at h
    simp only [List.count_nil, Nat.add_zero] at h ⊢
    refine ⟨fun a => ?_, trivial, by omega, by omega, by omega, ?_⟩
    · have := h a
      by_cases e : a = S.cnt
      · subst e; simp at this ⊢; omega
      · simp only [e, if_false, this]; by_cases e' : a < S.cnt
        · simp [e']; omega
        · simp [e']; omega
    · have := h S.cnt; simpa using this
  · rw [newNode_some v hf]
    rw [hf] at h
    simp only [List.count_append, List.count_singleton] at h ⊢
    have hr := h r
    simp only [beq_self_eq_true, if_true] at hr
    have hlt : r < S.cnt := by
      by_cases e : r < S.cnt
      · exact e
      · simp [e] at hr
    refine ⟨fun a => ?_, trivial, Nat.le_refl _, by omega, hlt, by simp [hlt] at hr; omega⟩
    have ha := h a
    by_cases e : a = r
    · subst e; simp at ha ⊢; omega
    · have : (r == a) = false := by simpa using fun e' => e e'.symm
      simp only [this, e] at ha ⊢
      simpa using ha

theorem leaf_false_of_lt {r : Nat} (h : r < 2147483648) : leaf r = false := by simp [leaf]; omega
theorem leaf_true_of_ge {r : Nat} (h : 2147483648 ≤ r) : leaf r = true := by simp [leaf]; omega


/-! ### set -/
theorem split_cnt (S : St) (r : Nat) : S.cnt ≤ (split S r).2.cnt ∧ (split S r).2.cnt ≤ S.cnt + 1 := by
  unfold split
  split
  · rcases free_cases S with hf | ⟨fr, q, hf⟩
    · rw [newNode_none _ hf]; exact ⟨Nat.le_succ _, Nat.le_refl _⟩
    · rw [newNode_some _ hf]; exact ⟨Nat.le_refl _, Nat.le_succ _⟩
  · exact ⟨Nat.le_refl _, Nat.le_succ _⟩

theorem fin_cnt (r l t : Nat) (S : St) : (fin r l t S).2.cnt = S.cnt := by
  unfold fin; split <;> rfl

theorem set_mono (lo hi lf : Nat) : ∀ (n : Nat) (S : St) (r first last : Nat), S.cnt ≤ (set lo hi lf n S r first last).2.cnt
  | 0, S, r, first, last => by unfold set; split <;> exact Nat.le_refl _
  | n + 1, S, r, first, last => by
    unfold set
    split
    · exact Nat.le_refl _
    · split
      · exact Nat.le_of_eq (release_mem (n + 1) S r).2.1.symm
      · rw [fin_cnt]
        have h1 := split_cnt S r
        have h2 := set_mono lo hi lf n (split S r).2 ((split S r).2.mem (split S r).1).1 first (last - 2 ^ n)
        have h3 := set_mono lo hi lf n (set lo hi lf n (split S r).2 ((split S r).2.mem (split S r).1).1 first (last - 2 ^ n)).2 ((split S r).2.mem (split S r).1).2 (first + 2 ^ n) last
        omega

/-- How many new nodes a write may take: none where the range misses or covers the subtree, one a level where it covers one of its ends, two a level else. -/
def cost (lo hi n first last : Nat) : Nat :=
  if hi < first ∨ last < lo then 0 else if lo ≤ first ∧ last ≤ hi then 0 else if lo ≤ first ∨ last ≤ hi then n else 2 * n

theorem cost_step (lo hi n p first last : Nat) (hp : 0 < p) (hl : last + 1 = first + 2 * p) (h1 : ¬ (hi < first ∨ last < lo)) (h2 : ¬ (lo ≤ first ∧ last ≤ hi)) :
    1 + cost lo hi n first (last - p) + cost lo hi n (first + p) last ≤ cost lo hi (n + 1) first last := by
  unfold cost
  rw [if_neg h1, if_neg h2]
  split <;> split <;> (try split) <;> (try split) <;> (try split) <;> (try split) <;> (try split) <;> omega

theorem set_cost (lo hi lf : Nat) : ∀ (n : Nat) (S : St) (r first last : Nat), last + 1 = first + 2 ^ n → (set lo hi lf n S r first last).2.cnt ≤ S.cnt + cost lo hi n first last
  | 0, S, r, first, last, _ => by unfold set; split <;> exact Nat.le_add_right _ _
  | n + 1, S, r, first, last, hl => by
    have hp : 0 < 2 ^ n := Nat.pow_pos (by omega)
    have e : 2 ^ (n + 1) = 2 * 2 ^ n := by rw [Nat.pow_succ]; omega
    rw [e] at hl
    unfold set
    split
    · exact Nat.le_add_right _ _
    · rename_i c1
      split
      · rw [(release_mem (n + 1) S r).2.1]; exact Nat.le_add_right _ _
      · rename_i c2
        rw [fin_cnt]
        have h1 := split_cnt S r
        have h2 := set_cost lo hi lf n (split S r).2 ((split S r).2.mem (split S r).1).1 first (last - 2 ^ n) (by omega)
        have h3 := set_cost lo hi lf n (set lo hi lf n (split S r).2 ((split S r).2.mem (split S r).1).1 first (last - 2 ^ n)).2 ((split S r).2.mem (split S r).1).2 (first + 2 ^ n) last (by omega)
        have h4 := cost_step lo hi n (2 ^ n) first last hp hl c1 c2
        omega

theorem cost_le (lo hi n first last : Nat) : cost lo hi n first last ≤ 2 * n := by
  unfold cost; repeat (first | split | omega)

/-- The node that set works on: r itself, or the new one under which it lays the leaf r twice. -/
structure Opened (n : Nat) (S : St) (r : Nat) (x : Nat → Nat) (S0 : St) (r0 l0 t0 : Nat) : Prop where
  node : leaf r0 = false
  here : S0.mem r0 = (l0, t0)
  deepl : deep S0.mem n l0
  deept : deep S0.mem n t0
  once : ∀ a, (nodes S0.mem n l0).count a + (nodes S0.mem n t0).count a + (if a = r0 then 1 else 0) + x a + S0.free.count a = if a < S0.cnt then 1 else 0
  frame : ∀ i, 0 < x i → S0.mem i = S.mem i
  lookl : ∀ a, a / 2 ^ n % 2 = 0 → look S0.mem n l0 a = look S.mem (n + 1) r a
  lookt : ∀ a, ¬ a / 2 ^ n % 2 = 0 → look S0.mem n t0 a = look S.mem (n + 1) r a
  minl : minimal S.mem (n + 1) r → minimal S0.mem n l0 ∧ minimal S0.mem n t0

theorem opened {n : Nat} {S : St} {r : Nat} {x : Nat → Nat} (h : Inv (n + 1) S r x) (hc : (split S r).2.cnt ≤ 2147483648) :
    Opened n S r x (split S r).2 (split S r).1 ((split S r).2.mem (split S r).1).1 ((split S r).2.mem (split S r).1).2 := by
  cases hl : leaf r with
  | false =>
    have e : split S r = (r, S) := by simp [split, hl]
    rw [e]
    obtain ⟨d1, d2⟩ := deep_node hl h.deep
    refine ⟨hl, rfl, d1, d2, fun a => ?_, fun _ _ => rfl, fun a ha => ?_, fun a ha => ?_, fun hm => ?_⟩
    · have := h.once a
      rw [nodes_node hl] at this
      simp only [List.count_cons, List.count_append] at this
      by_cases e : a = r
      · subst e; simp at this ⊢; omega
      · have e' : (r == a) = false := by simpa using fun h => e h.symm
        simp [e', e] at this ⊢; omega
    · simp [look, hl, ha]
    · simp [look, hl, ha]
    · rcases hm with hm | ⟨_, hm⟩
      · rw [hl] at hm; cases hm
      · exact hm
  | true =>
    have e : split S r = newNode S (r, r) := by simp [split, hl]
    rw [e] at hc ⊢
    have ho := h.once
    rw [nodes_leaf hl] at ho
    simp only [List.count_nil, Nat.zero_add] at ho
    obtain ⟨n1, n2, n3, n4, n5, n6⟩ := newNode_spec S (r, r) x ho
    have n7 : (newNode S (r, r)).2.mem (newNode S (r, r)).1 = (r, r) := by rw [n2, upd_same]
    rw [n7]
    have hr := deep_lt h.deep
    refine ⟨leaf_false_of_lt (by omega), n7, deep_leaf hl hr, deep_leaf hl hr, fun a => ?_, fun i hi => ?_, fun a _ => ?_, fun a _ => ?_, fun _ => ⟨minimal_leaf hl, minimal_leaf hl⟩⟩
    · rw [nodes_leaf hl, ← n1 a]; simp only [List.count_nil]; omega
    · rw [n2, upd_other]
      intro e; rw [e] at hi; omega
    · rw [look_leaf hl, look_leaf hl]
    · rw [look_leaf hl, look_leaf hl]

/-- The bit that parts the two halves. -/
theorem half_bit {n first a : Nat} (hf : first % 2 ^ (n + 1) = 0) (h1 : first ≤ a) (h2 : a < first + 2 ^ (n + 1)) : a / 2 ^ n % 2 = 0 ↔ a < first + 2 ^ n := by
  have hp : 0 < 2 ^ n := Nat.pow_pos (by omega)
  have e : 2 ^ (n + 1) = 2 ^ n * 2 := Nat.pow_succ _ _
  rw [e] at hf h2
  obtain ⟨q, rfl⟩ := Nat.dvd_of_mod_eq_zero hf
  obtain ⟨d, rfl⟩ : ∃ d, a = 2 ^ n * 2 * q + d := ⟨a - 2 ^ n * 2 * q, by omega⟩
  have e2 : (2 ^ n * 2 * q + d) / 2 ^ n = 2 * q + d / 2 ^ n := by rw [Nat.mul_assoc, Nat.mul_add_div hp]
  rw [e2, Nat.mul_add_mod]
  have hd : d < 2 ^ n * 2 := by omega
  by_cases hc : d < 2 ^ n
  · rw [Nat.div_eq_of_lt hc]; simp; omega
  · have : d / 2 ^ n = 1 := by
      refine Nat.div_eq_of_lt_le ?_ ?_ <;> omega
    rw [this]; simp; omega

theorem half_aligned {n first : Nat} (hf : first % 2 ^ (n + 1) = 0) : first % 2 ^ n = 0 ∧ (first + 2 ^ n) % 2 ^ n = 0 := by
  have e : 2 ^ (n + 1) = 2 ^ n * 2 := Nat.pow_succ _ _
  rw [e] at hf
  obtain ⟨q, rfl⟩ := Nat.dvd_of_mod_eq_zero hf
  exact ⟨by rw [Nat.mul_assoc]; exact Nat.mul_mod_right _ _, by rw [Nat.add_mod_right, Nat.mul_assoc]; exact Nat.mul_mod_right _ _⟩

/-- What set leaves behind. -/
structure Done (lo hi lf n : Nat) (S : St) (r first last : Nat) (x : Nat → Nat) (o : Nat × St) : Prop where
  inv : Inv n o.2 o.1 x
  frame : ∀ i, 0 < x i → o.2.mem i = S.mem i
  look : ∀ a, first ≤ a → a ≤ last → look o.2.mem n o.1 a = if lo ≤ a ∧ a ≤ hi then lf else look S.mem n r a
  minl : minimal S.mem n r → minimal o.2.mem n o.1

theorem done_miss {lo hi lf n : Nat} {S : St} {r first last : Nat} {x : Nat → Nat} (h : Inv n S r x) (hm : hi < first ∨ last < lo) : Done lo hi lf n S r first last x (r, S) :=
  ⟨h, fun _ _ => rfl, fun a h1 h2 => by rw [if_neg (by omega)], fun hm => hm⟩

theorem done_cover {lo hi lf n : Nat} {S : St} {r first last : Nat} {x : Nat → Nat} (hlf : leaf lf = true) (hlf' : lf < 4294967296) (h : Inv n S r x) (hm : lo ≤ first ∧ last ≤ hi) : Done lo hi lf n S r first last x (lf, release n S r) := by
  obtain ⟨m1, m2, m3⟩ := release_mem n S r
  refine ⟨⟨deep_leaf hlf hlf', fun a => ?_⟩, fun i _ => by rw [m1], fun a h1 h2 => by rw [if_pos (by omega)]; exact look_leaf hlf, fun _ => minimal_leaf hlf⟩
  have := h.once a
  simp only [m2, m3, nodes_leaf hlf, List.count_nil]
  omega

/-- The two parts of set's second half. -/
structure Both (lo hi lf n : Nat) (S : St) (r first last : Nat) (x : Nat → Nat) (S0 : St) (r0 l0 t0 : Nat) (L R : Nat × St) : Prop where
  op : Opened n S r x S0 r0 l0 t0
  left : Done lo hi lf n S0 l0 first (last - 2 ^ n) (fun a => (nodes S0.mem n t0).count a + (if a = r0 then 1 else 0) + x a) L
  right : Done lo hi lf n L.2 t0 (first + 2 ^ n) last (fun a => (nodes L.2.mem n L.1).count a + (if a = r0 then 1 else 0) + x a) R

/-- The right half lies in the world behind the left one as it lay before. -/
theorem right_inv {lo hi lf n : Nat} {S : St} {r first last : Nat} {x : Nat → Nat} {S0 : St} {r0 l0 t0 : Nat} {L : Nat × St} (op : Opened n S r x S0 r0 l0 t0)
    (left : Done lo hi lf n S0 l0 first (last - 2 ^ n) (fun a => (nodes S0.mem n t0).count a + (if a = r0 then 1 else 0) + x a) L) :
    Inv n L.2 t0 (fun a => (nodes L.2.mem n L.1).count a + (if a = r0 then 1 else 0) + x a) ∧ nodes L.2.mem n t0 = nodes S0.mem n t0 ∧ (∀ a, Pl.look L.2.mem n t0 a = Pl.look S0.mem n t0 a) ∧ (minimal S0.mem n t0 → minimal L.2.mem n t0) := by
  obtain ⟨a1, a2, a3, a4⟩ := agree (m := S0.mem) (m' := L.2.mem) n t0 (fun i hi => left.frame i (by have := count_pos_of_mem hi; omega))
  refine ⟨⟨a2 op.deept, fun a => ?_⟩, a1, a3, a4⟩
  have := left.inv.once a
  rw [a1]; omega

theorem left_inv {n : Nat} {S : St} {r : Nat} {x : Nat → Nat} {S0 : St} {r0 l0 t0 : Nat} (op : Opened n S r x S0 r0 l0 t0) :
    Inv n S0 l0 (fun a => (nodes S0.mem n t0).count a + (if a = r0 then 1 else 0) + x a) :=
  ⟨op.deepl, fun a => by have := op.once a; omega⟩

theorem both_done {lo hi lf n : Nat} {S : St} {r first last : Nat} {x : Nat → Nat} {S0 : St} {r0 l0 t0 : Nat} {L R : Nat × St} (b : Both lo hi lf n S r first last x S0 r0 l0 t0 L R)
    (hf : first % 2 ^ (n + 1) = 0) (hl : last + 1 = first + 2 ^ (n + 1)) : Done lo hi lf (n + 1) S r first last x (fin r0 L.1 R.1 R.2) := by
  obtain ⟨op, left, right⟩ := b
  obtain ⟨ri, rn, rl, rm⟩ := right_inv op left
  have hp : 0 < 2 ^ n := Nat.pow_pos (by omega)
  have e : 2 ^ (n + 1) = 2 ^ n * 2 := Nat.pow_succ _ _
  -- what the left half has become lies behind the right half as it lay before
  obtain ⟨a1, a2, a3, a4⟩ := agree (m := L.2.mem) (m' := R.2.mem) n L.1 (fun i hi => right.frame i (by have := count_pos_of_mem hi; omega))
  have once2 := right.inv.once
  have x0 : ∀ i, 0 < x i → i ≠ r0 := by
    intro i hi e0
    have := op.once i
    simp only [e0, if_true] at this
    rw [e0] at hi
    split at this <;> omega
  have fr : ∀ i, 0 < x i → R.2.mem i = S.mem i := by
    intro i hi
    exact ((right.frame i (by omega)).trans (left.frame i (by omega))).trans (op.frame i hi)
  have lkL : ∀ a, first ≤ a → a < first + 2 ^ n → Pl.look R.2.mem n L.1 a = if lo ≤ a ∧ a ≤ hi then lf else Pl.look S.mem (n + 1) r a := by
    intro a h1 h2
    rw [a3, left.look a h1 (by omega), op.lookl a ((half_bit hf h1 (by omega)).2 h2)]
  have lkR : ∀ a, first + 2 ^ n ≤ a → a ≤ last → Pl.look R.2.mem n R.1 a = if lo ≤ a ∧ a ≤ hi then lf else Pl.look S.mem (n + 1) r a := by
    intro a h1 h2
    rw [right.look a h1 h2, rl, op.lookt a (fun h => by have := (half_bit hf (by omega) (by omega)).1 h; omega)]
  unfold fin
  split
  · rename_i hc
    obtain ⟨e1, e2⟩ := hc
    have e3 : leaf R.1 = true := by rw [← e1]; exact e2
    refine ⟨⟨deep_leaf e2 (deep_lt left.inv.deep), fun a => ?_⟩, fr, fun a h1 h2 => ?_, fun _ => minimal_leaf e2⟩
    · have := once2 a
      rw [nodes_leaf e3, nodes_leaf e2] at this
      simp only [nodes_leaf e2, List.count_append, List.count_singleton, List.count_nil] at this ⊢
      by_cases ea : a = r0
      · subst ea; simp at this ⊢; omega
      · have e' : (r0 == a) = false := by simpa using fun h => ea h.symm
        simp [e', ea] at this ⊢; omega
    · show Pl.look R.2.mem (n + 1) L.1 a = _
      rw [look_leaf e2]
      by_cases hh : a < first + 2 ^ n
      · rw [← lkL a h1 hh, look_leaf e2]
      · rw [← lkR a (by omega) h2, look_leaf e3, e1]
  · rename_i hc
    have hnot : r0 ∉ nodes R.2.mem n L.1 ∧ r0 ∉ nodes R.2.mem n R.1 := by
      have h0 := once2 r0
      rw [← a1] at h0
      simp only [if_true] at h0
      constructor <;> (intro hm; have := count_pos_of_mem hm; split at h0 <;> omega)
    obtain ⟨b1, b2, b3, b4⟩ := agree (m := R.2.mem) (m' := upd R.2.mem r0 (L.1, R.1)) n L.1 (fun i hi => upd_other _ _ _ (fun e0 => hnot.1 (e0 ▸ hi)))
    obtain ⟨c1, c2, c3, c4⟩ := agree (m := R.2.mem) (m' := upd R.2.mem r0 (L.1, R.1)) n R.1 (fun i hi => upd_other _ _ _ (fun e0 => hnot.2 (e0 ▸ hi)))
    have hu := upd_same R.2.mem r0 (L.1, R.1)
    refine ⟨⟨Or.inr ⟨op.node, ?_, ?_⟩, fun a => ?_⟩, fun i hi => ?_, fun a h1 h2 => ?_, fun hm => ?_⟩
    · show deep (upd R.2.mem r0 (L.1, R.1)) n (upd R.2.mem r0 (L.1, R.1) r0).1
      rw [hu]; exact b2 (a2 left.inv.deep)
    · show deep (upd R.2.mem r0 (L.1, R.1)) n (upd R.2.mem r0 (L.1, R.1) r0).2
      rw [hu]; exact c2 right.inv.deep
    · show (nodes (upd R.2.mem r0 (L.1, R.1)) (n + 1) r0).count a + x a + R.2.free.count a = _
      have := once2 a
      rw [nodes_node op.node, hu]
      simp only [b1, c1, a1, List.count_cons, List.count_append]
      by_cases ea : a = r0
      · subst ea; simp at this ⊢; omega
      · have e' : (r0 == a) = false := by simpa using fun h => ea h.symm
        simp [e', ea] at this ⊢; omega
    · show upd R.2.mem r0 (L.1, R.1) i = _
      rw [upd_other _ _ _ (x0 i hi)]; exact fr i hi
    · show Pl.look (upd R.2.mem r0 (L.1, R.1)) (n + 1) r0 a = _
      simp only [Pl.look, op.node, hu, Bool.false_eq_true, if_false]
      by_cases hh : a < first + 2 ^ n
      · rw [if_pos ((half_bit hf h1 (by omega)).2 hh), b3]; exact lkL a h1 hh
      · rw [if_neg (fun h => hh ((half_bit hf h1 (by omega)).1 h)), c3]; exact lkR a (by omega) h2
    · obtain ⟨m1, m2⟩ := op.minl hm
      refine Or.inr ⟨?_, ?_, ?_⟩
      · show ¬ (leaf (upd R.2.mem r0 (L.1, R.1) r0).1 = true ∧ (upd R.2.mem r0 (L.1, R.1) r0).1 = (upd R.2.mem r0 (L.1, R.1) r0).2)
        rw [hu]; exact fun h => hc ⟨h.2, h.1⟩
      · show minimal (upd R.2.mem r0 (L.1, R.1)) n (upd R.2.mem r0 (L.1, R.1) r0).1
        rw [hu]; exact b4 (a4 (left.minl m1))
      · show minimal (upd R.2.mem r0 (L.1, R.1)) n (upd R.2.mem r0 (L.1, R.1) r0).2
        rw [hu]; exact c4 (right.minl (rm m2))

theorem set_done (lo hi lf : Nat) (hlf : leaf lf = true) (hlf' : lf < 4294967296) : ∀ (n : Nat) (S : St) (r first last : Nat) (x : Nat → Nat), Inv n S r x → first % 2 ^ n = 0 → last + 1 = first + 2 ^ n →
    (set lo hi lf n S r first last).2.cnt ≤ 2147483648 → Done lo hi lf n S r first last x (set lo hi lf n S r first last)
  | 0, S, r, first, last, x, h, _, hl, _ => by
    unfold set
    split
    · exact done_miss h ‹_›
    · exact done_cover hlf hlf' h (by simp at hl; omega)
  | n + 1, S, r, first, last, x, h, hf, hl, hc => by
    have hp : 0 < 2 ^ n := Nat.pow_pos (by omega)
    have e : 2 ^ (n + 1) = 2 ^ n * 2 := Nat.pow_succ _ _
    unfold set at hc ⊢
    split
    · exact done_miss h ‹_›
    · split
      · exact done_cover hlf hlf' h ‹_›
      · rename_i c1 c2
        rw [if_neg c1, if_neg c2, fin_cnt] at hc
        have m1 := set_mono lo hi lf n (split S r).2 ((split S r).2.mem (split S r).1).1 first (last - 2 ^ n)
        have m2 := set_mono lo hi lf n (set lo hi lf n (split S r).2 ((split S r).2.mem (split S r).1).1 first (last - 2 ^ n)).2 ((split S r).2.mem (split S r).1).2 (first + 2 ^ n) last
        have op := opened h (by omega)
        have left := set_done lo hi lf hlf hlf' n (split S r).2 ((split S r).2.mem (split S r).1).1 first (last - 2 ^ n) _ (left_inv op) (half_aligned hf).1 (by omega) (by omega)
        exact both_done ⟨op, left, set_done lo hi lf hlf hlf' n _ _ (first + 2 ^ n) last _ (right_inv op left).1 (half_aligned hf).2 (by omega) (by omega)⟩ hf hl

end Go.Proofs.Qxb6600977a.Pl
