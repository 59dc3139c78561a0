/-
  BOrder, the plain law, no Go in sight: stable sorting by swaps. Own work of this seat.
-/
namespace Go.Proofs.Ybulkaaso

/-- a strict weak order, decided -/
structure Weak (lt : Nat → Nat → Bool) : Prop where
  irr : ∀ x, lt x x = false
  trans : ∀ x y z, lt x y = true → lt y z = true → lt x z = true
  neg : ∀ x y z, lt x z = true → lt x y = true ∨ lt y z = true

/-- less, or neither and earlier -/
def Prec (lt : Nat → Nat → Bool) (x y : Nat) : Prop := lt x y = true ∨ (lt y x = false ∧ x < y)

section
variable {lt : Nat → Nat → Bool}

theorem Weak.asym (h : Weak lt) {x y : Nat} (e : lt x y = true) : lt y x = false := by
  cases hh : lt y x with
  | false => rfl
  | true => have := h.trans _ _ _ e hh; rw [h.irr] at this; cases this

theorem Prec.trans (h : Weak lt) {x y z : Nat} (a : Prec lt x y) (b : Prec lt y z) : Prec lt x z := by
  rcases a with a | ⟨a, a'⟩
  · rcases b with b | ⟨b, b'⟩
    · exact Or.inl (h.trans _ _ _ a b)
    · rcases h.neg x z y a with e | e
      · exact Or.inl e
      · rw [b] at e; cases e
  · rcases b with b | ⟨b, b'⟩
    · rcases h.neg y x z b with e | e
      · rw [a] at e; cases e
      · exact Or.inl e
    · refine Or.inr ⟨?_, by omega⟩
      cases e : lt z x with
      | false => rfl
      | true => rcases h.neg z y x e with e | e
                · rw [b] at e; cases e
                · rw [a] at e; cases e

theorem Prec.irr (h : Weak lt) {x : Nat} (a : Prec lt x x) : False := by
  rcases a with a | ⟨_, a⟩
  · rw [h.irr] at a; cases a
  · omega

theorem Prec.total {x y : Nat} (h : x ≠ y) : Prec lt x y ∨ Prec lt y x := by
  cases e : lt x y with
  | true => exact Or.inl (Or.inl e)
  | false =>
    cases e2 : lt y x with
    | true => exact Or.inr (Or.inl e2)
    | false => rcases Nat.lt_or_gt_of_ne h with h | h
               · exact Or.inl (Or.inr ⟨e2, h⟩)
               · exact Or.inr (Or.inr ⟨e, h⟩)

/-! ### rows by the index: 'd k' is what lies at place k -/

def swp (d : Nat → Nat) (i j : Nat) : Nat → Nat := fun k => if k = i then d j else if k = j then d i else d k

def Sorted (lt : Nat → Nat → Bool) (a b : Nat) (d : Nat → Nat) : Prop := ∀ i j, a ≤ i → i < j → j < b → Prec lt (d i) (d j)

/-- reached by swaps within [a, b) -/
inductive Sw (a b : Nat) : (Nat → Nat) → (Nat → Nat) → Prop
  | refl (d : Nat → Nat) : Sw a b d d
  | step {d d' : Nat → Nat} (h : Sw a b d d') (i j : Nat) (hi : a ≤ i ∧ i < b) (hj : a ≤ j ∧ j < b) : Sw a b d (swp d' i j)

theorem Sw.trans {a b : Nat} {d e f : Nat → Nat} (h : Sw a b d e) (k : Sw a b e f) : Sw a b d f := by
  induction k with
  | refl => exact h
  | step _ i j hi hj ih => exact ih.step i j hi hj

theorem Sw.mono {a b a' b' : Nat} {d e : Nat → Nat} (h : Sw a b d e) (ha : a' ≤ a) (hb : b ≤ b') : Sw a' b' d e := by
  induction h with
  | refl => exact .refl _
  | step _ i j hi hj ih => exact ih.step i j (by omega) (by omega)

theorem Sw.out {a b : Nat} {d e : Nat → Nat} (h : Sw a b d e) {k : Nat} (hk : k < a ∨ b ≤ k) : e k = d k := by
  induction h with
  | refl => rfl
  | step _ i j hi hj ih => unfold swp; rw [if_neg (by omega), if_neg (by omega)]; exact ih

/-- what lies at a place within lay at a place within -/
theorem Sw.from {a b : Nat} {d e : Nat → Nat} (h : Sw a b d e) : ∀ k, a ≤ k → k < b → ∃ k', a ≤ k' ∧ k' < b ∧ e k = d k' := by
  induction h with
  | refl => exact fun k h1 h2 => ⟨k, h1, h2, rfl⟩
  | step _ i j hi hj ih =>
    intro k h1 h2
    unfold swp
    split
    · exact ih j hj.1 hj.2
    · split
      · exact ih i hi.1 hi.2
      · exact ih k h1 h2

/-- a set of values that holds the window before holds it after -/
theorem Sw.all {a b : Nat} {d e : Nat → Nat} (h : Sw a b d e) {p : Nat → Prop} (hp : ∀ k, a ≤ k → k < b → p (d k)) : ∀ k, a ≤ k → k < b → p (e k) := fun k h1 h2 => by
  obtain ⟨k', h3, h4, e⟩ := h.from k h1 h2
  rw [e]; exact hp k' h3 h4

theorem Sorted.congr {a b : Nat} {d e : Nat → Nat} (h : Sorted lt a b d) (he : ∀ k, a ≤ k → k < b → e k = d k) : Sorted lt a b e := fun i j h1 h2 h3 => by
  rw [he i h1 (by omega), he j (by omega) h3]; exact h i j h1 h2 h3

/-! ### insertion -/

structure Outer (lt : Nat → Nat → Bool) (a b i : Nat) (d0 d : Nat → Nat) : Prop where
  sw : Sw a b d0 d
  sorted : Sorted lt a i d
  low : ∀ q r, a ≤ q → q < i → i ≤ r → r < b → d q < d r
  inc : ∀ q r, i ≤ q → q < r → r < b → d q < d r

structure Inner (lt : Nat → Nat → Bool) (a b i j : Nat) (d0 d : Nat → Nat) : Prop where
  sw : Sw a b d0 d
  sorted : ∀ p q, a ≤ p → p < q → q ≤ i → p ≠ j → q ≠ j → Prec lt (d p) (d q)
  above : ∀ q, j < q → q ≤ i → Prec lt (d j) (d q)
  less : ∀ q, a ≤ q → q ≤ i → q ≠ j → d q < d j
  low : ∀ q r, a ≤ q → q ≤ i → i < r → r < b → d q < d r
  inc : ∀ q r, i < q → q < r → r < b → d q < d r

theorem Outer.start {a b : Nat} {d : Nat → Nat} (h : ∀ q r, a ≤ q → q < r → r < b → d q < d r) : Outer lt a b (a + 1) d d where
  sw := .refl _
  sorted := fun i j h1 h2 h3 => by omega
  low := fun q r h1 h2 h3 h4 => h q r h1 (by omega) h4
  inc := fun q r h1 h2 h3 => h q r (by omega) h2 h3

theorem Outer.inner {a b i : Nat} {d0 d : Nat → Nat} (h : Outer lt a b i d0 d) (hi : i < b) : Inner lt a b i i d0 d where
  sw := h.sw
  sorted := fun p q h1 h2 h3 h4 h5 => h.sorted p q h1 h2 (by omega)
  above := fun q h1 h2 => by omega
  less := fun q h1 h2 h3 => h.low q i h1 (by omega) (Nat.le_refl _) hi
  low := fun q r h1 h2 h3 h4 => by
    by_cases e : q = i
    · subst e; exact h.inc q r (Nat.le_refl _) h3 h4
    · exact h.low q r h1 (by omega) (by omega) h4
  inc := fun q r h1 h2 h3 => h.inc q r (by omega) h2 h3

theorem Inner.step {a b i j : Nat} {d0 d : Nat → Nat} (h : Inner lt a b i (j + 1) d0 d) (hj : a ≤ j) (hji : j + 1 ≤ i) (hib : i < b) (hl : lt (d (j + 1)) (d j) = true) : Inner lt a b i j d0 (swp d (j + 1) j) where
  sw := h.sw.step (j + 1) j (by omega) (by omega)
  sorted := fun p q h1 h2 h3 h4 h5 => by
    unfold swp
    by_cases e1 : p = j + 1
    · subst e1
      rw [if_pos rfl, if_neg (by omega), if_neg (by omega)]
      exact h.sorted j q hj (by omega) h3 (by omega) (by omega)
    · by_cases e2 : q = j + 1
      · subst e2
        rw [if_neg e1, if_neg h4, if_pos rfl]
        exact h.sorted p j h1 (by omega) (by omega) e1 (by omega)
      · rw [if_neg e1, if_neg h4, if_neg e2, if_neg h5]
        exact h.sorted p q h1 h2 h3 e1 e2
  above := fun q h1 h2 => by
    unfold swp
    rw [if_neg (by omega), if_pos rfl]
    by_cases e : q = j + 1
    · rw [if_pos e]; exact Or.inl hl
    · rw [if_neg e, if_neg (by omega)]; exact h.above q (by omega) h2
  less := fun q h1 h2 h3 => by
    unfold swp
    rw [if_neg (show ¬ j = j + 1 by omega), if_pos (show j = j from rfl)]
    by_cases e : q = j + 1
    · rw [if_pos e]; exact h.less j hj (by omega) (by omega)
    · rw [if_neg e, if_neg h3]; exact h.less q h1 h2 e
  low := fun q r h1 h2 h3 h4 => by
    unfold swp
    rw [if_neg (show ¬ r = j + 1 by omega), if_neg (show ¬ r = j by omega)]
    by_cases e : q = j + 1
    · rw [if_pos e]; exact h.low j r hj (by omega) h3 h4
    · rw [if_neg e]
      by_cases e2 : q = j
      · rw [if_pos e2]; exact h.low (j + 1) r (by omega) hji h3 h4
      · rw [if_neg e2]; exact h.low q r h1 h2 h3 h4
  inc := fun q r h1 h2 h3 => by
    unfold swp
    rw [if_neg (by omega), if_neg (by omega), if_neg (by omega), if_neg (by omega)]
    exact h.inc q r h1 h2 h3

theorem Inner.stop (hw : Weak lt) {a b i j : Nat} {d0 d : Nat → Nat} (h : Inner lt a b i j d0 d) (hj : a ≤ j) (hji : j ≤ i) (hs : j = a ∨ lt (d j) (d (j - 1)) = false) : Outer lt a b (i + 1) d0 d where
  sw := h.sw
  sorted := fun p q h1 h2 h3 => by
    by_cases e1 : p = j
    · subst e1; exact h.above q h2 (by omega)
    · by_cases e2 : q = j
      · subst e2
        rcases hs with hs | hs
        · omega
        · have k : Prec lt (d (q - 1)) (d q) := Or.inr ⟨hs, h.less (q - 1) (by omega) (by omega) (by omega)⟩
          by_cases e3 : p = q - 1
          · subst e3; exact k
          · exact Prec.trans hw (h.sorted p (q - 1) h1 (by omega) (by omega) e1 (by omega)) k
      · exact h.sorted p q h1 h2 (by omega) e1 e2
  low := fun q r h1 h2 h3 h4 => h.low q r h1 (by omega) (by omega) h4
  inc := fun q r h1 h2 h3 => h.inc q r (by omega) h2 h3

/-! ### the merge -/

/-- the two runs, and the right one's values lie above the left one's -/
structure Runs (lt : Nat → Nat → Bool) (a m b : Nat) (d : Nat → Nat) : Prop where
  left : Sorted lt a m d
  right : Sorted lt m b d
  low : ∀ i j, a ≤ i → i < m → m ≤ j → j < b → d i < d j

/-- what a merge leaves -/
structure Merged (lt : Nat → Nat → Bool) (a b : Nat) (d e : Nat → Nat) : Prop where
  sw : Sw a b d e
  sorted : Sorted lt a b e

theorem Runs.lt_prec {a m b : Nat} {d : Nat → Nat} (_h : Runs lt a m b d) {i j : Nat} (hl : lt (d j) (d i) = true) : Prec lt (d j) (d i) := Or.inl hl
theorem Runs.not_prec {a m b : Nat} {d : Nat → Nat} (h : Runs lt a m b d) {i j : Nat} (h1 : a ≤ i) (h2 : i < m) (h3 : m ≤ j) (h4 : j < b) (hl : lt (d j) (d i) = false) : Prec lt (d i) (d j) := Or.inr ⟨hl, h.low i j h1 h2 h3 h4⟩

/-- turned: [s, m) and [m, e) have changed places -/
structure Rot (s m e : Nat) (d f : Nat → Nat) : Prop where
  sw : Sw s e d f
  first : ∀ k, k < e - m → f (s + k) = d (m + k)
  second : ∀ k, k < m - s → f (s + (e - m) + k) = d (s + k)

/-- all of [a, mid) ahead of all of [mid, b), the four runs as they were: after the turn -/
structure Parted (lt : Nat → Nat → Bool) (a s mid e b : Nat) (f : Nat → Nat) : Prop where
  lo : Runs lt a s mid f
  hi : Runs lt mid e b f
  cross : ∀ i j, a ≤ i → i < mid → mid ≤ j → j < b → Prec lt (f i) (f j)

theorem Rot.parted (hw : Weak lt) {a m b mid s : Nat} {d f : Nat → Nat} (hr : Runs lt a m b d) (hs : a ≤ s) (hsm : s ≤ m) (hmid : a ≤ mid ∧ mid ≤ b) (he1 : m ≤ mid + m - s) (he2 : mid + m - s ≤ b)
    (hst : s ≤ mid) (h1 : s = a ∨ mid + m - s = b ∨ Prec lt (d (s - 1)) (d (mid + m - s))) (h2 : mid + m - s = m ∨ s = m ∨ Prec lt (d (mid + m - s - 1)) (d s))
    (hf : Rot s m (mid + m - s) d f) : Parted lt a s mid (mid + m - s) b f := by
  have f1 : ∀ k, a ≤ k → k < s → f k = d k := fun k _ h => hf.sw.out (Or.inl h)
  have f2 : ∀ k, s ≤ k → k < mid → f k = d (m + (k - s)) := fun k h1 h2 => by have := hf.first (k - s) (by omega); rwa [show s + (k - s) = k from by omega] at this
  have f3 : ∀ k, mid ≤ k → k < mid + m - s → f k = d (s + (k - mid)) := fun k h1 h2 => by have := hf.second (k - mid) (by omega); rwa [show s + (mid + m - s - m) + (k - mid) = k from by omega] at this
  have f4 : ∀ k, mid + m - s ≤ k → k < b → f k = d k := fun k h _ => hf.sw.out (Or.inr h)
  refine ⟨⟨?_, ?_, ?_⟩, ⟨?_, ?_, ?_⟩, ?_⟩
  · exact fun i j h1 h2 h3 => by rw [f1 i h1 (by omega), f1 j (by omega) h3]; exact hr.left i j h1 h2 (by omega)
  · exact fun i j h1 h2 h3 => by rw [f2 i h1 (by omega), f2 j (by omega) h3]; exact hr.right _ _ (by omega) (by omega) (by omega)
  · exact fun i j h1 h2 h3 h4 => by rw [f1 i h1 h2, f2 j h3 h4]; exact hr.low _ _ h1 (by omega) (by omega) (by omega)
  · exact fun i j h1 h2 h3 => by rw [f3 i h1 (by omega), f3 j (by omega) h3]; exact hr.left _ _ (by omega) (by omega) (by omega)
  · exact fun i j h1 h2 h3 => by rw [f4 i h1 (by omega), f4 j (by omega) h3]; exact hr.right i j (by omega) h2 h3
  · exact fun i j h1 h2 h3 h4 => by rw [f3 i h1 h2, f4 j h3 h4]; exact hr.low _ _ (by omega) (by omega) (by omega) h4
  · intro i j i1 i2 j1 j2
    by_cases ei : i < s
    · rw [f1 i i1 ei]
      by_cases ej : j < mid + m - s
      · rw [f3 j j1 ej]; exact hr.left _ _ i1 (by omega) (by omega)
      · rw [f4 j (by omega) j2]
        rcases h1 with h1 | h1 | h1
        · omega
        · omega
        · have k1 : Prec lt (d i) (d (mid + m - s)) := by
            by_cases e : i = s - 1
            · rw [e]; exact h1
            · exact Prec.trans hw (hr.left i (s - 1) i1 (by omega) (by omega)) h1
          by_cases e : j = mid + m - s
          · rw [e]; exact k1
          · exact Prec.trans hw k1 (hr.right _ _ (by omega) (by omega) j2)
    · rw [f2 i (by omega) i2]
      by_cases ej : j < mid + m - s
      · rw [f3 j j1 ej]
        rcases h2 with h2 | h2 | h2
        · omega
        · omega
        · have k1 : Prec lt (d (m + (i - s))) (d s) := by
            by_cases e : m + (i - s) = mid + m - s - 1
            · rw [e]; exact h2
            · exact Prec.trans hw (hr.right _ _ (by omega) (by omega) (by omega)) h2
          by_cases e : s + (j - mid) = s
          · rw [e]; exact k1
          · exact Prec.trans hw k1 (hr.left _ _ (by omega) (by omega) (by omega))
      · rw [f4 j (by omega) j2]; exact hr.right _ _ (by omega) (by omega) j2

/-- the two halves merged, each within itself -/
theorem Parted.merged {a s mid e b : Nat} {d f g h : Nat → Nat} (hp : Parted lt a s mid e b f) (hsw : Sw a b d f) (hm : a ≤ mid ∧ mid ≤ b) (h1 : Merged lt a mid f g) (h2 : Merged lt mid b g h) : Merged lt a b d h where
  sw := (hsw.trans (h1.sw.mono (Nat.le_refl _) hm.2)).trans (h2.sw.mono hm.1 (Nat.le_refl _))
  sorted := fun i j i1 ij j2 => by
    have eg : ∀ k, mid ≤ k → g k = f k := fun k hk => h1.sw.out (Or.inr hk)
    have eh : ∀ k, k < mid → h k = g k := fun k hk => h2.sw.out (Or.inl hk)
    by_cases ei : i < mid
    · by_cases ej : j < mid
      · rw [eh i ei, eh j ej]; exact h1.sorted i j i1 ij ej
      · rw [eh i ei]
        obtain ⟨i', a1, a2, e1⟩ := h1.sw.from i i1 ei
        obtain ⟨j', b1, b2, e2⟩ := h2.sw.from j (by omega) j2
        rw [e1, e2, eg j' b1]
        exact hp.cross i' j' a1 a2 b1 b2
    · exact h2.sorted i j (by omega) ij j2

theorem Runs.congr {a m b : Nat} {d f : Nat → Nat} (h : Runs lt a m b d) (e : ∀ k, a ≤ k → k < b → f k = d k) (hm : a ≤ m ∧ m ≤ b) : Runs lt a m b f where
  left := h.left.congr (fun k h1 h2 => e k h1 (by omega))
  right := h.right.congr (fun k h1 h2 => e k (by omega) h2)
  low := fun i j h1 h2 h3 h4 => by rw [e i h1 (by omega), e j (by omega) h4]; exact h.low i j h1 h2 h3 h4

/-- one run alone is merged -/
theorem Runs.trivial_left {a b : Nat} {d : Nat → Nat} (h : Runs lt a a b d) : Merged lt a b d d := ⟨.refl _, h.right⟩
theorem Runs.trivial_right {a b : Nat} {d : Nat → Nat} (h : Runs lt a b b d) : Merged lt a b d d := ⟨.refl _, h.left⟩

theorem Runs.le_left (hw : Weak lt) {a m b : Nat} {d : Nat → Nat} (h : Runs lt a m b d) {p q x : Nat} (h1 : a ≤ p) (h2 : p ≤ q) (h3 : q < m) (hx : Prec lt (d q) x) : Prec lt (d p) x := by
  by_cases e : p = q
  · subst e; exact hx
  · exact Prec.trans hw (h.left p q h1 (by omega) h3) hx
theorem Runs.le_left' (hw : Weak lt) {a m b : Nat} {d : Nat → Nat} (h : Runs lt a m b d) {p q x : Nat} (h1 : a ≤ p) (h2 : p ≤ q) (h3 : q < m) (hx : Prec lt x (d p)) : Prec lt x (d q) := by
  by_cases e : p = q
  · subst e; exact hx
  · exact Prec.trans hw hx (h.left p q h1 (by omega) h3)
theorem Runs.le_right (hw : Weak lt) {a m b : Nat} {d : Nat → Nat} (h : Runs lt a m b d) {p q x : Nat} (h1 : m ≤ p) (h2 : p ≤ q) (h3 : q < b) (hx : Prec lt (d q) x) : Prec lt (d p) x := by
  by_cases e : p = q
  · subst e; exact hx
  · exact Prec.trans hw (h.right p q h1 (by omega) h3) hx
theorem Runs.le_right' (hw : Weak lt) {a m b : Nat} {d : Nat → Nat} (h : Runs lt a m b d) {p q x : Nat} (h1 : m ≤ p) (h2 : p ≤ q) (h3 : q < b) (hx : Prec lt x (d p)) : Prec lt x (d q) := by
  by_cases e : p = q
  · subst e; exact hx
  · exact Prec.trans hw hx (h.right p q h1 (by omega) h3)

/-! ### the three searches -/

/-- the first of the right run that is not less than the one left element -/
structure FindA (lt : Nat → Nat → Bool) (a b i j : Nat) (d : Nat → Nat) : Prop where
  lo : a + 1 ≤ i
  ij : i ≤ j
  hi : j ≤ b
  left : ∀ q, a + 1 ≤ q → q < i → Prec lt (d q) (d a)
  right : ∀ q, j ≤ q → q < b → Prec lt (d a) (d q)
theorem FindA.start {a b : Nat} {d : Nat → Nat} (h : a + 1 ≤ b) : FindA lt a b (a + 1) b d := ⟨Nat.le_refl _, h, Nat.le_refl _, fun q h1 h2 => by omega, fun q h1 h2 => by omega⟩
theorem FindA.up (hw : Weak lt) {a b i j h : Nat} {d : Nat → Nat} (hr : Runs lt a (a + 1) b d) (hf : FindA lt a b i j d) (h1 : i ≤ h) (h2 : h < j) (hl : lt (d h) (d a) = true) : FindA lt a b (h + 1) j d := by
  have := hf.lo; have := hf.hi
  exact ⟨by omega, by omega, hf.hi, fun q q1 q2 => hr.le_right hw q1 (by omega) (by omega) (Or.inl hl), hf.right⟩
theorem FindA.down (hw : Weak lt) {a b i j h : Nat} {d : Nat → Nat} (hr : Runs lt a (a + 1) b d) (hf : FindA lt a b i j d) (h1 : i ≤ h) (h2 : h < j) (hl : lt (d h) (d a) = false) : FindA lt a b i h d := by
  have := hf.lo; have := hf.hi
  exact ⟨hf.lo, h1, by omega, hf.left, fun q q1 q2 => hr.le_right' hw (by omega) q1 q2 (hr.not_prec (Nat.le_refl _) (by omega) (by omega) (by omega) hl)⟩

/-- the first of the left run that is greater than the one right element -/
structure FindB (lt : Nat → Nat → Bool) (a m i j : Nat) (d : Nat → Nat) : Prop where
  lo : a ≤ i
  ij : i ≤ j
  hi : j ≤ m
  left : ∀ q, a ≤ q → q < i → Prec lt (d q) (d m)
  right : ∀ q, j ≤ q → q < m → Prec lt (d m) (d q)
theorem FindB.start {a m : Nat} {d : Nat → Nat} (h : a ≤ m) : FindB lt a m a m d := ⟨Nat.le_refl _, h, Nat.le_refl _, fun q h1 h2 => by omega, fun q h1 h2 => by omega⟩
theorem FindB.up (hw : Weak lt) {a m i j h : Nat} {d : Nat → Nat} (hr : Runs lt a m (m + 1) d) (hf : FindB lt a m i j d) (h1 : i ≤ h) (h2 : h < j) (hl : lt (d m) (d h) = false) : FindB lt a m (h + 1) j d := by
  have := hf.lo; have := hf.hi
  exact ⟨by omega, by omega, hf.hi, fun q q1 q2 => hr.le_left hw q1 (by omega) (by omega) (hr.not_prec (by omega) (by omega) (Nat.le_refl _) (by omega) hl), hf.right⟩
theorem FindB.down (hw : Weak lt) {a m i j h : Nat} {d : Nat → Nat} (hr : Runs lt a m (m + 1) d) (hf : FindB lt a m i j d) (h1 : i ≤ h) (h2 : h < j) (hl : lt (d m) (d h) = true) : FindB lt a m i h d := by
  have := hf.lo; have := hf.hi
  exact ⟨hf.lo, h1, by omega, hf.left, fun q q1 q2 => hr.le_left' hw (by omega) q1 q2 (Or.inl hl)⟩

/-- the place at which the two runs are parted: n = mid + m -/
structure FindC (lt : Nat → Nat → Bool) (s0 r0 n s r : Nat) (d : Nat → Nat) : Prop where
  lo : s0 ≤ s
  sr : s ≤ r
  hi : r ≤ r0
  left : ∀ c, s0 ≤ c → c < s → Prec lt (d c) (d (n - 1 - c))
  right : ∀ c, r ≤ c → c < r0 → Prec lt (d (n - 1 - c)) (d c)
theorem FindC.start {s0 r0 n : Nat} {d : Nat → Nat} (h : s0 ≤ r0) : FindC lt s0 r0 n s0 r0 d := ⟨Nat.le_refl _, h, Nat.le_refl _, fun q h1 h2 => by omega, fun q h1 h2 => by omega⟩
theorem FindC.up (hw : Weak lt) {a m b mid s0 r0 s r c : Nat} {d : Nat → Nat} (hr : Runs lt a m b d) (hs : a ≤ s0) (hr0 : r0 ≤ m ∧ r0 ≤ mid) (hb : mid + m ≤ s0 + b) (hf : FindC lt s0 r0 (mid + m) s r d) (h1 : s ≤ c) (h2 : c < r) (hl : lt (d (mid + m - 1 - c)) (d c) = false) : FindC lt s0 r0 (mid + m) (c + 1) r d := by
  have := hf.lo; have := hf.hi
  exact ⟨by omega, by omega, hf.hi, fun q q1 q2 => hr.le_left hw (by omega) (show q ≤ c by omega) (by omega) (hr.le_right' hw (by omega) (show mid + m - 1 - c ≤ mid + m - 1 - q by omega) (by omega) (hr.not_prec (by omega) (by omega) (by omega) (by omega) hl)), hf.right⟩
theorem FindC.down (hw : Weak lt) {a m b mid s0 r0 s r c : Nat} {d : Nat → Nat} (hr : Runs lt a m b d) (hs : a ≤ s0) (hr0 : r0 ≤ m ∧ r0 ≤ mid) (hb : mid + m ≤ s0 + b) (hf : FindC lt s0 r0 (mid + m) s r d) (h1 : s ≤ c) (h2 : c < r) (hl : lt (d (mid + m - 1 - c)) (d c) = true) : FindC lt s0 r0 (mid + m) s c d := by
  have := hf.lo; have := hf.hi
  exact ⟨hf.lo, h1, by omega, hf.left, fun q q1 q2 => hr.le_left' hw (by omega) q1 (by omega) (hr.le_right hw (by omega) (show mid + m - 1 - q ≤ mid + m - 1 - c by omega) (by omega) (Or.inl hl))⟩

/-! ### the two shifts -/

/-- the left element has been carried up to place k -/
structure ShiftA (a b k : Nat) (d e : Nat → Nat) : Prop where
  sw : Sw a b d e
  below : ∀ q, a ≤ q → q < k → e q = d (q + 1)
  here : e k = d a
  above : ∀ q, k < q → e q = d q
theorem ShiftA.start (a b : Nat) (d : Nat → Nat) : ShiftA a b a d d := ⟨.refl _, fun q h1 h2 => by omega, rfl, fun _ _ => rfl⟩
theorem ShiftA.step {a b k : Nat} {d e : Nat → Nat} (h : ShiftA a b k d e) (ha : a ≤ k) (hb : k + 1 < b) : ShiftA a b (k + 1) d (swp e k (k + 1)) where
  sw := h.sw.step k (k + 1) (by omega) (by omega)
  below := fun q q1 q2 => by
    unfold swp
    by_cases e1 : q = k
    · rw [if_pos e1, e1]; exact h.above (k + 1) (by omega)
    · rw [if_neg e1, if_neg (by omega)]; exact h.below q q1 (by omega)
  here := by unfold swp; rw [if_neg (by omega), if_pos rfl]; exact h.here
  above := fun q q1 => by unfold swp; rw [if_neg (by omega), if_neg (by omega)]; exact h.above q (by omega)
theorem ShiftA.merged {a b i : Nat} {d e : Nat → Nat} (hr : Runs lt a (a + 1) b d) (hf : FindA lt a b i i d) (h : ShiftA a b (i - 1) d e) : Merged lt a b d e where
  sw := h.sw
  sorted := fun p q h1 h2 h3 => by
    have := hf.lo; have := hf.hi
    by_cases e1 : p < i - 1
    · rw [h.below p h1 e1]
      by_cases e2 : q < i - 1
      · rw [h.below q (by omega) e2]; exact hr.right _ _ (by omega) (by omega) (by omega)
      · by_cases e3 : q = i - 1
        · rw [e3, h.here]; exact hf.left _ (by omega) (by omega)
        · rw [h.above q (by omega)]; exact hr.right _ _ (by omega) (by omega) h3
    · by_cases e3 : p = i - 1
      · rw [e3, h.here, h.above q (by omega)]; exact hf.right q (by omega) h3
      · rw [h.above p (by omega), h.above q (by omega)]; exact hr.right p q (by omega) h2 h3

/-- the right element has been carried down to place k -/
structure ShiftB (a m k : Nat) (d e : Nat → Nat) : Prop where
  sw : Sw a (m + 1) d e
  below : ∀ q, q < k → e q = d q
  here : e k = d m
  above : ∀ q, k < q → q ≤ m → e q = d (q - 1)
theorem ShiftB.start (a m : Nat) (d : Nat → Nat) : ShiftB a m m d d := ⟨.refl _, fun _ _ => rfl, rfl, fun q h1 h2 => by omega⟩
theorem ShiftB.step {a m k : Nat} {d e : Nat → Nat} (h : ShiftB a m (k + 1) d e) (ha : a ≤ k) (hb : k + 1 ≤ m) : ShiftB a m k d (swp e (k + 1) k) where
  sw := h.sw.step (k + 1) k (by omega) (by omega)
  below := fun q q1 => by unfold swp; rw [if_neg (by omega), if_neg (by omega)]; exact h.below q (by omega)
  here := by unfold swp; rw [if_neg (by omega), if_pos rfl]; exact h.here
  above := fun q q1 q2 => by
    unfold swp
    by_cases e1 : q = k + 1
    · rw [if_pos e1, e1]; exact h.below k (by omega)
    · rw [if_neg e1, if_neg (by omega)]; exact h.above q (by omega) q2
theorem ShiftB.merged {a m i : Nat} {d e : Nat → Nat} (hr : Runs lt a m (m + 1) d) (hf : FindB lt a m i i d) (h : ShiftB a m i d e) : Merged lt a (m + 1) d e where
  sw := h.sw
  sorted := fun p q h1 h2 h3 => by
    have := hf.lo; have := hf.hi
    by_cases e1 : q < i
    · rw [h.below p (by omega), h.below q e1]; exact hr.left p q h1 h2 (by omega)
    · by_cases e2 : q = i
      · rw [h.below p (by omega), e2, h.here]; exact hf.left p h1 (by omega)
      · rw [h.above q (by omega) (by omega)]
        by_cases e3 : p < i
        · rw [h.below p e3]; exact hr.left p (q - 1) h1 (by omega) (by omega)
        · by_cases e4 : p = i
          · rw [e4, h.here]; exact hf.right _ (by omega) (by omega)
          · rw [h.above p (by omega) (by omega)]; exact hr.left _ _ (by omega) (by omega) (by omega)

/-! ### one row alone is sorted -/

theorem Sw.to {a b : Nat} {d e : Nat → Nat} (h : Sw a b d e) : ∀ k, a ≤ k → k < b → ∃ k', a ≤ k' ∧ k' < b ∧ d k = e k' := by
  induction h with
  | refl => exact fun k h1 h2 => ⟨k, h1, h2, rfl⟩
  | step _ i j hi hj ih =>
    intro k h1 h2
    obtain ⟨k', a1, a2, e⟩ := ih k h1 h2
    by_cases e1 : k' = i
    · refine ⟨j, hj.1, hj.2, ?_⟩
      unfold swp
      by_cases e2 : j = i
      · rw [if_pos e2, e, e1, e2]
      · rw [if_neg e2, if_pos rfl, e, e1]
    · by_cases e2 : k' = j
      · exact ⟨i, hi.1, hi.2, by unfold swp; rw [if_pos rfl, e, e2]⟩
      · exact ⟨k', a1, a2, by unfold swp; rw [if_neg e1, if_neg e2, e]⟩

theorem unique (hw : Weak lt) {n : Nat} {d e : Nat → Nat} (h1 : Sw 0 n (fun k => k) d) (h2 : Sw 0 n (fun k => k) e) (s1 : Sorted lt 0 n d) (s2 : Sorted lt 0 n e) : ∀ k, k < n → d k = e k := by
  have key : ∀ (d e : Nat → Nat), Sw 0 n (fun k => k) d → Sw 0 n (fun k => k) e → Sorted lt 0 n d → Sorted lt 0 n e → ∀ k, k < n → (∀ q, q < k → d q = e q) → Prec lt (d k) (e k) → False := by
    intro d e h1 h2 s1 s2 k hk ih hp
    have hv : d k < n := by
      obtain ⟨k', _, a2, e⟩ := h1.from k (Nat.zero_le _) hk
      rw [e]; exact a2
    obtain ⟨q, _, q2, eq⟩ := h2.to (d k) (Nat.zero_le _) hv
    rcases Nat.lt_trichotomy q k with c | c | c
    · have := s1 q k (Nat.zero_le _) c hk
      rw [ih q c, ← eq] at this
      exact Prec.irr hw this
    · subst c; rw [← eq] at hp; exact Prec.irr hw hp
    · have := s2 k q (Nat.zero_le _) c q2
      rw [← eq] at this
      exact Prec.irr hw (Prec.trans hw hp this)
  intro k
  induction k using Nat.strongRecOn with
  | ind k ih =>
    intro hk
    by_cases c : d k = e k
    · exact c
    · rcases Prec.total (lt := lt) c with p | p
      · exact (key d e h1 h2 s1 s2 k hk (fun q hq => ih q hq (by omega)) p).elim
      · exact (key e d h2 h1 s2 s1 k hk (fun q hq => (ih q hq (by omega)).symm) p).elim
end
end Go.Proofs.Ybulkaaso
