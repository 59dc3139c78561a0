/-
  BOrder, the plain law: the rotation, and the rounds of the stable sort. Own work of this seat.
-/
import Derived.Test.YbulkaasoPlain
namespace Go.Proofs.Ybulkaaso

/-- the first t of [x, ..) and of [y, ..) have changed places -/
structure SwapR (x y K t : Nat) (d e : Nat → Nat) : Prop where
  sw : Sw x (y + K) d e
  first : ∀ q, q < t → e (x + q) = d (y + q)
  second : ∀ q, q < t → e (y + q) = d (x + q)
  other : ∀ p, p < x ∨ (x + t ≤ p ∧ p < y) ∨ y + t ≤ p → e p = d p

theorem SwapR.start (x y K : Nat) (d : Nat → Nat) : SwapR x y K 0 d d := ⟨.refl _, fun q h => by omega, fun q h => by omega, fun _ _ => rfl⟩
theorem SwapR.step {x y K t : Nat} {d e : Nat → Nat} (h : SwapR x y K t d e) (ht : t < K) (hxy : x + K ≤ y) : SwapR x y K (t + 1) d (swp e (x + t) (y + t)) where
  sw := h.sw.step (x + t) (y + t) (by omega) (by omega)
  first := fun q hq => by
    unfold swp
    by_cases e1 : q = t
    · subst e1; rw [if_pos rfl]; exact h.other _ (by omega)
    · rw [if_neg (by omega), if_neg (by omega)]; exact h.first q (by omega)
  second := fun q hq => by
    unfold swp
    by_cases e1 : q = t
    · subst e1; rw [if_neg (by omega), if_pos rfl]; exact h.other _ (by omega)
    · rw [if_neg (by omega), if_neg (by omega)]; exact h.second q (by omega)
  other := fun p hp => by
    unfold swp
    rw [if_neg (by omega), if_neg (by omega)]
    exact h.other p (by omega)

theorem Rot.more {m i j : Nat} {d e f : Nat → Nat} (hij : j < i) (him : i ≤ m) (hs : SwapR (m - i) m j j d e) (hr : Rot (m - (i - j)) m (m + j) e f) : Rot (m - i) m (m + j) d f where
  sw := (hs.sw.mono (Nat.le_refl _) (Nat.le_refl _)).trans (hr.sw.mono (by omega) (Nat.le_refl _))
  first := fun k hk => by
    rw [hr.sw.out (by omega)]
    exact hs.first k (by omega)
  second := fun k hk => by
    by_cases c : k < j
    · have := hr.first k (by omega)
      rw [show m - (i - j) + k = m - i + (m + j - m) + k from by omega] at this
      rw [this]
      exact hs.second k c
    · have := hr.second (k - j) (by omega)
      rw [show m - (i - j) + (m + j - m) + (k - j) = m - i + (m + j - m) + k from by omega] at this
      rw [this, hs.other _ (by omega)]
      congr 1; omega

theorem Rot.less {m i j : Nat} {d e f : Nat → Nat} (hij : i < j) (him : i ≤ m) (hs : SwapR (m - i) (m + j - i) i i d e) (hr : Rot (m - i) m (m + (j - i)) e f) : Rot (m - i) m (m + j) d f where
  sw := (hs.sw.mono (Nat.le_refl _) (by omega)).trans (hr.sw.mono (Nat.le_refl _) (by omega))
  first := fun k hk => by
    by_cases c : k < j - i
    · rw [hr.first k (by omega), hs.other _ (by omega)]
    · have := hr.second (k - (j - i)) (by omega)
      rw [show m - i + (m + (j - i) - m) + (k - (j - i)) = m - i + k from by omega] at this
      rw [this, hs.first _ (by omega)]
      congr 1; omega
  second := fun k hk => by
    rw [hr.sw.out (by omega)]
    have := hs.second k (by omega)
    rw [show m + j - i + k = m - i + (m + j - m) + k from by omega] at this
    exact this

theorem Rot.same {m i : Nat} {d f : Nat → Nat} (him : i ≤ m) (hs : SwapR (m - i) m i i d f) : Rot (m - i) m (m + i) d f where
  sw := hs.sw
  first := fun k hk => hs.first k (by omega)
  second := fun k hk => by
    have := hs.second k (by omega)
    rw [show m + k = m - i + (m + i - m) + k from by omega] at this
    exact this

/-- nothing to turn -/
theorem Rot.none {s m e : Nat} {d : Nat → Nat} (h : s = m ∨ m = e) (hs : s ≤ m) (he : m ≤ e) : Rot s m e d d where
  sw := .refl _
  first := fun k hk => by congr 1; omega
  second := fun k hk => by congr 1; omega

section
variable {lt : Nat → Nat → Bool}

/-! ### the rounds of the stable sort -/

/-- sorted, and of its own values -/
structure Good (lt : Nat → Nat → Bool) (lo hi : Nat) (d : Nat → Nat) : Prop where
  sorted : Sorted lt lo hi d
  own : ∀ k, lo ≤ k → k < hi → lo ≤ d k ∧ d k < hi

theorem Good.congr {lo hi : Nat} {d e : Nat → Nat} (h : Good lt lo hi d) (he : ∀ k, lo ≤ k → k < hi → e k = d k) : Good lt lo hi e :=
  ⟨h.sorted.congr he, fun k h1 h2 => by rw [he k h1 h2]; exact h.own k h1 h2⟩
theorem Good.empty {lo hi : Nat} {d : Nat → Nat} (h : hi ≤ lo) : Good lt lo hi d := ⟨fun i j h1 h2 h3 => by omega, fun k h1 h2 => by omega⟩

theorem Good.runs {a m b : Nat} {d : Nat → Nat} (h1 : Good lt a m d) (h2 : Good lt m b d) : Runs lt a m b d :=
  ⟨h1.sorted, h2.sorted, fun i j i1 i2 j1 j2 => by have := (h1.own i i1 i2).2; have := (h2.own j j1 j2).1; omega⟩
theorem Merged.good {a m b : Nat} {d e : Nat → Nat} (h1 : Good lt a m d) (h2 : Good lt m b d) (hm : a ≤ m ∧ m ≤ b) (h : Merged lt a b d e) : Good lt a b e :=
  ⟨h.sorted, h.sw.all (p := fun v => a ≤ v ∧ v < b) (fun k k1 k2 => by
    by_cases c : k < m
    · have := h1.own k k1 c; omega
    · have := h2.own k (by omega) k2; omega)⟩

/-- runs of size s, from 0 up to y (full ones), each good -/
def Pre (lt : Nat → Nat → Bool) (s y : Nat) (d : Nat → Nat) : Prop := ∀ t, t * s + s ≤ y → Good lt (t * s) (t * s + s) d
/-- runs of size s from x on, each good; the last is cut at n -/
def Post (lt : Nat → Nat → Bool) (n s x : Nat) (d : Nat → Nat) : Prop := ∀ t, Good lt (x + t * s) (min n (x + t * s + s)) d

theorem Pre.zero (s : Nat) (hs : 0 < s) (d : Nat → Nat) : Pre lt s 0 d := fun t h => by omega
theorem Pre.next {s T : Nat} {d e : Nat → Nat} (h : Pre lt s (T * s) d) (hs : 0 < s) (he : ∀ k, k < T * s → e k = d k) (hg : Good lt (T * s) (T * s + s) e) : Pre lt s (T * s + s) e := fun t ht => by
  by_cases c : t = T
  · subst c; exact hg
  · have : t < T := by
      rcases Nat.lt_or_ge t T with c' | c'
      · exact c'
      · have : T + 1 ≤ t := by omega
        have := Nat.mul_le_mul_right s this
        rw [Nat.succ_mul] at this; omega
    have := Nat.mul_le_mul_right s (show t + 1 ≤ T from this)
    rw [Nat.succ_mul] at this
    exact (h t this).congr (fun k k1 k2 => he k (by omega))
theorem Pre.whole {n s T : Nat} {d : Nat → Nat} (h : Pre lt s (T * s) d) (hT : T * s ≤ n) (hn : n ≤ T * s + s) (hg : Good lt (T * s) n d) : Post lt n s 0 d := fun t => by
  rw [Nat.zero_add]
  rcases Nat.lt_trichotomy t T with c | c | c
  · have := Nat.mul_le_mul_right s (show t + 1 ≤ T from c)
    rw [Nat.succ_mul] at this
    rw [Nat.min_eq_right (by omega)]
    exact h t this
  · subst c; rw [Nat.min_eq_left hn]; exact hg
  · have := Nat.mul_le_mul_right s (show T + 1 ≤ t from c)
    rw [Nat.succ_mul] at this
    exact Good.empty (by omega)
theorem Post.head {n s x : Nat} {d : Nat → Nat} (h : Post lt n s x d) : Good lt x (min n (x + s)) d := by have := h 0; simpa using this
theorem Post.tail {n s x : Nat} {d e : Nat → Nat} (h : Post lt n s x d) (he : ∀ k, x + s ≤ k → e k = d k) : Post lt n s (x + s) e := fun t => by
  have := h (t + 1)
  rw [Nat.succ_mul, show x + (t * s + s) = x + s + t * s from by omega] at this
  exact this.congr (fun k k1 k2 => he k (by omega))
/-- one run alone -/
theorem Post.done {n s : Nat} {d : Nat → Nat} (h : Post lt n s 0 d) (hs : n ≤ s) : Sorted lt 0 n d := by
  have := h.head
  rw [Nat.min_eq_left (by omega)] at this
  exact this.sorted
end
end Go.Proofs.Ybulkaaso
