/-
  A map that counts the values of a list; what a range over it has met. Over the kit's words on maps as read. Own work of this seat.
-/
import Derived.Test.YbulkaaouPlain
import Derived.Maps.Ext
import Derived.Maps.RangeWalk
namespace Go.Proofs.Ybulkaaou
open Go.Maps

variable {H : Type}

/-- the key of a delay, the datum of a count -/
def ky (x : Int) : Lit := .int .i64 x
def ct (n : Int) : DataW H := .lit (.int .i64 n)

theorem ky_lit (x : Int) : WideAt.IsKeyLit (ky x) := trivial
theorem ky_inj {x y : Int} (h : ky x = ky y) : x = y := by simpa [ky] using h

/-- the map D counts the values of l -/
structure Counts (D : DataW H) (l : List Int) : Prop where
  isMap : IsMap D
  at_ : ∀ x : Int, D.atKey (ky x) (ct 0) = ct (l.count x)
  keys : ∀ k, Maps.has D k = true → ∃ x ∈ l, k = ky x
  mem : ∀ x ∈ l, Maps.has D (ky x) = true

theorem Counts.start : Counts (.map [] : DataW H) [] :=
  ⟨isMap_empty, fun _ => rfl, (fun _ h => by cases h), (fun _ h => by cases h)⟩

theorem ct_inj {a b : Int} (h : (ct a : DataW H) = ct b) : a = b := by simpa [ct] using h

/-- c more of v -/
theorem Counts.step {D : DataW H} {l : List Int} (h : Counts D l) (v : Int) (c : Nat) (hc : 1 ≤ c) : Counts (D.put (ky v) (ct (l.count v + c))) (l ++ List.replicate c v) := by
  refine ⟨h.isMap.put _ _, fun x => ?_, fun k hk => ?_, fun x hx => ?_⟩
  · by_cases e : x = v
    · subst e
      rw [atKey_put_same h.isMap (ky_lit _), List.count_append, List.count_replicate_self]; simp
    · rw [atKey_put_other (fun e' => e (ky_inj e')), h.at_, List.count_append, List.count_replicate, if_neg (by simpa using fun e' => e e'.symm)]; simp
  · by_cases e : k = ky v
    · exact ⟨v, by simp; omega, e⟩
    · rw [has_put_other e] at hk
      obtain ⟨x, hx, rfl⟩ := h.keys k hk
      exact ⟨x, by simp [hx], rfl⟩
  · by_cases e : x = v
    · subst e; exact has_put_same h.isMap (ky_lit _) _
    · rw [has_put_other (fun e' => e (ky_inj e'))]
      apply h.mem
      rcases List.mem_append.1 hx with g | g
      · exact g
      · exact absurd (List.mem_replicate.1 g).2 e

/-- what the range has met: the rows cs -/
structure Met (left : Lit → Bool) (l : List Int) (cs : List (Int × Int)) : Prop where
  nodup : (cs.map fun p => p.1).Nodup
  cnt : ∀ p ∈ cs, p.2 = l.count p.1 ∧ p.1 ∈ l ∧ left (ky p.1) = false
  rest : ∀ x ∈ l, left (ky x) = true ∨ x ∈ cs.map fun p => p.1

theorem Met.start {D : DataW H} {l : List Int} (h : Counts D l) : Met (Maps.has D) l [] :=
  ⟨List.nodup_nil, fun _ h => by simp at h, fun x hx => Or.inl (h.mem x hx)⟩

theorem Met.step {D : DataW H} {left : Lit → Bool} {l : List Int} {cs : List (Int × Int)} (h : Met left l cs) (hC : Counts D l) {x c : Int} (hl : left (ky x) = true) (hat : ∀ zd, D.atKey (ky x) zd = ct c) :
    Met (fun z => left z && !z.sameKey (ky x)) l (cs ++ [(x, c)]) := by
  have hx : x ∈ l := by
    obtain ⟨y, hy, e⟩ := hC.keys _ (has_true_of_atKey hat)
    exact ky_inj e ▸ hy
  have ec : c = l.count x := ct_inj ((hat (ct 0)).symm.trans (hC.at_ x))
  have hs : (ky x).sameKey (ky x) = true := by simp [ky, Lit.sameKey]
  refine ⟨?_, fun p hp => ?_, fun y hy => ?_⟩
  · rw [List.map_append, List.nodup_append]
    refine ⟨h.nodup, by simp, fun a ha b hb => ?_⟩
    obtain ⟨p, hp, rfl⟩ := List.mem_map.1 ha
    simp at hb
    subst hb
    intro e
    have := (h.cnt p hp).2.2
    rw [e, hl] at this
    cases this
  · rcases List.mem_append.1 hp with g | g
    · obtain ⟨a, b, d⟩ := h.cnt p g
      exact ⟨a, b, by simp [d]⟩
    · simp at g; subst g
      exact ⟨ec, hx, by simp [hs]⟩
  · by_cases e : y = x
    · subst e; exact Or.inr (by simp)
    · rcases h.rest y hy with g | g
      · exact Or.inl (by simp [g, sameKey_ne (fun e' => e (ky_inj e'))])
      · exact Or.inr (by simp at g ⊢; exact Or.inl g)

theorem count_expand_none {x : Int} : ∀ {cs : List (Int × Int)}, x ∉ (cs.map fun p => p.1) → (expand cs).count x = 0
  | [], _ => rfl
  | p :: cs, h => by
    simp only [List.map_cons, List.mem_cons, not_or] at h
    rw [expand_cons, List.count_append, List.count_replicate, if_neg (by simpa using fun e => h.1 e.symm), count_expand_none h.2]

theorem count_expand_mem {p : Int × Int} : ∀ {cs : List (Int × Int)}, (cs.map fun p => p.1).Nodup → p ∈ cs → (expand cs).count p.1 = p.2.toNat
  | [], _, h => by simp at h
  | q :: cs, hn, h => by
    simp only [List.map_cons, List.nodup_cons] at hn
    rw [expand_cons, List.count_append]
    rcases List.mem_cons.1 h with rfl | g
    · rw [List.count_replicate_self, count_expand_none hn.1]; simp
    · have hne : q.1 ≠ p.1 := fun e => hn.1 (by rw [e]; exact List.mem_map.2 ⟨p, g, rfl⟩)
      rw [List.count_replicate, if_neg (by simpa using hne), count_expand_mem hn.2 g]; simp

/-- nothing is left: the rows hold the values of the list -/
theorem Met.perm {left : Lit → Bool} {l : List Int} {cs : List (Int × Int)} (h : Met left l cs) (hl : ∀ k, left k = false) : Pos cs ∧ (expand cs).Perm l := by
  refine ⟨fun p hp => ?_, List.perm_iff_count.2 fun x => ?_⟩
  · obtain ⟨a, b, _⟩ := h.cnt p hp
    have := List.count_pos_iff.2 b
    omega
  · by_cases hx : x ∈ cs.map fun p => p.1
    · obtain ⟨p, hp, rfl⟩ := List.mem_map.1 hx
      rw [count_expand_mem h.nodup hp, (h.cnt p hp).1]; simp
    · rw [count_expand_none hx]
      by_cases hxl : x ∈ l
      · rcases h.rest x hxl with g | g
        · rw [hl] at g; cases g
        · exact absurd g hx
      · exact (List.count_eq_zero.2 hxl).symm

end Go.Proofs.Ybulkaaou
