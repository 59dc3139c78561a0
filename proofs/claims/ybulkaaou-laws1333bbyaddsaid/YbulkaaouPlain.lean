/-
  Plain laws for the delays: a list of (delay, count) rows, laid out; its least, median and greatest. No Go in sight. Own work of this seat.
-/
namespace Go.Proofs.Ybulkaaou

/-- the delays of a list of (delay, count) rows, laid out one by one -/
def expand (cs : List (Int × Int)) : List Int := cs.flatMap fun p => List.replicate p.2.toNat p.1

/-- how many delays -/
def tot (cs : List (Int × Int)) : Int := (cs.map fun p => p.2).sum

/-- the list in order -/
def srt (l : List Int) : List Int := l.mergeSort fun x y => decide (x ≤ y)

/-- the least, the median, the greatest of a list in order (noughts if there is none) -/
def least (l : List Int) : Int := (srt l).getD 0 0
def median (l : List Int) : Int := (srt l).getD ((l.length + 1) / 2 - 1) 0
def greatest (l : List Int) : Int := (srt l).getD (l.length - 1) 0

/-- every count is at least one -/
def Pos (cs : List (Int × Int)) : Prop := ∀ p ∈ cs, 1 ≤ p.2

theorem srt_perm (l : List Int) : (srt l).Perm l := List.mergeSort_perm l _
theorem srt_length (l : List Int) : (srt l).length = l.length := List.length_mergeSort l
theorem srt_sorted (l : List Int) : (srt l).Pairwise (fun a b => a ≤ b) := by
  have h := List.pairwise_mergeSort (le := fun x y : Int => decide (x ≤ y)) (fun a b c h1 h2 => by simp at *; omega) (fun a b => by simp; omega) l
  exact h.imp (fun h => by simpa using h)

theorem sorted_eq {l m : List Int} (hl : l.Pairwise (fun a b => a ≤ b)) (hm : m.Pairwise (fun a b => a ≤ b)) (hp : l.Perm m) : l = m :=
  hp.eq_of_pairwise (fun _ _ _ _ h1 h2 => Int.le_antisymm h1 h2) hl hm

theorem srt_of_perm {l m : List Int} (hp : l.Perm m) : srt l = srt m :=
  sorted_eq (srt_sorted l) (srt_sorted m) ((srt_perm l).trans (hp.trans (srt_perm m).symm))

theorem expand_nil : expand [] = [] := rfl
theorem expand_cons (p : Int × Int) (cs : List (Int × Int)) : expand (p :: cs) = List.replicate p.2.toNat p.1 ++ expand cs := by simp [expand]
theorem expand_append (a b : List (Int × Int)) : expand (a ++ b) = expand a ++ expand b := by simp [expand]
theorem tot_nil : tot [] = 0 := rfl
theorem tot_cons (p : Int × Int) (cs : List (Int × Int)) : tot (p :: cs) = p.2 + tot cs := by simp [tot]
theorem tot_append (a b : List (Int × Int)) : tot (a ++ b) = tot a + tot b := by simp [tot]

theorem expand_length : ∀ (cs : List (Int × Int)), Pos cs → ((expand cs).length : Int) = tot cs
  | [], _ => rfl
  | p :: cs, h => by
    have h1 := h p (by simp)
    have ih := expand_length cs (fun q hq => h q (by simp [hq]))
    rw [expand_cons, tot_cons, List.length_append, List.length_replicate]
    omega

theorem expand_mem {x : Int} {cs : List (Int × Int)} (h : x ∈ expand cs) : ∃ p ∈ cs, p.1 = x := by
  simp only [expand, List.mem_flatMap, List.mem_replicate] at h
  obtain ⟨p, hp, _, e⟩ := h
  exact ⟨p, hp, e.symm⟩

theorem expand_sorted : ∀ (cs : List (Int × Int)), cs.Pairwise (fun a b => a.1 ≤ b.1) → (expand cs).Pairwise (fun a b => a ≤ b)
  | [], _ => List.Pairwise.nil
  | p :: cs, h => by
    obtain ⟨h1, h2⟩ := List.pairwise_cons.1 h
    rw [expand_cons, List.pairwise_append]
    refine ⟨List.pairwise_replicate.2 (Or.inr (Int.le_refl _)), expand_sorted cs h2, ?_⟩
    intro a ha b hb
    obtain ⟨_, rfl⟩ := List.mem_replicate.1 ha
    obtain ⟨q, hq, rfl⟩ := expand_mem hb
    exact h1 q hq

/-- rows in order lay out the list in order -/
theorem expand_srt {cs : List (Int × Int)} {l : List Int} (hs : cs.Pairwise (fun a b => a.1 ≤ b.1)) (hp : (expand cs).Perm l) : expand cs = srt l :=
  sorted_eq (expand_sorted cs hs) (srt_sorted l) (hp.trans (srt_perm l).symm)

/-- the delay that stands at place r (from 1) lies in the row k that the sums of the counts show -/
theorem expand_at {cs : List (Int × Int)} (hpos : Pos cs) {k : Nat} (hk : k < cs.length) {r : Int} (h0 : 0 ≤ r) (h1 : tot (cs.take k) < r) (h2 : r ≤ tot (cs.take k) + (cs[k]'hk).2) :
    (expand cs).getD (r.toNat - 1) 0 = (cs[k]'hk).1 := by
  have e : cs = cs.take k ++ (cs[k]'hk :: cs.drop (k + 1)) := by
    rw [← List.drop_eq_getElem_cons hk, List.take_append_drop]
  have hp1 : Pos (cs.take k) := fun p hp => hpos p (List.mem_of_mem_take hp)
  have hl := expand_length (cs.take k) hp1
  have hx : expand cs = expand (cs.take k) ++ (List.replicate (cs[k]'hk).2.toNat (cs[k]'hk).1 ++ expand (cs.drop (k + 1))) := by
    conv => lhs; rw [e]
    rw [expand_append, expand_cons]
  rw [hx, List.getD_eq_getElem?_getD, List.getElem?_append_right (by omega), List.getElem?_append_left (by rw [List.length_replicate]; omega), List.getElem?_replicate, if_pos (by omega)]
  rfl

theorem expand_head {cs : List (Int × Int)} (hpos : Pos cs) (hk : 0 < cs.length) : (expand cs).getD 0 0 = (cs[0]'hk).1 := by
  have h1 := hpos (cs[0]'hk) (List.getElem_mem hk)
  have := expand_at hpos hk (r := 1) (by omega) (by simp [tot_nil]) (by simp [tot_nil]; omega)
  simpa using this

theorem tot_take_succ (cs : List (Int × Int)) {k : Nat} (hk : k < cs.length) : tot (cs.take (k + 1)) = tot (cs.take k) + (cs[k]'hk).2 := by
  rw [List.take_succ_eq_append_getElem hk, tot_append]; simp [tot]

theorem tot_take_le (cs : List (Int × Int)) (hpos : Pos cs) (k : Nat) : 0 ≤ tot (cs.take k) ∧ tot (cs.take k) ≤ tot cs := by
  have e : tot cs = tot (cs.take k) + tot (cs.drop k) := by rw [← tot_append, List.take_append_drop]
  have a := expand_length (cs.take k) (fun p hp => hpos p (List.mem_of_mem_take hp))
  have b := expand_length (cs.drop k) (fun p hp => hpos p (List.mem_of_mem_drop hp))
  omega

theorem expand_last {cs : List (Int × Int)} (hpos : Pos cs) (hk : 0 < cs.length) : (expand cs).getD ((expand cs).length - 1) 0 = (cs[cs.length - 1]'(by omega)).1 := by
  have hl := expand_length cs hpos
  have hlt : cs.length - 1 < cs.length := by omega
  have h1 := hpos (cs[cs.length - 1]'hlt) (List.getElem_mem hlt)
  have hs := tot_take_succ cs hlt
  rw [show cs.length - 1 + 1 = cs.length from by omega, List.take_length] at hs
  have hb := tot_take_le cs hpos (cs.length - 1)
  have := expand_at hpos hlt (r := tot cs) (by omega) (by omega) (by omega)
  rw [← this, ← hl, Int.toNat_natCast]

/-- the rows hold the delays of the list: in order of the delays, each count at least one, laid out a permutation -/
structure RowsOf (cs : List (Int × Int)) (l : List Int) : Prop where
  pos : Pos cs
  ord : cs.Pairwise (fun a b => a.1 ≤ b.1)
  perm : (expand cs).Perm l

theorem RowsOf.len {cs : List (Int × Int)} {l : List Int} (h : RowsOf cs l) : tot cs = l.length := by
  rw [← expand_length cs h.pos, h.perm.length_eq]
theorem RowsOf.nil_iff {cs : List (Int × Int)} {l : List Int} (h : RowsOf cs l) : cs.length = 0 ↔ l.length = 0 := by
  have h1 := h.len
  constructor
  · intro e; have : cs = [] := List.eq_nil_of_length_eq_zero e; subst this; simp [tot] at h1; omega
  · intro e
    match cs, h, h1 with
    | [], _, _ => rfl
    | p :: t, h, h1 =>
      have a := h.pos p (by simp)
      have b := expand_length t (fun q hq => h.pos q (by simp [hq]))
      rw [tot_cons] at h1; omega
theorem RowsOf.least {cs : List (Int × Int)} {l : List Int} (h : RowsOf cs l) (hk : 0 < cs.length) : (cs[0]'hk).1 = least l := by
  rw [← expand_head h.pos hk, expand_srt h.ord h.perm]; rfl
theorem RowsOf.greatest {cs : List (Int × Int)} {l : List Int} (h : RowsOf cs l) (hk : 0 < cs.length) : (cs[cs.length - 1]'(by omega)).1 = greatest l := by
  rw [← expand_last h.pos hk, h.perm.length_eq, expand_srt h.ord h.perm]; rfl
theorem RowsOf.median {cs : List (Int × Int)} {l : List Int} (h : RowsOf cs l) {k : Nat} (hk : k < cs.length)
    (h1 : tot (cs.take k) < (tot cs + 1) / 2) (h2 : (tot cs + 1) / 2 ≤ tot (cs.take k) + (cs[k]'hk).2) : (cs[k]'hk).1 = median l := by
  have hl := h.len
  rw [← expand_at h.pos hk (by omega) h1 h2, expand_srt h.ord h.perm]
  unfold Ybulkaaou.median
  congr 1
  omega

#print axioms RowsOf.median
end Go.Proofs.Ybulkaaou
