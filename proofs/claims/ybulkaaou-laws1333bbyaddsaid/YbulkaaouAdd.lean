/-
  The walk of (*Delays).Add (5). Own work of this seat.
-/
import Derived.Test.YbulkaaouInsert
import Derived.Test.YbulkaaouManyWalk
namespace Go.Proofs.Ybulkaaou
open Go.ChangeShapes Go.WideShapes Go.ChangeAt Go.RowKit Go.Maps

theorem Counts.perm {H : Type} {D : DataW H} {l m : List Int} (h : Counts D l) (hp : l.Perm m) : Counts D m :=
  ⟨h.isMap, fun x => by rw [h.at_, hp.count_eq], fun k hk => by obtain ⟨x, hx, e⟩ := h.keys k hk; exact ⟨x, hp.mem_iff.1 hx, e⟩, fun x hx => h.mem x (hp.mem_iff.2 hx)⟩

theorem split_at (cs : List (Int × Int)) {i : Nat} (hi : i < cs.length) : cs = cs.take i ++ cs.getD i (0, 0) :: cs.drop (i + 1) := by
  rw [List.getD_eq_getElem?_getD, List.getElem?_eq_getElem hi, Option.getD_some, ← List.drop_eq_getElem_cons hi, List.take_append_drop]

/-- one more of a delay that is there -/
theorem bump_perm (cs : List (Int × Int)) {i : Nat} (hi : i < cs.length) (hpos : Pos cs) : (expand (cs.set i ((cs.getD i (0, 0)).1, (cs.getD i (0, 0)).2 + 1))).Perm (expand cs ++ [(cs.getD i (0, 0)).1]) := by
  have e := split_at cs hi
  have hp : 1 ≤ (cs.getD i (0, 0)).2 := by
    rw [List.getD_eq_getElem?_getD, List.getElem?_eq_getElem hi]; exact hpos _ (List.getElem_mem hi)
  have e2 : cs.set i ((cs.getD i (0, 0)).1, (cs.getD i (0, 0)).2 + 1) = cs.take i ++ ((cs.getD i (0, 0)).1, (cs.getD i (0, 0)).2 + 1) :: cs.drop (i + 1) := by
    rw [List.set_eq_take_append_cons_drop, if_pos hi]
  have e3 : expand cs = expand (cs.take i) ++ (List.replicate (cs.getD i (0, 0)).2.toNat (cs.getD i (0, 0)).1 ++ expand (cs.drop (i + 1))) := by
    conv => lhs; rw [e]
    rw [expand_append, expand_cons]
  rw [e2, e3]
  generalize cs.getD i (0, 0) = p at hp
  rw [expand_append, expand_cons]
  show (expand (cs.take i) ++ (List.replicate (p.2 + 1).toNat p.1 ++ expand (cs.drop (i + 1)))).Perm _
  rw [show (p.2 + 1).toNat = p.2.toNat + 1 from by omega, List.replicate_succ', List.append_assoc (List.replicate p.2.toNat p.1), List.append_assoc, List.append_assoc]
  exact List.Perm.append_left _ (List.Perm.append_left _ List.perm_append_comm)

theorem lay_perm (cs : List (Int × Int)) (i : Nat) (us : Int) : (expand (laidIn cs i us)).Perm (expand cs ++ [us]) := by
  have e : expand cs = expand (cs.take i) ++ expand (cs.drop i) := by rw [← expand_append, List.take_append_drop]
  rw [laidIn, expand_append, expand_cons, e, List.append_assoc]
  exact List.Perm.append_left _ List.perm_append_comm

theorem getD_mem {cs : List (Int × Int)} {i : Nat} (hi : i < cs.length) : cs.getD i (0, 0) ∈ cs := by
  rw [List.getD_eq_getElem?_getD, List.getElem?_eq_getElem hi]; exact List.getElem_mem hi

theorem mem_getD {cs : List (Int × Int)} {p : Int × Int} (h : p ∈ cs) : ∃ i, i < cs.length ∧ cs.getD i (0, 0) = p := by
  obtain ⟨i, hi, e⟩ := List.mem_iff_getElem.1 h
  exact ⟨i, hi, by rw [List.getD_eq_getElem?_getD, List.getElem?_eq_getElem hi]; exact e⟩

theorem take_lt {cs : List (Int × Int)} {us : Int} {i : Nat} (hF : Found cs us i) : ∀ p ∈ cs.take i, p.1 < us := by
  intro p hp
  obtain ⟨j, hj, e⟩ := List.mem_iff_getElem.1 hp
  have hj' : j < i ∧ j < cs.length := by simpa [List.length_take, Nat.lt_min] using hj
  have := hF.lo j hj'.1
  rw [List.getD_eq_getElem?_getD, List.getElem?_eq_getElem hj'.2] at this
  rw [← e, List.getElem_take]; exact this

theorem drop_gt {cs : List (Int × Int)} {us : Int} {i : Nat} (hF : Found cs us i) (hs : cs.Pairwise (fun a b => a.1 < b.1)) (hh : hit cs us i = false) : ∀ p ∈ cs.drop i, us < p.1 := by
  intro p hp
  obtain ⟨j, hj, e⟩ := List.mem_iff_getElem.1 hp
  have hj' : i + j < cs.length := by simp at hj; omega
  have h1 := hF.hi (i + j) (by omega) hj'
  have e2 : p = cs.getD (i + j) (0, 0) := by
    rw [List.getD_eq_getElem?_getD, List.getElem?_eq_getElem hj', ← e, List.getElem_drop]; rfl
  rw [e2]
  have h0 : (cs.getD i (0, 0)).1 ≠ us := fun he => by
    have : hit cs us i = true := decide_eq_true ⟨by omega, he⟩
    rw [this] at hh; cases hh
  have h2 := hF.hi i (Nat.le_refl _) (by omega)
  rcases Nat.eq_zero_or_pos j with rfl | hj0
  · rw [Nat.add_zero]; omega
  · have := sorted_getD hs (show i < i + j by omega) hj'; omega

theorem laidIn_sorted {cs : List (Int × Int)} {us : Int} {i : Nat} (hF : Found cs us i) (hs : cs.Pairwise (fun a b => a.1 < b.1)) (hh : hit cs us i = false) : (laidIn cs i us).Pairwise (fun a b => a.1 < b.1) := by
  have e : cs.take i ++ cs.drop i = cs := List.take_append_drop i cs
  have hs' := hs
  rw [← e] at hs'
  obtain ⟨s1, s2, s3⟩ := List.pairwise_append.1 hs'
  unfold laidIn
  refine List.pairwise_append.2 ⟨s1, List.pairwise_cons.2 ⟨drop_gt hF hs hh, s2⟩, fun a ha b hb => ?_⟩
  rcases List.mem_cons.1 hb with rfl | hb
  · exact take_lt hF a ha
  · exact s3 a ha b hb

/-- what stands at block db, from round to round -/
def St (base : Nat) (w : World) (db : Nat) (l : List Int) : Prop :=
  db < base ∧ base ≤ w.heap.size ∧ ∃ v mo, w.heap[db]? = some (.cells #[v, .map mo] 26 (0, 0)) ∧
    ((mo = none ∧ ∃ cs, w.ownsRow base 38 2 v cs.length (flatDc cs) ∧ cs.Pairwise (fun a b => a.1 < b.1) ∧ Pos cs ∧ (expand cs).Perm l ∧ cs.length ≤ 64) ∨
     ∃ mb n, ∃ D : DataW Unit, mo = some mb ∧ base ≤ mb ∧ w.ownsMap Yba.prog 2 (plainElem Yba.prog 3) mb n D ∧ n ≤ l.length ∧ Counts D l)

theorem here_of_owns {w : World} {base : Nat} {v : Value} {cs : List (Int × Int)} (h : w.ownsRow base 38 2 v cs.length (flatDc cs)) : Here w v cs := by
  rcases Nat.eq_zero_or_pos cs.length with h0 | h0
  · refine Or.inl ⟨List.eq_nil_of_length_eq_zero h0, ?_⟩
    rcases h.2 with ⟨rfl, _⟩ | ⟨g, cap, cur, rfl, _⟩
    · exact ⟨_, _, rfl⟩
    · exact ⟨_, _, by rw [h0]⟩
  · obtain ⟨g, cap, rfl, _, hgl, hH⟩ := holdsK_of_ownsRow h (fun e => by
      rcases h.2 with ⟨_, h2⟩ | ⟨g, cap, cur, e2, _⟩
      · omega
      · rw [e2] at e; cases e)
    exact Or.inr ⟨h0, g, 0, cap, rfl, hgl, holdsK_cells hH⟩

theorem St.src {base : Nat} {w : World} {db : Nat} {l : List Int} (h : St base w db l) (hl : l.length ≤ 1024) : Src w db l ∧ db < w.heap.size := by
  obtain ⟨h1, h2, v, mo, hb, hS⟩ := h
  refine ⟨⟨v, mo, by rw [cell_of_block hb]; rfl, by rw [cell_of_block hb]; rfl, ?_⟩, by omega⟩
  rcases hS with ⟨rfl, cs, hrow, hs, hpos, hperm, _⟩ | ⟨mb, n, D, rfl, _, hown, hn, hC⟩
  · exact Or.inl ⟨rfl, cs, here_of_owns hrow, hpos, hs.imp (fun h => Int.le_of_lt h), hperm⟩
  · exact Or.inr ⟨mb, n, D, rfl, hown, by omega, hC⟩

theorem cell_congr {w w' : World} {b : Nat} (h : w'.heap[b]? = w.heap[b]?) (o : Nat) : w'.cell? ⟨b, o, none⟩ = w.cell? ⟨b, o, none⟩ := by simp [World.cell?, h]

theorem flatDc_set : ∀ (cs : List (Int × Int)) (i : Nat) (x c : Int), i < cs.length → (cs.getD i (0, 0)).1 = x → (flatDc cs).set (i * 2 + 1) (.int .i64 c) = flatDc (cs.set i (x, c))
  | [], _, _, _, h, _ => by simp at h
  | p :: cs, 0, x, c, _, he => by
    have he' : p.1 = x := by simpa using he
    rw [flatDc_cons, List.set_cons_zero, flatDc_cons, he']; rfl
  | p :: cs, i + 1, x, c, h, he => by
    rw [List.set_cons_succ, flatDc_cons, flatDc_cons, show (i + 1) * 2 + 1 = (i * 2 + 1) + 1 + 1 from by omega, List.set_cons_succ, List.set_cons_succ, flatDc_set cs i x c (by simpa using h) (by simpa using he)]

theorem set_sorted {cs : List (Int × Int)} {i : Nat} {x c : Int} (hi : i < cs.length) (he : (cs.getD i (0, 0)).1 = x) (hs : cs.Pairwise (fun a b => a.1 < b.1)) : (cs.set i (x, c)).Pairwise (fun a b => a.1 < b.1) := by
  have e : (cs.set i (x, c)).map (fun p => p.1) = cs.map (fun p => p.1) := by
    apply List.ext_getElem?
    intro j
    rw [List.getElem?_map, List.getElem?_map, List.getElem?_set]
    by_cases hij : i = j
    · subst hij
      rw [List.getD_eq_getElem?_getD, List.getElem?_eq_getElem hi] at he
      simp [hi] at he ⊢
      exact he.symm
    · rw [if_neg hij]
  have h1 : ((cs.set i (x, c)).map (fun p => p.1)).Pairwise (fun a b => a < b) := by rw [e]; exact List.pairwise_map.2 hs
  exact List.pairwise_map.1 h1

theorem owns_shape {w : World} {base : Nat} {v : Value} {cs : List (Int × Int)} (h : w.ownsRow base 38 2 v cs.length (flatDc cs)) : ∃ a cap, v = .slice a cs.length cap ∧ cs.length ≤ cap ∧ cap ≤ maxLen := by
  rcases h.2 with ⟨rfl, h0⟩ | ⟨g, cap, cur, rfl, _, _, h1, h2, _⟩
  · exact ⟨none, 0, by rw [h0], by omega, Nat.zero_le _⟩
  · exact ⟨_, _, rfl, h1, h2⟩

theorem block_setCell {w : World} {db o : Nat} {c : Array Value} {t : TypeId} (hb : w.heap[db]? = some (.cells c t (0, 0))) (u : Value) : (w.setCell ⟨db, o, none⟩ u).heap[db]? = some (.cells (c.setIfInBounds o u) t (0, 0)) := by
  rw [setCell_eq_setRow w db o c t (0, 0) u hb]
  exact setRow_heap w db _ _ t _ hb

theorem count_take_zero {cs : List (Int × Int)} (hs : cs.Pairwise (fun a b => a.1 < b.1)) {k : Nat} (hk : k < cs.length) : (expand (cs.take k)).count (cs.getD k (0, 0)).1 = 0 := by
  apply count_expand_none
  intro hm
  obtain ⟨p, hp, he⟩ := List.mem_map.1 hm
  obtain ⟨j, hj, e⟩ := List.mem_iff_getElem.1 hp
  have hj' : j < k ∧ j < cs.length := by simpa [List.length_take, Nat.lt_min] using hj
  have := sorted_getD hs hj'.1 hk
  have e2 : p = cs.getD j (0, 0) := by rw [List.getD_eq_getElem?_getD, List.getElem?_eq_getElem hj'.2, ← e, List.getElem_take]; rfl
  rw [← e2, he] at this
  omega

theorem expand_take_succ {cs : List (Int × Int)} {k : Nat} (hk : k < cs.length) : expand (cs.take (k + 1)) = expand (cs.take k) ++ List.replicate (cs.getD k (0, 0)).2.toNat (cs.getD k (0, 0)).1 := by
  rw [List.take_succ_eq_append_getElem hk, expand_append, expand_cons, expand_nil, List.append_nil, List.getD_eq_getElem?_getD, List.getElem?_eq_getElem hk]; rfl

theorem count_not_hit {cs : List (Int × Int)} {us : Int} {i : Nat} (hF : Found cs us i) (hs : cs.Pairwise (fun a b => a.1 < b.1)) (hh : hit cs us i = false) : (expand cs).count us = 0 := by
  apply count_expand_none
  intro hm
  obtain ⟨p, hp, he⟩ := List.mem_map.1 hm
  rw [← List.take_append_drop i cs] at hp
  rcases List.mem_append.1 hp with h | h
  · have := take_lt hF p h; omega
  · have := drop_gt hF hs hh p h; omega

/-- behind Add -/
def Added (base : Nat) (w : World) (db : Nat) (l : List Int) (us : Int) (e : Ending) (w' : World) : Prop :=
  e = .returned (.tuple #[]) ∧ St base w' db (l ++ [us]) ∧ RowKit.Below db w w'

set_option maxRecDepth 100000 in
set_option maxHeartbeats 2000000 in
/-- the map form: one more -/
theorem add_many (base : Nat) (w : World) (db : Nat) (l : List Int) (us : Int) (v : Value) (mb n : Nat) (D : DataW Unit) (hdb : db < base) (hbase : base ≤ w.heap.size) (hb : w.heap[db]? = some (.cells #[v, .map (some mb)] 26 (0, 0)))
    (hmb : base ≤ mb) (hown : w.ownsMap Yba.prog 2 (plainElem Yba.prog 3) mb n D) (hn : n ≤ l.length) (hC : Counts D l) (hl : l.length < 1024) (hw : (Lit.int .i64 us).wf = true) :
    Calls Yba.prog 5 #[.pointer (some ⟨db, 0, none⟩), .int .i64 us] w (Added base w db l us) := by
  have hmm := fun w r => run_neq_map_nil (P := Yba.prog) w 24 2 3 r Yba.underlying24
  have c1 : w.cell? ⟨db, 1, none⟩ = some (.map (some mb)) := by rw [cell_of_block hb]; rfl
  have hcn := hC.at_ us
  have hst := hC.step us 1 (Nat.le_refl _)
  have hcl : l.count us ≤ l.length := List.count_le_length
  have hlen : ((l ++ [us]).length) = l.length + 1 := by simp
  have HS : Hid (Counts (D.put (ky us) (ct ((l.count us : Int) + 1))) (l ++ [us])) := by
    show Counts (D.put (ky us) (ct ((l.count us : Int) + 1))) (l ++ [us])
    simpa using hst
  generalize hcc : l.count us = cn at hcn hcl HS
  clear hst hcc
  have hcl' : (cn : Int) ≤ 1024 := by omega
  go_enter Yba.func5, Yba.ntmps5
  go_wp2_with (first
    | (at_lookup; refine wpList_lookup_own_int _ rfl _ _ 24 rfl 2 3 .i64 law2 Yba.underlying24 Yba.underlying3 (zero3 _) mb n _ rfl hown _ _ rfl (keyOf_int_mk Yba.underlying2 hw) ?_; intro c0 hat hwc; obtain rfl : c0 = (cn : Int) := ct_inj (H := Unit) (hat.symm.trans hcn))
    | (at_mapUpdate; refine wpList_mapUpdate_own _ rfl _ _ _ 24 rfl 2 3 law2 Yba.underlying24 _ mb n _ rfl hown (by unfold maxLen; omega) _ _ _ rfl rfl (keyOf_int_mk Yba.underlying2 hw) _ [] (plainElem_int Yba.underlying3 (WalkArith.wf_i64 (by omega))) ?_; intro w2 hown2 hgrow2)
    | go_in)
  go_end0
  refine ⟨rfl, ⟨hdb, Nat.le_trans hbase hgrow2.size, v, some mb, ?_, Or.inr ⟨mb, n + 1, _, rfl, hmb, hown2, by rw [hlen]; omega, HS.out⟩⟩, ?_⟩
  · exact (hgrow2.block db (by omega) (fun e => by have := Option.some.inj e; omega)).trans hb
  · exact (Below.refl _ _).grown hgrow2 (by omega) (fun k hk => by have := Option.some.inj hk; omega)

set_option maxRecDepth 100000 in
set_option maxHeartbeats 4000000 in
/-- the slice form -/
theorem add_few (base : Nat) (w : World) (db : Nat) (l : List Int) (us : Int) (v : Value) (cs : List (Int × Int)) (hdb : db < base) (hbase : base ≤ w.heap.size) (hb : w.heap[db]? = some (.cells #[v, .map none] 26 (0, 0)))
    (hrow : w.ownsRow base 38 2 v cs.length (flatDc cs)) (hs : cs.Pairwise (fun a b => a.1 < b.1)) (hpos : Pos cs) (hperm : (expand cs).Perm l) (h64 : cs.length ≤ 64) (hl : l.length < 1024) (hw : (Lit.int .i64 us).wf = true) (hwl : ∀ x ∈ l, (Lit.int .i64 x).wf = true) :
    Calls Yba.prog 5 #[.pointer (some ⟨db, 0, none⟩), .int .i64 us] w (Added base w db l us) := by
  have hmm := fun w r => run_neq_map_nil (P := Yba.prog) w 24 2 3 r Yba.underlying24
  have c0 : w.cell? ⟨db, 0, none⟩ = some v := by rw [cell_of_block hb]; rfl
  have c1 : w.cell? ⟨db, 1, none⟩ = some (.map none) := by rw [cell_of_block hb]; rfl
  go_enter Yba.func5, Yba.ntmps5
  go_wp2_with fail
  refine (search_any v cs us w (here_of_owns hrow) hs (by omega)).mono ?_
  rintro e w1 ⟨i, hF, rfl, hb1⟩
  have hrow1 := hrow.below hb1
  have hb1d : w1.heap[db]? = some (.cells #[v, .map none] 26 (0, 0)) := (hb1.block db (by omega)).trans hb
  have hbel1 : RowKit.Below db w w1 := hb1.mono (by omega)
  have hbase1 : base ≤ w1.heap.size := Nat.le_trans hbase hb1.size
  have d0 : w1.cell? ⟨db, 0, none⟩ = some v := by rw [cell_of_block hb1d]; rfl
  have d1 : w1.cell? ⟨db, 1, none⟩ = some (.map none) := by rw [cell_of_block hb1d]; rfl
  have f0 : ∀ o, w1.frozen? ⟨db, o, none⟩ = false := frozen_of_block hb1d
  clear c0 c1 hb hb1 hrow
  cases hh : hit cs us i with
  | true =>
    have hit' : i < cs.length ∧ (cs.getD i (0, 0)).1 = us := of_decide_eq_true hh
    obtain ⟨hi, hus⟩ := hit'
    obtain ⟨g, cap, rfl, hbg, hgl, hH⟩ := holdsK_of_ownsRow hrow1 (fun e => by
      rcases hrow1.2 with ⟨_, h2⟩ | ⟨g, cap, cur, e2, _⟩
      · omega
      · rw [e2] at e; cases e)
    have k2 := (holdsK_cells hH i hi).2
    rw [Nat.zero_add] at k2
    have kf : ∀ o, w1.frozen? ⟨g, o, none⟩ = false := fun o => hrow1.frozenAt o
    have hp1 := hpos _ (getD_mem hi)
    have hts := tot_take_succ cs hi
    have htl := (tot_take_le cs hpos (i + 1)).2
    have htl0 := (tot_take_le cs hpos i).1
    have hlen := expand_length cs hpos
    rw [hperm.length_eq] at hlen
    have hge : cs[i] = cs.getD i (0, 0) := by rw [List.getD_eq_getElem?_getD, List.getElem?_eq_getElem hi]; rfl
    rw [hge] at hts
    have hp2 : (cs.getD i (0, 0)).2 ≤ 1024 := by omega
    have HR : Hid ((w1.setCell ⟨g, i * 2 + 1, none⟩ (.int .i64 ((cs.getD i (0, 0)).2 + 1))).ownsRow base 38 2 (.slice (some ⟨g, 0, none⟩) cs.length cap) cs.length (flatDc (cs.set i (us, (cs.getD i (0, 0)).2 + 1)))) := by
      have := hrow1.stored (i * 2 + 1) (.int .i64 ((cs.getD i (0, 0)).2 + 1))
      rw [flatDc_set cs i us _ hi hus] at this
      exact this.1
    have HP : Hid ((expand (cs.set i (us, (cs.getD i (0, 0)).2 + 1))).Perm (l ++ [us])) := by
      have := bump_perm cs hi hpos
      rw [hus] at this
      exact this.trans (hperm.append_right _)
    have HQ : Hid (Pos (cs.set i (us, (cs.getD i (0, 0)).2 + 1))) := fun p hp => by
      rcases List.mem_or_eq_of_mem_set hp with h | h
      · exact hpos p h
      · rw [h]; show 1 ≤ (cs.getD i (0, 0)).2 + 1; omega
    have HO : Hid ((cs.set i (us, (cs.getD i (0, 0)).2 + 1)).Pairwise (fun a b => a.1 < b.1)) := set_sorted hi hus hs
    have HL : Hid ((cs.set i (us, (cs.getD i (0, 0)).2 + 1)).length = cs.length) := List.length_set
    generalize cs.set i (us, (cs.getD i (0, 0)).2 + 1) = cs' at HR HP HQ HO HL
    generalize (cs.getD i (0, 0)).2 = c at k2 HR hp1 hp2 hts
    have hii : (i : Int) < (cs.length : Int) := by omega
    go_wp2
    go_end0
    refine ⟨rfl, ⟨hdb, by simpa [World.setCell] using hbase1, _, none, (Below.heap_setCell _ _ _ _ (show db ≠ g by omega)).trans hb1d, Or.inl ⟨rfl, cs', by rw [HL.out]; exact HR.out, HO.out, HQ.out, HP.out, by rw [HL.out]; exact h64⟩⟩, hbel1.setCell (show db ≤ g by omega) _⟩
  | false =>
    obtain ⟨a, cap, rfl, hcap, hcm⟩ := owns_shape hrow1
    by_cases h6 : cs.length < 64
    · have h6' : (cs.length : Int) < 64 := by omega
      go_wp2_with fail
      refine (insert_any base _ cs i us w1.heap.size (w1.alloc (.cells #[.int .i64 us, .int .i64 1] 38)) (hrow1.alloc _) (by omega) (by show (w1.heap.push _)[w1.heap.size]? = _; rw [Array.getElem?_push, if_pos rfl]) (fun e => by have := (hrow1.lt _ e).2; omega) (by simp; omega) hF.le).mono ?_
      rintro e w3 ⟨v', rfl, hrow3, hg3⟩
      have hs3 := hg3.size
      simp only [World.size_alloc] at hs3
      have hb3d : w3.heap[db]? = some (.cells #[.slice a cs.length cap, .map none] 26 (0, 0)) := by
        refine (hg3.block db (by simp; omega) (fun e => ?_)).trans ((Below.heap_alloc _ _ _ (by omega)).trans hb1d)
        have := (hrow1.lt db e.symm).1; omega
      have hbel3 : RowKit.Below db w w3 := (hbel1.alloc (by omega) _).grown hg3 (by simp; omega) (fun k hk => by have := (hrow1.lt k hk).1; omega)
      have d0 : w3.cell? ⟨db, 0, none⟩ = some (.slice a cs.length cap) := by rw [cell_of_block hb3d]; rfl
      have f3 : ∀ o, w3.frozen? ⟨db, o, none⟩ = false := frozen_of_block hb3d
      have hlb : db < base := hdb
      obtain ⟨a', cap', rfl, hcap', hcm'⟩ : ∃ a' cap', v' = .slice a' (cs.length + 1) cap' ∧ cs.length + 1 ≤ cap' ∧ cap' ≤ maxLen := by
        rcases hrow3.2 with ⟨_, h0⟩ | ⟨g, cap, cur, rfl, _, _, h1, h2, _⟩
        · omega
        · exact ⟨_, _, rfl, h1, h2⟩
      go_wp2
      go_end0
      refine ⟨rfl, ⟨hdb, by simp; omega, _, none, block_setCell hb3d _, Or.inl ⟨rfl, laidIn cs i us, ?_, laidIn_sorted hF hs hh, ?_, (lay_perm cs i us).trans (hperm.append_right _), by rw [laidIn_length _ _ _ hF.le]; omega⟩⟩, hbel3.setCell (Nat.le_refl _) _⟩
      · rw [laidIn_length _ _ _ hF.le]
        exact ownsRow_setCell_below hrow3 (show db < base from hdb) _
      · intro p hp
        rcases List.mem_append.1 hp with h | h
        · exact hpos p (List.mem_of_mem_take h)
        · rcases List.mem_cons.1 h with rfl | h
          · exact Int.le_refl _
          · exact hpos p (List.mem_of_mem_drop h)
    · have h6' : ¬ (cs.length : Int) < 64 := by omega
      have hmk : ∀ w, (Instr.makeMap 24 (some (.int .i64 128))).run Yba.prog w = .ok (.map (some w.heap.size)) (w.alloc (.map #[] 0)) := fun _ => by kernel_rfl
      obtain ⟨g, cap', e', hbg, hgl, hH⟩ := holdsK_of_ownsRow hrow1 (fun e => by
        rcases hrow1.2 with ⟨_, h2⟩ | ⟨g, cap, cur, e2, _⟩
        · omega
        · rw [e2] at e; cases e)
      cases e'
      have hdw : db < w1.heap.size := by omega
      have hgd : g ≠ db := by omega
      go_wp2_with fail
      have hm0 : ((w1.setCell ⟨db, 1, none⟩ (.map (some w1.heap.size))).alloc (.map #[] 0)).ownsMap Yba.prog 2 (plainElem Yba.prog 3) w1.heap.size 0 (.map [] : DataW Unit) := by
        have := World.ownsMap_made (H := Unit) (w1.setCell ⟨db, 1, none⟩ (.map (some w1.heap.size))) Yba.prog 2 (plainElem Yba.prog 3)
        simpa [World.setCell] using this
      have hd0 : ((w1.setCell ⟨db, 1, none⟩ (.map (some w1.heap.size))).alloc (.map #[] 0)).heap[db]? = some (.cells #[.slice (some ⟨g, 0, none⟩) cs.length cap, .map (some w1.heap.size)] 26 (0, 0)) :=
        (Below.heap_alloc _ _ _ (by simpa [World.setCell] using hdw)).trans (block_setCell hb1d _)
      have hc0 : ∀ j, j < cs.length → ((w1.setCell ⟨db, 1, none⟩ (.map (some w1.heap.size))).alloc (.map #[] 0)).cell? ⟨g, j * 2, none⟩ = some (.int .i64 (cs.getD j (0, 0)).1) ∧ ((w1.setCell ⟨db, 1, none⟩ (.map (some w1.heap.size))).alloc (.map #[] 0)).cell? ⟨g, j * 2 + 1, none⟩ = some (.int .i64 (cs.getD j (0, 0)).2) := fun j hj => by
        have hx := holdsK_cells hH j hj
        rw [Nat.zero_add] at hx
        have hgb : ((w1.setCell ⟨db, 1, none⟩ (.map (some w1.heap.size))).alloc (.map #[] 0)).heap[g]? = w1.heap[g]? := (Below.heap_alloc _ _ _ (by simpa [World.setCell] using hgl)).trans (Below.heap_setCell _ _ _ _ hgd)
        exact ⟨(cell_congr hgb _).trans hx.1, (cell_congr hgb _).trans hx.2⟩
      have hB0 : RowKit.Below db w ((w1.setCell ⟨db, 1, none⟩ (.map (some w1.heap.size))).alloc (.map #[] 0)) := (hbel1.setCell (Nat.le_refl _) _).alloc (by simp; omega) _
      have hs0 : ((w1.setCell ⟨db, 1, none⟩ (.map (some w1.heap.size))).alloc (.map #[] 0)).heap.size = w1.heap.size + 1 := by simp
      generalize (w1.setCell ⟨db, 1, none⟩ (.map (some w1.heap.size))).alloc (.map #[] 0) = W0 at hm0 hd0 hc0 hB0 hs0 ⊢
      have HC : Hid (∀ j, j < cs.length → W0.cell? ⟨g, j * 2, none⟩ = some (.int .i64 (cs.getD j (0, 0)).1) ∧ W0.cell? ⟨g, j * 2 + 1, none⟩ = some (.int .i64 (cs.getD j (0, 0)).2)) := hc0
      clear hc0 d0 d1 f0 hH hrow1 hbel1 hmk hmm hb1d
      generalize hmb : w1.heap.size = mb at *
      have hmbg : base ≤ mb := by omega
      clear hmb hbase1
      have hgm : g < mb := by omega
      have hdm : db < mb := by omega
      go_loopw [8, 40] (fun _ iv wr => ∃ k : Nat, k ≤ cs.length ∧ iv = .int .i64 k ∧ ∃ D : DataW Unit, wr.ownsMap Yba.prog 2 (plainElem Yba.prog 3) mb k D ∧ Counts D (expand (cs.take k)) ∧ RowKit.Below mb W0 wr) (fun _ iv _ => cs.length - (intOf iv).toNat)
      case atStart => exact ⟨0, Nat.zero_le _, rfl, .map [], hm0, Counts.start, Below.refl _ _⟩
      case round =>
        obtain ⟨k, hk, rfl, D, hown, hC, hbr⟩ := hrel
        have hrs := hbr.size
        have hbd : wr.heap[db]? = some (.cells #[.slice (some ⟨g, 0, none⟩) cs.length cap, .map (some mb)] 26 (0, 0)) := (hbr.block db hdm).trans hd0
        have r1 : wr.cell? ⟨db, 1, none⟩ = some (.map (some mb)) := by rw [cell_of_block hbd]; rfl
        by_cases hlt : k < cs.length
        · have x1 := (hbr.cell (p := ⟨g, k * 2, none⟩) hgm).trans (HC.out k hlt).1
          have x2 := (hbr.cell (p := ⟨g, k * 2 + 1, none⟩) hgm).trans (HC.out k hlt).2
          have hlt' : (k : Int) < (cs.length : Int) := by omega
          have hp1 := hpos _ (getD_mem hlt)
          have hts := tot_take_succ cs hlt
          have htl := (tot_take_le cs hpos (k + 1)).2
          have htl0 := (tot_take_le cs hpos k).1
          have hlen := expand_length cs hpos
          rw [hperm.length_eq] at hlen
          have hge : cs[k] = cs.getD k (0, 0) := by rw [List.getD_eq_getElem?_getD, List.getElem?_eq_getElem hlt]; rfl
          rw [hge] at hts
          have hp2 : (cs.getD k (0, 0)).2 ≤ 1024 := by omega
          have hwx : (Lit.int .i64 (cs.getD k (0, 0)).1).wf = true := by
            apply hwl
            apply hperm.mem_iff.1
            simp only [expand, List.mem_flatMap, List.mem_replicate]
            exact ⟨_, getD_mem hlt, by omega, rfl⟩
          have HS : Hid (Counts (D.put (ky (cs.getD k (0, 0)).1) (ct (cs.getD k (0, 0)).2)) (expand (cs.take (k + 1)))) := by
            show Counts (D.put (ky (cs.getD k (0, 0)).1) (ct (cs.getD k (0, 0)).2)) (expand (cs.take (k + 1)))
            have := hC.step (cs.getD k (0, 0)).1 (cs.getD k (0, 0)).2.toNat (by omega)
            rw [count_take_zero hs hlt, show (((0 : Nat) : Int) + ((cs.getD k (0, 0)).2.toNat : Int)) = (cs.getD k (0, 0)).2 from by omega] at this
            rw [expand_take_succ hlt]; exact this
          clear hts htl htl0 hlen hge
          generalize cs.getD k (0, 0) = p at x1 x2 hp1 hp2 hwx HS
          obtain ⟨w4, hrun, hown4, hgrow4⟩ := ((hown.alloc (.cells #[.int .i64 p.1, .int .i64 p.2] 38)).drew).update law2 Yba.underlying24 (by unfold maxLen; omega) (keyOf_int_mk Yba.underlying2 hwx) (plainElem_int Yba.underlying3 (a := p.2) (WalkArith.wf_i64 (by omega)))
          have hdr : db < wr.heap.size := by omega
          go_wp2
          go_region
          clear hrun
          go_wp2
          have hg4s := hgrow4.size
          have hb4 : RowKit.Below mb W0 w4 := ((hbr.alloc (by omega) _).drew).grown hgrow4 (by simp; omega) (fun j hj => by cases hj; exact Nat.le_refl _)
          go_roundw
          case rel => exact ⟨k + 1, by omega, by go_num, _, hown4, HS.out, hb4⟩
          case measure => simp [intOf]; omega
        · obtain rfl : k = cs.length := by omega
          have hlt' : ¬ (cs.length : Int) < (cs.length : Int) := by omega
          rw [List.take_length] at hC
          have hC2 := (hC.step us 1 (Nat.le_refl _))
          rw [count_not_hit hF hs hh] at hC2
          have HS : Hid (Counts (D.put (ky us) (ct 1)) (l ++ [us])) := by
            show Counts (D.put (ky us) (ct 1)) (l ++ [us])
            have h2 : Counts (D.put (ky us) (ct 1)) (expand cs ++ [us]) := by simpa using hC2
            exact h2.perm (hperm.append_right _)
          have hln : cs.length ≤ l.length := by
            have h1 := len_le_tot hpos
            have h2 := expand_length cs hpos
            rw [hperm.length_eq] at h2
            omega
          have hbase' : base ≤ wr.heap.size := by omega
          have hdr : db < wr.heap.size := by omega
          have rf : ∀ o, wr.frozen? ⟨db, o, none⟩ = false := frozen_of_block hbd
          have r0 : wr.cell? ⟨db, 0, none⟩ = some (.slice (some ⟨g, 0, none⟩) cs.length cap) := by rw [cell_of_block hbd]; rfl
          have hbw : RowKit.Below db w wr := hB0.trans (hbr.mono (by omega))
          clear hC2
          go_wp2_with (first
            | (at_mapUpdate; refine wpList_mapUpdate_own _ rfl _ _ _ 24 rfl 2 3 law2 Yba.underlying24 _ mb cs.length _ rfl hown (by unfold maxLen; omega) _ _ _ rfl rfl (keyOf_int_mk Yba.underlying2 hw) _ [] (plainElem_int Yba.underlying3 (a := 1) (WalkArith.wf_i64 (by omega))) ?_
               intro w5 hown5 hgrow5
               have hbd5 : w5.heap[db]? = some (.cells #[.slice (some ⟨g, 0, none⟩) cs.length cap, .map (some mb)] 26 (0, 0)) := (hgrow5.block db hdr (fun e => by have := Option.some.inj e; omega)).trans hbd
               have s0 : w5.cell? ⟨db, 0, none⟩ = some (.slice (some ⟨g, 0, none⟩) cs.length cap) := by rw [cell_of_block hbd5]; rfl
               have sf : ∀ o, w5.frozen? ⟨db, o, none⟩ = false := frozen_of_block hbd5)
            | go_in)
          go_end0
          have hg5s := hgrow5.size
          refine ⟨rfl, ⟨hdb, by simp; omega, _, some mb, block_setCell hbd5 _, Or.inr ⟨mb, cs.length + 1, _, rfl, hmbg, hown5.setCell (show mb ≠ db by omega) _, by simp; omega, HS.out⟩⟩, ?_⟩
          exact (hbw.grown hgrow5 (by omega) (fun j hj => by cases hj; omega)).setCell (Nat.le_refl _) _
end Go.Proofs.Ybulkaaou
