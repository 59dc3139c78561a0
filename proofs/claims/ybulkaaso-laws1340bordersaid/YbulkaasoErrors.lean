/-
  BOrder: the walks of sortErrors (8) and SortErrors (7): the rank map, the comparison. Own work of this seat.
-/
import Derived.Test.YbulkaasoStable
import Derived.Test.YbulkaasoCompare
import Derived.Maps.OwnOps
import Derived.Maps.Ext
import Derived.StringKeys
namespace Go.Proofs.Ybulkaaso
open Go.ChangeShapes Go.WideShapes Go.ChangeAt Go.RowKit Go.Sort Go.Maps

theorem keyed9 : Keyed Yba.prog 9 := string_keyed Yba.underlying9
theorem zero3 (w : World) : (zeroValue 3).run Yba.prog w = .ok (.int .i64 0) w := by kernel_rfl

theorem before_iff (l c l' c' : Int) : before l c l' c' = true ↔ l < l' ∨ (l = l' ∧ c < c') := by simp [before]
theorem cmp_neg (ri li ci rj lj cj : Int) : cmpOf ri li ci rj lj cj < 0 ↔ ri < rj ∨ (ri = rj ∧ (li < lj ∨ (li = lj ∧ ci < cj))) := by
  unfold cmpOf
  by_cases h : ri - rj ≠ 0
  · rw [if_pos h]; omega
  · rw [if_neg h]
    have e : ri = rj := by omega
    by_cases h2 : before li ci lj cj = true
    · rw [if_pos h2]; rw [before_iff] at h2; simp [e, h2]
    · rw [if_neg h2]; rw [before_iff] at h2
      split <;> simp [e, h2]

/-- the comparison by the index -/
def cfOf (R L C : Nat → Int) (i j : Nat) : Int := cmpOf (R i) (L i) (C i) (R j) (L j) (C j)
theorem lt_iff (R L C : Nat → Int) (i j : Nat) : ltOf (cfOf R L C) i j = true ↔ R i < R j ∨ (R i = R j ∧ (L i < L j ∨ (L i = L j ∧ C i < C j))) := by
  unfold ltOf cfOf
  rw [decide_eq_true_iff, cmp_neg]
theorem weak_of (R L C : Nat → Int) : Weak (ltOf (cfOf R L C)) where
  irr := fun x => by
    cases h : ltOf (cfOf R L C) x x with
    | false => rfl
    | true => rw [lt_iff] at h; omega
  trans := fun x y z h1 h2 => by rw [lt_iff] at *; omega
  neg := fun x y z h => by simp only [lt_iff] at *; omega

/-- the errors as they lie: the path, the line, the column -/
def Errs (w : World) (n : Nat) (E : Nat → Nat) (P : Nat → ByteArray) (L C : Nat → Int) : Prop :=
  ∀ i, i < n → w.cell? ⟨E i, 0, none⟩ = some (.string (P i)) ∧ w.cell? ⟨E i, 1, none⟩ = some (.int .i64 (L i)) ∧ w.cell? ⟨E i, 2, none⟩ = some (.int .i64 (C i))

theorem lt_of_cell {w : World} {b o : Nat} {v : Value} (h : w.cell? ⟨b, o, none⟩ = some v) : b < w.heap.size := by
  rcases Nat.lt_or_ge b w.heap.size with h' | h'
  · exact h'
  · simp [World.cell?, Array.getElem?_eq_none h'] at h
theorem grown_cell {w w' : World} {g b o : Nat} {v : Value} (hg : w.grownBy w' (some g)) (hne : b ≠ g) (h : w.cell? ⟨b, o, none⟩ = some v) : w'.cell? ⟨b, o, none⟩ = some v :=
  (World.cell?_of_block (w := w) (a := ⟨b, o, none⟩) (hg.block b (lt_of_cell h) (fun e => hne (Option.some.inj e)))).trans h
theorem grown_trans {a b c : World} {g : Option Nat} (h : a.grownBy b g) (k : b.grownBy c g) : a.grownBy c g :=
  ⟨k.os.trans h.os, k.tape.trans h.tape, k.output.trans h.output, Nat.le_trans h.size k.size, fun i hi hne => (k.block i (Nat.lt_of_lt_of_le hi h.size) hne).trans (h.block i hi hne)⟩

theorem cmpOk_of {W : World} {g n : Nat} {E : Nat → Nat} {rk mb N : Nat} {P : Nat → ByteArray} {R L C : Nat → Int} {D : DataW Unit} (he : Errs W n E P L C) (hne : ∀ i, i < n → E i ≠ g) (hrk : W.cell? ⟨rk, 0, none⟩ = some (.map (some mb))) (hrg : rk ≠ g) (hmg : mb ≠ g)
    (hown : W.ownsMap Yba.prog 9 (plainElem Yba.prog 3) mb N D) (hD : ∀ i, i < n → D.atKey (.string (P i).data.toList) (.lit (.int .i64 0)) = .lit (.int .i64 (R i))) (hP : ∀ i, i < n → (P i).size ≤ maxLen) (hR : ∀ i, i < n → 0 ≤ R i ∧ R i ≤ 1024) :
    CmpOk W g n E rk (cfOf R L C) := by
  intro w hg i j hi hj
  have hl : ∀ i, i < n → ∀ m, (Instr.lookup 47 (.map (some mb)) (.string (P i)) false).run Yba.prog (w.drewN m) = .ok (.int .i64 (R i)) (w.drewN m) := fun i hi m => by
    have ho0 : w.ownsMap Yba.prog 9 (plainElem Yba.prog 3) mb N D := hown.kept hg (fun e => hmg (Option.some.inj e))
    have ho : (w.drewN m).ownsMap Yba.prog 9 (plainElem Yba.prog 3) mb N D := ho0
    obtain ⟨c, hrun, hat, _⟩ := ho.lookup_int keyed9 Yba.underlying47 Yba.underlying3 (zero3 _) (WideMaps.keyOf_string_mk Yba.underlying9 (hP i hi))
    rw [hD i hi] at hat
    have : R i = c := by simpa using hat
    rw [this]; exact hrun
  obtain ⟨i0, i1, i2⟩ := he i hi
  obtain ⟨j0, j1, j2⟩ := he j hj
  exact closure_walk (E i) (E j) rk mb (P i) (P j) (R i) (L i) (C i) (R j) (L j) (C j) w (grown_cell hg (hne i hi) i0) (grown_cell hg (hne i hi) i1) (grown_cell hg (hne i hi) i2) (grown_cell hg (hne j hj) j0) (grown_cell hg (hne j hj) j1) (grown_cell hg (hne j hj) j2)
    (grown_cell hg hrg hrk) (hl i hi) (hl j hj) (hR i hi).1 (hR i hi).2 (hR j hj).1 (hR j hj).2

/-- what the sort leaves in the row g -/
def Sorts (w : World) (g n : Nat) (E : Nat → Nat) (R L C : Nat → Int) (w' : World) : Prop :=
  ∃ f, Sw 0 n (fun k => k) f ∧ Sorted (ltOf (cfOf R L C)) 0 n f ∧ w'.rowIs g 38 n (fun k => .pointer (some ⟨E (f k), 0, none⟩)) ∧ w.grownBy w' (some g)

set_option maxRecDepth 100000 in
theorem sortErrors_walk (w : World) (g n cap : Nat) (E : Nat → Nat) (mb N : Nat) (P : Nat → ByteArray) (R L C : Nat → Int) (D : DataW Unit) (hrow : w.rowIs g 38 n (fun k => .pointer (some ⟨E k, 0, none⟩))) (he : Errs w n E P L C) (hne : ∀ i, i < n → E i ≠ g) (hmg : mb ≠ g)
    (hown : w.ownsMap Yba.prog 9 (plainElem Yba.prog 3) mb N D) (hD : ∀ i, i < n → D.atKey (.string (P i).data.toList) (.lit (.int .i64 0)) = .lit (.int .i64 (R i))) (hP : ∀ i, i < n → (P i).size ≤ maxLen) (hR : ∀ i, i < n → 0 ≤ R i ∧ R i ≤ 1024) (hn : n ≤ 300) :
    Calls Yba.prog 8 #[.slice (some ⟨g, 0, none⟩) n cap, .map (some mb)] w fun e w' => e = .returned (.tuple #[]) ∧ Sorts w g n E R L C w' := by
  have hal : w.grownBy (w.alloc (.cells #[.map (some mb)] 47)) (some g) := World.grownBy_alloc w _ _
  have hgl := hrow.lt
  have he2 : Errs (w.alloc (.cells #[.map (some mb)] 47)) n E P L C := fun i hi => by
    obtain ⟨i0, i1, i2⟩ := he i hi
    exact ⟨grown_cell hal (hne i hi) i0, grown_cell hal (hne i hi) i1, grown_cell hal (hne i hi) i2⟩
  have hc : CmpOk (w.alloc (.cells #[.map (some mb)] 47)) g n E w.heap.size (cfOf R L C) := cmpOk_of he2 hne (by simp) (by omega) hmg (hown.alloc _) hD hP hR
  have hcall := sortStable_walk _ g n E w.heap.size (cfOf R L C) hc (weak_of R L C) cap (w.alloc (.cells #[.map (some mb)] 47)) ⟨World.grownBy.refl _ _, hrow.alloc _⟩ hn
  clear hc he2 he hD hP hR hown hrow
  go_enter Yba.func8, Yba.ntmps8
  go_wp2_with fail
  refine hcall.mono ?_
  rintro en w3 ⟨rfl, f, h1, h2, h3⟩
  go_wp2
  go_end0
  exact ⟨rfl, f, h1, h2, h3.row, grown_trans hal h3.kept⟩

/-- the last place of the path among the first k files; 0 where there is none -/
def rankUp (Q : Nat → ByteArray) : Nat → List UInt8 → Int
  | 0, _ => 0
  | k + 1, s => if (Q k).data.toList = s then (k : Int) else rankUp Q k s
theorem rankUp_bound (Q : Nat → ByteArray) (s : List UInt8) : ∀ k, 0 ≤ rankUp Q k s ∧ rankUp Q k s ≤ k
  | 0 => by simp [rankUp]
  | k + 1 => by
    have := rankUp_bound Q s k
    unfold rankUp
    split <;> omega

/-- the map holds the ranks of the first k files -/
structure Ranks (D : DataW Unit) (Q : Nat → ByteArray) (k : Nat) : Prop where
  isMap : IsMap D
  at_ : ∀ s : List UInt8, D.atKey (.string s) (.lit (.int .i64 0)) = .lit (.int .i64 (rankUp Q k s))
theorem Ranks.start (Q : Nat → ByteArray) : Ranks (.map []) Q 0 := ⟨isMap_empty, fun _ => rfl⟩
theorem Ranks.next {D : DataW Unit} {Q : Nat → ByteArray} {k : Nat} (h : Ranks D Q k) : Ranks (D.put (.string (Q k).data.toList) (.lit (.int .i64 (k : Int)))) Q (k + 1) := by
  refine ⟨h.isMap.put _ _, fun s => ?_⟩
  unfold rankUp
  by_cases e : (Q k).data.toList = s
  · rw [if_pos e, ← e, atKey_put_same h.isMap (show WideAt.IsKeyLit (.string (Q k).data.toList) from trivial)]
  · rw [if_neg e, atKey_put_other (fun e' => e (by simpa using e'.symm)), h.at_]

theorem run_makeMap_hint (N : Int) (w : World) : (Instr.makeMap 47 (some (.int .i64 N))).run Yba.prog w = .ok (.map (some w.heap.size)) (w.alloc (.map #[] 0)) := by
  simp [Instr.makeMap, run_underlying Yba.underlying47, asInt, newObj]
  rfl

/-- the files of the program as they lie -/
def Files (w : World) (a : Option Addr) (m : Nat) (F : Nat → Nat) (Q : Nat → ByteArray) : Prop :=
  ∀ k, k < m → ∃ b, a = some ⟨b, 0, none⟩ ∧ w.cell? ⟨b, k, none⟩ = some (.pointer (some ⟨F k, 0, none⟩)) ∧ w.cell? ⟨F k, 0, none⟩ = some (.string (Q k))

theorem since_cell {w w' : World} (hs : w.Since w.heap.size w') {b o : Nat} {v : Value} (h : w.cell? ⟨b, o, none⟩ = some v) : w'.cell? ⟨b, o, none⟩ = some v :=
  (hs.cell (a := ⟨b, o, none⟩) (lt_of_cell h)).trans h

set_option maxRecDepth 100000 in
set_option maxHeartbeats 2000000 in
theorem SortErrors_walk (w : World) (pb : Nat) (a : Option Addr) (m capF : Nat) (F : Nat → Nat) (Q : Nat → ByteArray) (g n cap : Nat) (E : Nat → Nat) (P : Nat → ByteArray) (R L C : Nat → Int)
    (hp : w.cell? ⟨pb, 0, none⟩ = some (.slice a m capF)) (hF : Files w a m F Q) (hm : m ≤ 1024) (hQ : ∀ k, k < m → (Q k).size ≤ maxLen)
    (hrow : w.rowIs g 38 n (fun k => .pointer (some ⟨E k, 0, none⟩))) (he : Errs w n E P L C) (hne : ∀ i, i < n → E i ≠ g) (hP : ∀ i, i < n → (P i).size ≤ maxLen) (hR : ∀ i, i < n → R i = rankUp Q m (P i).data.toList) (hn : n ≤ 300) :
    Calls Yba.prog 7 #[.pointer (some ⟨pb, 0, none⟩), .slice (some ⟨g, 0, none⟩) n cap] w fun e w' => e = .returned (.tuple #[]) ∧ Sorts w g n E R L C w' := by
  have hmk := run_makeMap_hint
  have HFi : Hid (Files w a m F Q) := hF
  have HQ : Hid (∀ k, k < m → (Q k).size ≤ maxLen) := hQ
  have HROW : Hid (w.rowIs g 38 n (fun k => .pointer (some ⟨E k, 0, none⟩))) := hrow
  have HE : Hid (Errs w n E P L C) := he
  have HNE : Hid (∀ i, i < n → E i ≠ g) := hne
  have HPP : Hid (∀ i, i < n → (P i).size ≤ maxLen) := hP
  have HR : Hid (∀ i, i < n → R i = rankUp Q m (P i).data.toList) := hR
  clear hF hQ hrow he hne hP hR
  have hal : w.Since w.heap.size (w.alloc (.map #[] 0)) := (World.Since.refl _ _).alloc (Nat.le_refl _) _
  have hp1 : (w.alloc (.map #[] 0)).cell? ⟨pb, 0, none⟩ = some (.slice a m capF) := since_cell hal hp
  go_enter Yba.func7, Yba.ntmps7
  go_wp2
  go_loopw [5, 6, 18] (fun _ _ iv wr => ∃ k : Nat, k ≤ m ∧ iv = .int .i64 k ∧ ∃ D : DataW Unit, wr.ownsMap Yba.prog 9 (plainElem Yba.prog 3) w.heap.size k D ∧ Hid (Ranks D Q k) ∧ w.Since w.heap.size wr) (fun _ _ iv _ => m - (intOf iv).toNat)
  case atStart => exact ⟨0, Nat.zero_le _, rfl, .map [], World.ownsMap_made _ _ _ _, Ranks.start Q, hal⟩
  case round =>
    obtain ⟨k, hk, rfl, D, hown, HD, hs⟩ := hrel
    by_cases hlt : k < m
    · have hltz : (k : Int) < (m : Int) := by omega
      obtain ⟨b, rfl, c1, c2⟩ := HFi.out k hlt
      have c1' := since_cell hs c1
      have c2' := since_cell hs c2
      have hq := HQ.out k hlt
      have HD2 : Hid (Ranks (D.put (.string (Q k).data.toList) (.lit (.int .i64 (k : Int)))) Q (k + 1)) := HD.out.next
      clear c1 c2
      generalize Q k = qk at c2' hq HD2
      go_wp2_with (first
        | (at_mapUpdate; refine wpList_mapUpdate_own _ rfl _ _ _ 47 rfl 9 3 keyed9 Yba.underlying47 _ w.heap.size k _ rfl hown (by unfold maxLen; omega) _ _ _ rfl rfl (WideMaps.keyOf_string_mk Yba.underlying9 hq) _ [] (plainElem_int Yba.underlying3 (WalkArith.wf_i64 (by omega))) ?_; intro w2 hown2 hgrow2)
        | go_in)
      go_roundw
      case rel => exact ⟨k + 1, by omega, by go_num, _, hown2, HD2, hs.grown hgrow2 hs.size (fun j hj => by cases hj; exact Nat.le_refl _)⟩
      case measure => simp [intOf]; omega
    · obtain rfl : k = m := by omega
      have hk0 : ¬ (k : Int) < (k : Int) := by omega
      have hgl := HROW.out.lt
      have hcall := sortErrors_walk wr g n cap E w.heap.size k P R L C D (HROW.out.of_block (hs.block g hgl)) (fun i hi => by obtain ⟨i0, i1, i2⟩ := HE.out i hi; exact ⟨since_cell hs i0, since_cell hs i1, since_cell hs i2⟩) HNE.out (by omega) hown (fun i hi => by rw [HR.out i hi]; exact HD.out.at_ _) HPP.out
        (fun i hi => by rw [HR.out i hi]; have := rankUp_bound Q (P i).data.toList k; omega) hn
      go_wp2_with fail
      refine hcall.mono ?_
      rintro en w3 ⟨rfl, f, h1, h2, h3, h4⟩
      have hfin : w.grownBy w3 (some g) := grown_trans ⟨hs.os, hs.tape, hs.output, hs.size, fun i hi _ => hs.block i hi⟩ h4
      go_wp2
      go_end0
      exact ⟨rfl, f, h1, h2, h3, hfin⟩
end Go.Proofs.Ybulkaaso
