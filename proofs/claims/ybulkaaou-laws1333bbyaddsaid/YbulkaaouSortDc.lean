/-
  slices.SortFunc over []delayCount by the delay (12): its contract at rows of (delay, count), out of the shelf's. Own work of this seat.
-/
import Derived.Test.YbulkaaouModel
namespace Go.Proofs.Ybulkaaou
open Go.ChangeShapes Go.WideShapes Go.ChangeAt Go.RowKit Go.Shelf Go.Sort

/-- a delayCount's two cells -/
def encDc (x : Int × Int) : List Value := [.int .i64 x.1, .int .i64 x.2]
def flatDc (cs : List (Int × Int)) : List Value := cs.flatMap encDc

theorem cmp_any (x y : Int) (w : World) : Calls Yba.prog 9 #[.int .i64 x, .int .i64 y] w fun e w' => e = .returned (.int .i64 (Lib.compareInt x y)) ∧ w' = w :=
  AnyG.cmp_Compare_int Yba.layCompare x y w

set_option maxHeartbeats 1000000 in
theorem closure13 (x y : Int × Int) (W : World) : Calls Yba.prog 13 #[.agg #[.int .i64 x.1, .int .i64 x.2], .agg #[.int .i64 y.1, .int .i64 y.2]] W fun e w' => e = .returned (.int .i64 (Lib.compareInt x.1 y.1)) ∧ ∃ q os', w' = grow (W.drewN q) os' := by
  have hcon := fun W' => cmp_any x.1 y.1 W'
  generalize Lib.compareInt x.1 y.1 = r at hcon ⊢
  go_enter Yba.func13, Yba.ntmps13
  go_wp2_with (go_at_call 9; refine (hcon _).mono ?_; rintro e w' ⟨rfl, rfl⟩)
  go_ret
  exact ⟨rfl, 0, _, by rw [alloc_eq_grow, alloc_eq_grow, grow_grow]; rfl⟩

theorem cmpLays13 (blk off size : Nat) (w : World) : CmpLays Yba.prog 13 #[] encDc 2 (fun x y => Lib.compareInt x.1 y.1) blk off size w :=
  fun _ _ _ _ x y => closure13 x y _

theorem ltDc (x y : Int × Int) : ltOf (fun x y : Int × Int => Lib.compareInt x.1 y.1) x y = decide (x.1 < y.1) := by
  unfold ltOf Lib.compareInt
  by_cases h1 : x.1 < y.1
  · simp [h1]
  · by_cases h2 : y.1 < x.1 <;> simp [h1, h2]

theorem swoDc : SWO (ltOf fun x y : Int × Int => Lib.compareInt x.1 y.1) where
  irrefl x := by rw [ltDc]; simp
  trans x y z h1 h2 := by rw [ltDc] at *; simp at *; omega
  ntrans x y z h1 h2 := by rw [ltDc] at *; simp at *; omega

theorem permIn_list {d d' : Array (Int × Int)} (h : PermIn 0 d.size d d') : d'.toList.Perm d.toList := by
  obtain ⟨hs, _, hp⟩ := h
  have e1 : d.extract 0 d.size = d := Array.extract_size
  have e2 : d'.extract 0 d.size = d' := by rw [← hs]; exact Array.extract_size
  rwa [e1, e2] at hp

theorem sortedIn_list {d' : Array (Int × Int)} {n : Nat} (hn : d'.size = n) (h : SortedIn (ltOf fun x y : Int × Int => Lib.compareInt x.1 y.1) 0 n d') : d'.toList.Pairwise (fun a b => a.1 ≤ b.1) := by
  rw [List.pairwise_iff_getElem]
  intro i j hi hj hij
  have := h i j (Nat.zero_le _) hij (by simpa [hn] using hj)
  rw [ltDc] at this
  have ei : d'[i]! = d'.toList[i] := by rw [getElem!_pos d' i (by simpa using hi)]; simp
  have ej : d'[j]! = d'.toList[j] := by rw [getElem!_pos d' j (by simpa using hj)]; simp
  rw [ei, ej] at this
  simpa using this

set_option maxHeartbeats 1000000 in
theorem sortDc (g cap : Nat) (cs : List (Int × Int)) (w : World) (hH : HoldsK encDc 2 w g 0 cs.toArray) (hgl : g < w.heap.size) (hl : cs.length ≤ 4096) :
    Calls Yba.prog 12 #[.slice (some ⟨g, 0, none⟩) cs.length cap, .func (.func 13) #[] #[]] w fun e w' =>
      e = .returned (.tuple #[]) ∧ ∃ cs' : List (Int × Int), cs'.Perm cs ∧ cs'.Pairwise (fun a b => a.1 ≤ b.1) ∧ HoldsK encDc 2 w' g 0 cs'.toArray ∧ RowKit.Below g w w' := by
  have eg : ∀ args w, (callFunc 13 args).run Yba.prog w = .ok (.enter 13 args) w := enters_of Yba.func13 (by kernel_rfl) rfl
  have hcon := AnyQ.slices_SortFunc Yba.laySortFunc 2 Yba.isAgg38 Yba.sizeOf38 encDc (fun _ => rfl) (fun x v hv => by simp [encDc] at hv; rcases hv with rfl | rfl <;> rfl) (fun x y => Lib.compareInt x.1 y.1) swoDc 13 #[] g 0 cap cs.toArray w eg (cmpLays13 g 0 _ w) hH hgl (by simp; omega)
  refine Calls.mono (show Calls Yba.prog 12 _ _ _ from hcon) ?_
  rintro e w' ⟨rfl, d', n, os, hp, hs, rfl⟩
  have hsz : d'.size = cs.toArray.size := hp.1
  refine ⟨rfl, d'.toList, permIn_list hp, sortedIn_list (by simpa using hsz) hs, ?_, ?_⟩
  · exact holdsK_sortWorldK_c encDc 2 w g 0 cs.toArray d' n os hH hgl (by simpa using hsz)
  · exact below_grow (Lib.below_putRow (Below.refl _ _) (Nat.le_refl _)) os (by simp; omega)

theorem flatDc_cons (p : Int × Int) (cs : List (Int × Int)) : flatDc (p :: cs) = .int .i64 p.1 :: .int .i64 p.2 :: flatDc cs := by simp [flatDc, encDc]
theorem flatDc_length : ∀ cs : List (Int × Int), (flatDc cs).length = cs.length * 2
  | [] => rfl
  | p :: cs => by rw [flatDc_cons]; simp [flatDc_length cs]; omega
theorem flatDc_append (a b : List (Int × Int)) : flatDc (a ++ b) = flatDc a ++ flatDc b := by simp [flatDc]

theorem flatDc_get : ∀ (cs : List (Int × Int)) (i c : Nat), i < cs.length → c < 2 → (flatDc cs)[i * 2 + c]? = some ((encDc (cs.getD i (0, 0)))[c]!)
  | [], _, _, h, _ => by simp at h
  | p :: cs, 0, c, _, hc => by
    rw [flatDc_cons]
    match c, hc with
    | 0, _ => rfl
    | 1, _ => rfl
  | p :: cs, i + 1, c, h, hc => by
    rw [flatDc_cons, show (i + 1) * 2 + c = (i * 2 + c) + 1 + 1 from by omega]
    simp only [List.getElem?_cons_succ]
    rw [flatDc_get cs i c (by simpa using h) hc]
    simp

theorem getElem!_getD (cs : List (Int × Int)) (i : Nat) : cs.toArray[i]! = cs.getD i (0, 0) := by
  simp only [List.getD_eq_getElem?_getD, Array.getElem!_eq_getD, Array.getD_eq_getD_getElem?, List.getElem?_toArray]
  rfl

/-- a slice of delayCounts that the call owns: where it lies, and that its row holds them -/
theorem holdsK_of_ownsRow {w : World} {base : Nat} {v : Value} {cs : List (Int × Int)} (h : w.ownsRow base 38 2 v cs.length (flatDc cs)) (hv : v ≠ .slice none 0 0) :
    ∃ g cap, v = .slice (some ⟨g, 0, none⟩) cs.length cap ∧ base ≤ g ∧ g < w.heap.size ∧ HoldsK encDc 2 w g 0 cs.toArray := by
  rcases h.2 with ⟨e0, _⟩ | ⟨g, cap, cur, rfl, hb, hg, hn, hm, hs, ht⟩
  · exact absurd e0 hv
  · have hlt : g < w.heap.size := (Array.getElem?_eq_some_iff.1 hg).1
    refine ⟨g, cap, rfl, hb, hlt, fun j hj => ?_⟩
    have hj' : j < cs.length * 2 := by simpa using hj
    refine ⟨?_, by simp [World.frozen?, hg]⟩
    rw [get_flatK _ _ _ _ (by simpa using hj'), getElem!_getD]
    have e1 := flatDc_get cs (j / 2) (j % 2) (by omega) (by omega)
    rw [show j / 2 * 2 + j % 2 = j from by omega, ← ht, List.getElem?_take, if_pos hj', Array.getElem?_toList] at e1
    simp only [World.cell?, hg, Nat.zero_add]
    simp only [Option.isSome_none, Bool.false_eq_true, if_false]
    exact e1

theorem holdsK_cells {w : World} {g : Nat} {cs : List (Int × Int)} (h : HoldsK encDc 2 w g 0 cs.toArray) (j : Nat) (hj : j < cs.length) :
    w.cell? ⟨g, 0 + j * 2, none⟩ = some (.int .i64 (cs.getD j (0, 0)).1) ∧ w.cell? ⟨g, 0 + j * 2 + 1, none⟩ = some (.int .i64 (cs.getD j (0, 0)).2) := by
  have a := (h.cell (i := j) (c := 0) (by simpa using hj) (by omega)).1
  have b := (h.cell (i := j) (c := 1) (by simpa using hj) (by omega)).1
  rw [getElem!_getD] at a b
  exact ⟨a, b⟩

#print axioms sortDc
end Go.Proofs.Ybulkaaou
