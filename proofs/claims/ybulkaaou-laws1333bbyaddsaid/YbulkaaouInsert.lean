/-
  slices.Insert of one element into a []delayCount that the call owns (11). After the kit's own Insert at []int (Derived/Shelf/Spec/SlicesInsert.lean), at two cells an element. Own work of this seat.
-/
import Derived.Test.YbulkaaouSearch
import Derived.Lib.Overlaps
import Derived.Lib.AppendZerosOnto
import Derived.Laws.CopyOwn
import Derived.Laws.Externs
import Derived.Deep.RegionLaw
namespace Go.Proofs.Ybulkaaou
open Go.ChangeShapes Go.WideShapes Go.ChangeAt Go.RowKit

/-- 'copy' at k cells an element, into a row that is known whole -/
theorem run_copy_rowK {P : Program} (w : World) (dT sT ty elem : TypeId) (k : Nat) (g o dLen dCap : Nat) (a : Addr) (sLen sCap : Nat) (cur : Array Value) (t : TypeId) (cs : List Value)
    (hu : P.underlying dT = some (.slice elem)) (hs : (P.info? elem).map (·.size) = some k)
    (hg : w.heap[g]? = some (.cells cur t (0, 0))) (hn : cs.length = Nat.min sLen dLen * k)
    (hsrc : ∀ j v, cs[j]? = some v → w.cell? (a.add j) = some v) (hfit : o + cs.length ≤ cur.size) (h1 : ∀ v ∈ cs, v.oneCell' = true) :
    (Builtin.copy_ #[dT, sT] ty #[.slice (some ⟨g, o, none⟩) dLen dCap, .slice (some a) sLen sCap]).run P w =
      .ok (goInt (Nat.min sLen dLen)) (w.setRow g (cur.toList.take o ++ cs ++ cur.toList.drop (o + cs.length)).toArray) := by
  have hl := run_loadCells_list (P := P) w a cs hsrc
  have hst := run_storeCells_at P g o t cs 0 cur w hg (by simpa using hfit) h1
  cases hq : P.info? elem with
  | none => simp [hq] at hs
  | some i =>
    have hi : i.size = k := by simpa [hq] using hs
    simp [Builtin.copy_, run_underlying hu, Builtin.lenOf, Builtin.firstCells, sizeOf, typeInfo, hq, hi, ← hn, hl, hst]

theorem wp_copy_run {P : Program} (w : World) {o : Oper} {a : Act} {K : Act → World → Prop} {Q : Exit → Act → World → Prop} (d s : Operand) (t t' : TypeId)
    (ho : o.op = .call { callee := .builtin .copy, args := #[d, s], argTypes := #[t, t'] }) (v u : Value) (hd : a.eval d = v) (hs : a.eval s = u) {v' : Value} {w' : World}
    (hr : (Builtin.copy_ #[t, t'] o.type #[v, u]).run P w = .ok v' w') (h : K (a.put o.dst v') w') : o.wp P a w K Q := by
  unfold Oper.wp execOp
  simp only [ho, resolve, invoke, builtin, Sem.run_bind, Sem.run_pure, Result.andThen_ok, List.map_toArray, List.map_cons, List.map_nil, hd, hs, hr]
  exact h

theorem wpList_copy_run {P : Program} (w : World) {ops : Array Oper} {rest : List Oper} {o : Oper} {a : Act} {Q : Exit → Act → World → Prop} (hgd : o.guard = none) (d s : Operand) (t t' : TypeId)
    (ho : o.op = .call { callee := .builtin .copy, args := #[d, s], argTypes := #[t, t'] }) (v u : Value) (hd : a.eval d = v) (hs : a.eval s = u) {v' : Value} {w' : World}
    (hr : (Builtin.copy_ #[t, t'] o.type #[v, u]).run P w = .ok v' w') (h : wpList P ops Q rest (a.put o.dst v') w') : wpList P ops Q (o :: rest) a w :=
  wpList_plain hgd fun _ hK => wp_copy_run w d s t t' ho v u hd hs hr (hK _ _ h)

theorem step_copy_run {P : Program} {ops : Array Oper} {o : Oper} {a : Act} {w : World} {K : Act → World → Prop} {Q : Exit → Act → World → Prop} {E : Prop}
    (hg : o.guard = none) (d x : Operand) (dT sT : TypeId) (hop : o.op = Op.call { callee := Callee.builtin Builtin.copy, args := #[d, x], argTypes := #[dT, sT] })
    (v u : Value) (hd : a.eval d = v) (hx : a.eval x = u) {v' : Value} {w' : World} (hr : (Builtin.copy_ #[dT, sT] o.type #[v, u]).run P w = .ok v' w') (hK : K (a.put o.dst v') w') :
    if Region.wanted o (yielded ops a.tmps) = true then Oper.wp P o a w K Q else E := by
  have hw : Region.wanted o (yielded ops a.tmps) = true := by simp [Region.wanted, hg]
  rw [if_pos hw]
  unfold Oper.wp
  simp [execOp, hop, resolve, invoke, builtin, hd, hx, hr, Result.andThen]
  exact hK

theorem flatDc_drop : ∀ (cs : List (Int × Int)) (i : Nat), flatDc (cs.drop i) = (flatDc cs).drop (i * 2)
  | [], i => by simp [flatDc]
  | p :: cs, 0 => by simp
  | p :: cs, i + 1 => by
    rw [List.drop_succ_cons, flatDc_drop cs i, flatDc_cons, show (i + 1) * 2 = i * 2 + 1 + 1 from by omega, List.drop_succ_cons, List.drop_succ_cons]
theorem flatDc_take : ∀ (cs : List (Int × Int)) (i : Nat), flatDc (cs.take i) = (flatDc cs).take (i * 2)
  | [], i => by simp [flatDc]
  | p :: cs, 0 => by simp [flatDc]
  | p :: cs, i + 1 => by
    rw [List.take_succ_cons, flatDc_cons, flatDc_cons, flatDc_take cs i, show (i + 1) * 2 = i * 2 + 1 + 1 from by omega, List.take_succ_cons, List.take_succ_cons]
theorem flatDc_oneCell (cs : List (Int × Int)) : ∀ v ∈ flatDc cs, v.oneCell' = true := by
  intro v hv
  simp only [flatDc, encDc, List.mem_flatMap] at hv
  obtain ⟨p, _, hv⟩ := hv
  simp at hv
  rcases hv with rfl | rfl <;> rfl

theorem addr_add (b o j : Nat) : (⟨b, o, none⟩ : Addr).add j = ⟨b, o + j, none⟩ := by unfold Addr.add; split <;> simp_all
theorem cell_of_block {w : World} {g : Nat} {cur : Array Value} {t : TypeId} {fr : Nat × Nat} (hg : w.heap[g]? = some (.cells cur t fr)) (o : Nat) : w.cell? ⟨g, o, none⟩ = cur[o]? := by
  simp [World.cell?, hg]
theorem frozen_of_block {w : World} {g : Nat} {cur : Array Value} {t : TypeId} (hg : w.heap[g]? = some (.cells cur t (0, 0))) (o : Nat) : w.frozen? ⟨g, o, none⟩ = false := by
  simp [World.frozen?, hg]
theorem pair_cells {w : World} {vb : Nat} {us : Int} (hv : w.heap[vb]? = some (.cells #[.int .i64 us, .int .i64 1] 38 (0, 0))) (j : Nat) (u : Value) (hj : [Value.int .i64 us, .int .i64 1][j]? = some u) : w.cell? ((⟨vb, 0, none⟩ : Addr).add j) = some u := by
  rw [addr_add, cell_of_block hv, Nat.zero_add]
  simpa using hj

theorem size38 : (Yba.prog.info? 38).map (·.size) = some 2 := by kernel_rfl

/-- the list with one element laid in -/
def laidIn (cs : List (Int × Int)) (i : Nat) (us : Int) : List (Int × Int) := cs.take i ++ (us, 1) :: cs.drop i

theorem laidIn_length (cs : List (Int × Int)) (i : Nat) (us : Int) (h : i ≤ cs.length) : (laidIn cs i us).length = cs.length + 1 := by
  simp [laidIn]; omega

theorem row_shift (L : List Value) (cs : List (Int × Int)) (i : Nat) (us : Int) (hi : i < cs.length) (hL : (cs.length + 1) * 2 ≤ L.length) (ht : L.take (cs.length * 2) = flatDc cs) :
    let L1 := L.take ((i + 1) * 2) ++ flatDc (cs.drop i) ++ L.drop ((i + 1) * 2 + (flatDc (cs.drop i)).length)
    let L2 := L1.take (i * 2) ++ [.int .i64 us, .int .i64 1] ++ L1.drop (i * 2 + 2)
    L1.length = L.length ∧ L2.length = L.length ∧ L2.take ((cs.length + 1) * 2) = flatDc (laidIn cs i us) := by
  intro L1 L2
  have hd : (flatDc (cs.drop i)).length = (cs.length - i) * 2 := by rw [flatDc_length, List.length_drop]
  have h1 : L1.length = L.length := by simp only [L1, List.length_append, List.length_take, List.length_drop, hd]; omega
  have e1 : L1.take (i * 2) = flatDc (cs.take i) := by
    simp only [L1]
    rw [List.append_assoc, List.take_append_of_le_length (by simp only [List.length_take]; omega), List.take_take, flatDc_take, ← ht, List.take_take]
    congr 1; omega
  have e2 : L1.drop (i * 2 + 2) = flatDc (cs.drop i) ++ L.drop ((i + 1) * 2 + (flatDc (cs.drop i)).length) := by
    simp only [L1]
    rw [List.append_assoc, List.drop_append, List.drop_eq_nil_of_le (by simp only [List.length_take]; omega), List.nil_append]
    have : i * 2 + 2 - (L.take ((i + 1) * 2)).length = 0 := by simp only [List.length_take]; omega
    rw [this, List.drop_zero]
  have e3 : L2 = flatDc (laidIn cs i us) ++ L.drop ((i + 1) * 2 + (flatDc (cs.drop i)).length) := by
    simp only [L2]
    rw [e1, e2, laidIn, flatDc_append, flatDc_cons]; simp
  have hll : (flatDc (laidIn cs i us)).length = (cs.length + 1) * 2 := by rw [flatDc_length, laidIn_length _ _ _ (by omega)]
  refine ⟨h1, ?_, ?_⟩
  · rw [e3, List.length_append, hll, List.length_drop, hd]; omega
  · rw [e3, List.take_append_of_le_length (by omega), List.take_of_length_le (by omega)]

/-- behind Insert: the slice that comes back owns the list with the element laid in; nothing has turned but its old row -/
def Inserted (base : Nat) (v : Value) (cs : List (Int × Int)) (i : Nat) (us : Int) (w : World) (e : Ending) (w' : World) : Prop :=
  ∃ v', e = .returned v' ∧ w'.ownsRow base 38 2 v' (cs.length + 1) (flatDc (laidIn cs i us)) ∧ w.grownBy w' v.ownBlock

set_option maxRecDepth 100000 in
set_option maxHeartbeats 2000000 in
/-- at the end: append -/
theorem insert_end (base : Nat) (v : Value) (cs : List (Int × Int)) (us : Int) (vb : Nat) (w : World) (hrow : w.ownsRow base 38 2 v cs.length (flatDc cs)) (hl : cs.length ≤ 1024)
    (hv : w.heap[vb]? = some (.cells #[.int .i64 us, .int .i64 1] 38 (0, 0))) (hbase : base ≤ w.heap.size) :
    Calls Yba.prog 11 #[v, .int .i64 cs.length, .slice (some ⟨vb, 0, none⟩) 1 1] w (Inserted base v cs cs.length us w) := by
  obtain ⟨i0, hi, hz0, hz1, hz2⟩ := info_parts info38
  have hnews := pair_cells hv
  have e : flatDc (laidIn cs cs.length us) = flatDc cs ++ [.int .i64 us, .int .i64 1] := by simp [laidIn, flatDc, encDc]
  unfold Inserted
  rw [e]
  rcases hrow.2 with ⟨rfl, h0⟩ | ⟨g, cap, cur, rfl, hb, hg, hn, hm, hs, ht⟩
  · rw [h0] at hrow ⊢
    go_enter Yba.func11, Yba.ntmps11
    go_wp2_with (at_builtin; refine wpList_append_own _ rfl _ _ 23 rfl base 38 i0 (.agg #[.int .i64 0, .int .i64 0]) 2 16 Yba.underlying23 hi hz0 hz1 hz2 rfl (by decide) _ _ _ rfl hrow ⟨vb, 0, none⟩ 1 1 [.int .i64 us, .int .i64 1] rfl rfl hnews (by simp [Value.oneCell']) (by unfold maxLen; omega) (by omega) hbase ?_; intro v' w1 hown' hg1 hnil1)
    go_ret
    exact ⟨_, rfl, hown', hg1⟩
  · unfold maxLen at hm
    go_enter Yba.func11, Yba.ntmps11
    go_wp2_with (at_builtin; refine wpList_append_own _ rfl _ _ 23 rfl base 38 i0 (.agg #[.int .i64 0, .int .i64 0]) 2 16 Yba.underlying23 hi hz0 hz1 hz2 rfl (by decide) _ _ _ rfl hrow ⟨vb, 0, none⟩ 1 1 [.int .i64 us, .int .i64 1] rfl rfl hnews (by simp [Value.oneCell']) (by unfold maxLen; omega) (by omega) hbase ?_; intro v' w1 hown' hg1 hnil1)
    all_goals (go_ret; exact ⟨_, rfl, hown', hg1⟩)

set_option maxRecDepth 100000 in
set_option maxHeartbeats 4000000 in
/-- in the middle, with room: shifted in place -/
theorem insert_room (base g cap : Nat) (cur : Array Value) (cs : List (Int × Int)) (i : Nat) (us : Int) (vb : Nat) (w : World) (hbg : base ≤ g) (hg : w.heap[g]? = some (.cells cur 38 (0, 0))) (hroom : cs.length + 1 ≤ cap) (hm : cap ≤ maxLen) (hs : cur.size = cap * 2)
    (ht : cur.toList.take (cs.length * 2) = flatDc cs) (hl : cs.length ≤ 1024) (hi : i < cs.length) (hv : w.heap[vb]? = some (.cells #[.int .i64 us, .int .i64 1] 38 (0, 0))) (hne : vb ≠ g) :
    Calls Yba.prog 11 #[.slice (some ⟨g, 0, none⟩) cs.length cap, .int .i64 i, .slice (some ⟨vb, 0, none⟩) 1 1] w (Inserted base (.slice (some ⟨g, 0, none⟩) cs.length cap) cs i us w) := by
  obtain ⟨q1, q2, q3⟩ := row_shift cur.toList cs i us hi (by simp; omega) ht
  have hm' := hm
  unfold maxLen at hm
  have hov : ∀ lb cb, (callFunc 17 #[.slice (some ⟨vb, 0, none⟩) 1 1, .slice (some ⟨g, (i + 1) * 2, none⟩) lb cb]).run Yba.prog w = .ok (.value (.bool false)) w := fun lb cb => by
    rw [run_callFunc_extern Yba.func17 (by kernel_rfl) (by kernel_rfl) (by kernel_rfl) (e := Extern.SlicesOverlaps.overlaps #[23, 23] #[4]) (by kernel_rfl),
      Lib.run_overlaps_apart w 23 4 38 Yba.underlying23 2 Yba.sizeOf38 ⟨vb, 0, none⟩ ⟨g, (i + 1) * 2, none⟩ 1 1 lb cb hne 38 38 2 cur.size (by simp [World.shape?, hv]) (by simp [World.shape?, hg]) (by omega) (by simp [World.frozen?, hv]) (by simp [World.frozen?, hv])]
    rfl
  have hd : (flatDc (cs.drop i)).length = (cs.length - i) * 2 := by rw [flatDc_length, List.length_drop]
  have hcp1 : ∀ ty dc sc, (Builtin.copy_ #[23, 23] ty #[.slice (some ⟨g, (i + 1) * 2, none⟩) (cs.length - i) dc, .slice (some ⟨g, i * 2, none⟩) (cs.length + 1 - i) sc]).run Yba.prog w.drew =
      .ok (goInt (Nat.min (cs.length + 1 - i) (cs.length - i))) (w.drew.setRow g (cur.toList.take ((i + 1) * 2) ++ flatDc (cs.drop i) ++ cur.toList.drop ((i + 1) * 2 + (flatDc (cs.drop i)).length)).toArray) := fun ty dc sc =>
    run_copy_rowK w.drew 23 23 ty 38 2 g ((i + 1) * 2) (cs.length - i) dc ⟨g, i * 2, none⟩ (cs.length + 1 - i) sc cur 38 (flatDc (cs.drop i)) Yba.underlying23 size38 hg (by rw [hd]; simp only [Nat.min_def]; split <;> omega)
      (fun j u hj => by
        have hj2 : j < (flatDc (cs.drop i)).length := (List.getElem?_eq_some_iff.1 hj).1
        rw [flatDc_drop, ← ht, List.getElem?_drop, List.getElem?_take, if_pos (by omega), Array.getElem?_toList] at hj
        rw [addr_add, cell_of_block (w := w.drew) hg]; exact hj)
      (by omega) (flatDc_oneCell _)
  generalize hL1 : cur.toList.take ((i + 1) * 2) ++ flatDc (cs.drop i) ++ cur.toList.drop ((i + 1) * 2 + (flatDc (cs.drop i)).length) = L1 at hcp1 q1 q2 q3
  have hg1 : (w.drew.setRow g L1.toArray).heap[g]? = some (.cells L1.toArray 38 (0, 0)) := setRow_heap w.drew g _ _ 38 _ hg
  have hcp2 : ∀ ty dc, (Builtin.copy_ #[23, 23] ty #[.slice (some ⟨g, i * 2, none⟩) (cs.length + 1 - i) dc, .slice (some ⟨vb, 0, none⟩) 1 1]).run Yba.prog (w.drew.setRow g L1.toArray) =
      .ok (goInt (Nat.min 1 (cs.length + 1 - i))) ((w.drew.setRow g L1.toArray).setRow g (L1.take (i * 2) ++ [Value.int .i64 us, .int .i64 1] ++ L1.drop (i * 2 + 2)).toArray) := fun ty dc =>
    run_copy_rowK (w.drew.setRow g L1.toArray) 23 23 ty 38 2 g (i * 2) (cs.length + 1 - i) dc ⟨vb, 0, none⟩ 1 1 L1.toArray 38 [.int .i64 us, .int .i64 1] Yba.underlying23 size38 hg1 (by simp only [Nat.min_def]; split <;> simp <;> omega)
      (pair_cells ((setRow_other w.drew g vb _ hne).trans hv))
      (by simp; rw [q1]; simp; omega) (by simp [Value.oneCell'])
  generalize hL2 : L1.take (i * 2) ++ [Value.int .i64 us, .int .i64 1] ++ L1.drop (i * 2 + 2) = L2 at hcp2 q2 q3
  have HF : Hid (∀ w', w' = (w.drew.setRow g L1.toArray).setRow g L2.toArray → w'.ownsRow base 38 2 (.slice (some ⟨g, 0, none⟩) (cs.length + 1) cap) (cs.length + 1) (flatDc (laidIn cs i us)) ∧ w.grownBy w' (some g)) := by
    intro w' hw'
    subst hw'
    refine ⟨⟨?_, Or.inr ⟨g, cap, L2.toArray, rfl, hbg, setRow_heap _ g _ _ 38 _ hg1, hroom, hm', by simp; rw [q2]; simpa using hs, by simpa using q3⟩⟩, ⟨rfl, rfl, rfl, by simp [World.setRow], fun k hk hkg => ?_⟩⟩
    · rw [flatDc_length, laidIn_length _ _ _ (by omega)]
    · rw [setRow_other _ g k _ (fun e => hkg (by rw [e])), setRow_other _ g k _ (fun e => hkg (by rw [e]))]; rfl
  clear q1 q2 q3 hL1 hL2 hg1 ht
  have hz1 : ¬ ((i : Int) = (cs.length : Int)) := by omega
  have hr : ¬ ((cap : Int) < (cs.length : Int) + 1) := by omega
  have hb2 : ¬ (cap = i + 1) := by omega
  have hb4 : ¬ (cap = i) := by omega
  have hw1 : IntKind.i64.wrap ((i : Int) + 1) = (i : Int) + 1 := by rw [IntKind.wrap_i64]; omega
  have hb1 : (0 : Int) ≤ (i : Int) + 1 := by omega
  have hin : (i : Int) ≤ (cs.length : Int) := by omega
  have hb3 : (i : Int) ≤ (cs.length : Int) + 1 := by omega
  have htn : ((i : Int) + 1).toNat = i + 1 := by omega
  go_enter Yba.func11, Yba.ntmps11
  go_wp2_with (simp only [hov])
  go_region_law (refine step_copy_run rfl _ _ 23 23 rfl _ _ (by simp [Act.eval, Act.put]) (by simp [Act.eval, Act.put]) (hcp1 _ _ _) ?_)
  go_wp2_with (at_builtin; refine wpList_copy_run _ rfl _ _ 23 23 rfl _ _ rfl rfl (hcp2 _ _) ?_)
  go_ret
  have hf := HF.out _ rfl
  exact ⟨_, rfl, hf.1, hf.2⟩

theorem row_grow (R : List Value) (cs : List (Int × Int)) (i : Nat) (us : Int) (hi : i < cs.length) (hL : (cs.length + 1) * 2 ≤ R.length) (ht : R.take (i * 2) = flatDc (cs.take i)) :
    let R1 := R.take (i * 2) ++ [.int .i64 us, .int .i64 1] ++ R.drop (i * 2 + 2)
    let R2 := R1.take ((i + 1) * 2) ++ flatDc (cs.drop i) ++ R1.drop ((i + 1) * 2 + (flatDc (cs.drop i)).length)
    R1.length = R.length ∧ R2.length = R.length ∧ R2.take ((cs.length + 1) * 2) = flatDc (laidIn cs i us) := by
  intro R1 R2
  have hd : (flatDc (cs.drop i)).length = (cs.length - i) * 2 := by rw [flatDc_length, List.length_drop]
  have h1 : R1.length = R.length := by simp only [R1, List.length_append, List.length_take, List.length_drop, List.length_cons, List.length_nil]; omega
  have e1 : R1.take ((i + 1) * 2) = flatDc (cs.take i) ++ [.int .i64 us, .int .i64 1] := by
    simp only [R1]
    rw [ht, List.take_append_of_le_length (by rw [List.length_append, flatDc_length, List.length_take]; simp; omega), List.take_of_length_le (by rw [List.length_append, flatDc_length, List.length_take]; simp; omega)]
  have e3 : R2 = flatDc (laidIn cs i us) ++ R1.drop ((i + 1) * 2 + (flatDc (cs.drop i)).length) := by
    simp only [R2]
    rw [e1, laidIn, flatDc_append, flatDc_cons]; simp
  have hll : (flatDc (laidIn cs i us)).length = (cs.length + 1) * 2 := by rw [flatDc_length, laidIn_length _ _ _ (by omega)]
  refine ⟨h1, ?_, ?_⟩
  · rw [e3, List.length_append, hll, List.length_drop, hd, h1]; omega
  · rw [e3, List.take_append_of_le_length (by omega), List.take_of_length_le (by omega)]

set_option maxRecDepth 100000 in
set_option maxHeartbeats 4000000 in
/-- in the middle, no room: a new row -/
theorem insert_grow (base g cap : Nat) (cur : Array Value) (cs : List (Int × Int)) (i : Nat) (us : Int) (vb : Nat) (w : World) (hbase : base ≤ w.heap.size) (hg : w.heap[g]? = some (.cells cur 38 (0, 0))) (hfull : cap < cs.length + 1) (hn : cs.length ≤ cap)
    (ht : cur.toList.take (cs.length * 2) = flatDc cs) (hl : cs.length ≤ 1024) (hi : i < cs.length) (hv : w.heap[vb]? = some (.cells #[.int .i64 us, .int .i64 1] 38 (0, 0))) :
    Calls Yba.prog 11 #[.slice (some ⟨g, 0, none⟩) cs.length cap, .int .i64 i, .slice (some ⟨vb, 0, none⟩) 1 1] w (Inserted base (.slice (some ⟨g, 0, none⟩) cs.length cap) cs i us w) := by
  obtain ⟨i0, hi0, hz0, hz1, hz2⟩ := info_parts info38
  have hgl : g < w.heap.size := (Array.getElem?_eq_some_iff.1 hg).1
  have hvl : vb < w.heap.size := (Array.getElem?_eq_some_iff.1 hv).1
  have hold : (Builtin.firstCells i0.size i (.slice (some ⟨g, 0, none⟩) i cap)).run Yba.prog w.drew = .ok (flatDc (cs.take i)).toArray w.drew := by
    rw [hz1]
    exact run_firstCells_some w.drew 2 i ⟨g, 0, none⟩ i cap (flatDc (cs.take i)) (by rw [flatDc_length, List.length_take]; omega) (fun j u hj => by
      have hj2 : j < (flatDc (cs.take i)).length := (List.getElem?_eq_some_iff.1 hj).1
      rw [flatDc_length, List.length_take] at hj2
      rw [flatDc_take, List.getElem?_take, if_pos (by omega), ← ht, List.getElem?_take, if_pos (by omega), Array.getElem?_toList] at hj
      rw [addr_add, cell_of_block (w := w.drew) hg, Nat.zero_add]; exact hj)
  obtain ⟨G, hG⟩ : ∃ G, G = grownCap w (cs.length + 1) cap 38 := ⟨_, rfl⟩
  obtain ⟨R, hR⟩ : ∃ R : List Value, R = ((flatDc (cs.take i)).toArray ++ Builtin.zeroCells (Value.agg #[.int .i64 0, .int .i64 0]).cells (cs.length + 1 - i) ++ Builtin.zeroCells (Value.agg #[.int .i64 0, .int .i64 0]).cells (G - (cs.length + 1))).toList := ⟨_, rfl⟩
  have hkk : (cs.length : Int) + 1 - (i : Int) = ((cs.length + 1 - i : Nat) : Int) := by omega
  have hik : i + (cs.length + 1 - i) = cs.length + 1 := by omega
  have hrz : ∀ ty, (Builtin.append_ #[23, 3] ty #[.slice (some ⟨g, 0, none⟩) i cap, .int .i64 ((cs.length : Int) + 1 - (i : Int))]).run Yba.prog w =
      .ok (.slice (some ⟨w.heap.size, 0, none⟩) (cs.length + 1) G) ((w.alloc (.cells R.toArray 38)).drew) := fun ty => by
    have h := Lib.run_append_grow_zeros w 23 3 ty 38 i0 _ .i64 .i64 Yba.underlying23 Yba.underlying3 hi0 hz0 (some ⟨g, 0, none⟩) i cap (flatDc (cs.take i)) hold (cs.length + 1 - i) (by omega) (by omega) (by omega) (by omega) (by rw [hz2]; omega) (by rw [hz2, hik]; exact growslice_fits hfull (by omega))
    rw [hik, ← hG] at h
    rw [hkk, h, hR]
    rfl
  have hGn : cs.length + 1 ≤ G := by rw [hG]; exact grownCap_ge w _ _ _
  have hGm : G ≤ maxLen := by rw [hG]; exact grownCap_le_maxLen w _ _ _ (by unfold maxLen; omega)
  have hRl : R.length = G * 2 := by
    rw [hR]; simp [Builtin.zeroCells, Value.cells, flatDc_length]; omega
  have hRt : R.take (i * 2) = flatDc (cs.take i) := by
    have : (flatDc (cs.take i)).length = i * 2 := by rw [flatDc_length, List.length_take]; omega
    rw [hR]; simp only [Array.toList_append, List.append_assoc]
    rw [List.take_append_of_le_length (by simp [this]), List.take_of_length_le (by simp [this])]
  obtain ⟨q1, q2, q3⟩ := row_grow R cs i us hi (by omega) hRt
  have hN : ((w.alloc (.cells R.toArray 38)).drew).heap[w.heap.size]? = some (.cells R.toArray 38 (0, 0)) := by
    show (w.heap.push _)[w.heap.size]? = _
    rw [Array.getElem?_push, if_pos rfl]
  have hold' : ∀ k, k < w.heap.size → ((w.alloc (.cells R.toArray 38)).drew).heap[k]? = w.heap[k]? := fun k hk => Below.heap_alloc w _ k hk
  have hcpA : ∀ ty dc, (Builtin.copy_ #[23, 23] ty #[.slice (some ⟨w.heap.size, i * 2, none⟩) (cs.length + 1 - i) dc, .slice (some ⟨vb, 0, none⟩) 1 1]).run Yba.prog ((w.alloc (.cells R.toArray 38)).drew) =
      .ok (goInt (Nat.min 1 (cs.length + 1 - i))) (((w.alloc (.cells R.toArray 38)).drew).setRow w.heap.size (R.take (i * 2) ++ [Value.int .i64 us, .int .i64 1] ++ R.drop (i * 2 + 2)).toArray) := fun ty dc =>
    run_copy_rowK _ 23 23 ty 38 2 w.heap.size (i * 2) (cs.length + 1 - i) dc ⟨vb, 0, none⟩ 1 1 R.toArray 38 [.int .i64 us, .int .i64 1] Yba.underlying23 size38 hN (by simp only [Nat.min_def]; split <;> simp <;> omega)
      (pair_cells ((hold' vb hvl).trans hv)) (by simp; omega) (by simp [Value.oneCell'])
  generalize hR1 : R.take (i * 2) ++ [Value.int .i64 us, .int .i64 1] ++ R.drop (i * 2 + 2) = R1 at hcpA q1 q2 q3
  have hN1 : (((w.alloc (.cells R.toArray 38)).drew).setRow w.heap.size R1.toArray).heap[w.heap.size]? = some (.cells R1.toArray 38 (0, 0)) := setRow_heap _ _ _ _ 38 _ hN
  have hd : (flatDc (cs.drop i)).length = (cs.length - i) * 2 := by rw [flatDc_length, List.length_drop]
  have hcpB : ∀ ty dc sc, (Builtin.copy_ #[23, 23] ty #[.slice (some ⟨w.heap.size, (i + 1) * 2, none⟩) (cs.length - i) dc, .slice (some ⟨g, i * 2, none⟩) (cs.length - i) sc]).run Yba.prog ((((w.alloc (.cells R.toArray 38)).drew).setRow w.heap.size R1.toArray).drew) =
      .ok (goInt (Nat.min (cs.length - i) (cs.length - i))) (((((w.alloc (.cells R.toArray 38)).drew).setRow w.heap.size R1.toArray).drew).setRow w.heap.size (R1.take ((i + 1) * 2) ++ flatDc (cs.drop i) ++ R1.drop ((i + 1) * 2 + (flatDc (cs.drop i)).length)).toArray) := fun ty dc sc =>
    run_copy_rowK _ 23 23 ty 38 2 w.heap.size ((i + 1) * 2) (cs.length - i) dc ⟨g, i * 2, none⟩ (cs.length - i) sc R1.toArray 38 (flatDc (cs.drop i)) Yba.underlying23 size38 hN1 (by rw [hd]; simp only [Nat.min_def]; split <;> omega)
      (fun j u hj => by
        have hj2 : j < (flatDc (cs.drop i)).length := (List.getElem?_eq_some_iff.1 hj).1
        rw [flatDc_drop, ← ht, List.getElem?_drop, List.getElem?_take, if_pos (by omega), Array.getElem?_toList] at hj
        have hgo : ((((w.alloc (.cells R.toArray 38)).drew).setRow w.heap.size R1.toArray).drew).heap[g]? = some (.cells cur 38 (0, 0)) := ((setRow_other _ w.heap.size g _ (by omega)).trans (hold' g hgl)).trans hg
        rw [addr_add, cell_of_block hgo]; exact hj)
      (by simp; rw [q1, hd]; omega) (flatDc_oneCell _)
  generalize hR2 : R1.take ((i + 1) * 2) ++ flatDc (cs.drop i) ++ R1.drop ((i + 1) * 2 + (flatDc (cs.drop i)).length) = R2 at hcpB q2 q3
  have HF : Hid (∀ w', w' = ((((w.alloc (.cells R.toArray 38)).drew).setRow w.heap.size R1.toArray).drew).setRow w.heap.size R2.toArray → w'.ownsRow base 38 2 (.slice (some ⟨w.heap.size, 0, none⟩) (cs.length + 1) G) (cs.length + 1) (flatDc (laidIn cs i us)) ∧ w.grownBy w' (some g)) := by
    intro w' hw'
    subst hw'
    refine ⟨⟨?_, Or.inr ⟨w.heap.size, G, R2.toArray, rfl, hbase, setRow_heap _ _ _ _ 38 _ hN1, hGn, hGm, by simp; rw [q2]; omega, by simpa using q3⟩⟩, ⟨rfl, rfl, rfl, by simp [World.setRow], fun k hk hkg => ?_⟩⟩
    · rw [flatDc_length, laidIn_length _ _ _ (by omega)]
    · rw [setRow_other _ _ k _ (by omega)]
      exact (setRow_other _ _ k _ (by omega)).trans (hold' k hk)
  unfold maxLen at hGm
  clear q1 q2 q3 hR1 hR2 hN hN1 ht hold hkk hik hR hG hRl hRt hold' hd
  have hz1' : ¬ ((i : Int) = (cs.length : Int)) := by omega
  have hr : (cap : Int) < (cs.length : Int) + 1 := by omega
  have hb2 : ¬ (G = i + 1) := by omega
  have hb4 : ¬ (G = i) := by omega
  have hb5 : ¬ (cap = i) := by omega
  have hw1 : IntKind.i64.wrap ((i : Int) + 1) = (i : Int) + 1 := by rw [IntKind.wrap_i64]; omega
  have hb1 : (0 : Int) ≤ (i : Int) + 1 := by omega
  have hin : (i : Int) ≤ (cs.length : Int) := by omega
  have hb3 : (i : Int) ≤ (cs.length : Int) + 1 := by omega
  have htn : ((i : Int) + 1).toNat = i + 1 := by omega
  go_enter Yba.func11, Yba.ntmps11
  go_wp2_with (first
    | (at_builtin; refine Lib.wpList_append_run _ rfl _ _ _ _ rfl _ _ rfl rfl _ _ (hrz _) ?_)
    | (at_builtin; refine wpList_copy_run _ rfl _ _ 23 23 rfl _ _ rfl rfl (hcpA _ _) ?_))
  go_region_law (refine step_copy_run rfl _ _ 23 23 rfl _ _ (by simp [Act.eval, Act.put]) (by simp [Act.eval, Act.put]) (hcpB _ _ _) ?_)
  go_wp2
  go_ret
  have hf := HF.out _ rfl
  exact ⟨_, rfl, hf.1, hf.2⟩

/-- slices.Insert of one element, at whatever place -/
theorem insert_any (base : Nat) (v : Value) (cs : List (Int × Int)) (i : Nat) (us : Int) (vb : Nat) (w : World) (hrow : w.ownsRow base 38 2 v cs.length (flatDc cs)) (hl : cs.length ≤ 1024)
    (hv : w.heap[vb]? = some (.cells #[.int .i64 us, .int .i64 1] 38 (0, 0))) (hne : v.ownBlock ≠ some vb) (hbase : base ≤ w.heap.size) (hi : i ≤ cs.length) :
    Calls Yba.prog 11 #[v, .int .i64 i, .slice (some ⟨vb, 0, none⟩) 1 1] w (Inserted base v cs i us w) := by
  by_cases he : i = cs.length
  · subst he; exact insert_end base v cs us vb w hrow hl hv hbase
  · rcases hrow.2 with ⟨rfl, h0⟩ | ⟨g, cap, cur, rfl, hb, hg, hn, hm, hs, ht⟩
    · omega
    · by_cases hroom : cs.length + 1 ≤ cap
      · exact insert_room base g cap cur cs i us vb w hb hg hroom hm hs ht hl (by omega) hv (fun e => hne (by simp [Value.ownBlock, e]))
      · exact insert_grow base g cap cur cs i us vb w hbase hg (by omega) hn ht hl (by omega) hv
#print axioms insert_any
end Go.Proofs.Ybulkaaou
