/-
  The proof of 'Rows.LawS1340BOrderSaid': the frame by the guide's proof-skeleton, the walk by YbulkaasoOrderWalk.
-/
import Derived.Test.YbulkaasoRows
import Derived.Test.YbulkaasoOrderWalk
import Derived.WalkKit
import Derived.ProofKit
import Derived.OpenShut
import Derived.ShutString
import Derived.ChangeOld
import Derived.Below
import Derived.Deep.Slices
import Derived.Deep.Strs
import Derived.SliceStrings
namespace Go.Proofs.Ybulkaaso.lawS1340BOrder
open Go.ChangeShapes Go.WideShapes Go.ChangeAt Go.RowKit
set_option linter.unusedVariables false

theorem own : ownKnob Yba.prog.godebug = none := by kernel_rfl
theorem laidOut : laidOutB Yba.prog = true := by kernel_rfl
theorem cells9 : Yba.prog.cellsOf 9 = 1 := by kernel_rfl
theorem cells37 : Yba.prog.cellsOf 37 = 3 := by kernel_rfl
theorem cells5 : Yba.prog.cellsOf 5 = 1 := by kernel_rfl
theorem cells3 : Yba.prog.cellsOf 3 = 1 := by kernel_rfl

theorem int_cell {H : Type} {enc : TypeId × Value → H} {w : World} {base : Nat} {spare : Nat → Bool} {held : Bool} {n : Nat} {t : TypeId} {k : IntKind} {v : Value} {x : DataW H × List MemPlace} (ht : Yba.prog.underlying t = some (.int k)) (h : DataW.trod enc Yba.prog w base spare held n t [v] = some x) : ∃ z, v = .int k z ∧ (Lit.int k z).wf = true := by
  cases n with
  | zero => cases h
  | succ n =>
    rw [DataW.trod_step] at h
    unfold DataW.trodStep at h
    simp only [ht] at h
    cases v <;> simp_all

theorem open_paths {H : Type} {enc : TypeId × Value → H} {W : World} {base : Nat} {spare : Nat → Bool} {held : Bool} {a : Option Addr} {len cap : Nat} {fuel : Nat} {x : DataW H × List MemPlace} (h : DataW.trod enc Yba.prog W base spare held fuel 22 [.slice a len cap] = some x) :
    ∃ Q : Nat → ByteArray, At W a len (fun i => .string (Q i)) ∧ ∀ k, k < len → (Q k).size ≤ maxLen := by
  rcases open_strings Yba.underlying22 Yba.underlying9 cells9 h with ⟨hcs, _⟩ | ⟨b, l, c, ss, hcs, _, hl, hm, hz, _, hcell, hwz⟩
  · simp at hcs
    obtain ⟨rfl, rfl, rfl⟩ := hcs
    exact ⟨fun _ => ByteArray.empty, fun i hi => by omega, fun j hj => by omega⟩
  · simp at hcs
    obtain ⟨rfl, rfl, rfl⟩ := hcs
    have hlz : len ≤ ss.length := by rw [hz]; split <;> omega
    refine ⟨fun i => ss.getD i ByteArray.empty, fun i hi => ?_, fun j hj => hwz _ ?_⟩
    · have h0 := hcell 0 (by omega)
      have hi' := hcell i (by omega)
      obtain ⟨bl, off, spot⟩ := b
      have hspot : spot = none := by simpa [Addr.add] using World.cell?_spot h0
      subst hspot
      rw [addr_add] at hi'
      exact ⟨bl, off, rfl, hi'⟩
    · show ss.getD j ByteArray.empty ∈ ss
      rw [List.getD_eq_getElem?_getD, List.getElem?_eq_getElem (by omega)]
      exact List.getElem_mem _

theorem open_recs {H : Type} {enc : TypeId × Value → H} {W : World} {base : Nat} {spare : Nat → Bool} {held : Bool} {a : Option Addr} {len cap : Nat} {fuel : Nat} {x : DataW H × List MemPlace} (h : DataW.trod enc Yba.prog W base spare held fuel 23 [.slice a len cap] = some x) :
    ∃ p l c : Nat → Int, AtE W a len p l c ∧ ∀ i, i < len → 0 ≤ p i ∧ p i ≤ 255 := by
  rcases Deep.open_slice Yba.underlying23 h with ⟨hcs, _⟩ | ⟨b, l, c, m, n, D, Pl, hcs, hb, hl, hm, hmm, hx, hcell⟩
  · simp at hcs
    obtain ⟨rfl, rfl, rfl⟩ := hcs
    exact ⟨fun _ => 0, fun _ => 0, fun _ => 0, fun i hi => by omega, fun i hi => by omega⟩
  · simp at hcs
    obtain ⟨rfl, rfl, rfl⟩ := hcs
    have hml : len ≤ m := by rw [hmm]; split <;> omega
    have each : ∀ i, i < len → ∃ t : Int × Int × Int, W.cell? ((b.add (i * 3)).add 0) = some (.int .u8 t.1) ∧ W.cell? ((b.add (i * 3)).add 1) = some (.int .i64 t.2.1) ∧ W.cell? ((b.add (i * 3)).add 2) = some (.int .i64 t.2.2) ∧ (Lit.int .u8 t.1).wf = true := fun i hi => by
      obtain ⟨cs', h1, h2⟩ := hcell i (by omega)
      rw [cells37] at h1
      obtain ⟨_, hlen, hc⟩ := World.cells?_some h1
      obtain ⟨y0, y1, y2, n', _, _, t0, t1, t2⟩ := Deep.trod_struct3 Yba.underlying37 h2
      match cs', hlen with
      | [u0, u1, u2], _ =>
        simp only [cells5, cells3, List.drop_zero, List.drop_succ_cons, List.take_succ_cons, List.take_zero] at t0 t1 t2
        obtain ⟨z0, rfl, w0⟩ := int_cell Yba.underlying5 t0
        obtain ⟨z1, rfl, _⟩ := int_cell Yba.underlying3 t1
        obtain ⟨z2, rfl, _⟩ := int_cell Yba.underlying3 t2
        exact ⟨(z0, z1, z2), hc 0 (by omega), hc 1 (by omega), hc 2 (by omega), w0⟩
    have pick : ∃ t : Nat → Int × Int × Int, ∀ i, i < len → W.cell? ((b.add (i * 3)).add 0) = some (.int .u8 (t i).1) ∧ W.cell? ((b.add (i * 3)).add 1) = some (.int .i64 (t i).2.1) ∧ W.cell? ((b.add (i * 3)).add 2) = some (.int .i64 (t i).2.2) ∧ (Lit.int .u8 (t i).1).wf = true :=
      ⟨fun i => if hi : i < len then Classical.choose (each i hi) else (0, 0, 0), fun i hi => by simp only [hi, dite_true]; exact Classical.choose_spec (each i hi)⟩
    obtain ⟨t, ht⟩ := pick
    refine ⟨fun i => (t i).1, fun i => (t i).2.1, fun i => (t i).2.2, fun i hi => ?_, fun i hi => ?_⟩
    · obtain ⟨x0, x1, x2, _⟩ := ht i hi
      have h0 := (ht 0 (by omega)).1
      obtain ⟨bl, off, spot⟩ := b
      have hspot : spot = none := by simpa [Addr.add] using World.cell?_spot h0
      subst hspot
      simp only [addr_add, Nat.add_zero] at x0 x1 x2
      exact ⟨bl, off, rfl, x0, x1, x2⟩
    · have := bounds_u8 (ht i hi).2.2.2
      omega

/-! ### THE ROW's STEP -/
set_option maxRecDepth 100000 in
theorem lifted (os : Os) (started : os.Started) (H : Type) (enc : TypeId × Value → H) :
    ReturnsInHanded {} Yba.checked os 3 .any (Rows.lawS1340BOrderSpec.pre6 enc Yba.prog Yba.f3 Rows.lawS1340BOrderRow.domain false) (Rows.lawS1340BOrderSpec.post enc Yba.prog Yba.f3 false true false false) := by
  refine returnsInHanded_of_change (C := Yba.checked) own started (by kernel_rfl) Yba.func3
    (ChangeSpec.witness6 (enc := enc) (C := Yba.checked) false ⟨#[], #[.slice none 0 0, .slice none 0 0], []⟩ 8 (by kernel_rfl) (by kernel_rfl) (by kernel_rfl) (by kernel_rfl)) ?_
  intro W base args ds gs before hval0 hW hcnd _
  have hval : ∀ (j : Nat) t v, Yba.f3.params[j]? = some t → args[j]? = some v → Value.okWide Yba.prog W .any base t v := hval0
  have hW' := hW
  obtain ⟨p, q, hA0, hV, rfl, hfz, hnd⟩ := hW
  have hA : DataW.TrodAll enc Yba.prog W 0 (fun _ => true) true Yba.f3.params.toList args.toList ds p := hA0
  rw [Yba.params3] at hA hval
  obtain ⟨v0, vs0, d0, ds0, p0, q0, hargs, rfl, rfl, h0, r0⟩ := trodAll_cons hA
  obtain ⟨v1, vs1, d1, ds1, p1, q1, rfl, rfl, rfl, h1, r1⟩ := trodAll_cons r0
  obtain ⟨rfl, rfl, rfl⟩ := trodAll_nil r1
  obtain rfl : args = #[v0, v1] := by cases args; simp_all
  obtain ⟨rfl, rfl⟩ := trodVars_none hV
  have k0 := h0
  have k1 := h1
  have lt0 : ∀ x ∈ p0, x.block < W.heap.size := by obtain ⟨m, hm⟩ := k0; exact DataW.trod_lt m _ _ _ hm
  have lt1 : ∀ x ∈ p1, x.block < W.heap.size := by obtain ⟨m, hm⟩ := k1; exact DataW.trod_lt m _ _ _ hm
  obtain ⟨a0, len0, cap0, rfl⟩ := okWide_slice Yba.underlying22 (hval 0 22 v0 rfl rfl)
  obtain ⟨a1, len1, cap1, rfl⟩ := okWide_slice Yba.underlying23 (hval 1 23 v1 rfl rfl)
  obtain ⟨f0, hf0⟩ := h0
  obtain ⟨f1, hf1⟩ := h1
  obtain ⟨Q, w0, wq⟩ := open_paths hf0
  obtain ⟨p, l, c, w1, wp⟩ := open_recs hf1
  clear hA0 hval0
  refine (order_walk a0 len0 cap0 Q a1 len1 cap1 p l c W w0 wq w1 wp).mono fun e W' ⟨he, bel0⟩ => ?_
  subst he
  have bel : Below W.heap.size W W' := ⟨bel0.os, bel0.tape, bel0.output, bel0.size, bel0.block⟩
  exact ⟨_, rfl, _, _, _, [], _, [], hW', trodAll_mk1 (shut_bool Yba.underlying4 _), (trodAll_cons_mk (Below.trod laidOut (by kernel_rfl) (of_decide_eq_true (by kernel_rfl)) k0 bel lt0) (trodAll_cons_mk (Below.trod laidOut (by kernel_rfl) (of_decide_eq_true (by kernel_rfl)) k1 bel lt1) trodAll_mk0)), rfl, bel.frame _, fun h => by cases h⟩

theorem over : Rows.lawS1340BOrderRow.holds Yba.pinned (OpenSpec.ofChange Rows.lawS1340BOrderSpec) :=
  OpenClaim.holds_of_wide 3 Yba.f3 rfl rfl rfl rfl rfl rfl rfl ⟨rfl, rfl, rfl, rfl, rfl⟩ rfl rfl rfl rfl rfl (by kernel_rfl) Yba.func3 (by kernel_rfl)
    (of_decide_eq_true (by kernel_rfl)) (by unfold Func.isWrapper; first | (rw [if_pos (by decide +kernel)]; kernel_rfl) | (rw [if_neg (by decide +kernel)]; exact ⟨rfl, rfl⟩))
    (fun os started H enc _ => lifted os started H enc)

/-- ████ THE STATEMENT ████ -/
theorem proved : Rows.LawS1340BOrderSaid := over
#print axioms proved
end Go.Proofs.Ybulkaaso.lawS1340BOrder
