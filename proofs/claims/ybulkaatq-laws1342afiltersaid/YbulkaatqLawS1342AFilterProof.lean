/-
  The proof of 'Rows.LawS1342AFilterSaid': the frame by the guide's proof-skeleton, the walk by YbulkaatqFilterWalk.
-/
import Derived.Test.YbulkaatqRows
import Derived.Test.YbulkaatqFilterWalk
import Derived.WalkKit
import Derived.ProofKit
import Derived.OpenShut
import Derived.ShutString
import Derived.ChangeOld
import Derived.Below
import Derived.Deep.Slices
namespace Go.Proofs.Ybulkaatq.lawS1342AFilter
open Go.ChangeShapes Go.WideShapes Go.ChangeAt Go.RowKit
set_option linter.unusedVariables false

theorem own : ownKnob Yba.prog.godebug = none := by kernel_rfl
theorem laidOut : laidOutB Yba.prog = true := by kernel_rfl
theorem cells4 : Yba.prog.cellsOf 4 = 1 := by kernel_rfl

theorem bool_cell {H : Type} {enc : TypeId × Value → H} {w : World} {base : Nat} {spare : Nat → Bool} {held : Bool} {n : Nat} {v : Value} {x : DataW H × List MemPlace} (h : DataW.trod enc Yba.prog w base spare held n 4 [v] = some x) : ∃ b, v = .bool b := by
  cases n with
  | zero => cases h
  | succ n =>
    rw [DataW.trod_step] at h
    unfold DataW.trodStep at h
    simp only [Yba.underlying4] at h
    cases v <;> simp_all

theorem open_bools {H : Type} {enc : TypeId × Value → H} {W : World} {base : Nat} {spare : Nat → Bool} {held : Bool} {a : Option Addr} {len cap : Nat} {fuel : Nat} {x : DataW H × List MemPlace} (h : DataW.trod enc Yba.prog W base spare held fuel 22 [.slice a len cap] = some x) :
    (a = none → len = 0 ∧ cap = 0) ∧ ∃ zs : List Bool, At W a len (fun i => .bool (zs.getD i false)) := by
  rcases Deep.open_slice1 Yba.underlying22 cells4 h with ⟨hcs, _⟩ | ⟨b, l, c, m, n, V, D, Pl, hcs, hb, hl, hm, hmm, hx, hcell⟩
  · simp at hcs
    obtain ⟨rfl, rfl, rfl⟩ := hcs
    exact ⟨fun _ => ⟨rfl, rfl⟩, [], fun i hi => by omega⟩
  · simp at hcs
    obtain ⟨rfl, rfl, rfl⟩ := hcs
    refine ⟨(fun e => by cases e), ?_⟩
    have hml : len ≤ m := by rw [hmm]; split <;> omega
    have hb : ∀ i, i < len → ∃ z, W.cell? (b.add i) = some (.bool z) := fun i hi => by
      obtain ⟨h1, h2⟩ := hcell i (by omega)
      obtain ⟨z, hz⟩ := bool_cell h2
      exact ⟨z, by rw [h1, hz]⟩
    refine ⟨(List.range len).map (fun i => match W.cell? (b.add i) with | some (.bool z) => z | _ => false), fun i hi => ?_⟩
    obtain ⟨z, hz⟩ := hb i hi
    obtain ⟨z', hz'⟩ := hb 0 (by omega)
    obtain ⟨bl, off, spot⟩ := b
    have hspot : spot = none := by simpa [Addr.add] using World.cell?_spot hz'
    subst hspot
    refine ⟨bl, off, rfl, ?_⟩
    rw [addr_add] at hz
    rw [hz]
    simp [hi, addr_add, hz]

theorem open_u8s {H : Type} {enc : TypeId × Value → H} {W : World} {base : Nat} {spare : Nat → Bool} {held : Bool} {a : Option Addr} {len cap : Nat} {fuel : Nat} {x : DataW H × List MemPlace} (h : DataW.trod enc Yba.prog W base spare held fuel 23 [.slice a len cap] = some x) :
    ∃ zs : List Int, At W a len (fun i => .int .u8 (zs.getD i 0)) ∧ ∀ j, j < len → (Lit.int .u8 (zs.getD j 0)).wf = true := by
  rcases open_ints Yba.underlying23 Yba.underlying5 (by kernel_rfl) h with ⟨hcs, _⟩ | ⟨b, l, c, zs, hcs, _, hl, hm, hz, _, hcell, hwz⟩
  · simp at hcs
    obtain ⟨rfl, rfl, rfl⟩ := hcs
    exact ⟨[], fun i hi => by omega, fun j hj => by omega⟩
  · simp at hcs
    obtain ⟨rfl, rfl, rfl⟩ := hcs
    have hlz : len ≤ zs.length := by rw [hz]; split <;> omega
    refine ⟨zs, fun i hi => ?_, fun j hj => hwz _ ?_⟩
    · obtain ⟨bl, off, rfl, hc⟩ := ints_at hcell (by omega)
      exact ⟨bl, off, rfl, hc i (by omega)⟩
    · rw [List.getD_eq_getElem?_getD, List.getElem?_eq_getElem (by omega)]
      exact List.getElem_mem _

/-! ### THE ROW's STEP -/
set_option maxRecDepth 100000 in
theorem lifted (os : Os) (started : os.Started) (H : Type) (enc : TypeId × Value → H) :
    ReturnsInHanded {} Yba.checked os 3 .any (Rows.lawS1342AFilterSpec.pre6 enc Yba.prog Yba.f3 Rows.lawS1342AFilterRow.domain false) (Rows.lawS1342AFilterSpec.post enc Yba.prog Yba.f3 false true false false) := by
  refine returnsInHanded_of_change (C := Yba.checked) own started (by kernel_rfl) Yba.func3
    (ChangeSpec.witness6 (enc := enc) (C := Yba.checked) false ⟨#[], #[.slice none 0 0, .slice none 0 0, .slice none 0 0, .bool false], []⟩ 8 (by kernel_rfl) (by kernel_rfl) (by kernel_rfl) (by kernel_rfl)) ?_
  intro W base args ds gs before hval0 hW hcnd _
  have hval : ∀ (j : Nat) t v, Yba.f3.params[j]? = some t → args[j]? = some v → Value.okWide Yba.prog W .any base t v := hval0
  have hW' := hW
  obtain ⟨p, q, hA0, hV, rfl, hfz, hnd⟩ := hW
  have hA : DataW.TrodAll enc Yba.prog W 0 (fun _ => true) true Yba.f3.params.toList args.toList ds p := hA0
  rw [Yba.params3] at hA hval
  obtain ⟨v0, vs0, d0, ds0, p0, q0, hargs, rfl, rfl, h0, r0⟩ := trodAll_cons hA
  obtain ⟨v1, vs1, d1, ds1, p1, q1, rfl, rfl, rfl, h1, r1⟩ := trodAll_cons r0
  obtain ⟨v2, vs2, d2, ds2, p2, q2, rfl, rfl, rfl, h2, r2⟩ := trodAll_cons r1
  obtain ⟨v3, vs3, d3, ds3, p3, q3, rfl, rfl, rfl, h3, r3⟩ := trodAll_cons r2
  obtain ⟨rfl, rfl, rfl⟩ := trodAll_nil r3
  obtain rfl : args = #[v0, v1, v2, v3] := by cases args; simp_all
  obtain ⟨rfl, rfl⟩ := trodVars_none hV
  have k0 := h0
  have k1 := h1
  have k2 := h2
  have k3 := h3
  have lt0 : ∀ x ∈ p0, x.block < W.heap.size := by obtain ⟨m, hm⟩ := k0; exact DataW.trod_lt m _ _ _ hm
  have lt1 : ∀ x ∈ p1, x.block < W.heap.size := by obtain ⟨m, hm⟩ := k1; exact DataW.trod_lt m _ _ _ hm
  have lt2 : ∀ x ∈ p2, x.block < W.heap.size := by obtain ⟨m, hm⟩ := k2; exact DataW.trod_lt m _ _ _ hm
  have lt3 : ∀ x ∈ p3, x.block < W.heap.size := by obtain ⟨m, hm⟩ := k3; exact DataW.trod_lt m _ _ _ hm
  obtain ⟨a0, len0, cap0, rfl⟩ := okWide_slice Yba.underlying22 (hval 0 22 v0 rfl rfl)
  obtain ⟨a1, len1, cap1, rfl⟩ := okWide_slice Yba.underlying22 (hval 1 22 v1 rfl rfl)
  obtain ⟨a2, len2, cap2, rfl⟩ := okWide_slice Yba.underlying23 (hval 2 23 v2 rfl rfl)
  obtain ⟨rep, rfl⟩ : ∃ b, v3 = .bool b := by
    obtain ⟨b, rfl, _⟩ := open_bool Yba.underlying4 (hval 3 4 v3 rfl rfl) h3
    exact ⟨b, rfl⟩
  obtain ⟨f0, hf0⟩ := h0
  obtain ⟨f1, hf1⟩ := h1
  obtain ⟨f2, hf2⟩ := h2
  obtain ⟨_, z0, w0⟩ := open_bools hf0
  obtain ⟨n1, z1, w1⟩ := open_bools hf1
  obtain ⟨z2, w2, wf2⟩ := open_u8s hf2
  clear hA0 hval0
  refine (filter_walk a0 len0 cap0 z0 a1 len1 cap1 z1 a2 len2 cap2 z2 rep W w0 w1 w2 wf2 n1).mono fun e W' ⟨he, bel0⟩ => ?_
  subst he
  have bel := Below_of_since bel0
  exact ⟨_, rfl, _, _, _, [], _, [], hW', trodAll_mk1 (shut_bool Yba.underlying4 _), (trodAll_cons_mk (Below.trod laidOut (by kernel_rfl) (of_decide_eq_true (by kernel_rfl)) k0 bel lt0) (trodAll_cons_mk (Below.trod laidOut (by kernel_rfl) (of_decide_eq_true (by kernel_rfl)) k1 bel lt1) (trodAll_cons_mk (Below.trod laidOut (by kernel_rfl) (of_decide_eq_true (by kernel_rfl)) k2 bel lt2) (trodAll_cons_mk (Below.trod laidOut (by kernel_rfl) (of_decide_eq_true (by kernel_rfl)) k3 bel lt3) trodAll_mk0)))), rfl, bel.frame _, fun h => by cases h⟩

theorem over : Rows.lawS1342AFilterRow.holds Yba.pinned (OpenSpec.ofChange Rows.lawS1342AFilterSpec) :=
  OpenClaim.holds_of_wide 3 Yba.f3 rfl rfl rfl rfl rfl rfl rfl ⟨rfl, rfl, rfl, rfl, rfl⟩ rfl rfl rfl rfl rfl (by kernel_rfl) Yba.func3 (by kernel_rfl)
    (of_decide_eq_true (by kernel_rfl)) (by unfold Func.isWrapper; first | (rw [if_pos (by decide +kernel)]; kernel_rfl) | (rw [if_neg (by decide +kernel)]; exact ⟨rfl, rfl⟩))
    (fun os started H enc _ => lifted os started H enc)

/-- ████ THE STATEMENT ████ -/
theorem proved : Rows.LawS1342AFilterSaid := over
#print axioms proved
end Go.Proofs.Ybulkaatq.lawS1342AFilter
