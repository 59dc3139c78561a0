/-
  The walk of LawS1333BByAdd (3). Own work of this seat.
-/
import Derived.Test.YbulkaaouAdd
namespace Go.Proofs.Ybulkaaou
open Go.ChangeShapes Go.WideShapes Go.ChangeAt Go.RowKit Go.Maps

theorem add_any (base : Nat) (w : World) (db : Nat) (l : List Int) (us : Int) (h : St base w db l) (hl : l.length < 1024) (hw : (Lit.int .i64 us).wf = true) (hwl : ∀ x ∈ l, (Lit.int .i64 x).wf = true) :
    Calls Yba.prog 5 #[.pointer (some ⟨db, 0, none⟩), .int .i64 us] w (Added base w db l us) := by
  obtain ⟨h1, h2, v, mo, hb, hS⟩ := h
  rcases hS with ⟨rfl, cs, hrow, hs, hpos, hperm, h64⟩ | ⟨mb, n, D, rfl, hmb, hown, hn, hC⟩
  · exact add_few base w db l us v cs h1 h2 hb hrow hs hpos hperm h64 hl hw hwl
  · exact add_many base w db l us v mb n D h1 h2 hb hmb hown hn hC hl hw

theorem St.start (w : World) : St (w.heap.size + 1) (w.alloc (.cells #[.slice none 0 0, .map none] 26)) w.heap.size [] := by
  refine ⟨Nat.lt_succ_self _, by simp, .slice none 0 0, none, ?_, Or.inl ⟨rfl, [], World.ownsRow_nil _ _ _ _, List.Pairwise.nil, fun p hp => by simp at hp, List.Perm.nil, by simp⟩⟩
  show (w.heap.push _)[w.heap.size]? = _
  rw [Array.getElem?_push, if_pos rfl]

theorem model_take (a0 : Option Addr) (len0 cap0 : Nat) (z0 : List Int) (w W : World) (h : IsRow .i64 w a0 len0 cap0 z0) (hl : len0 ≤ 1024) (hb : RowKit.Below w.heap.size w W) :
    Calls Yba.prog 7 #[.slice a0 len0 cap0] W fun e w' => e = .returned (.tuple #[.agg #[.int .i64 (least (z0.take len0)), .int .i64 (median (z0.take len0)), .int .i64 (greatest (z0.take len0))], .bool (decide (0 < (z0.take len0).length))]) ∧ RowKit.Below W.heap.size W w' := by
  rcases Nat.eq_zero_or_pos len0 with h0 | h0
  · subst h0
    exact model_none _ _ W
  · obtain ⟨b, off, rfl, hbl, hc, hlz, _⟩ := h.at_ h0
    have e : (z0.take len0).length = len0 := by rw [List.length_take]; omega
    have := model_some b off cap0 (z0.take len0) W (Nat.lt_of_lt_of_le hbl hb.size) (by omega) (by omega) (fun j hj => by
      rw [e] at hj
      refine ((hb.cell (p := ⟨b, off + j, none⟩) hbl).trans (hc j hj)).trans ?_
      rw [List.getD_eq_getElem?_getD, List.getD_eq_getElem?_getD, List.getElem?_take, if_pos hj])
    rw [e] at this ⊢
    exact this

set_option maxRecDepth 100000 in
set_option maxHeartbeats 2000000 in
theorem byadd_walk (a0 : Option Addr) (len0 cap0 : Nat) (z0 : List Int) (w : World) (w0 : IsRow .i64 w a0 len0 cap0 z0) :
    Calls Yba.prog 3 #[.slice a0 len0 cap0] w fun e w' => e = .returned (.bool true) ∧ RowKit.Below w.heap.size w w' := by
  by_cases hlen : 1024 < len0
  · have hlen' : (1024 : Int) < (len0 : Int) := by omega
    go_enter Yba.func3, Yba.ntmps3
    go_wp2
    go_ret
    exact ⟨rfl, Below.refl _ _⟩
  · have hlen' : (len0 : Int) ≤ 1024 := by omega
    have H0 : Hid (IsRow .i64 w a0 len0 cap0 z0) := w0
    clear w0
    go_enter Yba.func3, Yba.ntmps3
    go_wp2
    go_loopw [5, 15] (fun _ i wr => ∃ k : Nat, k ≤ len0 ∧ i = .int .i64 k ∧ St (w.heap.size + 1) wr w.heap.size (z0.take k) ∧ RowKit.Below w.heap.size w wr) (fun _ i _ => len0 - (intOf i).toNat)
    case atStart => exact ⟨0, Nat.zero_le _, rfl, St.start w, (Below.refl _ _).alloc (Nat.le_refl _) _⟩
    case round =>
      obtain ⟨k, hk, rfl, hSt, hnx⟩ := hrel
      by_cases hlt : k < len0
      · obtain ⟨b0, off0, rfl, hb0, hc0, hl0, hwf0⟩ := H0.out.at_ (by omega)
        have hx := (hnx.cell (p := ⟨b0, off0 + k, none⟩) hb0).trans (hc0 k hlt)
        have HT : Hid (z0.take (k + 1) = z0.take k ++ [z0.getD k 0]) := by
          show z0.take (k + 1) = z0.take k ++ [z0.getD k 0]
          rw [List.take_succ_eq_append_getElem (by omega), List.getD_eq_getElem?_getD, List.getElem?_eq_getElem (by omega)]; rfl
        have hadd := add_any (w.heap.size + 1) wr w.heap.size (z0.take k) (z0.getD k 0) hSt (by rw [List.length_take]; omega) (hwf0 k hlt) (fun x hx => by
          obtain ⟨j, hj, e⟩ := List.mem_iff_getElem.1 hx
          have hj' : j < k := by rw [List.length_take] at hj; omega
          have := hwf0 j (by omega)
          rw [List.getD_eq_getElem?_getD, List.getElem?_eq_getElem (by omega)] at this
          rw [List.getElem_take] at e
          rw [← e]; exact this)
        clear hc0 hwf0
        generalize z0.getD k 0 = x at hx HT hadd
        have hlt' : (k : Int) < (len0 : Int) := by omega
        go_wp2_with (go_at_call 5; refine hadd.mono ?_; rintro e w2 ⟨rfl, hSt2, hb2⟩)
        go_roundw
        case rel => exact ⟨k + 1, by omega, by go_num, by rw [HT.out]; exact hSt2, hnx.trans hb2⟩
        case measure => simp [intOf]; omega
      · obtain rfl : k = len0 := by omega
        have hk0 : ¬ (k : Int) < (k : Int) := by omega
        have hle : (z0.take k).length ≤ 1024 := by rw [List.length_take]; omega
        obtain ⟨hsrc, hdb⟩ := hSt.src hle
        have hsum := summary_any w.heap.size (z0.take k) wr hdb hsrc hle
        have hmod := fun W hb => model_take a0 k cap0 z0 w W H0.out (by omega) hb
        generalize least (z0.take k) = s1 at hsum hmod
        generalize median (z0.take k) = s2 at hsum hmod
        generalize greatest (z0.take k) = s3 at hsum hmod
        generalize decide (0 < (z0.take k).length) = s4 at hsum hmod
        go_wp2_with fail
        refine hsum.mono ?_
        rintro e w5 ⟨rfl, hb5⟩
        have hbw5 : RowKit.Below w.heap.size w w5 := hnx.trans (hb5.mono hnx.size)
        go_wp2_with fail
        refine (hmod _ (hbw5.alloc hbw5.size _)).mono ?_
        rintro e w6 ⟨rfl, hb6⟩
        have hw5 : w5.heap.size < (w5.alloc (.cells #[.int .i64 s1, .int .i64 s2, .int .i64 s3] 29)).heap.size := by simp
        have g0 := (hb6.cell (p := ⟨w5.heap.size, 0, none⟩) hw5).trans (by simp : _ = some (Value.int .i64 s1))
        have g1 := (hb6.cell (p := ⟨w5.heap.size, 1, none⟩) hw5).trans (by simp : _ = some (Value.int .i64 s2))
        have g2 := (hb6.cell (p := ⟨w5.heap.size, 2, none⟩) hw5).trans (by simp : _ = some (Value.int .i64 s3))
        have hs6 : w5.heap.size < w6.heap.size := by have := hb6.size; simp at this; omega
        have heq := eq29 s1 s2 s3
        have hg29 : Yba.prog.eqGuardType Yba.prog.depth 29 = false := by kernel_rfl
        have hs4 : (s4 == s4) = true := by simp
        have hbw6 : RowKit.Below w.heap.size w w6 := (hbw5.alloc hbw5.size _).trans (hb6.mono (by have := hbw5.size; simp; omega))
        go_wp2
        go_ret
        exact ⟨rfl, hbw6.alloc hbw6.size _⟩
#print axioms byadd_walk
end Go.Proofs.Ybulkaaou
