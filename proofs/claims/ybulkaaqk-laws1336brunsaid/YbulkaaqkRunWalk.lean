/-
  The walk of LawS1336BRun (3). Own work of this seat.
-/
import Derived.Test.YbulkaaqkTake
import Derived.Laws.BytesArg
namespace Go.Proofs.Ybulkaaqk
open Go.ChangeShapes Go.WideShapes Go.ChangeAt Go.RowKit

theorem bys_str (s : ByteArray) (a e : Nat) (he : e ≤ s.size) : strOfNums (bys s a e) = s.extract a e := by
  apply ByteArray.ext
  apply Array.toList_inj.1
  rw [strOfNums_data]
  unfold bys
  rw [List.map_map]
  apply List.ext_getElem?
  intro j
  rw [ByteArray.data_extract, List.getElem?_map, Array.getElem?_toList (xs := s.data.extract a e)]
  have hsz : s.data.size = s.size := rfl
  by_cases hj : j < e - a
  · rw [Array.getElem?_extract, if_pos (by omega), List.getElem?_range' hj]
    have hlt : a + j < s.size := by omega
    have hlt2 : a + j < s.data.size := by omega
    simp only [Option.map_some, Function.comp, Nat.one_mul]
    rw [Array.getElem?_eq_getElem hlt2]
    unfold byt
    rw [dif_pos hlt]
    congr 1
    show UInt8.ofNat (((s[a + j]).toNat : Int).toNat) = _
    rw [Int.toNat_natCast]
    apply UInt8.toNat_inj.1
    simp
    rfl
  · rw [List.getElem?_eq_none (by simp; omega), Array.getElem?_eq_none (by simp; omega)]; rfl

theorem owns_conv {w : World} {base : Nat} {v : Value} {L : List Int} (h : w.ownsRow base 5 1 v L.length (L.map (Value.int .u8))) : (convert 24 9 v).run Yba.prog w = .ok (.string (strOfNums L)) w := by
  rcases h.2 with ⟨rfl, h0⟩ | ⟨g, cap, cur, rfl, _, hg, _, _, _, ht⟩
  · obtain rfl : L = [] := List.eq_nil_of_length_eq_zero h0
    exact run_convert_bytes_nil w 24 5 Yba.underlying24 Yba.underlying5 0 0 9 Yba.underlying9
  · refine run_convert_bytes_arg w 24 5 Yba.underlying24 Yba.underlying5 g 0 L.length cap L rfl (fun i hi => ?_) 9 Yba.underlying9
    rw [cell_of_block hg, Nat.zero_add, ← Array.getElem?_toList]
    have e1 : (cur.toList.take (L.length * 1))[i]? = (L.map (Value.int .u8))[i]? := by rw [ht]
    rw [List.getElem?_take, if_pos (by omega)] at e1
    rw [e1, List.getElem?_map, List.getElem?_eq_getElem hi, List.getD_eq_getElem?_getD, List.getElem?_eq_getElem hi]; rfl

set_option maxRecDepth 100000 in
set_option maxHeartbeats 4000000 in
theorem run_walk (s : ByteArray) (a1 : Int) (m : Int) (inv : Bool) (w : World) (k0 : 0 ≤ a1) (k1 : a1 ≤ 18446744073709551615) (h0 : 0 ≤ m) (h1 : m ≤ 18446744073709551615) (hs63 : s.size ≤ 9223372036854775807) :
    Calls Yba.prog 3 #[.string s, .int .u64 a1, .int .u64 m, .bool inv] w fun e w' => e = .returned (.bool true) ∧ RowKit.Below w.heap.size w w' := by
  by_cases hlen : 4096 < s.size
  · have hlen' : (4096 : Int) < (s.size : Int) := by omega
    go_enter Yba.func3, Yba.ntmps3
    go_wp2
    go_ret
    exact ⟨rfl, ((Below.refl _ _).alloc (Nat.le_refl _) _).alloc (by simp) _⟩
  · have hlen' : (s.size : Int) ≤ 4096 := by omega
    go_enter Yba.func3, Yba.ntmps3
    go_wp2_with fail
    obtain ⟨a, ha, he⟩ : ∃ a : Nat, a ≤ s.size ∧ wrap64 (a1 % ((s.size : Int) + 1)) = (a : Int) := by
      refine ⟨(a1 % ((s.size : Int) + 1)).toNat, ?_, ?_⟩
      · have := Int.emod_lt_of_pos a1 (show (0 : Int) < (s.size : Int) + 1 by omega)
        have := Int.emod_nonneg a1 (show (s.size : Int) + 1 ≠ 0 by omega)
        omega
      · have := Int.emod_lt_of_pos a1 (show (0 : Int) < (s.size : Int) + 1 by omega)
        have := Int.emod_nonneg a1 (show (s.size : Int) + 1 ≠ 0 by omega)
        rw [IntWalk.wrap64_in _ (by omega)]; omega
    have e3 : w.heap.size + 1 + 1 + 1 = w.heap.size + 3 := rfl
    have e2 : w.heap.size + 1 + 1 = w.heap.size + 2 := rfl
    rw [he, e3, e2]
    clear he e3 e2
    have hH : Held w.heap.size m inv s a [] ((((w.alloc (.cells #[.int .u64 m] 23)).alloc (.cells #[.bool inv] 4)).alloc (.cells #[.slice none 0 0] 24)).alloc (.cells #[.string s, .int .i64 a] 29)) := by
      refine ⟨by simp, ?_, ?_, ⟨.slice none 0 0, ?_, World.ownsRow_nil _ _ _ _⟩, ?_⟩
      · rw [Below.heap_alloc _ _ _ (by simp only [World.size_alloc]; omega), Below.heap_alloc _ _ _ (by simp only [World.size_alloc]; omega), Below.heap_alloc _ _ _ (by simp only [World.size_alloc]; omega)]; exact (MapKept.heap_alloc w _).1
      · rw [Below.heap_alloc _ _ _ (by simp only [World.size_alloc]; omega), Below.heap_alloc _ _ _ (by simp only [World.size_alloc]; omega)]
        have := (MapKept.heap_alloc (w.alloc (.cells #[.int .u64 m] 23)) (.cells #[.bool inv] 4)).1
        rwa [World.size_alloc] at this
      · rw [Below.heap_alloc _ _ _ (by simp only [World.size_alloc]; omega)]
        have := (MapKept.heap_alloc ((w.alloc (.cells #[.int .u64 m] 23)).alloc (.cells #[.bool inv] 4)) (.cells #[.slice none 0 0] 24)).1
        rwa [World.size_alloc, World.size_alloc] at this
      · have := (MapKept.heap_alloc (((w.alloc (.cells #[.int .u64 m] 23)).alloc (.cells #[.bool inv] 4)).alloc (.cells #[.slice none 0 0] 24)) (.cells #[.string s, .int .i64 a] 29)).1
        rwa [World.size_alloc, World.size_alloc, World.size_alloc] at this
    have hbA : RowKit.Below w.heap.size w ((((w.alloc (.cells #[.int .u64 m] 23)).alloc (.cells #[.bool inv] 4)).alloc (.cells #[.slice none 0 0] 24)).alloc (.cells #[.string s, .int .i64 a] 29)) :=
      ((((Below.refl _ _).alloc (Nat.le_refl _) _).alloc (by simp) _).alloc (by simp; omega) _).alloc (by simp; omega) _
    refine (take_any w.heap.size m inv s a _ hH ha (by omega) h0 h1).mono ?_
    rintro e w1 ⟨k, hR, rfl, hH1, hb1⟩
    have hbw : RowKit.Below w.heap.size w w1 := hbA.trans hb1
    clear hH hbA hb1
    have hka := hR.lo
    have hks := hR.hi
    go_wp2_with fail
    go_loopw [14] (fun jv wr => ∃ j : Nat, a ≤ j ∧ j ≤ s.size ∧ jv = .int .i64 j ∧ Hid (∀ t, a ≤ t → t < j → acc m inv (byt s t) = true) ∧ Held w.heap.size m inv s k (bys s a (logEnd s k)) wr ∧ RowKit.Below w.heap.size w wr) (fun jv _ => s.size - (intOf jv).toNat)
    case atStart => exact ⟨a, Nat.le_refl _, ha, rfl, fun t h1 h2 => by omega, hH1, hbw⟩
    case round =>
      obtain ⟨j, haj, hjs, rfl, hyes, hHj, hbj⟩ := hrel
      have r2 : wr.cell? ⟨w.heap.size, 0, none⟩ = some (.int .u64 m) := by rw [cell_of_block hHj.mask]; rfl
      have r3 : wr.cell? ⟨w.heap.size + 1, 0, none⟩ = some (.bool inv) := by rw [cell_of_block hHj.invt]; rfl
      by_cases hlt : j < s.size
      · have hlt' : (j : Int) < (s.size : Int) := by omega
        have hj0 : (0 : Int) ≤ (j : Int) := by omega
        have hb := byt_le s j
        have eb : byt s j = (s[j].toNat : Int) := by unfold byt; rw [dif_pos hlt]
        have hacc := fun W => accept_any m inv (byt s j) W h0 h1 hb.1 hb.2
        rw [eb] at hacc
        have HB : Hid (byt s j = (s[j].toNat : Int)) := eb
        clear eb
        cases ha' : acc m inv (byt s j) with
        | true =>
          have Ha : Hid (acc m inv (byt s j) = true) := ha'
          rw [HB.out] at ha'
          rw [ha'] at hacc
          clear ha'
          go_wp2
          go_quiet ((go_at_call 5; exact Calls.quiet_of_same (hacc _)))
          go_wp2
          go_roundw
          case rel => exact ⟨j + 1, by omega, by omega, by go_num, fun t h1 h2 => by
              by_cases ht : t < j
              · exact hyes.out t h1 ht
              · obtain rfl : t = j := by omega
                exact Ha.out, hHj.drewN _, below_drewN hbj _⟩
          case measure => simp [intOf]; omega
        | false =>
          have HR : Run m inv s a j := ⟨haj, hjs, hyes.out, fun _ => ha'⟩
          rw [HB.out] at ha'
          rw [ha'] at hacc
          clear ha'
          obtain rfl : k = j := hR.one HR
          have HE : Hid (logEnd s k = k + 1) := if_pos hlt
          obtain ⟨v, hlog, hrow⟩ := hHj.log
          rw [HE.out] at hrow
          have hcv := fun W (hW : W.heap = wr.heap) => owns_conv (w := W) (base := w.heap.size + 4) (v := v) (L := bys s a (k + 1)) (by unfold World.ownsRow at hrow ⊢; rw [hW]; exact hrow)
          rw [bys_str s a (k + 1) (by omega)] at hcv
          have p0 : wr.cell? ⟨w.heap.size + 3, 0, none⟩ = some (.string s) := by rw [cell_of_block hHj.par]; rfl
          have p1 : wr.cell? ⟨w.heap.size + 3, 1, none⟩ = some (.int .i64 k) := by rw [cell_of_block hHj.par]; rfl
          have pl : wr.cell? ⟨w.heap.size + 2, 0, none⟩ = some v := by rw [cell_of_block hlog]; rfl
          go_wp2
          go_quiet ((go_at_call 5; exact Calls.quiet_of_same (hacc _)))
          go_wp2
          have hcv1 := hcv (wr.drewN (nq + 1)) rfl
          clear hcv hacc
          have hke : (a : Int) ≤ (k : Int) + 1 := by omega
          have hkl : (k : Int) + 1 ≤ (s.size : Int) := by omega
          have hk1 : (0 : Int) ≤ (k : Int) + 1 := by omega
          have ha0 : (0 : Int) ≤ (a : Int) := by omega
          have htn : ((k : Int) + 1).toNat = k + 1 := by omega
          go_region
          go_wp2
          go_ret
          exact ⟨rfl, (below_drewN hbj _).drew⟩
      · obtain rfl : j = s.size := by omega
        have HR : Run m inv s a s.size := ⟨haj, hjs, hyes.out, fun h => by omega⟩
        obtain rfl : k = s.size := hR.one HR
        have hd : decide ((s.size : Int) < (s.size : Int)) = false := by simp
        have HE : Hid (logEnd s s.size = s.size) := if_neg (by omega)
        obtain ⟨v, hlog, hrow⟩ := hHj.log
        rw [HE.out] at hrow
        have hcv := fun W (hW : W.heap = wr.heap) => owns_conv (w := W) (base := w.heap.size + 4) (v := v) (L := bys s a s.size) (by unfold World.ownsRow at hrow ⊢; rw [hW]; exact hrow)
        rw [bys_str s a s.size (Nat.le_refl _)] at hcv
        have p0 : wr.cell? ⟨w.heap.size + 3, 0, none⟩ = some (.string s) := by rw [cell_of_block hHj.par]; rfl
        have p1 : wr.cell? ⟨w.heap.size + 3, 1, none⟩ = some (.int .i64 s.size) := by rw [cell_of_block hHj.par]; rfl
        have pl : wr.cell? ⟨w.heap.size + 2, 0, none⟩ = some v := by rw [cell_of_block hlog]; rfl
        go_wp2
        go_quiet (fail)
        go_wp2
        have hcv1 := hcv (wr.drewN (nq + 1)) rfl
        clear hcv
        have hke : (a : Int) ≤ (s.size : Int) := by omega
        have ha0 : (0 : Int) ≤ (a : Int) := by omega
        have hs0 : (0 : Int) ≤ (s.size : Int) := by omega
        go_region
        go_wp2
        go_ret
        exact ⟨rfl, (below_drewN hbj _).drew⟩
#print axioms run_walk
end Go.Proofs.Ybulkaaqk
