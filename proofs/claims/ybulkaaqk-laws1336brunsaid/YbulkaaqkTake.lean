/-
  The walk of LawS1336BRun (3): zzs1336baccept (5), the closure (4), take (6). Own work of this seat.
-/
import Derived.Test.YbulkaaqkRows
import Derived.WalkKit
import Derived.ProofKit
import Derived.Below
import Derived.WalkSpells
import Derived.WalkSmall
import Derived.WalkLawsBesides
import Derived.Laws.CopyRow
import Derived.Deep.QuietTactic
import Derived.BigQuiet
import Derived.BigRegion
import Derived.Deep.RegionWith
import Derived.Deep.RegionHeld3
import Derived.Deep.DeepCutAuto
import Derived.Deep.Light
import Derived.RegionTactic
import Derived.ChangeAlike
import Derived.OpenShut
import Derived.Shelf.Abstract
namespace Go.Proofs.Ybulkaaqk
open Go.ChangeShapes Go.WideShapes Go.ChangeAt Go.RowKit

/-- does the mask accept the byte? -/
def acc (m : Int) (inv : Bool) (c : Int) : Bool := !((bits .and .u64 (m / 2 ^ (c % 64).toNat) 1 == 1) == inv)

set_option maxHeartbeats 1000000 in
theorem accept_any (m : Int) (inv : Bool) (c : Int) (w : World) (_h0 : 0 ≤ m) (_h1 : m ≤ 18446744073709551615) (c0 : 0 ≤ c) (c1 : c ≤ 255) :
    Calls Yba.prog 5 #[.int .u64 m, .bool inv, .int .u8 c] w fun e w' => e = .returned (.bool (acc m inv c)) ∧ w' = w := by
  go_enter Yba.func5, Yba.ntmps5
  go_wp2
  go_ret
  exact ⟨rfl, rfl⟩

theorem addr_add (b o j : Nat) : (⟨b, o, none⟩ : Addr).add j = ⟨b, o + j, none⟩ := by unfold Addr.add; split <;> simp_all
theorem cell_of_block {w : World} {g : Nat} {cur : Array Value} {t : TypeId} {fr : Nat × Nat} (hg : w.heap[g]? = some (.cells cur t fr)) (o : Nat) : w.cell? ⟨g, o, none⟩ = cur[o]? := by
  simp [World.cell?, hg]
theorem frozen_of_block {w : World} {g : Nat} {cur : Array Value} {t : TypeId} (hg : w.heap[g]? = some (.cells cur t (0, 0))) (o : Nat) : w.frozen? ⟨g, o, none⟩ = false := by
  simp [World.frozen?, hg]
theorem block_setCell {w : World} {db o : Nat} {c : Array Value} {t : TypeId} (hb : w.heap[db]? = some (.cells c t (0, 0))) (u : Value) : (w.setCell ⟨db, o, none⟩ u).heap[db]? = some (.cells (c.setIfInBounds o u) t (0, 0)) := by
  rw [setCell_eq_setRow w db o c t (0, 0) u hb]
  exact setRow_heap w db _ _ t _ hb

theorem info5 : (Yba.prog.info? 5).map (fun i => (i.zero, i.size, i.bytes)) = some (some (.int .u8 0), 1, 1) := by kernel_rfl

/-- what the closure's captured variables hold: B: the mask, B + 1: invert, B + 2: the log, which owns the bytes L, from block B + 4 on; B + 3: the parser -/
structure Held (B : Nat) (m : Int) (inv : Bool) (s : ByteArray) (i : Int) (L : List Int) (w : World) : Prop where
  base : B + 4 ≤ w.heap.size
  mask : w.heap[B]? = some (.cells #[.int .u64 m] 23 (0, 0))
  invt : w.heap[B + 1]? = some (.cells #[.bool inv] 4 (0, 0))
  log : ∃ v, w.heap[B + 2]? = some (.cells #[v] 24 (0, 0)) ∧ w.ownsRow (B + 4) 5 1 v L.length (L.map (Value.int .u8))
  par : w.heap[B + 3]? = some (.cells #[.string s, .int .i64 i] 29 (0, 0))

theorem Held.drew {B : Nat} {m : Int} {inv : Bool} {s : ByteArray} {i : Int} {L : List Int} {w : World} (h : Held B m inv s i L w) : Held B m inv s i L w.drew := ⟨h.base, h.mask, h.invt, h.log, h.par⟩

theorem Held.drewN {B : Nat} {m : Int} {inv : Bool} {s : ByteArray} {i : Int} {L : List Int} {w : World} (h : Held B m inv s i L w) (n : Nat) : Held B m inv s i L (w.drewN n) := ⟨h.base, h.mask, h.invt, h.log, h.par⟩

set_option maxRecDepth 100000 in
set_option maxHeartbeats 1000000 in
/-- the closure: the byte goes to the log's end -/
theorem closure_any (B : Nat) (m : Int) (inv : Bool) (s : ByteArray) (i : Int) (L : List Int) (c : Int) (w : World) (h : Held B m inv s i L w) (h0 : 0 ≤ m) (h1 : m ≤ 18446744073709551615) (c0 : 0 ≤ c) (c1 : c ≤ 255) (hL : L.length ≤ 8192) :
    Calls Yba.prog 4 #[.int .u8 c, .pointer (some ⟨B + 2, 0, none⟩), .pointer (some ⟨B, 0, none⟩), .pointer (some ⟨B + 1, 0, none⟩)] w fun e w' => e = .returned (.bool (acc m inv c)) ∧ Held B m inv s i (L ++ [c]) w' ∧ RowKit.Below B w w' := by
  obtain ⟨hbase, hmask, hinv, ⟨v, hlog, hrow⟩, hpar⟩ := h
  obtain ⟨i0, hi, hz0, hz1, hz2⟩ := info_parts info5
  have r1 : w.cell? ⟨B + 2, 0, none⟩ = some v := by rw [cell_of_block hlog]; rfl
  have r2 : w.cell? ⟨B, 0, none⟩ = some (.int .u64 m) := by rw [cell_of_block hmask]; rfl
  have r3 : w.cell? ⟨B + 1, 0, none⟩ = some (.bool inv) := by rw [cell_of_block hinv]; rfl
  have f1 : ∀ o, w.frozen? ⟨B + 2, o, none⟩ = false := frozen_of_block hlog
  have hacc := fun W => accept_any m inv c W h0 h1 c0 c1
  generalize acc m inv c = r at hacc ⊢
  go_enter Yba.func4, Yba.ntmps4
  go_wp2_with (first
    | (at_builtin; refine wpList_append_own _ rfl _ _ 24 rfl (B + 4) 5 i0 (.int .u8 0) 1 1 Yba.underlying24 hi hz0 hz1 hz2 rfl (by decide) _ _ _ rfl (hrow.alloc _) ⟨w.heap.size, 0, none⟩ 1 1 [.int .u8 c] rfl rfl (cell_one_new _ _ _) (by simp [Value.oneCell']) (by unfold maxLen; omega) (by omega) (by simp; omega) ?_
       intro v' w2 hrow2 hg2 hnil2
       have hs2 := hg2.size
       have hkeep : ∀ k, k < B + 4 → w2.heap[k]? = w.heap[k]? := fun k hk =>
         (hg2.block k (by simp; omega) (fun e => by have := (hrow.lt k e.symm).1; omega)).trans (Below.heap_alloc _ _ _ (by omega))
       have hb2 : RowKit.Below B w w2 := ((Below.refl _ _).alloc (by omega) _).grown hg2 (by simp; omega) (fun k hk => by have := (hrow.lt k hk).1; omega)
       have hlog2 := (hkeep (B + 2) (by omega)).trans hlog
       have hmask2 := (hkeep B (by omega)).trans hmask
       have hinv2 := (hkeep (B + 1) (by omega)).trans hinv
       have hpar2 := (hkeep (B + 3) (by omega)).trans hpar
       have q1 : w2.cell? ⟨B + 2, 0, none⟩ = some v := by rw [cell_of_block hlog2]; rfl
       have q2 : w2.cell? ⟨B, 0, none⟩ = some (.int .u64 m) := by rw [cell_of_block hmask2]; rfl
       have q3 : w2.cell? ⟨B + 1, 0, none⟩ = some (.bool inv) := by rw [cell_of_block hinv2]; rfl
       have qf : ∀ o, w2.frozen? ⟨B + 2, o, none⟩ = false := frozen_of_block hlog2
       obtain ⟨a', cap', rfl⟩ : ∃ a' cap', v' = .slice a' (L.length + 1) cap' := by
         rcases hrow2.2 with ⟨_, h0⟩ | ⟨g, cap, cur, rfl, _⟩
         · omega
         · exact ⟨_, _, rfl⟩
       clear hnil2)
    | (go_at_call 5; refine (hacc _).mono ?_; rintro e w' ⟨rfl, rfl⟩))
  go_ret
  simp only [World.size_alloc] at hs2
  refine ⟨rfl, ⟨by simp; omega, (Below.heap_setCell _ _ _ _ (show B ≠ B + 2 by omega)).trans hmask2, (Below.heap_setCell _ _ _ _ (show B + 1 ≠ B + 2 by omega)).trans hinv2, ⟨_, block_setCell hlog2 _, ?_⟩, (Below.heap_setCell _ _ _ _ (show B + 3 ≠ B + 2 by omega)).trans hpar2⟩, hb2.setCell (show B ≤ B + 2 by omega) _⟩
  have := ownsRow_setCell_below hrow2 (a := ⟨B + 2, 0, none⟩) (show B + 2 < B + 4 by omega) (.slice a' (L.length + 1) cap')
  simpa using this

theorem Held.set {B : Nat} {m : Int} {inv : Bool} {s : ByteArray} {i : Int} {L : List Int} {w : World} (h : Held B m inv s i L w) (j : Int) : Held B m inv s j L (w.setCell ⟨B + 3, 1, none⟩ (.int .i64 j)) := by
  obtain ⟨hbase, hmask, hinv, ⟨v, hlog, hrow⟩, hpar⟩ := h
  exact ⟨by simpa using hbase, (Below.heap_setCell _ _ _ _ (show B ≠ B + 3 by omega)).trans hmask, (Below.heap_setCell _ _ _ _ (show B + 1 ≠ B + 3 by omega)).trans hinv,
    ⟨v, (Below.heap_setCell _ _ _ _ (show B + 2 ≠ B + 3 by omega)).trans hlog, ownsRow_setCell_below hrow (show B + 3 < B + 4 by omega) _⟩, block_setCell hpar _⟩

/-- the byte at place t -/
def byt (s : ByteArray) (t : Nat) : Int := if h : t < s.size then (s[t].toNat : Int) else 0
theorem byt_le (s : ByteArray) (t : Nat) : 0 ≤ byt s t ∧ byt s t ≤ 255 := by
  unfold byt
  split
  · rename_i h
    have := s[t].toNat_lt
    omega
  · omega
/-- the bytes from a up to k -/
def bys (s : ByteArray) (a k : Nat) : List Int := (List.range' a (k - a)).map (byt s)
theorem bys_succ (s : ByteArray) {a k : Nat} (h : a ≤ k) : bys s a (k + 1) = bys s a k ++ [byt s k] := by
  unfold bys
  rw [show k + 1 - a = (k - a) + 1 from by omega, List.range'_concat, List.map_append]
  simp
  rw [show a + (k - a) = k from by omega]
theorem bys_length (s : ByteArray) (a k : Nat) : (bys s a k).length = k - a := by simp [bys]
theorem bys_self (s : ByteArray) (a : Nat) : bys s a a = [] := by simp [bys]

/-- where the run ends -/
structure Run (m : Int) (inv : Bool) (s : ByteArray) (a k : Nat) : Prop where
  lo : a ≤ k
  hi : k ≤ s.size
  yes : ∀ t, a ≤ t → t < k → acc m inv (byt s t) = true
  no : k < s.size → acc m inv (byt s k) = false

theorem Run.one {m : Int} {inv : Bool} {s : ByteArray} {a k j : Nat} (h : Run m inv s a k) (g : Run m inv s a j) : k = j := by
  rcases Nat.lt_trichotomy k j with hl | he | hl
  · have h1 := h.no (by have := g.hi; omega)
    rw [g.yes k h.lo hl] at h1; cases h1
  · exact he
  · have h1 := g.no (by have := h.hi; omega)
    rw [h.yes j g.lo hl] at h1; cases h1

/-- where the log ends -/
def logEnd (s : ByteArray) (k : Nat) : Nat := if k < s.size then k + 1 else k

set_option maxRecDepth 100000 in
set_option maxHeartbeats 4000000 in
theorem take_any (B : Nat) (m : Int) (inv : Bool) (s : ByteArray) (a : Nat) (w : World) (h : Held B m inv s a [] w) (ha : a ≤ s.size) (hs : s.size ≤ 4096) (h0 : 0 ≤ m) (h1 : m ≤ 18446744073709551615) :
    Calls Yba.prog 6 #[.pointer (some ⟨B + 3, 0, none⟩), .func (.func 4) #[] #[.pointer (some ⟨B + 2, 0, none⟩), .pointer (some ⟨B, 0, none⟩), .pointer (some ⟨B + 1, 0, none⟩)]] w
      fun e w' => ∃ k, Run m inv s a k ∧ e = .returned (.string (s.extract a k)) ∧ Held B m inv s k (bys s a (logEnd s k)) w' ∧ RowKit.Below B w w' := by
  have eg : ∀ args w, (callFunc 4 args).run Yba.prog w = .ok (.enter 4 args) w := enters_of Yba.func4 (by kernel_rfl) rfl
  have r1 : w.cell? ⟨B + 3, 1, none⟩ = some (.int .i64 a) := by rw [cell_of_block h.par]; rfl
  go_enter Yba.func6, Yba.ntmps6
  go_wp2
  go_loopg [32] (s.size - a) (fun n _ wr => ∃ k : Nat, n = s.size - k ∧ a ≤ k ∧ k ≤ s.size ∧ Hid (∀ t, a ≤ t → t < k → acc m inv (byt s t) = true) ∧ Held B m inv s k (bys s a k) wr ∧ RowKit.Below B w wr)
  case atStart => exact ⟨a, rfl, Nat.le_refl _, ha, fun t h1 h2 => by omega, by rw [bys_self]; exact h, Below.refl _ _⟩
  case round =>
    obtain ⟨k, rfl, hak, hks, hyes, hH, hbel⟩ := hrel
    have hpar := hH.par
    have r1 : wr.cell? ⟨B + 3, 1, none⟩ = some (.int .i64 k) := by rw [cell_of_block hpar]; rfl
    have r0 : wr.cell? ⟨B + 3, 0, none⟩ = some (.string s) := by rw [cell_of_block hpar]; rfl
    have rf : ∀ o, wr.frozen? ⟨B + 3, o, none⟩ = false := frozen_of_block hpar
    by_cases hlt : k < s.size
    · have hlt' : (k : Int) < (s.size : Int) := by omega
      have hb := byt_le s k
      have eb : byt s k = (s[k].toNat : Int) := by unfold byt; rw [dif_pos hlt]
      have hk0 : (0 : Int) ≤ (k : Int) := by omega
      have hcl := fun W hW => closure_any B m inv s k (bys s a k) (byt s k) W hW h0 h1 hb.1 hb.2 (by rw [bys_length]; omega)
      rw [eb] at hcl
      have HB : Hid (byt s k = (s[k].toNat : Int)) := eb
      clear eb
      go_upto_region 2 with fail
      go_cut [32] (fun v wc => v = .bool (acc m inv (byt s k)) ∧ Held B m inv s k (bys s a (k + 1)) wc ∧ RowKit.Below B w wc)
      case first =>
        go_region_held3 (fun w' => w'.cell? ⟨B + 3, 1, none⟩ = some (.int .i64 k) ∧ w'.cell? ⟨B + 3, 0, none⟩ = some (.string s)) (first | go_keep | exact ⟨by rw [cell_of_block hH1.par]; rfl, by rw [cell_of_block hH1.par]; rfl⟩)
          (first | (go_at_fn 4; refine (hcl _ hH.drew).mono ?_; rintro e w1 ⟨rfl, hH1, hb1⟩))
        go_wp2
        go_meet
        case rel => exact ⟨by rw [HB.out], by rw [bys_succ s hak, HB.out]; exact hH1, hbel.trans (((Below.refl _ _).drew).trans hb1)⟩
      case rest =>
        obtain ⟨rfl, hHc, hbc⟩ := hcut
        clear hcl r1 r0 rf hpar hH HB hb
        have hpar := hHc.par
        have r1 : wc.cell? ⟨B + 3, 1, none⟩ = some (.int .i64 k) := by rw [cell_of_block hpar]; rfl
        have r0 : wc.cell? ⟨B + 3, 0, none⟩ = some (.string s) := by rw [cell_of_block hpar]; rfl
        have rf : ∀ o, wc.frozen? ⟨B + 3, o, none⟩ = false := frozen_of_block hpar
        cases hacc : acc m inv (byt s k) with
        | true =>
          have Hacc : Hid (acc m inv (byt s k) = true) := hacc
          clear hacc
          go_wp2
          go_roundg (s.size - (k + 1))
          case measure => omega
          case rel => exact ⟨k + 1, rfl, by omega, by omega, fun t h1 h2 => by
              by_cases ht : t < k
              · exact hyes.out t h1 ht
              · obtain rfl : t = k := by omega
                exact Hacc.out, by have := hHc.set ((k : Int) + 1); simpa using this, hbc.setCell (show B ≤ B + 3 by omega) _⟩
        | false =>
          have HR : Run m inv s a k := ⟨hak, hks, hyes.out, fun _ => hacc⟩
          have HE : Hid (logEnd s k = k + 1) := if_pos hlt
          clear hacc
          go_wp2
          go_quiet (fail)
          go_wp2
          go_ret
          exact ⟨k, HR, rfl, by rw [HE.out]; exact hHc.drewN nq, below_drewN hbc nq⟩
    · obtain rfl : k = s.size := by omega
      have hd : decide ((s.size : Int) < (s.size : Int)) = false := by simp
      have HR : Run m inv s a s.size := ⟨hak, hks, hyes.out, fun h => by omega⟩
      have HE : Hid (logEnd s s.size = s.size) := if_neg (by omega)
      go_wp2
      go_quiet (fail)
      go_wp2
      go_quiet (fail)
      go_wp2
      go_ret
      exact ⟨s.size, HR, rfl, by rw [HE.out]; exact (hH.drewN _).drewN _, below_drewN (below_drewN hbel _) _⟩
end Go.Proofs.Ybulkaaqk
