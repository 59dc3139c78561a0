/-
  The walks of members (6), runs (9), delivers (12), base (30). Own work of this seat.
-/
import Derived.Test.YbulkaatqRows
import Derived.WalkKit
import Derived.ProofKit
import Derived.Below
import Derived.WalkSpells
import Derived.WalkSmall
import Derived.WalkLawsBesides
import Derived.Deep.DeepCutAuto
import Derived.Deep.Light
import Derived.RegionTactic
import Derived.ChangeAlike
import Derived.BigRegion
import Derived.Deep.QuietTactic
import Derived.BigQuiet
import Derived.Deep.OwnRows
import Derived.OwnWalk
import Derived.OpenShut
import Derived.Laws.CopyOwn
import Derived.Laws.CopyRow
namespace Go.Proofs.Ybulkaatq
open Go.ChangeShapes Go.WideShapes Go.ChangeAt Go.RowKit

set_option maxRecDepth 100000 in
theorem base_walk (z p : Nat) (w : World) (h : w.cell? ⟨z, 1, none⟩ = some (.pointer (some ⟨p, 0, none⟩))) :
    Calls Yba.prog 30 #[.pointer (some ⟨z, 0, none⟩)] w fun e w' => e = .returned (.pointer (some ⟨p, 0, none⟩)) ∧ w' = w := by
  go_enter Yba.func30, Yba.ntmps30
  go_wp2
  go_ret
  exact ⟨rfl, rfl⟩

/-- what 'delivers' answers -/
def runsAt (len : Nat) (zs : List Bool) (q : Nat) : Bool := !(decide (q < len) && zs.getD q false)

set_option maxRecDepth 100000 in
theorem delivers_walk (N : Nat) (a : Option Addr) (len cap : Nat) (zs : List Bool) (q : Nat) (w : World) (hN : w.cell? ⟨N, 55, none⟩ = some (.slice a len cap)) (h : ∀ i, i < len → ∃ b off, a = some ⟨b, off, none⟩ ∧ w.cell? ⟨b, off + i, none⟩ = some (.bool (zs.getD i false))) (_hl : len ≤ 1024) (_hq : q ≤ 1024) :
    Calls Yba.prog 12 #[.pointer (some ⟨N, 0, none⟩), .int .i64 q] w fun e w' => e = .returned (.bool (runsAt len zs q)) ∧ w' = w := by
  by_cases hc : q < len
  · obtain ⟨b, off, rfl, hcell⟩ := h q hc
    have e : runsAt len zs q = !(zs.getD q false) := by simp [runsAt, hc]
    rw [e]
    clear e h
    generalize zs.getD q false = y at hcell ⊢
    have hc' : ¬ (len : Int) ≤ (q : Int) := by omega
    go_enter Yba.func12, Yba.ntmps12
    go_wp2
    go_ret
    exact ⟨rfl, rfl⟩
  · have e : runsAt len zs q = true := by simp [runsAt, hc]
    rw [e]
    clear e h
    have hc' : (len : Int) ≤ (q : Int) := by omega
    go_enter Yba.func12, Yba.ntmps12
    go_wp2
    go_ret
    exact ⟨rfl, rfl⟩

set_option maxRecDepth 100000 in
theorem runs_walk (O N : Nat) (a : Option Addr) (len cap : Nat) (zs : List Bool) (q : Nat) (w : World) (hO : w.cell? ⟨O, 2, none⟩ = some (.pointer (some ⟨N, 0, none⟩))) (hN : w.cell? ⟨N, 55, none⟩ = some (.slice a len cap)) (h : ∀ i, i < len → ∃ b off, a = some ⟨b, off, none⟩ ∧ w.cell? ⟨b, off + i, none⟩ = some (.bool (zs.getD i false))) (hl : len ≤ 1024) (hq : q ≤ 1024) :
    Calls Yba.prog 9 #[.pointer (some ⟨O, 0, none⟩), .int .i64 q] w fun e w' => e = .returned (.bool (runsAt len zs q)) ∧ w' = w := by
  have hd := delivers_walk N a len cap zs q w hN h hl hq
  clear h
  generalize runsAt len zs q = y at hd ⊢
  go_enter Yba.func9, Yba.ntmps9
  go_wp2_with fail
  refine hd.mono ?_
  rintro e w' ⟨rfl, hw⟩
  subst hw
  go_wp2
  go_ret
  exact ⟨rfl, rfl⟩

/-- the overlay, its network, its members and their peers, as they lie -/
structure Net (w : World) (O N A n : Nat) (lft : Nat → Bool) (sf Z P : Nat → Nat) (a : Option Addr) (len cap : Nat) (zs : List Bool) (rep : Bool) : Prop where
  net : w.cell? ⟨O, 2, none⟩ = some (.pointer (some ⟨N, 0, none⟩))
  rep : w.cell? ⟨O, 11, none⟩ = some (.bool rep)
  peers : w.cell? ⟨N, 0, none⟩ = some (.slice (some ⟨A, 0, none⟩) n n)
  stop : w.cell? ⟨N, 55, none⟩ = some (.slice a len cap)
  bools : ∀ i, i < len → ∃ b off, a = some ⟨b, off, none⟩ ∧ w.cell? ⟨b, off + i, none⟩ = some (.bool (zs.getD i false))
  row : ∀ j, j < n → w.cell? ⟨A, j, none⟩ = some (.iface 50 (.pointer (some ⟨Z j, 0, none⟩)))
  mem : ∀ j, j < n → w.cell? ⟨Z j, 1, none⟩ = some (.pointer (some ⟨P j, 0, none⟩))
  self : ∀ j, j < n → w.cell? ⟨P j, 1, none⟩ = some (.int .i64 (sf j))
  left : ∀ j, j < n → w.cell? ⟨P j, 26, none⟩ = some (.bool (lft j))

theorem lt_of_cell {w : World} {b o : Nat} {v : Value} (h : w.cell? ⟨b, o, none⟩ = some v) : b < w.heap.size := by
  rcases Nat.lt_or_ge b w.heap.size with h' | h'
  · exact h'
  · simp [World.cell?, Array.getElem?_eq_none h'] at h

theorem since_cell {w w' : World} (hs : w.Since w.heap.size w') {b o : Nat} {v : Value} (h : w.cell? ⟨b, o, none⟩ = some v) : w'.cell? ⟨b, o, none⟩ = some v :=
  (hs.cell (a := ⟨b, o, none⟩) (lt_of_cell h)).trans h

theorem Net.since {w w' : World} {O N A n : Nat} {lft : Nat → Bool} {sf Z P : Nat → Nat} {a : Option Addr} {len cap : Nat} {zs : List Bool} {rep : Bool} (h : Net w O N A n lft sf Z P a len cap zs rep) (hs : w.Since w.heap.size w') :
    Net w' O N A n lft sf Z P a len cap zs rep where
  net := since_cell hs h.net
  rep := since_cell hs h.rep
  peers := since_cell hs h.peers
  stop := since_cell hs h.stop
  bools := fun i hi => by obtain ⟨b, off, e, hc⟩ := h.bools i hi; exact ⟨b, off, e, since_cell hs hc⟩
  row := fun j hj => since_cell hs (h.row j hj)
  mem := fun j hj => since_cell hs (h.mem j hj)
  self := fun j hj => since_cell hs (h.self j hj)
  left := fun j hj => since_cell hs (h.left j hj)

def keeps (lft : Nat → Bool) (sf : Nat → Nat) (len : Nat) (zs : List Bool) (rep : Bool) (j : Nat) : Bool := !(lft j) && (!rep || runsAt len zs (sf j))
def filt (kp : Nat → Bool) (k : Nat) : List Nat := (List.range k).filter kp
theorem filt_succ (kp : Nat → Bool) (k : Nat) : filt kp (k + 1) = filt kp k ++ (if kp k then [k] else []) := by
  unfold filt; rw [List.range_succ, List.filter_append]; cases h : kp k <;> simp [h]
theorem filt_length (kp : Nat → Bool) (k : Nat) : (filt kp k).length ≤ k := by
  unfold filt; exact Nat.le_trans (List.length_filter_le _ _) (by simp)

theorem method_base (a : Addr) (w : World) : (method 257 50 (.pointer (some a)) "example.com/overlace/overlace.base").run Yba.prog w = .ok (30, .pointer (some a)) w := by kernel_rfl

theorem info52 : (Yba.prog.info? 52).map (fun i => (i.zero, i.size, i.bytes)) = some (some .nilIface, 1, 16) := by kernel_rfl

set_option maxRecDepth 100000 in
set_option maxHeartbeats 2000000 in
theorem members_walk (O N A n : Nat) (lft : Nat → Bool) (sf Z P : Nat → Nat) (a : Option Addr) (len cap : Nat) (zs : List Bool) (rep : Bool) (w : World) (hn : n ≤ 1024) (hl : len ≤ 1024) (hsf : ∀ j, j < n → sf j ≤ 1024) (h : Net w O N A n lft sf Z P a len cap zs rep) :
    Calls Yba.prog 6 #[.pointer (some ⟨O, 0, none⟩)] w fun e w' => e = .returned (.slice (some ⟨w.heap.size, 0, none⟩) (filt (keeps lft sf len zs rep) n).length n) ∧ w.Since w.heap.size w' ∧
      w'.ownsRow w.heap.size 52 1 (.slice (some ⟨w.heap.size, 0, none⟩) (filt (keeps lft sf len zs rep) n).length n) (filt (keeps lft sf len zs rep) n).length ((filt (keeps lft sf len zs rep) n).map (fun j => .iface 50 (.pointer (some ⟨Z j, 0, none⟩)))) := by
  obtain ⟨i0, hi, hz0, hz1, hz2⟩ := info_parts info52
  have H : Hid (Net w O N A n lft sf Z P a len cap zs rep) := h
  have net := h.net
  have peers := h.peers
  clear h
  have hn' : (n : Int) ≤ 1024 := by omega
  have hmeth := method_base
  generalize hkp : keeps lft sf len zs rep = kp
  go_enter Yba.func6, Yba.ntmps6
  go_wp2_with (first
      | (at_make; refine wpList_make_own _ rfl _ _ 25 rfl w.heap.size 52 i0 .nilIface 1 Yba.underlying25 hi hz0 hz1 _ _ _ n rfl rfl rfl (by rw [hz2]; omega) (by unfold maxLen; omega) (Nat.le_refl _) ?_; intro w1 hrow1 hg1; have s1 : w.Since w.heap.size w1 := (World.Since.refl _ _).grown hg1 (Nat.le_refl _) (by intro k e; cases e); have net1 := since_cell s1 net; have peers1 := since_cell s1 peers; go_frame)
      | go_in)
  go_loopw [3, 5, 6, 24] (fun v _ _ iv wr => ∃ k : Nat, k ≤ n ∧ iv = .int .i64 k ∧ v = .slice (some ⟨w.heap.size, 0, none⟩) (filt kp k).length n ∧ w.Since w.heap.size wr ∧ w.heap.size < wr.heap.size ∧
      wr.ownsRow w.heap.size 52 1 (.slice (some ⟨w.heap.size, 0, none⟩) (filt kp k).length n) (filt kp k).length ((filt kp k).map (fun j => .iface 50 (.pointer (some ⟨Z j, 0, none⟩))))) (fun _ _ _ iv _ => n - (intOf iv).toNat)
  case atStart => exact ⟨0, Nat.zero_le _, rfl, rfl, s1, (hrow1.lt _ rfl).2, hrow1⟩
  case round =>
    obtain ⟨k, hk, rfl, rfl, hs, hsz, hrow⟩ := hrel
    by_cases hlt : k < n
    · have hlt' : (k : Int) < (n : Int) := by omega
      have nt := H.out.since hs
      have c1 := nt.row k hlt
      have c2 := nt.mem k hlt
      have c3 := nt.self k hlt
      have c4 := nt.left k hlt
      have c5 := nt.rep
      have hb := base_walk _ _ wr c2
      have hr := runs_walk O N a len cap zs (sf k) wr nt.net nt.stop nt.bools hl (hsf k hlt)
      have hkk : kp k = (!(lft k) && (!rep || runsAt len zs (sf k))) := by rw [← hkp]; rfl
      have HF : Hid (filt kp (k + 1) = filt kp k ++ (if kp k then [k] else [])) := filt_succ kp k
      have hfl := filt_length kp k
      clear nt
      generalize hF : filt kp k = F at hrow hfl HF ⊢
      generalize hK : kp k = kk at hkk HF
      generalize runsAt len zs (sf k) = rr at hr hkk
      generalize lft k = lk at hkk c4
      go_wp2_with fail
      refine hb.mono ?_
      rintro e w2 ⟨rfl, hw2⟩
      subst hw2
      cases lk
      · cases hrp : rep
        · subst hrp
          obtain rfl : kk = true := by simpa using hkk
          clear hkk hkp hK hF
          · go_wp2_with (first
              | (at_builtin; refine wpList_append_fits _ rfl _ _ 25 rfl w.heap.size 52 i0 1 Yba.underlying25 hi hz1 w.heap.size F.length n _ rfl (hrow.alloc _) ⟨w2.heap.size, 0, none⟩ 1 1 [.iface 50 (.pointer (some ⟨Z k, 0, none⟩))] rfl rfl (cell_one_new _ _ _) (by simp [Value.oneCell']) (by omega) ?_; intro w4 hown' hg4; go_frame)
              | go_in)
            have hg4s := hg4.size
            go_roundw
            case rel =>
              have e : filt kp (k + 1) = F ++ [k] := by rw [HF.out]; rfl
              refine ⟨k + 1, by omega, by go_num, by rw [e]; simp, (hs.alloc (by omega) _).grown hg4 (by simp; omega) (fun j hj => by cases hj; exact Nat.le_refl _), by simp at hg4s; omega, ?_⟩
              rw [e]
              simpa using hown'
            case measure => simp [intOf]; omega
        · subst hrp
          cases rr
          · obtain rfl : kk = false := by simpa using hkk
            clear hkk hkp hK hF
            go_wp2_with fail
            refine hr.mono ?_
            rintro e w3 ⟨rfl, hw3⟩
            subst hw3
            go_wp2
            go_roundw
            case rel =>
              have e : filt kp (k + 1) = F := by rw [HF.out]; simp
              refine ⟨k + 1, by omega, by go_num, by rw [e], hs, hsz, ?_⟩
              rw [e]
              exact hrow
            case measure => simp [intOf]; omega
          · obtain rfl : kk = true := by simpa using hkk
            clear hkk hkp hK hF
            go_wp2_with fail
            refine hr.mono ?_
            rintro e w3 ⟨rfl, hw3⟩
            subst hw3
            go_wp2_with (first
              | (at_builtin; refine wpList_append_fits _ rfl _ _ 25 rfl w.heap.size 52 i0 1 Yba.underlying25 hi hz1 w.heap.size F.length n _ rfl (hrow.alloc _) ⟨w3.heap.size, 0, none⟩ 1 1 [.iface 50 (.pointer (some ⟨Z k, 0, none⟩))] rfl rfl (cell_one_new _ _ _) (by simp [Value.oneCell']) (by omega) ?_; intro w4 hown' hg4; go_frame)
              | go_in)
            have hg4s := hg4.size
            go_roundw
            case rel =>
              have e : filt kp (k + 1) = F ++ [k] := by rw [HF.out]; rfl
              refine ⟨k + 1, by omega, by go_num, by rw [e]; simp, (hs.alloc (by omega) _).grown hg4 (by simp; omega) (fun j hj => by cases hj; exact Nat.le_refl _), by simp at hg4s; omega, ?_⟩
              rw [e]
              simpa using hown'
            case measure => simp [intOf]; omega
      · obtain rfl : kk = false := by simpa using hkk
        clear hkk hkp hK hF
        · go_wp2
          go_roundw
          case rel =>
            have e : filt kp (k + 1) = F := by rw [HF.out]; simp
            refine ⟨k + 1, by omega, by go_num, by rw [e], hs, hsz, ?_⟩
            rw [e]
            exact hrow
          case measure => simp [intOf]; omega
    · obtain rfl : k = n := by omega
      have hk0 : ¬ (k : Int) < (k : Int) := by omega
      go_wp2
      go_ret
      exact ⟨rfl, hs, hrow⟩
end Go.Proofs.Ybulkaatq
