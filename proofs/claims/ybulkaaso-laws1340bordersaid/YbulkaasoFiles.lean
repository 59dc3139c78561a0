/-
  BOrder: the law, the worlds of its first loop. Own work of this seat.
-/
import Derived.Test.YbulkaasoHelpers
import Derived.LaidEqlPtr
namespace Go.Proofs.Ybulkaaso
open Go.ChangeShapes Go.WideShapes Go.ChangeAt Go.RowKit Go.Sort Go.Maps

theorem info29 : (Yba.prog.info? 29).map (fun i => (i.zero, i.size, i.bytes)) = some (some (.pointer none), 1, 8) := by kernel_rfl
theorem info38 : (Yba.prog.info? 38).map (fun i => (i.zero, i.size, i.bytes)) = some (some (.pointer none), 1, 8) := by kernel_rfl
theorem info3 : (Yba.prog.info? 3).map (fun i => (i.zero, i.size, i.bytes)) = some (some (.int .i64 0), 1, 8) := by kernel_rfl

/-- the program's files after k rounds; S: the heap's size at the call, the program's own block -/
structure Filed (w : World) (S : Nat) (Q : Nat → ByteArray) (x : Value) (k : Nat) (v : Value) (F : Nat → Nat) (wr : World) : Prop where
  since : w.Since S wr
  prog : wr.heap[S]? = some (.cells #[v, x] 28 (0, 0))
  row : wr.ownsRow (S + 1) 29 1 v k ((List.range k).map (fun j => .pointer (some ⟨F j, 0, none⟩)))
  file : ∀ j, j < k → wr.heap[F j]? = some (.cells #[.string (Q j), .slice none 0 0] 32 (0, 0))

theorem own_ne {w : World} {base : Nat} {v : Value} {n : Nat} {xs : List Value} (h : w.ownsRow base 29 1 v n xs) {b : Nat} {c : Array Value} {t : TypeId} {fr : Nat × Nat} (hb : w.heap[b]? = some (.cells c t fr)) (ht : t ≠ 29) : some b ≠ v.ownBlock := by
  rcases h.2 with ⟨rfl, _⟩ | ⟨g, cap, cur, rfl, _, hg, _⟩
  · simp [Value.ownBlock]
  · intro e
    have e' : b = g := by simpa [Value.ownBlock] using e
    subst e'
    rw [hb] at hg
    simp at hg
    exact ht hg.2.1

theorem Filed.next {w : World} {S : Nat} {Q : Nat → ByteArray} {x : Value} {k : Nat} {v : Value} {F : Nat → Nat} {wr : World} (h : Filed w S Q x k v F wr) (hk : k < 1024) :
    ∃ v' w4, (∀ ty, (Builtin.append_ #[25, 25] ty #[v, .slice (some ⟨wr.heap.size + 1, 0, none⟩) 1 1]).run Yba.prog ((wr.alloc (.cells #[.string (Q k), .slice none 0 0] 32)).alloc (.cells #[.pointer (some ⟨wr.heap.size, 0, none⟩)] 29)) = .ok v' w4) ∧
      Hid (w4.heap[S]? = some (.cells #[v, x] 28 (0, 0)) ∧ ∃ F', Filed w S Q x (k + 1) v' F' (w4.setCell ⟨S, 0, none⟩ v')) := by
  obtain ⟨i0, hi, hz0, hz1, hz2⟩ := info_parts info29
  have hS : S < wr.heap.size := (Array.getElem?_eq_some_iff.1 h.prog).1
  generalize hW : (wr.alloc (.cells #[.string (Q k), .slice none 0 0] 32)).alloc (.cells #[.pointer (some ⟨wr.heap.size, 0, none⟩)] 29) = W2
  have hs1 : W2.heap.size = wr.heap.size + 2 := by rw [← hW]; simp
  have hrow2 : W2.ownsRow (S + 1) 29 1 v k ((List.range k).map (fun j => .pointer (some ⟨F j, 0, none⟩))) := by rw [← hW]; exact (h.row.alloc _).alloc _
  have hold : ∀ b, b < wr.heap.size → W2.heap[b]? = wr.heap[b]? := fun b hb => by
    rw [← hW, Deep.blk_alloc_lt _ _ _ (by simp; omega), Deep.blk_alloc_lt _ _ _ hb]
  have hnew : W2.heap[wr.heap.size]? = some (.cells #[.string (Q k), .slice none 0 0] 32 (0, 0)) := by
    rw [← hW, Deep.blk_alloc_lt _ _ _ (by simp)]; exact Deep.blk_alloc_new _ _
  have hcell : W2.cell? ⟨wr.heap.size + 1, 0, none⟩ = some (.pointer (some ⟨wr.heap.size, 0, none⟩)) := by
    have e : W2.heap[wr.heap.size + 1]? = some (.cells #[.pointer (some ⟨wr.heap.size, 0, none⟩)] 29 (0, 0)) := by
      rw [← hW, show wr.heap.size + 1 = (wr.alloc (.cells #[.string (Q k), .slice none 0 0] 32)).heap.size from by simp]; exact Deep.blk_alloc_new _ _
    simp only [World.cell?, e]; rfl
  have key : ∀ ty, ∃ v' w', (Builtin.append_ #[25, 25] ty #[v, .slice (some ⟨wr.heap.size + 1, 0, none⟩) 1 1]).run Yba.prog W2 = .ok v' w' ∧ w'.ownsRow (S + 1) 29 1 v' (k + 1) ((List.range k).map (fun j => .pointer (some ⟨F j, 0, none⟩)) ++ [.pointer (some ⟨wr.heap.size, 0, none⟩)]) ∧ W2.grownBy w' v.ownBlock := fun ty => by
    obtain ⟨v', w', r1, r2, r3, _⟩ := run_append_own (P := Yba.prog) W2 (S + 1) 25 ty 29 i0 (.pointer none) 1 8 Yba.underlying25 hi hz0 hz1 hz2 rfl (by omega) v k _ hrow2 ⟨wr.heap.size + 1, 0, none⟩ 1 1 [.pointer (some ⟨wr.heap.size, 0, none⟩)] rfl
      (fun j u hj => by
        cases j with
        | zero => simp at hj; subst hj; exact hcell
        | succ j => simp at hj) (by simp [Value.oneCell']) (by unfold maxLen; omega) (by omega) (by omega)
    exact ⟨v', w', r1, r2, r3⟩
  obtain ⟨v', w4, r1, r2, r3⟩ := key 25
  have hty : ∀ ty, (Builtin.append_ #[25, 25] ty #[v, .slice (some ⟨wr.heap.size + 1, 0, none⟩) 1 1]).run Yba.prog W2 = .ok v' w4 := fun ty => r1
  have hSb : w4.heap[S]? = some (.cells #[v, x] 28 (0, 0)) := (r3.block S (by omega) (own_ne hrow2 ((hold S hS).trans h.prog) (by decide))).trans ((hold S hS).trans h.prog)
  refine ⟨v', w4, hty, hSb, fun j => if j < k then F j else wr.heap.size, ?_, ?_, ?_, ?_⟩
  · refine (h.since.trans ⟨?_, ?_, ?_, ?_, ?_⟩)
    · exact r3.os.trans (by rw [← hW]; rfl)
    · exact r3.tape.trans (by rw [← hW]; rfl)
    · exact r3.output.trans (by rw [← hW]; rfl)
    · rw [Deep.nblk_setCell]; have := r3.size; omega
    · intro b hb
      rw [Deep.blk_setCell_other _ _ _ _ (by show b ≠ S; omega), r3.block b (by omega) ?_, hold b (by omega)]
      intro e
      rcases hrow2.2 with ⟨rfl, _⟩ | ⟨g, cap, cur, rfl, hbg, _⟩
      · simp [Value.ownBlock] at e
      · have : b = g := by simpa [Value.ownBlock] using e
        omega
  · simp [World.setCell, Array.getElem?_modify, hSb]
  · have e : (List.range (k + 1)).map (fun j => Value.pointer (some ⟨if j < k then F j else wr.heap.size, 0, none⟩)) = (List.range k).map (fun j => .pointer (some ⟨F j, 0, none⟩)) ++ [.pointer (some ⟨wr.heap.size, 0, none⟩)] := by
      rw [List.range_succ, List.map_append]
      congr 1
      · apply List.map_congr_left
        intro j hj
        rw [if_pos (List.mem_range.1 hj)]
      · simp
    rw [e]
    refine ⟨r2.1, ?_⟩
    rcases r2.2 with h' | ⟨g, cap, cur, hv, hbg, hg, rest⟩
    · exact Or.inl h'
    · exact Or.inr ⟨g, cap, cur, hv, hbg, (Deep.blk_setCell_other _ _ _ _ (by show g ≠ S; omega)).trans hg, rest⟩
  · intro j hj
    have hb : ∀ b, some b ≠ v.ownBlock → b < W2.heap.size → b ≠ S → (w4.setCell ⟨S, 0, none⟩ v').heap[b]? = W2.heap[b]? := fun b h1 h2 h3 => by
      rw [Deep.blk_setCell_other _ _ _ _ (show b ≠ S from h3), r3.block b h2 h1]
    by_cases c : j < k
    · rw [if_pos c]
      have hf := h.file j c
      have hl : F j < wr.heap.size := (Array.getElem?_eq_some_iff.1 hf).1
      have hne : F j ≠ S := fun e => by rw [e, h.prog] at hf; simp at hf
      rw [hb _ (own_ne hrow2 ((hold _ hl).trans hf) (by decide)) (by omega) hne, hold _ hl, hf]
    · obtain rfl : j = k := by omega
      rw [if_neg c, hb _ (own_ne hrow2 hnew (by decide)) (by omega) (by omega), hnew]

theorem Filed.files {w : World} {S : Nat} {Q : Nat → ByteArray} {x : Value} {m : Nat} {v : Value} {F : Nat → Nat} {wr : World} (h : Filed w S Q x m v F wr) : ∃ a capF, v = .slice a m capF ∧ Files wr a m F Q := by
  have hfile : ∀ k, k < m → wr.cell? ⟨F k, 0, none⟩ = some (.string (Q k)) := fun k hk => by simp [World.cell?, h.file k hk]
  rcases h.row.2 with ⟨rfl, e⟩ | ⟨g, cap, cur, rfl, _, hg, _⟩
  · subst e; exact ⟨none, 0, rfl, fun k hk => by omega⟩
  · refine ⟨_, cap, rfl, fun k hk => ⟨g, rfl, ?_, hfile k hk⟩⟩
    rw [h.row.cellAt k (by omega), List.getElem?_map, List.getElem?_range hk]; rfl
end Go.Proofs.Ybulkaaso
