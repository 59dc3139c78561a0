/-
  BOrder: the walks of stableCmpFunc (12) and SortStableFunc (9). Own work of this seat.
-/
import Derived.Test.YbulkaasoSym
namespace Go.Proofs.Ybulkaaso
open Go.ChangeShapes Go.WideShapes Go.ChangeAt Go.RowKit Go.Sort

theorem Merged.own_good {lt : Nat → Nat → Bool} {a b : Nat} {d e : Nat → Nat} (h : Merged lt a b d e) (hd : ∀ k, a ≤ k → k < b → a ≤ d k ∧ d k < b) : Good lt a b e := ⟨h.sorted, h.sw.all (p := fun v => a ≤ v ∧ v < b) hd⟩

structure L1 (lt : Nat → Nat → Bool) (n A : Nat) (e : Nat → Nat) : Prop where
  ex : ∃ T, A = T * 20
  pre : Pre lt 20 A e
  rest : ∀ k, A ≤ k → e k = k
  sw : Sw 0 n (fun k => k) e

theorem L1.next {lt : Nat → Nat → Bool} {n A : Nat} {e f : Nat → Nat} (h : L1 lt n A e) (hA : A + 20 ≤ n) (hm : Merged lt A (A + 20) e f) : L1 lt n (A + 20) f := by
  obtain ⟨T, rfl⟩ := h.ex
  refine ⟨⟨T + 1, by omega⟩, ?_, fun k hk => ?_, h.sw.trans (hm.sw.mono (Nat.zero_le _) hA)⟩
  · exact Pre.next h.pre (by omega) (fun k hk => hm.sw.out (Or.inl hk)) (hm.own_good (fun k k1 k2 => by rw [h.rest k k1]; omega))
  · rw [hm.sw.out (Or.inr hk)]; exact h.rest k (by omega)

theorem L1.last {lt : Nat → Nat → Bool} {n A : Nat} {e f : Nat → Nat} (h : L1 lt n A e) (hA : A ≤ n) (hA2 : n ≤ A + 20) (hm : Merged lt A n e f) : Post lt n 20 0 f ∧ Sw 0 n (fun k => k) f := by
  obtain ⟨T, rfl⟩ := h.ex
  have hp : Pre lt 20 (T * 20) f := fun t ht => (h.pre t ht).congr (fun k k1 k2 => hm.sw.out (Or.inl (by omega)))
  exact ⟨hp.whole hA hA2 (hm.own_good (fun k k1 k2 => by rw [h.rest k k1]; omega)), h.sw.trans (hm.sw.mono (Nat.zero_le _) (Nat.le_refl _))⟩

structure L2 (lt : Nat → Nat → Bool) (n s A : Nat) (e : Nat → Nat) : Prop where
  ex : ∃ T, A = T * (2 * s)
  pre : Pre lt (2 * s) A e
  post : Post lt n s A e
  sw : Sw 0 n (fun k => k) e

theorem L2.start {lt : Nat → Nat → Bool} {n s : Nat} {e : Nat → Nat} (hs : 0 < s) (h : Post lt n s 0 e) (hw : Sw 0 n (fun k => k) e) : L2 lt n s 0 e :=
  ⟨⟨0, by simp⟩, Pre.zero _ (by omega) _, h, hw⟩

theorem L2.left {lt : Nat → Nat → Bool} {n s A : Nat} {e : Nat → Nat} (h : L2 lt n s A e) (hA : A + s ≤ n) : Good lt A (A + s) e := by
  have := h.post.head; rwa [Nat.min_eq_right hA] at this
theorem L2.right {lt : Nat → Nat → Bool} {n s A : Nat} {e : Nat → Nat} (h : L2 lt n s A e) (b : Nat) (hb : b = min n (A + s + s)) : Good lt (A + s) b e := by
  have := (h.post.tail (e := e) (fun _ _ => rfl)).head; rw [hb]; exact this

theorem L2.next {lt : Nat → Nat → Bool} {n s A : Nat} {e f : Nat → Nat} (h : L2 lt n s A e) (hs : 0 < s) (hA : A + 2 * s ≤ n) (hm : Merged lt A (A + 2 * s) e f) : L2 lt n s (A + 2 * s) f := by
  have g1 := h.left (by omega)
  have g2 := h.right (A + 2 * s) (by omega)
  have gg := hm.good g1 g2 (by omega)
  have hpost : Post lt n s (A + s + s) f := (h.post.tail (e := e) (fun _ _ => rfl)).tail (fun k hk => hm.sw.out (Or.inr (by omega)))
  obtain ⟨T, hT⟩ := h.ex
  refine ⟨⟨T + 1, by rw [hT, Nat.add_mul, Nat.one_mul]⟩, ?_, by rw [show A + 2 * s = A + s + s from by omega]; exact hpost, h.sw.trans (hm.sw.mono (Nat.zero_le _) hA)⟩
  have hp := h.pre
  rw [hT] at hp gg ⊢
  exact Pre.next hp (by omega) (fun k hk => hm.sw.out (Or.inl (by omega))) gg

theorem L2.last {lt : Nat → Nat → Bool} {n s A : Nat} {e f : Nat → Nat} (h : L2 lt n s A e) (hA : A ≤ n) (hA2 : n ≤ A + 2 * s) (hm : Good lt A n f) (hsw : Sw A n e f) : Post lt n (2 * s) 0 f ∧ Sw 0 n (fun k => k) f := by
  obtain ⟨T, rfl⟩ := h.ex
  have hp : Pre lt (2 * s) (T * (2 * s)) f := fun t ht => (h.pre t ht).congr (fun k k1 k2 => hsw.out (Or.inl (by omega)))
  exact ⟨hp.whole hA hA2 hm, h.sw.trans (hsw.mono (Nat.zero_le _) (Nat.le_refl _))⟩

theorem Sw.ownN {n : Nat} {e : Nat → Nat} (h : Sw 0 n (fun k => k) e) : ∀ k, k < n → e k < n := Own.sw (fun _ h => h) h (Nat.le_refl _)

set_option maxRecDepth 100000 in
set_option maxHeartbeats 4000000 in
theorem stable_walk (W : World) (g n : Nat) (E : Nat → Nat) (rk : Nat) (cf : Nat → Nat → Int) (hc : CmpOk W g n E rk cf) (hw : Weak (ltOf cf)) (cap : Nat) (w : World) (h : St W g n E (fun k => k) w) (hn : n ≤ 300) :
    Calls Yba.prog 12 #[.slice (some ⟨g, 0, none⟩) n cap, .int .i64 n, .func (.func 10) #[] #[.pointer (some ⟨rk, 0, none⟩)]] w fun e w' => e = .returned (.tuple #[]) ∧ ∃ f, Sw 0 n (fun k => k) f ∧ Sorted (ltOf cf) 0 n f ∧ St W g n E f w' := by
  have hins := fun a b d w h hown hinc hab hbn => insertion_walk W g n E rk cf hc hw cap a b d w h hown hinc hab hbn hn
  have hsym := fun a m b h1 h2 h3 => sym_walk W g n E rk cf hc hw cap hn _ a m b (Nat.le_refl _) h1 h2 h3
  have HI : Hid (∀ a b d w, St W g n E d w → (∀ k, k < n → d k < n) → (∀ q r, a ≤ q → q < r → r < b → d q < d r) → a ≤ b → b ≤ n → _) := hins
  have HY : Hid (∀ a m b, a < m → m < b → b ≤ n → SymAt W g n E rk cf cap a m b) := hsym
  clear hins hsym
  go_enter Yba.func12, Yba.ntmps12
  go_wp2
  go_loopw [7, 8] (fun av bv wr => ∃ A B : Nat, av = .int .i64 A ∧ bv = .int .i64 B ∧ A ≤ n ∧ B ≤ A + 20 ∧ A + 20 ≤ B ∧ ∃ e, Hid (L1 (ltOf cf) n A e) ∧ St W g n E e wr) (fun av _ _ => n - (intOf av).toNat)
  case atStart => exact ⟨0, 20, rfl, rfl, Nat.zero_le _, Nat.le_refl _, Nat.le_refl _, _, ⟨⟨0, rfl⟩, Pre.zero _ (by omega) _, fun _ _ => rfl, .refl _⟩, h⟩
  case round =>
    clear h
    obtain ⟨A, B, rfl, rfl, hA, b1, b2, e, HL, hst⟩ := hrel
    have hinc : ∀ q r, A ≤ q → q < r → e q < e r := fun q r q1 q2 => by rw [HL.out.rest q q1, HL.out.rest r (by omega)]; exact q2
    by_cases hBn : B ≤ n
    · have hBz : (B : Int) ≤ (n : Int) := by omega
      have hcall := HI.out A B e wr hst HL.out.sw.ownN (fun q r q1 q2 _ => hinc q r q1 q2) (by omega) hBn
      clear hst
      go_wp2_with fail
      refine hcall.mono ?_
      rintro en w2 ⟨rfl, f, hm, hst2⟩
      have HL2 : Hid (L1 (ltOf cf) n (A + 20) f) := HL.out.next (by omega) (by rwa [show A + 20 = B from by omega])
      go_wp2
      go_roundw
      case rel => exact ⟨B, B + 20, rfl, by go_num, by omega, by omega, by omega, f, by rw [show B = A + 20 from by omega]; exact HL2, hst2⟩
      case measure => simp [intOf]; omega
    · have hBz : ¬ (B : Int) ≤ (n : Int) := by omega
      have hcall := HI.out A n e wr hst HL.out.sw.ownN (fun q r q1 q2 _ => hinc q r q1 q2) hA (Nat.le_refl _)
      clear hst hinc
      go_wp2_with fail
      refine hcall.mono ?_
      rintro en w2 ⟨rfl, f, hm, hst2⟩
      obtain ⟨hp, hsw⟩ := HL.out.last hA (by omega) hm
      have HP : Hid (Post (ltOf cf) n 20 0 f) := hp
      have HS : Hid (Sw 0 n (fun k => k) f) := hsw
      clear hp hsw hm HL
      go_wp2
      go_loopw [6, 7, 8, 9] (fun sv _ _ _ wr => ∃ s : Nat, sv = .int .i64 s ∧ 0 < s ∧ s ≤ 620 ∧ ∃ e, Hid (Post (ltOf cf) n s 0 e) ∧ Hid (Sw 0 n (fun k => k) e) ∧ St W g n E e wr) (fun sv _ _ _ _ => n - (intOf sv).toNat)
      case atStart => exact ⟨20, rfl, by omega, by omega, f, HP, HS, hst2⟩
      case round =>
        clear HP HS hst2 hcall
        obtain ⟨s, rfl, s0, s1, e, HP, HS, hst⟩ := hrel
        by_cases hsn : s < n
        · have hsz : (s : Int) < (n : Int) := by omega
          go_wp2
          go_loopw [7, 8] (fun av bv wr => ∃ A B : Nat, av = .int .i64 A ∧ bv = .int .i64 B ∧ A ≤ n ∧ B ≤ A + 2 * s ∧ A + 2 * s ≤ B ∧ ∃ e, Hid (L2 (ltOf cf) n s A e) ∧ St W g n E e wr) (fun av _ _ => n - (intOf av).toNat)
          case atStart => exact ⟨0, 2 * s, rfl, by simp, Nat.zero_le _, by omega, by omega, e, L2.start s0 HP.out HS.out, hst⟩
          case round =>
            clear hst
            obtain ⟨A, B, rfl, rfl, hA, b1, b2, e, HL, hst⟩ := hrel
            obtain ⟨M, hM⟩ : ∃ M, M = A + s := ⟨_, rfl⟩
            have eM : ((A : Int) + (s : Int)) = (M : Int) := by omega
            by_cases hBn : B ≤ n
            · have hBz : (B : Int) ≤ (n : Int) := by omega
              have hr : Runs (ltOf cf) A M B e := by rw [hM]; exact (HL.out.left (by omega)).runs (HL.out.right B (by omega))
              have hcall := HY.out A M B (by omega) (by omega) hBn e wr hst HL.out.sw.ownN hr
              clear hst hr hM
              go_wp2_with fail
              refine hcall.mono ?_
              rintro en w3 ⟨rfl, f2, hm, hst3⟩
              have HL2 : Hid (L2 (ltOf cf) n s (A + 2 * s) f2) := HL.out.next s0 (by omega) (by rwa [show A + 2 * s = B from by omega])
              go_wp2
              go_roundw
              case rel => exact ⟨B, B + 2 * s, rfl, by first | rfl | (congr 1; done) | (congr 1; omega), by omega, by omega, by omega, f2, by rw [show B = A + 2 * s from by omega]; exact HL2, hst3⟩
              case measure => simp [intOf]; omega
            · have hBz : ¬ (B : Int) ≤ (n : Int) := by omega
              by_cases hMn : M < n
              · have hMz : (M : Int) < (n : Int) := by omega
                have g1 : Good (ltOf cf) A M e := by rw [hM]; exact HL.out.left (by omega)
                have g2 : Good (ltOf cf) M n e := by rw [hM]; exact HL.out.right n (by omega)
                have hcall := HY.out A M n (by omega) hMn (Nat.le_refl _) e wr hst HL.out.sw.ownN (g1.runs g2)
                have HG : Hid (∀ f, Merged (ltOf cf) A n e f → Good (ltOf cf) A n f) := fun f hm => hm.good g1 g2 (by omega)
                clear hst g1 g2 hM
                go_wp2_with fail
                refine hcall.mono ?_
                rintro en w3 ⟨rfl, f2, hm, hst3⟩
                obtain ⟨hp, hsw⟩ := HL.out.last hA (by omega) (HG.out f2 hm) hm.sw
                have HP2 : Hid (Post (ltOf cf) n (2 * s) 0 f2) := hp
                have HS2 : Hid (Sw 0 n (fun k => k) f2) := hsw
                clear hp hsw hm
                go_wp2
                go_roundw
                case rel => exact ⟨2 * s, by first | rfl | (congr 1; done) | (congr 1; omega), by omega, by omega, f2, HP2, HS2, hst3⟩
                case measure => simp [intOf]; omega
              · have hMz : ¬ (M : Int) < (n : Int) := by omega
                have hg : Good (ltOf cf) A n e := by
                  have := HL.out.post.head
                  rwa [Nat.min_eq_left (by omega)] at this
                obtain ⟨hp, hsw⟩ := HL.out.last hA (by omega) hg (.refl _)
                have HP2 : Hid (Post (ltOf cf) n (2 * s) 0 e) := hp
                have HS2 : Hid (Sw 0 n (fun k => k) e) := hsw
                clear hp hsw hg hM
                go_wp2
                go_roundw
                case rel => exact ⟨2 * s, by first | rfl | (congr 1; done) | (congr 1; omega), by omega, by omega, e, HP2, HS2, hst⟩
                case measure => simp [intOf]; omega
        · have hsz : ¬ (s : Int) < (n : Int) := by omega
          go_wp2
          go_end0
          exact ⟨rfl, e, HS.out, HP.out.done (by omega), hst⟩

set_option maxRecDepth 100000 in
theorem sortStable_walk (W : World) (g n : Nat) (E : Nat → Nat) (rk : Nat) (cf : Nat → Nat → Int) (hc : CmpOk W g n E rk cf) (hw : Weak (ltOf cf)) (cap : Nat) (w : World) (h : St W g n E (fun k => k) w) (hn : n ≤ 300) :
    Calls Yba.prog 9 #[.slice (some ⟨g, 0, none⟩) n cap, .func (.func 10) #[] #[.pointer (some ⟨rk, 0, none⟩)]] w fun e w' => e = .returned (.tuple #[]) ∧ ∃ f, Sw 0 n (fun k => k) f ∧ Sorted (ltOf cf) 0 n f ∧ St W g n E f w' := by
  have hcall := stable_walk W g n E rk cf hc hw cap w h hn
  go_enter Yba.func9, Yba.ntmps9
  go_wp2_with fail
  refine hcall.mono ?_
  rintro en w3 ⟨rfl, f, h1, h2, h3⟩
  go_wp2
  go_end0
  exact ⟨rfl, f, h1, h2, h3⟩
end Go.Proofs.Ybulkaaso
