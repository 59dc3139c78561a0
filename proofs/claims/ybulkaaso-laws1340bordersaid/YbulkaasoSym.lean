/-
  BOrder: the walk of symMergeCmpFunc (14). Own work of this seat.
-/
import Derived.Test.YbulkaasoSymOne
namespace Go.Proofs.Ybulkaaso
open Go.ChangeShapes Go.WideShapes Go.ChangeAt Go.RowKit Go.Sort

/-- what the merge's contract says at (a, m, b) -/
def SymAt (W : World) (g n : Nat) (E : Nat → Nat) (rk : Nat) (cf : Nat → Nat → Int) (cap a m b : Nat) : Prop :=
  ∀ (d : Nat → Nat) (w : World), St W g n E d w → (∀ k, k < n → d k < n) → Runs (ltOf cf) a m b d →
    Calls Yba.prog 14 #[.slice (some ⟨g, 0, none⟩) n cap, .int .i64 a, .int .i64 m, .int .i64 b, .func (.func 10) #[] #[.pointer (some ⟨rk, 0, none⟩)]] w fun e w' => e = .returned (.tuple #[]) ∧ ∃ f, Merged (ltOf cf) a b d f ∧ St W g n E f w'

set_option maxRecDepth 100000 in
set_option maxHeartbeats 4000000 in
theorem symGen_walk (W : World) (g n : Nat) (E : Nat → Nat) (rk : Nat) (cf : Nat → Nat → Int) (hc : CmpOk W g n E rk cf) (hw : Weak (ltOf cf)) (cap a m b : Nat) (hn : n ≤ 300) (h1 : a + 1 < m) (h2 : m + 1 < b) (hbn : b ≤ n)
    (ih : ∀ a' m' b', a' < m' → m' < b' → b' ≤ n → b' - a' < b - a → SymAt W g n E rk cf cap a' m' b') : SymAt W g n E rk cf cap a m b := by
  intro d w h hown hr
  have eg := enters_of Yba.func10 (by kernel_rfl) rfl
  have mixed : Yba.prog.follows .mixedOrders = true := by kernel_rfl
  have HR : Hid (Runs (ltOf cf) a m b d) := hr
  have IH : Hid (∀ a' m' b', a' < m' → m' < b' → b' ≤ n → b' - a' < b - a → SymAt W g n E rk cf cap a' m' b') := ih
  clear hr ih
  have e0 : (((m : Int) - (a : Int)) == 1) = false := by simp; omega
  have e1 : (((b : Int) - (m : Int)) == 1) = false := by simp; omega
  obtain ⟨mid, hmid⟩ : ∃ mid, mid = (a + b) / 2 := ⟨_, rfl⟩
  have em : ((a : Int) + (b : Int)) / 2 = (mid : Int) := by omega
  have m1 : 2 * mid ≤ a + b := by omega
  have m2 : a + b ≤ 2 * mid + 1 := by omega
  clear hmid
  go_enter Yba.func14, Yba.ntmps14
  go_upto_if 140 with fail
  go_cut [20, 21] (fun sv rv wc => ∃ s0 r0 : Nat, sv = .int .i64 s0 ∧ rv = .int .i64 r0 ∧ a ≤ s0 ∧ s0 ≤ r0 ∧ r0 ≤ m ∧ r0 ≤ mid ∧ mid + m ≤ s0 + b ∧ (s0 = a ∨ mid + m - s0 = b) ∧ (r0 = m ∨ r0 = mid) ∧ w = wc)
  case first =>
    as_aux_lemma =>
      by_cases hmm : mid < m
      · have hmz : (mid : Int) < (m : Int) := by omega
        have es : ((mid : Int) + (m : Int) - (b : Int)) = ((mid + m - b : Nat) : Int) := by omega
        go_wp2
        go_meet
        case rel => exact ⟨mid + m - b, mid, rfl, rfl, by omega, by omega, by omega, by omega, by omega, Or.inr (by omega), Or.inr rfl, rfl⟩
      · have hmz : ¬ (mid : Int) < (m : Int) := by omega
        go_wp2
        go_meet
        case rel => exact ⟨a, m, rfl, rfl, by omega, by omega, by omega, by omega, by omega, Or.inl rfl, Or.inl rfl, rfl⟩
  case rest =>
    obtain ⟨s0, r0, rfl, rfl, q1, q2, q3, q4, q5, q6, q7, hwc⟩ := hcut
    subst hwc
    have Q6 : Hid (s0 = a ∨ mid + m - s0 = b) := q6
    have Q7 : Hid (r0 = m ∨ r0 = mid) := q7
    clear q6 q7
    go_wp2
    go_loopw [20, 21, 23] (fun sv rv _ wr => ∃ s r : Nat, sv = .int .i64 s ∧ rv = .int .i64 r ∧ Hid (FindC (ltOf cf) s0 r0 (mid + m) s r d) ∧ St W g n E d wr) (fun sv rv _ _ => (intOf rv).toNat - (intOf sv).toNat)
    case atStart => exact ⟨s0, r0, rfl, rfl, FindC.start q2, h⟩
    case round =>
      clear h
      obtain ⟨s, r, rfl, rfl, HF, hst⟩ := hrel
      have b1 := HF.out.lo
      have b2 := HF.out.sr
      have b3 := HF.out.hi
      by_cases hsr : s < r
      · as_aux_lemma =>
          have hsrz : (s : Int) < (r : Int) := by omega
          obtain ⟨c, hcd⟩ : ∃ c, c = (s + r) / 2 := ⟨_, rfl⟩
          have ec : ((s : Int) + (r : Int)) / 2 = (c : Int) := by omega
          have hb1 : s ≤ c := by omega
          have hb2 : c < r := by omega
          obtain ⟨pc, hpc⟩ : ∃ pc, pc = mid + m - 1 - c := ⟨_, rfl⟩
          have ep : ((mid : Int) + (m : Int) - 1 - (c : Int)) = (pc : Int) := by omega
          have cz : (c : Int) < (n : Int) := by omega
          have pz : (pc : Int) < (n : Int) := by omega
          have hwp : IntKind.i64.wrap (pc : Int) = (pc : Int) := by rw [IntKind.wrap_i64]; omega
          have hcc := hc.at_ hst (hown pc (by omega)) (hown c (by omega))
          have c1 := fun k os => hst.cellG (show pc < n by omega) k os
          have c2 := fun k os => hst.cellG (show c < n by omega) k os
          have HS : Hid (St W g n E d wr) := hst
          have HJ : Hid (ltOf cf (d (mid + m - 1 - c)) (d c) = decide (cf (d pc) (d c) < 0)) := by show _ = _; rw [← hpc]; rfl
          generalize hv : cf (d pc) (d c) = v at hcc HJ
          clear hst hv hcd hpc
          go_upto_region 35 with fail
          by_cases hl : v < 0
          · have HF2 : Hid (FindC (ltOf cf) s0 r0 (mid + m) s c d) := HF.out.down hw HR.out q1 ⟨q3, q4⟩ q5 hb1 hb2 (by rw [HJ.out]; exact decide_eq_true hl)
            go_quiet_grown (refine Calls.grown_of (hcc _ _))
            have hst2 : St W g n E d (Sort.grow (wr.drewN (GrownBy.mk nq osq).n) (GrownBy.mk nq osq).os) := (HS.out.drewN nq).grow osq
            clear hcc c1 c2 HS
            generalize Sort.grow (wr.drewN (GrownBy.mk nq osq).n) (GrownBy.mk nq osq).os = wq at hst2 ⊢
            go_wp2
            go_roundw
            case rel => exact ⟨s, c, rfl, rfl, HF2, hst2⟩
            case measure => simp [intOf]; omega
          · have HF2 : Hid (FindC (ltOf cf) s0 r0 (mid + m) (c + 1) r d) := HF.out.up hw HR.out q1 ⟨q3, q4⟩ q5 hb1 hb2 (by rw [HJ.out]; exact decide_eq_false (by omega))
            go_quiet_grown (refine Calls.grown_of (hcc _ _))
            have hst2 : St W g n E d (Sort.grow (wr.drewN (GrownBy.mk nq osq).n) (GrownBy.mk nq osq).os) := (HS.out.drewN nq).grow osq
            clear hcc c1 c2 HS
            generalize Sort.grow (wr.drewN (GrownBy.mk nq osq).n) (GrownBy.mk nq osq).os = wq at hst2 ⊢
            go_wp2
            go_roundw
            case rel => exact ⟨c + 1, r, by go_num, rfl, HF2, hst2⟩
            case measure => simp [intOf]; omega
      · obtain rfl : s = r := by omega
        have hsrz : ¬ (s : Int) < (s : Int) := by omega
        -- where the turn begins and ends
        obtain ⟨e, he⟩ : ∃ e, e = mid + m - s := ⟨_, rfl⟩
        have ee : ((mid : Int) + (m : Int) - (s : Int)) = (e : Int) := by omega
        have l1 : m ≤ e := by omega
        have l2 : e ≤ b := by omega
        have l3 : mid ≤ e := by omega
        have HP : Hid (∀ f, Rot s m e d f → Parted (ltOf cf) a s mid e b f) := fun f hf => by
          rw [he] at hf ⊢
          refine Rot.parted hw HR.out (by omega) (by omega) (by omega) (by omega) (by omega) (by omega) ?_ ?_ hf
          · rcases Nat.lt_or_ge s0 s with c | c
            · have := HF.out.left (s - 1) (by omega) (by omega)
              rw [show mid + m - 1 - (s - 1) = mid + m - s from by omega] at this
              exact Or.inr (Or.inr this)
            · obtain rfl : s = s0 := by omega
              rcases Q6.out with q | q
              · exact Or.inl q
              · exact Or.inr (Or.inl q)
          · rcases Nat.lt_or_ge s r0 with c | c
            · have := HF.out.right s (by omega) c
              rw [show mid + m - 1 - s = mid + m - s - 1 from by omega] at this
              exact Or.inr (Or.inr this)
            · obtain rfl : s = r0 := by omega
              rcases Q7.out with q | q
              · exact Or.inr (Or.inl q)
              · exact Or.inl (by omega)
        clear he HF
        go_upto_region 39 with fail
        go_cut [185] (fun qv wc => qv = .bool (decide (s < m) && decide (m < e)) ∧ wr = wc)
        case first =>
          as_aux_lemma =>
            by_cases x1 : s < m
            · have x1z : (s : Int) < (m : Int) := by omega
              by_cases x2 : m < e
              · have x2z : (m : Int) < (e : Int) := by omega
                have HB : Hid ((decide (s < m) && decide (m < e)) = true) := by show _ = _; simp [x1, x2]
                go_wp2
                go_meet
                case rel => exact ⟨by rw [HB.out], rfl⟩
              · have x2z : ¬ (m : Int) < (e : Int) := by omega
                have HB : Hid ((decide (s < m) && decide (m < e)) = false) := by show _ = _; simp [x2]
                go_wp2
                go_meet
                case rel => exact ⟨by rw [HB.out], rfl⟩
            · have x1z : decide ((s : Int) < (m : Int)) = false := decide_eq_false (by omega)
              have x1y : ¬ (s : Int) < (m : Int) := by omega
              have HB : Hid ((decide (s < m) && decide (m < e)) = false) := by show _ = _; simp [x1]
              go_wp2
              go_meet
              case rel => exact ⟨by rw [HB.out], rfl⟩
        case rest =>
          obtain ⟨rfl, hwc⟩ := hcut
          subst hwc
          go_upto_if 185 with fail
          go_cut [] (fun wc => ∃ f, Rot s m e d f ∧ St W g n E f wc)
          case first =>
            as_aux_lemma =>
              by_cases x1 : s < m ∧ m < e
              · have HB : (decide (s < m) && decide (m < e)) = true := by simp [x1]
                rw [HB]
                have hrot := fun fv => rotate_walk W g n E cap s m e d fv wr hst x1.1 x1.2 (by omega) hn
                clear hst
                go_wp2_with fail
                refine (hrot _).mono ?_
                rintro en w2 ⟨rfl, f, hf, hst2⟩
                go_wp2
                go_meet
                case rel => exact ⟨f, hf, hst2⟩
              · have HB : (decide (s < m) && decide (m < e)) = false := by
                  rcases Nat.lt_or_ge s m with c | c
                  · have : ¬ m < e := fun c' => x1 ⟨c, c'⟩
                    simp [this]
                  · simp [show ¬ s < m by omega]
                rw [HB]
                have hro : Hid (Rot s m e d d) := Rot.none (by omega) (by omega) l1
                go_wp2
                go_meet
                case rel => exact ⟨d, hro.out, hst⟩
          case rest =>
            clear hst
            obtain ⟨f, hf, hst⟩ := hcut
            have HPT : Hid (Parted (ltOf cf) a s mid e b f) := HP.out f hf
            have HSW : Hid (Sw a b d f) := hf.sw.mono (by omega) l2
            have own2 := Own.sw hown HSW.out hbn
            clear HP hf
            go_upto_region 41 with fail
            go_cut [199] (fun qv wx => qv = .bool (decide (a < s) && decide (s < mid)) ∧ wc = wx)
            case first =>
              as_aux_lemma =>
                by_cases x1 : a < s
                · have x1z : (a : Int) < (s : Int) := by omega
                  by_cases x2 : s < mid
                  · have x2z : (s : Int) < (mid : Int) := by omega
                    have HB : Hid ((decide (a < s) && decide (s < mid)) = true) := by show _ = _; simp [x1, x2]
                    go_wp2
                    go_meet
                    case rel => exact ⟨by rw [HB.out], rfl⟩
                  · have x2z : ¬ (s : Int) < (mid : Int) := by omega
                    have HB : Hid ((decide (a < s) && decide (s < mid)) = false) := by show _ = _; simp [x2]
                    go_wp2
                    go_meet
                    case rel => exact ⟨by rw [HB.out], rfl⟩
                · have x1z : decide ((a : Int) < (s : Int)) = false := decide_eq_false (by omega)
                  have x1y : ¬ (a : Int) < (s : Int) := by omega
                  have HB : Hid ((decide (a < s) && decide (s < mid)) = false) := by show _ = _; simp [x1]
                  go_wp2
                  go_meet
                  case rel => exact ⟨by rw [HB.out], rfl⟩
            case rest =>
              obtain ⟨rfl, hwc⟩ := hcut
              subst hwc
              go_upto_if 199 with fail
              go_cut [] (fun wx => ∃ p, Merged (ltOf cf) a mid f p ∧ St W g n E p wx)
              case first =>
                as_aux_lemma =>
                  by_cases x1 : a < s ∧ s < mid
                  · have HB : (decide (a < s) && decide (s < mid)) = true := by simp [x1]
                    rw [HB]
                    have hcall := IH.out a s mid x1.1 x1.2 (by omega) (by omega) f _ hst own2 HPT.out.lo
                    clear hst
                    go_wp2_with fail
                    refine hcall.mono ?_
                    rintro en w2 ⟨rfl, p, hp, hst2⟩
                    go_wp2
                    go_meet
                    case rel => exact ⟨p, hp, hst2⟩
                  · have HB : (decide (a < s) && decide (s < mid)) = false := by
                      rcases Nat.lt_or_ge a s with c | c
                      · have : ¬ s < mid := fun c' => x1 ⟨c, c'⟩
                        simp [this]
                      · simp [show ¬ a < s by omega]
                    rw [HB]
                    have hm0 : Hid (Merged (ltOf cf) a mid f f) := by
                      rcases Nat.lt_or_ge a s with c | c
                      · obtain rfl : s = mid := by omega
                        exact HPT.out.lo.trivial_right
                      · obtain rfl : s = a := by omega
                        exact HPT.out.lo.trivial_left
                    go_wp2
                    go_meet
                    case rel => exact ⟨f, hm0.out, hst⟩
              case rest =>
                clear hst
                obtain ⟨p, hp, hst⟩ := hcut
                have HMP : Hid (Merged (ltOf cf) a mid f p) := hp
                have own3 := Own.sw own2 hp.sw (by omega)
                have HRP : Hid (Runs (ltOf cf) mid e b p) := HPT.out.hi.congr (fun k k1 k2 => hp.sw.out (Or.inr k1)) (by omega)
                clear hp
                go_upto_region 43 with fail
                go_cut [213] (fun qv wx => qv = .bool (decide (mid < e) && decide (e < b)) ∧ wc = wx)
                case first =>
                  as_aux_lemma =>
                    by_cases x1 : mid < e
                    · have x1z : (mid : Int) < (e : Int) := by omega
                      by_cases x2 : e < b
                      · have x2z : (e : Int) < (b : Int) := by omega
                        have HB : Hid ((decide (mid < e) && decide (e < b)) = true) := by show _ = _; simp [x1, x2]
                        go_wp2
                        go_meet
                        case rel => exact ⟨by rw [HB.out], rfl⟩
                      · have x2z : ¬ (e : Int) < (b : Int) := by omega
                        have HB : Hid ((decide (mid < e) && decide (e < b)) = false) := by show _ = _; simp [x2]
                        go_wp2
                        go_meet
                        case rel => exact ⟨by rw [HB.out], rfl⟩
                    · have x1z : decide ((mid : Int) < (e : Int)) = false := decide_eq_false (by omega)
                      have x1y : ¬ (mid : Int) < (e : Int) := by omega
                      have HB : Hid ((decide (mid < e) && decide (e < b)) = false) := by show _ = _; simp [x1]
                      go_wp2
                      go_meet
                      case rel => exact ⟨by rw [HB.out], rfl⟩
                case rest =>
                  obtain ⟨rfl, hwc⟩ := hcut
                  subst hwc
                  have HFin : Hid (∀ q, Merged (ltOf cf) mid b p q → Merged (ltOf cf) a b d q) := fun q hq => HPT.out.merged HSW.out (by omega) HMP.out hq
                  by_cases x1 : mid < e ∧ e < b
                  · as_aux_lemma =>
                      have HB : (decide (mid < e) && decide (e < b)) = true := by simp [x1]
                      rw [HB]
                      have hcall := IH.out mid e b x1.1 x1.2 hbn (by omega) p _ hst own3 HRP.out
                      clear hst
                      go_wp2_with fail
                      refine hcall.mono ?_
                      rintro en w2 ⟨rfl, q, hq, hst2⟩
                      go_wp2
                      go_end0
                      exact ⟨rfl, q, HFin.out q hq, hst2⟩
                  · as_aux_lemma =>
                      have HB : (decide (mid < e) && decide (e < b)) = false := by
                        rcases Nat.lt_or_ge mid e with c | c
                        · have : ¬ e < b := fun c' => x1 ⟨c, c'⟩
                          simp [this]
                        · simp [show ¬ mid < e by omega]
                      rw [HB]
                      have hm0 : Hid (Merged (ltOf cf) mid b p p) := by
                        rcases Nat.lt_or_ge mid e with c | c
                        · obtain rfl : e = b := by omega
                          exact HRP.out.trivial_right
                        · obtain rfl : e = mid := by omega
                          exact HRP.out.trivial_left
                      go_wp2
                      go_end0
                      exact ⟨rfl, p, HFin.out p hm0.out, hst⟩

theorem sym_walk (W : World) (g n : Nat) (E : Nat → Nat) (rk : Nat) (cf : Nat → Nat → Int) (hc : CmpOk W g n E rk cf) (hw : Weak (ltOf cf)) (cap : Nat) (hn : n ≤ 300) :
    ∀ (s a m b : Nat), b - a ≤ s → a < m → m < b → b ≤ n → SymAt W g n E rk cf cap a m b := by
  intro s
  induction s with
  | zero => intro a m b h1 h2 h3 h4; omega
  | succ s ih =>
    intro a m b h1 h2 h3 h4
    by_cases c1 : m = a + 1
    · subst c1
      exact fun d w hst hown hr => symA_walk W g n E rk cf hc hw cap a b d w hst hown hr h3 h4 hn
    · by_cases c2 : b = m + 1
      · subst c2
        exact fun d w hst hown hr => symB_walk W g n E rk cf hc hw cap a m d w hst hown hr (by omega) h4 hn
      · exact symGen_walk W g n E rk cf hc hw cap a m b hn (by omega) (by omega) h4 (fun a' m' b' p1 p2 p3 p4 => ih a' m' b' (by omega) p1 p2 p3)
end Go.Proofs.Ybulkaaso
