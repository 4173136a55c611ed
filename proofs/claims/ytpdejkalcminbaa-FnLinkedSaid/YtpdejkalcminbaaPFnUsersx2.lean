-- PRINTED BY print.sh 35421559b90ae4d0a3588c463048766b98c2df88dd9212a6774a882060cdf62d: not written by this session
import Derived.Test.YtpdejkalcminbaaPFnUsersx0
import Derived.Test.YtpdejkalcminbaaPFnUsersx1
namespace Go.Proofs.Ytpdejkalcminbaa.PFnUsers
open Go.RowKit Go.Proofs.YtpdejkalcminbaaW.PrintWords Go.Proofs.YtpdejkalcminbaaW.PrintLast Go.Proofs.YtpdejkalcminbaaW.PrintMore
attribute [local go_sem] max2_int min2_int max_two min_two max_three min_three max_four min_four   -- for this text's walks alone
set_option linter.unusedVariables false
set_option linter.unusedSimpArgs false

/-! ### spec_hasRow: function 37 -/
def spec_hasRow.l0 : Nat → List ByteArray → List (List ByteArray) → Int → Int → Option (Bool)
  | 0, _, _, _, _ => none
  | k + 1, x1, x7, x8, x9 => if x9 < x8 then (if 0 ≤ x9 then (if x9 < (x7.length : Int) then ((spec_sameRow.f k (rd_L1 x7 x9) x1).bind fun t111 => (if t111 = true then (some true) else (spec_hasRow.l0 k x1 x7 x8 (wrap64 (x9 + 1))))) else (none)) else (none)) else (some false)
def spec_hasRow.f (k : Nat) (l0 : List (List ByteArray)) (l1 : List ByteArray) : Option (Bool) := spec_hasRow.l0 k l1 l0 (l0.length : Int) 0
theorem spec_hasRow.mono_l : ∀ k, (∀ y0 y1 y2 y3, LeO (spec_hasRow.l0 k y0 y1 y2 y3) (spec_hasRow.l0 (k + 1) y0 y1 y2 y3))
  | 0 => fun _ _ _ _ r h => by simp [spec_hasRow.l0] at h
  | k + 1 => by
    have ih0 := spec_hasRow.mono_l k
    · intro y0 y1 y2 y3
      unfold spec_hasRow.l0
      repeat' first
      | (with_reducible exact ih0 _ _ _ _)
      | (with_reducible exact spec_sameRow.mono _ _ _)
      | (with_reducible exact LeO.refl _)
      | (with_reducible exact LeO.none _)
      | (with_reducible refine LeO.ite ?_ ?_)
      | (with_reducible refine LeO.bind ?_ (fun _ => ?_))
      | exact ih0 _ _ _ _
      | exact spec_sameRow.mono _ _ _
      | exact LeO.none _
      | refine LeO.ite ?_ ?_
      | refine LeO.bind ?_ (fun _ => ?_)
theorem spec_hasRow.mono : ∀ a0 a1 k, LeO (spec_hasRow.f k a0 a1) (spec_hasRow.f (k + 1) a0 a1) := by
  intro a0 a1 k
  have ih0 := spec_hasRow.mono_l k
  unfold spec_hasRow.f
  repeat' first
      | (with_reducible exact ih0 _ _ _ _)
      | (with_reducible exact spec_sameRow.mono _ _ _)
      | (with_reducible exact LeO.refl _)
      | (with_reducible exact LeO.none _)
      | (with_reducible refine LeO.ite ?_ ?_)
      | (with_reducible refine LeO.bind ?_ (fun _ => ?_))
      | exact ih0 _ _ _ _
      | exact spec_sameRow.mono _ _ _
      | exact LeO.none _
      | refine LeO.ite ?_ ?_
      | refine LeO.bind ?_ (fun _ => ?_)
set_option maxHeartbeats 8000000 in
set_option maxRecDepth 100000 in
theorem spec_hasRow.calls (k : Nat) (A0 : Option Addr) (c0 : Nat) (l0 : List (List ByteArray)) (A1 : Option Addr) (c1 : Nat) (l1 : List ByteArray) (r : Bool) (w : World) (hr0 : Kd.C (Kd.slice 9 Kd.string) w A0 l0.length l0) (hc0 : l0.length ≤ c0) (hr1 : Kd.C Kd.string w A1 l1.length l1) (hc1 : l1.length ≤ c1) (h : spec_hasRow.f k l0 l1 = some r) :
    Calls Try.prog 37 #[.slice A0 l0.length c0, .slice A1 l1.length c1] w fun e w' => e = .returned (.bool r) ∧ Drawn0 w w' := by
  have HR0 := Aside0.mk hr0
  have HC0 := Aside0.mk hc0
  clear hr0 hc0
  have HR1 := Aside0.mk hr1
  have HC1 := Aside0.mk hc1
  clear hr1 hc1
  have H : (spec_hasRow.l0 k l1 l0 (l0.length : Int) 0) = some r := h
  clear h
  have H' := Aside0.mk H
  clear H
  go_enter Try.func37, Try.ntmps37
  go_wp2
  go_loopg [9] k (fun kq v9 w' => ∃ (x9_1 : Int), v9 = .int .i64 x9_1 ∧ Aside0 (spec_hasRow.l0 kq l1 l0 (l0.length : Int) x9_1 = some r) ∧ Aside0 (kq ≤ k) ∧ Drawn0 w w')
  case atStart => exact ⟨(0), (by first | rfl | (simp; done) | (simp [*]; done)), H', ⟨Nat.le_refl _⟩, by repeat (first | exact Drawn0.refl _ | apply Drawn0.step)⟩
  case round =>
    clear H'
    try clear c1
    try clear p2
    obtain ⟨x9_1, rfl, HA, HK1, ⟨m1, rfl⟩⟩ := hrel
    cases gk with
    | zero => exact absurd HA.out (by simp [spec_hasRow.l0])
    | succ k1 =>
      have H := HA.out
      clear HA
      simp only [spec_hasRow.l0] at H
      by_cases c3 : x9_1 < (l0.length : Int)
      · rw [if_pos c3] at H
        have c3b0 : decide (x9_1 < (l0.length : Int)) = true := decide_eq_true c3
        clear c3
        by_cases c4 : 0 ≤ x9_1
        · rw [if_pos c4] at H
          have c4b0 : decide (0 ≤ x9_1) = true := decide_eq_true c4
          clear c4
          by_cases c5 : x9_1 < (l0.length : Int)
          · rw [if_pos c5] at H
            have c5b0 : decide (x9_1 < (l0.length : Int)) = true := decide_eq_true c5
            clear c5
            replace H := Option.bind_eq_some_iff.mp H
            obtain ⟨t111, A60, H⟩ := H
            replace H : (if t111 = true then (some true) else (spec_hasRow.l0 k1 l1 l0 (l0.length : Int) (wrap64 (x9_1 + 1)))) = some r := H
            have A6 := Aside0.mk A60
            clear A60
            by_cases c7 : t111 = true
            · subst c7
              have H1 : (some true) = some r := by rw [if_pos rfl] at H; exact H
              clear H
              have H := H1
              clear H1
              obtain rfl := Option.some.inj H
              have p110 : 0 ≤ (x9_1 : Int) := of_decide_eq_true (by first | (with_reducible assumption) | assumption)
              have q110 : x9_1 < (l0.length : Int) := of_decide_eq_true (by first | (with_reducible assumption) | assumption)
              obtain ⟨ad110, A110_0, c110_0, e110, hx110_0, hl110_0, hi110_0⟩ := at_L1 HR0.out x9_1 p110 q110
              cases e110
              have HR110_0 := Aside0.mk hi110_0
              have HC110_0 := Aside0.mk hl110_0
              clear hi110_0 hl110_0
              replace p110 := eq_true p110
              replace q110 := eq_true q110
              go_wp2_with (first | ((with_reducible refine gate_callee (f := 55) rfl ?_); refine goesL_ (some 15) rfl rfl Try.func55 (by kernel_rfl) rfl #[.slice A110_0 (rd_L1 l0 x9_1).length c110_0, .slice A1 l1.length c1] rfl (by (try simp only [List.map_toArray, List.map_cons, List.map_nil]); first | done | rfl | (simp only [List.length_drop, List.length_take]; rfl)) ?_; (with_reducible refine (spec_sameRow.calls k1 _ _ (rd_L1 l0 x9_1) _ _ l1 true _ ?side1 ?side2 ?side3 ?side4 A6.out).mono ?_); (case side1 => repeat (first | exact HR110_0.out | (with_reducible refine Kd.C_alloc ?_ _) | (with_reducible refine Kd.C_drewN ?_ _) | (with_reducible refine Kd.C_drew ?_))); (case side2 => exact HC110_0.out); (case side3 => repeat (first | exact HR1.out | (with_reducible refine Kd.C_alloc ?_ _) | (with_reducible refine Kd.C_drewN ?_ _) | (with_reducible refine Kd.C_drew ?_))); (case side4 => exact HC1.out); rintro e w' ⟨rfl, ⟨nd, rfl⟩⟩; refine ⟨_, rfl, ?_⟩))
              go_ret
              exact ⟨by first | rfl | (simp; done) | (simp [*]; done), by repeat (first | exact Drawn0.refl _ | apply Drawn0.step)⟩
            · replace c7 := Bool.eq_false_iff.mpr c7
              subst c7
              have H1 : (spec_hasRow.l0 k1 l1 l0 (l0.length : Int) (wrap64 (x9_1 + 1))) = some r := by rw [if_neg (show ¬ (false = true) by decide)] at H; exact H
              clear H
              have H := H1
              clear H1
              have H' := Aside0.mk H
              clear H
              have p110 : 0 ≤ (x9_1 : Int) := of_decide_eq_true (by first | (with_reducible assumption) | assumption)
              have q110 : x9_1 < (l0.length : Int) := of_decide_eq_true (by first | (with_reducible assumption) | assumption)
              obtain ⟨ad110, A110_0, c110_0, e110, hx110_0, hl110_0, hi110_0⟩ := at_L1 HR0.out x9_1 p110 q110
              cases e110
              have HR110_0 := Aside0.mk hi110_0
              have HC110_0 := Aside0.mk hl110_0
              clear hi110_0 hl110_0
              replace p110 := eq_true p110
              replace q110 := eq_true q110
              go_wp2_with (first | ((with_reducible refine gate_callee (f := 55) rfl ?_); refine goesL_ (some 15) rfl rfl Try.func55 (by kernel_rfl) rfl #[.slice A110_0 (rd_L1 l0 x9_1).length c110_0, .slice A1 l1.length c1] rfl (by (try simp only [List.map_toArray, List.map_cons, List.map_nil]); first | done | rfl | (simp only [List.length_drop, List.length_take]; rfl)) ?_; (with_reducible refine (spec_sameRow.calls k1 _ _ (rd_L1 l0 x9_1) _ _ l1 false _ ?side1 ?side2 ?side3 ?side4 A6.out).mono ?_); (case side1 => repeat (first | exact HR110_0.out | (with_reducible refine Kd.C_alloc ?_ _) | (with_reducible refine Kd.C_drewN ?_ _) | (with_reducible refine Kd.C_drew ?_))); (case side2 => exact HC110_0.out); (case side3 => repeat (first | exact HR1.out | (with_reducible refine Kd.C_alloc ?_ _) | (with_reducible refine Kd.C_drewN ?_ _) | (with_reducible refine Kd.C_drew ?_))); (case side4 => exact HC1.out); rintro e w' ⟨rfl, ⟨nd, rfl⟩⟩; refine ⟨_, rfl, ?_⟩))
              go_roundg k1
              case measure => have := HK1.out; omega
              case rel => exact ⟨(wrap64 (x9_1 + 1)), (by first | rfl | (simp; done) | (simp [*]; done)), H', ⟨by have := HK1.out; omega⟩, by repeat (first | exact Drawn0.refl _ | apply Drawn0.step)⟩
          · rw [if_neg c5] at H
            exact absurd H (by simp)
        · rw [if_neg c4] at H
          exact absurd H (by simp)
      · rw [if_neg c3] at H
        have c3b0 : decide (x9_1 < (l0.length : Int)) = false := decide_eq_false c3
        clear c3
        obtain rfl := Option.some.inj H
        go_wp2
        go_ret
        exact ⟨by first | rfl | (simp; done) | (simp [*]; done), by repeat (first | exact Drawn0.refl _ | apply Drawn0.step)⟩

/-! ### spec_AreRows: function 25 -/
def spec_AreRows.l0 : Nat → List (List ByteArray) → Int → List (List ByteArray) → Int → Int → Option (Bool)
  | 0, _, _, _, _, _ => none
  | k + 1, x0, x1, x7, x8, x9 => if x9 < x8 then (if 0 ≤ x9 then (if x9 < (x7.length : Int) then (if ((rd_L1 x7 x9).length : Int) = x1 then ((spec_areSimple.f k (rd_L1 x7 x9)).bind fun t113 => (if t113 = true then (if x9 ≤ (x0.length : Int) then ((spec_hasRow.f k (x0.take (x9 : Int).toNat) (rd_L1 x7 x9)).bind fun t118 => (if t118 = true then (some false) else (spec_AreRows.l0 k x0 x1 x7 x8 (wrap64 (x9 + 1))))) else (none)) else (some false))) else (some false)) else (none)) else (none)) else (some (decide ((x0.length : Int) ≤ 60)))
def spec_AreRows.f (k : Nat) (l0 : List (List ByteArray)) (a1 : Int) : Option (Bool) := spec_AreRows.l0 k l0 a1 l0 (l0.length : Int) 0
theorem spec_AreRows.mono_l : ∀ k, (∀ y0 y1 y2 y3 y4, LeO (spec_AreRows.l0 k y0 y1 y2 y3 y4) (spec_AreRows.l0 (k + 1) y0 y1 y2 y3 y4))
  | 0 => fun _ _ _ _ _ r h => by simp [spec_AreRows.l0] at h
  | k + 1 => by
    have ih0 := spec_AreRows.mono_l k
    · intro y0 y1 y2 y3 y4
      unfold spec_AreRows.l0
      repeat' first
      | (with_reducible exact ih0 _ _ _ _ _)
      | (with_reducible exact spec_areSimple.mono _ _)
      | (with_reducible exact spec_hasRow.mono _ _ _)
      | (with_reducible exact LeO.refl _)
      | (with_reducible exact LeO.none _)
      | (with_reducible refine LeO.ite ?_ ?_)
      | (with_reducible refine LeO.bind ?_ (fun _ => ?_))
      | exact ih0 _ _ _ _ _
      | exact spec_areSimple.mono _ _
      | exact spec_hasRow.mono _ _ _
      | exact LeO.none _
      | refine LeO.ite ?_ ?_
      | refine LeO.bind ?_ (fun _ => ?_)
theorem spec_AreRows.mono : ∀ a0 a1 k, LeO (spec_AreRows.f k a0 a1) (spec_AreRows.f (k + 1) a0 a1) := by
  intro a0 a1 k
  have ih0 := spec_AreRows.mono_l k
  unfold spec_AreRows.f
  repeat' first
      | (with_reducible exact ih0 _ _ _ _ _)
      | (with_reducible exact spec_areSimple.mono _ _)
      | (with_reducible exact spec_hasRow.mono _ _ _)
      | (with_reducible exact LeO.refl _)
      | (with_reducible exact LeO.none _)
      | (with_reducible refine LeO.ite ?_ ?_)
      | (with_reducible refine LeO.bind ?_ (fun _ => ?_))
      | exact ih0 _ _ _ _ _
      | exact spec_areSimple.mono _ _
      | exact spec_hasRow.mono _ _ _
      | exact LeO.none _
      | refine LeO.ite ?_ ?_
      | refine LeO.bind ?_ (fun _ => ?_)
set_option maxHeartbeats 8000000 in
set_option maxRecDepth 100000 in
theorem spec_AreRows.calls (k : Nat) (A0 : Option Addr) (c0 : Nat) (l0 : List (List ByteArray)) (a1 : Int) (r : Bool) (w : World) (hr0 : Kd.C (Kd.slice 9 Kd.string) w A0 l0.length l0) (hc0 : l0.length ≤ c0) (h : spec_AreRows.f k l0 a1 = some r) :
    Calls Try.prog 25 #[.slice A0 l0.length c0, .int .i64 a1] w fun e w' => e = .returned (.bool r) ∧ Drawn0 w w' := by
  have HR0 := Aside0.mk hr0
  have HC0 := Aside0.mk hc0
  clear hr0 hc0
  have H : (spec_AreRows.l0 k l0 a1 l0 (l0.length : Int) 0) = some r := h
  clear h
  have H' := Aside0.mk H
  clear H
  go_enter Try.func25, Try.ntmps25
  go_wp2
  go_loopg [9] k (fun kq v9 w' => ∃ (x9_1 : Int), v9 = .int .i64 x9_1 ∧ Aside0 (spec_AreRows.l0 kq l0 a1 l0 (l0.length : Int) x9_1 = some r) ∧ Aside0 (kq ≤ k) ∧ Drawn0 w w')
  case atStart => exact ⟨(0), (by first | rfl | (simp; done) | (simp [*]; done)), H', ⟨Nat.le_refl _⟩, by repeat (first | exact Drawn0.refl _ | apply Drawn0.step)⟩
  case round =>
    clear H'
    try clear c2
    try clear p2
    obtain ⟨x9_1, rfl, HA, HK1, ⟨m1, rfl⟩⟩ := hrel
    cases gk with
    | zero => exact absurd HA.out (by simp [spec_AreRows.l0])
    | succ k1 =>
      have H := HA.out
      clear HA
      simp only [spec_AreRows.l0] at H
      by_cases c3 : x9_1 < (l0.length : Int)
      · rw [if_pos c3] at H
        have c3b0 : decide (x9_1 < (l0.length : Int)) = true := decide_eq_true c3
        clear c3
        by_cases c4 : 0 ≤ x9_1
        · rw [if_pos c4] at H
          have c4b0 : decide (0 ≤ x9_1) = true := decide_eq_true c4
          clear c4
          by_cases c5 : x9_1 < (l0.length : Int)
          · rw [if_pos c5] at H
            have c5b0 : decide (x9_1 < (l0.length : Int)) = true := decide_eq_true c5
            clear c5
            by_cases c6 : ((rd_L1 l0 x9_1).length : Int) = a1
            · rw [if_pos c6] at H
              have c6b0 : (((rd_L1 l0 x9_1).length : Int) == a1) = true := beq_iff_eq.mpr c6
              have c6b1 : (((rd_L1 l0 x9_1).length : Int) != a1) = false := bne_eq_false_iff_eq.mpr c6
              clear c6
              replace H := Option.bind_eq_some_iff.mp H
              obtain ⟨t113, A70, H⟩ := H
              replace H : (if t113 = true then (if x9_1 ≤ (l0.length : Int) then ((spec_hasRow.f k1 (l0.take (x9_1 : Int).toNat) (rd_L1 l0 x9_1)).bind fun t118 => (if t118 = true then (some false) else (spec_AreRows.l0 k1 l0 a1 l0 (l0.length : Int) (wrap64 (x9_1 + 1))))) else (none)) else (some false)) = some r := H
              have A7 := Aside0.mk A70
              clear A70
              by_cases c8 : t113 = true
              · subst c8
                have H1 : (if x9_1 ≤ (l0.length : Int) then ((spec_hasRow.f k1 (l0.take (x9_1 : Int).toNat) (rd_L1 l0 x9_1)).bind fun t118 => (if t118 = true then (some false) else (spec_AreRows.l0 k1 l0 a1 l0 (l0.length : Int) (wrap64 (x9_1 + 1))))) else (none)) = some r := by rw [if_pos rfl] at H; exact H
                clear H
                have H := H1
                clear H1
                have c9b0 := eq_true (of_decide_eq_true (by first | (with_reducible assumption) | assumption) : 0 ≤ x9_1)
                by_cases c10 : x9_1 ≤ (l0.length : Int)
                · rw [if_pos c10] at H
                  have c10b0 := eq_true c10
                  have c10b1 : decide (x9_1 ≤ (l0.length : Int)) = true := decide_eq_true c10
                  clear c10
                  obtain ⟨y114, hy114⟩ : ∃ y_ : List (List ByteArray), y_ = (l0.take (x9_1 : Int).toNat) := ⟨_, rfl⟩
                  replace H : ((spec_hasRow.f k1 y114 (rd_L1 l0 x9_1)).bind fun t118 => (if t118 = true then (some false) else (spec_AreRows.l0 k1 l0 a1 l0 (l0.length : Int) (wrap64 (x9_1 + 1))))) = some r := by first | (rw [hy114]; with_reducible exact H) | (have H2_ := (Option.bind_some _ _).symm.trans H; rw [hy114]; with_reducible exact H2_) | (have H2_ := (Option.bind_some _ _).symm.trans H; with_reducible exact H2_) | with_reducible exact H | (rw [hy114]; exact H) | exact H
                  have Ny114 := Aside0.mk hy114
                  clear hy114
                  replace H := Option.bind_eq_some_iff.mp H
                  obtain ⟨t118, A110, H⟩ := H
                  replace H : (if t118 = true then (some false) else (spec_AreRows.l0 k1 l0 a1 l0 (l0.length : Int) (wrap64 (x9_1 + 1)))) = some r := H
                  have A11 := Aside0.mk A110
                  clear A110
                  by_cases c12 : t118 = true
                  · subst c12
                    have H1 : (some false) = some r := by rw [if_pos rfl] at H; exact H
                    clear H
                    have H := H1
                    clear H1
                    obtain rfl := Option.some.inj H
                    have p112 : 0 ≤ (x9_1 : Int) := of_decide_eq_true (by first | (with_reducible assumption) | assumption)
                    have q112 : x9_1 < (l0.length : Int) := of_decide_eq_true (by first | (with_reducible assumption) | assumption)
                    obtain ⟨ad112, A112_0, c112_0, e112, hx112_0, hl112_0, hi112_0⟩ := at_L1 HR0.out x9_1 p112 q112
                    cases e112
                    have HR112_0 := Aside0.mk hi112_0
                    have HC112_0 := Aside0.mk hl112_0
                    clear hi112_0 hl112_0
                    replace p112 := eq_true p112
                    replace q112 := eq_true q112
                    go_wp2_with (first | (go_at_call 36; (with_reducible refine (spec_areSimple.calls k1 _ _ (rd_L1 l0 x9_1) true _ ?side1 ?side2 A7.out).mono ?_); (case side1 => repeat (first | exact HR112_0.out | (with_reducible refine Kd.C_alloc ?_ _) | (with_reducible refine Kd.C_drewN ?_ _) | (with_reducible refine Kd.C_drew ?_))); (case side2 => exact HC112_0.out); rintro e w' ⟨rfl, ⟨nd, rfl⟩⟩; have q13 : (x9_1 : Int) ≤ ((l0.length : Int) : Int) := of_decide_eq_true (by first | (with_reducible assumption) | assumption); obtain ⟨i013, hi013, _, hsz13, _⟩ := info_parts info24; have hroom13 : l0.length ≤ c0 := HC0.out; have hC13 : Kd.C (Kd.slice 9 Kd.string) _ (some ad112) l0.length l0 := HR0.out; have hcut13 := cut_to (P := Try.prog) 22 24 .i64 Try.underlying22 hi013 (some ad112) l0.length c0 x9_1 (of_decide_eq_true (by first | (with_reducible assumption) | assumption)) q13 hroom13; have hr13 := Kd.C_take (m := (x9_1 : Int).toNat) hC13 (by omega); have hy13 : y114.length = (x9_1 : Int).toNat := (by rw [Ny114.out, List.length_take]; omega); rw [← Ny114.out] at hr13; rw [← hy13] at hcut13; have HR117 := Aside0.mk hr13; have HC117 := Aside0.mk (show y114.length ≤ c0 from by omega); clear hr13 hC13 hroom13 hi013 hsz13; have KY13 := Aside0.mk hy13; clear hy13; replace q13 := eq_true q13) | (go_at_call 37; (with_reducible refine (spec_hasRow.calls k1 _ _ y114 _ _ (rd_L1 l0 x9_1) true _ ?side1 ?side2 ?side3 ?side4 A11.out).mono ?_); (case side1 => repeat (first | exact HR117.out | (with_reducible refine Kd.C_alloc ?_ _) | (with_reducible refine Kd.C_drewN ?_ _) | (with_reducible refine Kd.C_drew ?_))); (case side2 => exact HC117.out); (case side3 => repeat (first | exact HR112_0.out | (with_reducible refine Kd.C_alloc ?_ _) | (with_reducible refine Kd.C_drewN ?_ _) | (with_reducible refine Kd.C_drew ?_))); (case side4 => exact HC112_0.out); rintro e w' ⟨rfl, ⟨nd, rfl⟩⟩))
                    go_ret
                    exact ⟨by first | rfl | (simp; done) | (simp [*]; done), by repeat (first | exact Drawn0.refl _ | apply Drawn0.step)⟩
                  · replace c12 := Bool.eq_false_iff.mpr c12
                    subst c12
                    have H1 : (spec_AreRows.l0 k1 l0 a1 l0 (l0.length : Int) (wrap64 (x9_1 + 1))) = some r := by rw [if_neg (show ¬ (false = true) by decide)] at H; exact H
                    clear H
                    have H := H1
                    clear H1
                    have H' := Aside0.mk H
                    clear H
                    have p112 : 0 ≤ (x9_1 : Int) := of_decide_eq_true (by first | (with_reducible assumption) | assumption)
                    have q112 : x9_1 < (l0.length : Int) := of_decide_eq_true (by first | (with_reducible assumption) | assumption)
                    obtain ⟨ad112, A112_0, c112_0, e112, hx112_0, hl112_0, hi112_0⟩ := at_L1 HR0.out x9_1 p112 q112
                    cases e112
                    have HR112_0 := Aside0.mk hi112_0
                    have HC112_0 := Aside0.mk hl112_0
                    clear hi112_0 hl112_0
                    replace p112 := eq_true p112
                    replace q112 := eq_true q112
                    go_wp2_with (first | (go_at_call 36; (with_reducible refine (spec_areSimple.calls k1 _ _ (rd_L1 l0 x9_1) true _ ?side1 ?side2 A7.out).mono ?_); (case side1 => repeat (first | exact HR112_0.out | (with_reducible refine Kd.C_alloc ?_ _) | (with_reducible refine Kd.C_drewN ?_ _) | (with_reducible refine Kd.C_drew ?_))); (case side2 => exact HC112_0.out); rintro e w' ⟨rfl, ⟨nd, rfl⟩⟩; have q14 : (x9_1 : Int) ≤ ((l0.length : Int) : Int) := of_decide_eq_true (by first | (with_reducible assumption) | assumption); obtain ⟨i014, hi014, _, hsz14, _⟩ := info_parts info24; have hroom14 : l0.length ≤ c0 := HC0.out; have hC14 : Kd.C (Kd.slice 9 Kd.string) _ (some ad112) l0.length l0 := HR0.out; have hcut14 := cut_to (P := Try.prog) 22 24 .i64 Try.underlying22 hi014 (some ad112) l0.length c0 x9_1 (of_decide_eq_true (by first | (with_reducible assumption) | assumption)) q14 hroom14; have hr14 := Kd.C_take (m := (x9_1 : Int).toNat) hC14 (by omega); have hy14 : y114.length = (x9_1 : Int).toNat := (by rw [Ny114.out, List.length_take]; omega); rw [← Ny114.out] at hr14; rw [← hy14] at hcut14; have HR117 := Aside0.mk hr14; have HC117 := Aside0.mk (show y114.length ≤ c0 from by omega); clear hr14 hC14 hroom14 hi014 hsz14; have KY14 := Aside0.mk hy14; clear hy14; replace q14 := eq_true q14) | (go_at_call 37; (with_reducible refine (spec_hasRow.calls k1 _ _ y114 _ _ (rd_L1 l0 x9_1) false _ ?side1 ?side2 ?side3 ?side4 A11.out).mono ?_); (case side1 => repeat (first | exact HR117.out | (with_reducible refine Kd.C_alloc ?_ _) | (with_reducible refine Kd.C_drewN ?_ _) | (with_reducible refine Kd.C_drew ?_))); (case side2 => exact HC117.out); (case side3 => repeat (first | exact HR112_0.out | (with_reducible refine Kd.C_alloc ?_ _) | (with_reducible refine Kd.C_drewN ?_ _) | (with_reducible refine Kd.C_drew ?_))); (case side4 => exact HC112_0.out); rintro e w' ⟨rfl, ⟨nd, rfl⟩⟩))
                    go_roundg k1
                    case measure => have := HK1.out; omega
                    case rel => exact ⟨(wrap64 (x9_1 + 1)), (by first | rfl | (simp; done) | (simp [*]; done)), H', ⟨by have := HK1.out; omega⟩, by repeat (first | exact Drawn0.refl _ | apply Drawn0.step)⟩
                · rw [if_neg c10] at H
                  exact absurd H (by simp)
              · replace c8 := Bool.eq_false_iff.mpr c8
                subst c8
                have H1 : (some false) = some r := by rw [if_neg (show ¬ (false = true) by decide)] at H; exact H
                clear H
                have H := H1
                clear H1
                obtain rfl := Option.some.inj H
                have p112 : 0 ≤ (x9_1 : Int) := of_decide_eq_true (by first | (with_reducible assumption) | assumption)
                have q112 : x9_1 < (l0.length : Int) := of_decide_eq_true (by first | (with_reducible assumption) | assumption)
                obtain ⟨ad112, A112_0, c112_0, e112, hx112_0, hl112_0, hi112_0⟩ := at_L1 HR0.out x9_1 p112 q112
                cases e112
                have HR112_0 := Aside0.mk hi112_0
                have HC112_0 := Aside0.mk hl112_0
                clear hi112_0 hl112_0
                replace p112 := eq_true p112
                replace q112 := eq_true q112
                go_wp2_with (first | (go_at_call 36; (with_reducible refine (spec_areSimple.calls k1 _ _ (rd_L1 l0 x9_1) false _ ?side1 ?side2 A7.out).mono ?_); (case side1 => repeat (first | exact HR112_0.out | (with_reducible refine Kd.C_alloc ?_ _) | (with_reducible refine Kd.C_drewN ?_ _) | (with_reducible refine Kd.C_drew ?_))); (case side2 => exact HC112_0.out); rintro e w' ⟨rfl, ⟨nd, rfl⟩⟩))
                go_ret
                exact ⟨by first | rfl | (simp; done) | (simp [*]; done), by repeat (first | exact Drawn0.refl _ | apply Drawn0.step)⟩
            · rw [if_neg c6] at H
              have c6b0 : (((rd_L1 l0 x9_1).length : Int) == a1) = false := beq_eq_false_iff_ne.mpr c6
              have c6b1 : (((rd_L1 l0 x9_1).length : Int) != a1) = true := bne_iff_ne.mpr c6
              obtain rfl := Option.some.inj H
              have p112 : 0 ≤ (x9_1 : Int) := of_decide_eq_true (by first | (with_reducible assumption) | assumption)
              have q112 : x9_1 < (l0.length : Int) := of_decide_eq_true (by first | (with_reducible assumption) | assumption)
              obtain ⟨ad112, A112_0, c112_0, e112, hx112_0, hl112_0, hi112_0⟩ := at_L1 HR0.out x9_1 p112 q112
              cases e112
              have HR112_0 := Aside0.mk hi112_0
              have HC112_0 := Aside0.mk hl112_0
              clear hi112_0 hl112_0
              replace p112 := eq_true p112
              replace q112 := eq_true q112
              go_wp2
              go_ret
              exact ⟨by first | rfl | (simp; done) | (simp [*]; done), by repeat (first | exact Drawn0.refl _ | apply Drawn0.step)⟩
          · rw [if_neg c5] at H
            exact absurd H (by simp)
        · rw [if_neg c4] at H
          exact absurd H (by simp)
      · rw [if_neg c3] at H
        have c3b0 : decide (x9_1 < (l0.length : Int)) = false := decide_eq_false c3
        clear c3
        obtain rfl := Option.some.inj H
        go_wp2
        go_ret
        exact ⟨by first | rfl | (simp; done) | (simp [*]; done), by repeat (first | exact Drawn0.refl _ | apply Drawn0.step)⟩

/-! ### spec_areLinks: function 15 -/
def spec_areLinks.f (k : Nat) (l0 : List (List ByteArray)) (a1 : ByteArray) (a2 : ByteArray) : Option (Bool) := if a1.toList = ([] : List UInt8) then ((spec_AreRows.f k l0 2).bind fun t119 => (if t119 = true then ((spec_isSimple.f k a2).bind fun t120 => (some t120)) else (some false))) else ((spec_AreRows.f k l0 3).bind fun t121 => (if t121 = true then ((spec_isSimple.f k a1).bind fun t122 => (if t122 = true then ((spec_isSimple.f k a2).bind fun t123 => (some t123)) else (some false))) else (some false)))
theorem spec_areLinks.mono : ∀ a0 a1 a2 k, LeO (spec_areLinks.f k a0 a1 a2) (spec_areLinks.f (k + 1) a0 a1 a2) := by
  intro a0 a1 a2 k
  unfold spec_areLinks.f
  repeat' first
      | (with_reducible exact spec_AreRows.mono _ _ _)
      | (with_reducible exact spec_isSimple.mono _ _)
      | (with_reducible exact LeO.refl _)
      | (with_reducible exact LeO.none _)
      | (with_reducible refine LeO.ite ?_ ?_)
      | (with_reducible refine LeO.bind ?_ (fun _ => ?_))
      | exact spec_AreRows.mono _ _ _
      | exact spec_isSimple.mono _ _
      | exact LeO.none _
      | refine LeO.ite ?_ ?_
      | refine LeO.bind ?_ (fun _ => ?_)
set_option maxHeartbeats 8000000 in
set_option maxRecDepth 100000 in
theorem spec_areLinks.calls (k : Nat) (A0 : Option Addr) (c0 : Nat) (l0 : List (List ByteArray)) (a1 : ByteArray) (a2 : ByteArray) (r : Bool) (w : World) (hr0 : Kd.C (Kd.slice 9 Kd.string) w A0 l0.length l0) (hc0 : l0.length ≤ c0) (h : spec_areLinks.f k l0 a1 a2 = some r) :
    Calls Try.prog 15 #[.slice A0 l0.length c0, .string a1, .string a2] w fun e w' => e = .returned (.bool r) ∧ Drawn0 w w' := by
  have HR0 := Aside0.mk hr0
  have HC0 := Aside0.mk hc0
  clear hr0 hc0
  have H : (if a1.toList = ([] : List UInt8) then ((spec_AreRows.f k l0 2).bind fun t119 => (if t119 = true then ((spec_isSimple.f k a2).bind fun t120 => (some t120)) else (some false))) else ((spec_AreRows.f k l0 3).bind fun t121 => (if t121 = true then ((spec_isSimple.f k a1).bind fun t122 => (if t122 = true then ((spec_isSimple.f k a2).bind fun t123 => (some t123)) else (some false))) else (some false)))) = some r := h
  clear h
  by_cases c4 : a1.toList = ([] : List UInt8)
  · rw [if_pos c4] at H
    have c4b0 : (a1.toList == ([] : List UInt8)) = true := beq_iff_eq.mpr c4
    have c4b1 : (a1.toList != ([] : List UInt8)) = false := bne_eq_false_iff_eq.mpr c4
    clear c4
    replace H := Option.bind_eq_some_iff.mp H
    obtain ⟨t119, A50, H⟩ := H
    replace H : (if t119 = true then ((spec_isSimple.f k a2).bind fun t120 => (some t120)) else (some false)) = some r := H
    have A5 := Aside0.mk A50
    clear A50
    by_cases c6 : t119 = true
    · subst c6
      have H1 : ((spec_isSimple.f k a2).bind fun t120 => (some t120)) = some r := by rw [if_pos rfl] at H; exact H
      clear H
      have H := H1
      clear H1
      replace H := Option.bind_eq_some_iff.mp H
      obtain ⟨t120, A70, H⟩ := H
      replace H : (some t120) = some r := H
      have A7 := Aside0.mk A70
      clear A70
      obtain rfl := Option.some.inj H
      go_enter Try.func15, Try.ntmps15
      go_wp2_with (first | ((with_reducible refine gate_callee (f := 25) rfl ?_); refine goesL_ (some 12) rfl rfl Try.func25 (by kernel_rfl) rfl #[.slice A0 l0.length c0, .int .i64 2] rfl (by (try simp only [List.map_toArray, List.map_cons, List.map_nil]); first | done | rfl | (simp only [List.length_drop, List.length_take]; rfl)) ?_; (with_reducible refine (spec_AreRows.calls k _ _ l0 2 true _ ?side1 ?side2 A5.out).mono ?_); (case side1 => repeat (first | exact HR0.out | (with_reducible refine Kd.C_alloc ?_ _) | (with_reducible refine Kd.C_drewN ?_ _) | (with_reducible refine Kd.C_drew ?_))); (case side2 => exact HC0.out); rintro e w' ⟨rfl, ⟨nd, rfl⟩⟩; refine ⟨_, rfl, ?_⟩) | (go_at_call 22; (with_reducible refine (spec_isSimple.calls k a2 t120 _ A7.out).mono ?_); rintro e w' ⟨rfl, ⟨nd, rfl⟩⟩))
      go_ret
      exact ⟨by first | rfl | (simp; done) | (simp [*]; done), by repeat (first | exact Drawn0.refl _ | apply Drawn0.step)⟩
    · replace c6 := Bool.eq_false_iff.mpr c6
      subst c6
      have H1 : (some false) = some r := by rw [if_neg (show ¬ (false = true) by decide)] at H; exact H
      clear H
      have H := H1
      clear H1
      obtain rfl := Option.some.inj H
      go_enter Try.func15, Try.ntmps15
      go_wp2_with (first | ((with_reducible refine gate_callee (f := 25) rfl ?_); refine goesL_ (some 12) rfl rfl Try.func25 (by kernel_rfl) rfl #[.slice A0 l0.length c0, .int .i64 2] rfl (by (try simp only [List.map_toArray, List.map_cons, List.map_nil]); first | done | rfl | (simp only [List.length_drop, List.length_take]; rfl)) ?_; (with_reducible refine (spec_AreRows.calls k _ _ l0 2 false _ ?side1 ?side2 A5.out).mono ?_); (case side1 => repeat (first | exact HR0.out | (with_reducible refine Kd.C_alloc ?_ _) | (with_reducible refine Kd.C_drewN ?_ _) | (with_reducible refine Kd.C_drew ?_))); (case side2 => exact HC0.out); rintro e w' ⟨rfl, ⟨nd, rfl⟩⟩; refine ⟨_, rfl, ?_⟩))
      go_ret
      exact ⟨by first | rfl | (simp; done) | (simp [*]; done), by repeat (first | exact Drawn0.refl _ | apply Drawn0.step)⟩
  · rw [if_neg c4] at H
    have c4b0 : (a1.toList == ([] : List UInt8)) = false := beq_eq_false_iff_ne.mpr c4
    have c4b1 : (a1.toList != ([] : List UInt8)) = true := bne_iff_ne.mpr c4
    replace H := Option.bind_eq_some_iff.mp H
    obtain ⟨t121, A80, H⟩ := H
    replace H : (if t121 = true then ((spec_isSimple.f k a1).bind fun t122 => (if t122 = true then ((spec_isSimple.f k a2).bind fun t123 => (some t123)) else (some false))) else (some false)) = some r := H
    have A8 := Aside0.mk A80
    clear A80
    by_cases c9 : t121 = true
    · subst c9
      have H1 : ((spec_isSimple.f k a1).bind fun t122 => (if t122 = true then ((spec_isSimple.f k a2).bind fun t123 => (some t123)) else (some false))) = some r := by rw [if_pos rfl] at H; exact H
      clear H
      have H := H1
      clear H1
      replace H := Option.bind_eq_some_iff.mp H
      obtain ⟨t122, A100, H⟩ := H
      replace H : (if t122 = true then ((spec_isSimple.f k a2).bind fun t123 => (some t123)) else (some false)) = some r := H
      have A10 := Aside0.mk A100
      clear A100
      by_cases c11 : t122 = true
      · subst c11
        have H1 : ((spec_isSimple.f k a2).bind fun t123 => (some t123)) = some r := by rw [if_pos rfl] at H; exact H
        clear H
        have H := H1
        clear H1
        replace H := Option.bind_eq_some_iff.mp H
        obtain ⟨t123, A120, H⟩ := H
        replace H : (some t123) = some r := H
        have A12 := Aside0.mk A120
        clear A120
        obtain rfl := Option.some.inj H
        go_enter Try.func15, Try.ntmps15
        go_wp2_with (first | ((with_reducible refine gate_callee (f := 25) rfl ?_); refine goesL_ (some 12) rfl rfl Try.func25 (by kernel_rfl) rfl #[.slice A0 l0.length c0, .int .i64 3] rfl (by (try simp only [List.map_toArray, List.map_cons, List.map_nil]); first | done | rfl | (simp only [List.length_drop, List.length_take]; rfl)) ?_; (with_reducible refine (spec_AreRows.calls k _ _ l0 3 true _ ?side1 ?side2 A8.out).mono ?_); (case side1 => repeat (first | exact HR0.out | (with_reducible refine Kd.C_alloc ?_ _) | (with_reducible refine Kd.C_drewN ?_ _) | (with_reducible refine Kd.C_drew ?_))); (case side2 => exact HC0.out); rintro e w' ⟨rfl, ⟨nd, rfl⟩⟩; refine ⟨_, rfl, ?_⟩) | (go_at_call 22; (with_reducible refine (spec_isSimple.calls k a1 true _ A10.out).mono ?_); rintro e w' ⟨rfl, ⟨nd, rfl⟩⟩) | (go_at_call 22; (with_reducible refine (spec_isSimple.calls k a2 t123 _ A12.out).mono ?_); rintro e w' ⟨rfl, ⟨nd, rfl⟩⟩))
        go_ret
        exact ⟨by first | rfl | (simp; done) | (simp [*]; done), by repeat (first | exact Drawn0.refl _ | apply Drawn0.step)⟩
      · replace c11 := Bool.eq_false_iff.mpr c11
        subst c11
        have H1 : (some false) = some r := by rw [if_neg (show ¬ (false = true) by decide)] at H; exact H
        clear H
        have H := H1
        clear H1
        obtain rfl := Option.some.inj H
        go_enter Try.func15, Try.ntmps15
        go_wp2_with (first | ((with_reducible refine gate_callee (f := 25) rfl ?_); refine goesL_ (some 12) rfl rfl Try.func25 (by kernel_rfl) rfl #[.slice A0 l0.length c0, .int .i64 3] rfl (by (try simp only [List.map_toArray, List.map_cons, List.map_nil]); first | done | rfl | (simp only [List.length_drop, List.length_take]; rfl)) ?_; (with_reducible refine (spec_AreRows.calls k _ _ l0 3 true _ ?side1 ?side2 A8.out).mono ?_); (case side1 => repeat (first | exact HR0.out | (with_reducible refine Kd.C_alloc ?_ _) | (with_reducible refine Kd.C_drewN ?_ _) | (with_reducible refine Kd.C_drew ?_))); (case side2 => exact HC0.out); rintro e w' ⟨rfl, ⟨nd, rfl⟩⟩; refine ⟨_, rfl, ?_⟩) | (go_at_call 22; (with_reducible refine (spec_isSimple.calls k a1 false _ A10.out).mono ?_); rintro e w' ⟨rfl, ⟨nd, rfl⟩⟩))
        go_ret
        exact ⟨by first | rfl | (simp; done) | (simp [*]; done), by repeat (first | exact Drawn0.refl _ | apply Drawn0.step)⟩
    · replace c9 := Bool.eq_false_iff.mpr c9
      subst c9
      have H1 : (some false) = some r := by rw [if_neg (show ¬ (false = true) by decide)] at H; exact H
      clear H
      have H := H1
      clear H1
      obtain rfl := Option.some.inj H
      go_enter Try.func15, Try.ntmps15
      go_wp2_with (first | ((with_reducible refine gate_callee (f := 25) rfl ?_); refine goesL_ (some 12) rfl rfl Try.func25 (by kernel_rfl) rfl #[.slice A0 l0.length c0, .int .i64 3] rfl (by (try simp only [List.map_toArray, List.map_cons, List.map_nil]); first | done | rfl | (simp only [List.length_drop, List.length_take]; rfl)) ?_; (with_reducible refine (spec_AreRows.calls k _ _ l0 3 false _ ?side1 ?side2 A8.out).mono ?_); (case side1 => repeat (first | exact HR0.out | (with_reducible refine Kd.C_alloc ?_ _) | (with_reducible refine Kd.C_drewN ?_ _) | (with_reducible refine Kd.C_drew ?_))); (case side2 => exact HC0.out); rintro e w' ⟨rfl, ⟨nd, rfl⟩⟩; refine ⟨_, rfl, ?_⟩))
      go_ret
      exact ⟨by first | rfl | (simp; done) | (simp [*]; done), by repeat (first | exact Drawn0.refl _ | apply Drawn0.step)⟩

/-! ### spec_hasName: function 17 -/
def spec_hasName.l0 : Nat → ByteArray → List ByteArray → Int → Int → Option (Bool)
  | 0, _, _, _, _ => none
  | k + 1, x1, x7, x8, x9 => if x9 < x8 then (if 0 ≤ x9 then (if x9 < (x7.length : Int) then (if (rdOf ByteArray.empty x7 x9).toList = x1.toList then (some true) else (spec_hasName.l0 k x1 x7 x8 (wrap64 (x9 + 1)))) else (none)) else (none)) else (some false)
def spec_hasName.f (k : Nat) (l0 : List ByteArray) (a1 : ByteArray) : Option (Bool) := spec_hasName.l0 k a1 l0 (l0.length : Int) 0
theorem spec_hasName.mono_l : ∀ k, (∀ y0 y1 y2 y3, LeO (spec_hasName.l0 k y0 y1 y2 y3) (spec_hasName.l0 (k + 1) y0 y1 y2 y3))
  | 0 => fun _ _ _ _ r h => by simp [spec_hasName.l0] at h
  | k + 1 => by
    have ih0 := spec_hasName.mono_l k
    · intro y0 y1 y2 y3
      unfold spec_hasName.l0
      repeat' first
      | (with_reducible exact ih0 _ _ _ _)
      | (with_reducible exact LeO.refl _)
      | (with_reducible exact LeO.none _)
      | (with_reducible refine LeO.ite ?_ ?_)
      | (with_reducible refine LeO.bind ?_ (fun _ => ?_))
      | exact ih0 _ _ _ _
      | exact LeO.none _
      | refine LeO.ite ?_ ?_
      | refine LeO.bind ?_ (fun _ => ?_)
theorem spec_hasName.mono : ∀ a0 a1 k, LeO (spec_hasName.f k a0 a1) (spec_hasName.f (k + 1) a0 a1) := by
  intro a0 a1 k
  have ih0 := spec_hasName.mono_l k
  unfold spec_hasName.f
  repeat' first
      | (with_reducible exact ih0 _ _ _ _)
      | (with_reducible exact LeO.refl _)
      | (with_reducible exact LeO.none _)
      | (with_reducible refine LeO.ite ?_ ?_)
      | (with_reducible refine LeO.bind ?_ (fun _ => ?_))
      | exact ih0 _ _ _ _
      | exact LeO.none _
      | refine LeO.ite ?_ ?_
      | refine LeO.bind ?_ (fun _ => ?_)
set_option maxHeartbeats 8000000 in
set_option maxRecDepth 100000 in
theorem spec_hasName.calls (k : Nat) (A0 : Option Addr) (c0 : Nat) (l0 : List ByteArray) (a1 : ByteArray) (r : Bool) (w : World) (hr0 : Kd.C Kd.string w A0 l0.length l0) (hc0 : l0.length ≤ c0) (h : spec_hasName.f k l0 a1 = some r) :
    Calls Try.prog 17 #[.slice A0 l0.length c0, .string a1] w fun e w' => e = .returned (.bool r) ∧ Drawn0 w w' := by
  have HR0 := Aside0.mk hr0
  have HC0 := Aside0.mk hc0
  clear hr0 hc0
  have H : (spec_hasName.l0 k a1 l0 (l0.length : Int) 0) = some r := h
  clear h
  have H' := Aside0.mk H
  clear H
  go_enter Try.func17, Try.ntmps17
  go_wp2
  go_loopg [9] k (fun kq v9 w' => ∃ (x9_1 : Int), v9 = .int .i64 x9_1 ∧ Aside0 (spec_hasName.l0 kq a1 l0 (l0.length : Int) x9_1 = some r) ∧ Aside0 (kq ≤ k) ∧ Drawn0 w w')
  case atStart => exact ⟨(0), (by first | rfl | (simp; done) | (simp [*]; done)), H', ⟨Nat.le_refl _⟩, by repeat (first | exact Drawn0.refl _ | apply Drawn0.step)⟩
  case round =>
    clear H'
    try clear c1
    try clear p2
    obtain ⟨x9_1, rfl, HA, HK1, ⟨m1, rfl⟩⟩ := hrel
    cases gk with
    | zero => exact absurd HA.out (by simp [spec_hasName.l0])
    | succ k1 =>
      have H := HA.out
      clear HA
      simp only [spec_hasName.l0] at H
      by_cases c3 : x9_1 < (l0.length : Int)
      · rw [if_pos c3] at H
        have c3b0 : decide (x9_1 < (l0.length : Int)) = true := decide_eq_true c3
        clear c3
        by_cases c4 : 0 ≤ x9_1
        · rw [if_pos c4] at H
          have c4b0 : decide (0 ≤ x9_1) = true := decide_eq_true c4
          clear c4
          by_cases c5 : x9_1 < (l0.length : Int)
          · rw [if_pos c5] at H
            have c5b0 : decide (x9_1 < (l0.length : Int)) = true := decide_eq_true c5
            clear c5
            by_cases c6 : (rdOf ByteArray.empty l0 x9_1).toList = a1.toList
            · rw [if_pos c6] at H
              have c6b0 : ((rdOf ByteArray.empty l0 x9_1).toList == a1.toList) = true := beq_iff_eq.mpr c6
              have c6b1 : ((rdOf ByteArray.empty l0 x9_1).toList != a1.toList) = false := bne_eq_false_iff_eq.mpr c6
              clear c6
              obtain rfl := Option.some.inj H
              have p124 : 0 ≤ (x9_1 : Int) := of_decide_eq_true (by first | (with_reducible assumption) | assumption)
              have q124 : x9_1 < (l0.length : Int) := of_decide_eq_true (by first | (with_reducible assumption) | assumption)
              obtain ⟨ad124, e124, hx124_0⟩ := Kd.at_string HR0.out x9_1 p124 q124
              cases e124
              replace p124 := eq_true p124
              replace q124 := eq_true q124
              go_wp2
              go_ret
              exact ⟨by first | rfl | (simp; done) | (simp [*]; done), by repeat (first | exact Drawn0.refl _ | apply Drawn0.step)⟩
            · rw [if_neg c6] at H
              have c6b0 : ((rdOf ByteArray.empty l0 x9_1).toList == a1.toList) = false := beq_eq_false_iff_ne.mpr c6
              have c6b1 : ((rdOf ByteArray.empty l0 x9_1).toList != a1.toList) = true := bne_iff_ne.mpr c6
              have H' := Aside0.mk H
              clear H
              have p124 : 0 ≤ (x9_1 : Int) := of_decide_eq_true (by first | (with_reducible assumption) | assumption)
              have q124 : x9_1 < (l0.length : Int) := of_decide_eq_true (by first | (with_reducible assumption) | assumption)
              obtain ⟨ad124, e124, hx124_0⟩ := Kd.at_string HR0.out x9_1 p124 q124
              cases e124
              replace p124 := eq_true p124
              replace q124 := eq_true q124
              go_wp2
              go_roundg k1
              case measure => have := HK1.out; omega
              case rel => exact ⟨(wrap64 (x9_1 + 1)), (by first | rfl | (simp; done) | (simp [*]; done)), H', ⟨by have := HK1.out; omega⟩, by repeat (first | exact Drawn0.refl _ | apply Drawn0.step)⟩
          · rw [if_neg c5] at H
            exact absurd H (by simp)
        · rw [if_neg c4] at H
          exact absurd H (by simp)
      · rw [if_neg c3] at H
        have c3b0 : decide (x9_1 < (l0.length : Int)) = false := decide_eq_false c3
        clear c3
        obtain rfl := Option.some.inj H
        go_wp2
        go_ret
        exact ⟨by first | rfl | (simp; done) | (simp [*]; done), by repeat (first | exact Drawn0.refl _ | apply Drawn0.step)⟩

/-! ### spec_inDomain: function 26 -/
def spec_inDomain.f (l0 : List ByteArray) (a1 : ByteArray) : Option (Bool) := if a1.toList = ([] : List UInt8) then (some true) else (if 2 < (l0.length : Int) then (some ((rdOf ByteArray.empty l0 2).toList == a1.toList)) else (none))
set_option maxHeartbeats 8000000 in
set_option maxRecDepth 100000 in
theorem spec_inDomain.calls (A0 : Option Addr) (c0 : Nat) (l0 : List ByteArray) (a1 : ByteArray) (r : Bool) (w : World) (hr0 : Kd.C Kd.string w A0 l0.length l0) (hc0 : l0.length ≤ c0) (h : spec_inDomain.f l0 a1 = some r) :
    Calls Try.prog 26 #[.slice A0 l0.length c0, .string a1] w fun e w' => e = .returned (.bool r) ∧ Drawn0 w w' := by
  have HR0 := Aside0.mk hr0
  have HC0 := Aside0.mk hc0
  clear hr0 hc0
  have H : (if a1.toList = ([] : List UInt8) then (some true) else (if 2 < (l0.length : Int) then (some ((rdOf ByteArray.empty l0 2).toList == a1.toList)) else (none))) = some r := h
  clear h
  by_cases c3 : a1.toList = ([] : List UInt8)
  · rw [if_pos c3] at H
    have c3b0 : (a1.toList == ([] : List UInt8)) = true := beq_iff_eq.mpr c3
    have c3b1 : (a1.toList != ([] : List UInt8)) = false := bne_eq_false_iff_eq.mpr c3
    clear c3
    obtain rfl := Option.some.inj H
    go_enter Try.func26, Try.ntmps26
    go_wp2
    go_ret
    exact ⟨by first | rfl | (simp; done) | (simp [*]; done), by repeat (first | exact Drawn0.refl _ | apply Drawn0.step)⟩
  · rw [if_neg c3] at H
    have c3b0 : (a1.toList == ([] : List UInt8)) = false := beq_eq_false_iff_ne.mpr c3
    have c3b1 : (a1.toList != ([] : List UInt8)) = true := bne_iff_ne.mpr c3
    by_cases c4 : 2 < (l0.length : Int)
    · rw [if_pos c4] at H
      have c4b0 : decide (2 < (l0.length : Int)) = true := decide_eq_true c4
      have c4b1 : decide (2 < l0.length) = true := decide_eq_true (by omega)
      clear c4
      obtain rfl := Option.some.inj H
      have p125 : 0 ≤ (2 : Int) := (by omega)
      have q125 : 2 < (l0.length : Int) := of_decide_eq_true (by first | (with_reducible assumption) | assumption)
      obtain ⟨ad125, e125, hx125_0⟩ := Kd.at_string HR0.out 2 p125 q125
      cases e125
      (try simp only [show (2 : Int).toNat = 2 from rfl, Nat.reduceMul, Nat.reduceEqDiff, Go.Addr.add, ↓reduceIte] at hx125_0)
      have qi125 : (2 < l0.length) = True := eq_true (by omega)
      (try rw [show ((2 : Int)).toNat = 2 from rfl] at hx125_0)
      replace p125 := eq_true p125
      replace q125 := eq_true q125
      go_enter Try.func26, Try.ntmps26
      go_wp2
      go_ret
      exact ⟨by first | rfl | (simp; done) | (simp [*]; done), by repeat (first | exact Drawn0.refl _ | apply Drawn0.step)⟩
    · rw [if_neg c4] at H
      exact absurd H (by simp)

end Go.Proofs.Ytpdejkalcminbaa.PFnUsers
