-- PRINTED BY print.sh 35421559b90ae4d0a3588c463048766b98c2df88dd9212a6774a882060cdf62d: not written by this session
import Derived.Test.YtpdejkalcminbaaPFnUsersx0
import Derived.Test.YtpdejkalcminbaaPFnUsersx2
namespace Go.Proofs.Ytpdejkalcminbaa.PFnUsers
open Go.RowKit Go.Proofs.YtpdejkalcminbaaW.PrintWords Go.Proofs.YtpdejkalcminbaaW.PrintLast Go.Proofs.YtpdejkalcminbaaW.PrintMore
attribute [local go_sem] max2_int min2_int max_two min_two max_three min_three max_four min_four   -- for this text's walks alone
set_option linter.unusedVariables false
set_option linter.unusedSimpArgs false

/-! ### spec_direct: function 16 -/
mutual
def spec_direct.l0 : Nat → ByteArray → ByteArray → Bool → List ByteArray → List (List ByteArray) → Int → Int → Option (List ByteArray)
  | 0, _, _, _, _, _, _, _ => none
  | k + 1, x1, x2, x3, x9, x15, x16, x17 => if x17 < x16 then (if 0 ≤ x17 then (if x17 < (x15.length : Int) then (if 0 < ((rd_L1 x15 x17).length : Int) then (if 1 < ((rd_L1 x15 x17).length : Int) then (if x3 = true then (spec_direct.j1 k x1 x2 x3 x9 (rd_L1 x15 x17) (rdOf ByteArray.empty (rd_L1 x15 x17) 0) (rdOf ByteArray.empty (rd_L1 x15 x17) 1) x15 x16 x17) else (spec_direct.j1 k x1 x2 x3 x9 (rd_L1 x15 x17) (rdOf ByteArray.empty (rd_L1 x15 x17) 1) (rdOf ByteArray.empty (rd_L1 x15 x17) 0) x15 x16 x17)) else (none)) else (none)) else (none)) else (none)) else (some x9)
def spec_direct.j1 : Nat → ByteArray → ByteArray → Bool → List ByteArray → List ByteArray → ByteArray → ByteArray → List (List ByteArray) → Int → Int → Option (List ByteArray)
  | 0, _, _, _, _, _, _, _, _, _, _ => none
  | k + 1, x1, x2, x3, x9, x11, x12, x13, x15, x16, x17 => (spec_inDomain.f x11 x1).bind fun t132 => (if t132 = true then (if x12.toList = x2.toList then ((spec_hasName.f k x9 x13).bind fun t133 => (if t133 = true then (spec_direct.l0 k x1 x2 x3 x9 x15 x16 (wrap64 (x17 + 1))) else (if x9.length < 8796093022208 then (spec_direct.l0 k x1 x2 x3 (x9 ++ [x13]) x15 x16 (wrap64 (x17 + 1))) else (none)))) else (spec_direct.l0 k x1 x2 x3 x9 x15 x16 (wrap64 (x17 + 1)))) else (spec_direct.l0 k x1 x2 x3 x9 x15 x16 (wrap64 (x17 + 1))))
end
def spec_direct.f (k : Nat) (l0 : List (List ByteArray)) (a1 : ByteArray) (a2 : ByteArray) (a3 : Bool) : Option (List ByteArray) := spec_direct.l0 k a1 a2 a3 (([] : List ByteArray)) l0 (l0.length : Int) 0
theorem spec_direct.mono_l : ∀ k, (∀ y0 y1 y2 y3 y4 y5 y6, LeO (spec_direct.l0 k y0 y1 y2 y3 y4 y5 y6) (spec_direct.l0 (k + 1) y0 y1 y2 y3 y4 y5 y6)) ∧ (∀ y0 y1 y2 y3 y4 y5 y6 y7 y8 y9, LeO (spec_direct.j1 k y0 y1 y2 y3 y4 y5 y6 y7 y8 y9) (spec_direct.j1 (k + 1) y0 y1 y2 y3 y4 y5 y6 y7 y8 y9))
  | 0 => ⟨fun _ _ _ _ _ _ _ r h => by simp [spec_direct.l0] at h, fun _ _ _ _ _ _ _ _ _ _ r h => by simp [spec_direct.j1] at h⟩
  | k + 1 => by
    obtain ⟨ih0, ih1⟩ := spec_direct.mono_l k
    refine ⟨?_, ?_⟩
    · intro y0 y1 y2 y3 y4 y5 y6
      unfold spec_direct.l0
      repeat' first
      | (with_reducible exact ih0 _ _ _ _ _ _ _)
      | (with_reducible exact ih1 _ _ _ _ _ _ _ _ _ _)
      | (with_reducible exact spec_hasName.mono _ _ _)
      | (with_reducible exact LeO.refl _)
      | (with_reducible exact LeO.none _)
      | (with_reducible refine LeO.ite ?_ ?_)
      | (with_reducible refine LeO.bind ?_ (fun _ => ?_))
      | exact ih0 _ _ _ _ _ _ _
      | exact ih1 _ _ _ _ _ _ _ _ _ _
      | exact spec_hasName.mono _ _ _
      | exact LeO.none _
      | refine LeO.ite ?_ ?_
      | refine LeO.bind ?_ (fun _ => ?_)
    · intro y0 y1 y2 y3 y4 y5 y6 y7 y8 y9
      unfold spec_direct.j1
      repeat' first
      | (with_reducible exact ih0 _ _ _ _ _ _ _)
      | (with_reducible exact ih1 _ _ _ _ _ _ _ _ _ _)
      | (with_reducible exact spec_hasName.mono _ _ _)
      | (with_reducible exact LeO.refl _)
      | (with_reducible exact LeO.none _)
      | (with_reducible refine LeO.ite ?_ ?_)
      | (with_reducible refine LeO.bind ?_ (fun _ => ?_))
      | exact ih0 _ _ _ _ _ _ _
      | exact ih1 _ _ _ _ _ _ _ _ _ _
      | exact spec_hasName.mono _ _ _
      | exact LeO.none _
      | refine LeO.ite ?_ ?_
      | refine LeO.bind ?_ (fun _ => ?_)
theorem spec_direct.mono : ∀ a0 a1 a2 a3 k, LeO (spec_direct.f k a0 a1 a2 a3) (spec_direct.f (k + 1) a0 a1 a2 a3) := by
  intro a0 a1 a2 a3 k
  obtain ⟨ih0, ih1⟩ := spec_direct.mono_l k
  unfold spec_direct.f
  repeat' first
      | (with_reducible exact ih0 _ _ _ _ _ _ _)
      | (with_reducible exact ih1 _ _ _ _ _ _ _ _ _ _)
      | (with_reducible exact spec_hasName.mono _ _ _)
      | (with_reducible exact LeO.refl _)
      | (with_reducible exact LeO.none _)
      | (with_reducible refine LeO.ite ?_ ?_)
      | (with_reducible refine LeO.bind ?_ (fun _ => ?_))
      | exact ih0 _ _ _ _ _ _ _
      | exact ih1 _ _ _ _ _ _ _ _ _ _
      | exact spec_hasName.mono _ _ _
      | exact LeO.none _
      | refine LeO.ite ?_ ?_
      | refine LeO.bind ?_ (fun _ => ?_)
set_option maxHeartbeats 8000000 in
set_option maxRecDepth 100000 in
theorem spec_direct.calls (k : Nat) (A0 : Option Addr) (c0 : Nat) (l0 : List (List ByteArray)) (a1 : ByteArray) (a2 : ByteArray) (a3 : Bool) (r : List ByteArray) (w : World) (hr0 : Kd.C (Kd.slice 9 Kd.string) w A0 l0.length l0) (hc0 : l0.length ≤ c0) (h : spec_direct.f k l0 a1 a2 a3 = some r) :
    Calls Try.prog 16 #[.slice A0 l0.length c0, .string a1, .string a2, .bool a3] w fun e w' => ∃ v0_ : Value, e = .returned (v0_) ∧ Kd.R Kd.string 9 w' w.heap.size (fun _ => True) v0_ r ∧ Below w.heap.size w w' := by
  have HR0 := Aside0.mk hr0
  have HC0 := Aside0.mk hc0
  clear hr0 hc0
  have HB := Aside0.mk (Below.refl w.heap.size w)
  have H : (spec_direct.l0 k a1 a2 a3 (([] : List ByteArray)) l0 (l0.length : Int) 0) = some r := h
  clear h
  obtain ⟨y126, hy126⟩ : ∃ y_ : List ByteArray, y_ = (([] : List ByteArray)) := ⟨_, rfl⟩
  replace H : (spec_direct.l0 k a1 a2 a3 y126 l0 (l0.length : Int) 0) = some r := by first | (rw [hy126]; with_reducible exact H) | (have H2_ := (Option.bind_some _ _).symm.trans H; rw [hy126]; with_reducible exact H2_) | (have H2_ := (Option.bind_some _ _).symm.trans H; with_reducible exact H2_) | with_reducible exact H | (rw [hy126]; exact H) | exact H
  have Ny126 := Aside0.mk hy126
  clear hy126
  have H' := Aside0.mk H
  clear H
  go_enter Try.func16, Try.ntmps16
  go_wp2_with (first | ((with_reducible refine gate_dst (N := 14) rfl ?_); refine Kd.R_lit Kd.string _ 9 ?hg (N := 14) ?hd (xs := ([] : List ByteArray)) (inner := []) (ok := fun _ => True) (okp := fun _ => True) ?hr ?hp (fun _ hk => hk) trivial (Below.refl _ _) (Nat.le_refl _) (by simp) ?_; (case hd => rfl); (case hg => rfl); (case hr => first | (go_simp; done) | (go_simp; rfl)); (case hp => exact (Reps.none _ _)); intro v127 w5 ho6 hb hg_ hnew_; clear hg_ hnew_; (first | rw [← Ny126.out] at ho6 | (simp only [Int.reduceToNat] at ho6; rw [← Ny126.out] at ho6)); have n0_ := Aside0.mk (Kd.R_lower ho6 (below_size (by repeat (first | (with_reducible first | exact HB.out | apply below_alloc | apply pw_below_drewN | apply below_drew1) | exact HB.out)))); have n1_ := Aside0.mk (below_step (by repeat (first | (with_reducible first | exact HB.out | apply below_alloc | apply pw_below_drewN | apply below_drew1) | exact HB.out)) hb); clear HB; have HO128 := n0_; have HB := n1_; clear n0_ n1_; clear hb ho6))
  repeat (go_quiet (first | ((with_reducible refine gate_dst (N := 14) rfl ?_); refine Kd.R_lit Kd.string _ 9 ?hg (N := 14) ?hd (xs := ([] : List ByteArray)) (inner := []) (ok := fun _ => True) (okp := fun _ => True) ?hr ?hp (fun _ hk => hk) trivial (Below.refl _ _) (Nat.le_refl _) (by simp) ?_; (case hd => rfl); (case hg => rfl); (case hr => first | (go_simp; done) | (go_simp; rfl)); (case hp => exact (Reps.none _ _)); intro v127 w5 ho6 hb hg_ hnew_; clear hg_ hnew_; (first | rw [← Ny126.out] at ho6 | (simp only [Int.reduceToNat] at ho6; rw [← Ny126.out] at ho6)); have n0_ := Aside0.mk (Kd.R_lower ho6 (below_size (by repeat (first | (with_reducible first | exact HB.out | apply below_alloc | apply pw_below_drewN | apply below_drew1) | exact HB.out)))); have n1_ := Aside0.mk (below_step (by repeat (first | (with_reducible first | exact HB.out | apply below_alloc | apply pw_below_drewN | apply below_drew1) | exact HB.out)) hb); clear HB; have HO128 := n0_; have HB := n1_; clear n0_ n1_; clear hb ho6)); try go_wp2_with (first | ((with_reducible refine gate_dst (N := 14) rfl ?_); refine Kd.R_lit Kd.string _ 9 ?hg (N := 14) ?hd (xs := ([] : List ByteArray)) (inner := []) (ok := fun _ => True) (okp := fun _ => True) ?hr ?hp (fun _ hk => hk) trivial (Below.refl _ _) (Nat.le_refl _) (by simp) ?_; (case hd => rfl); (case hg => rfl); (case hr => first | (go_simp; done) | (go_simp; rfl)); (case hp => exact (Reps.none _ _)); intro v127 w5 ho6 hb hg_ hnew_; clear hg_ hnew_; (first | rw [← Ny126.out] at ho6 | (simp only [Int.reduceToNat] at ho6; rw [← Ny126.out] at ho6)); have n0_ := Aside0.mk (Kd.R_lower ho6 (below_size (by repeat (first | (with_reducible first | exact HB.out | apply below_alloc | apply pw_below_drewN | apply below_drew1) | exact HB.out)))); have n1_ := Aside0.mk (below_step (by repeat (first | (with_reducible first | exact HB.out | apply below_alloc | apply pw_below_drewN | apply below_drew1) | exact HB.out)) hb); clear HB; have HO128 := n0_; have HB := n1_; clear n0_ n1_; clear hb ho6)))
  go_loopg [9, 17] k (fun kq v9 v17 w' => ∃ (x9_1 : List ByteArray) (x17_1 : Int), v17 = .int .i64 x17_1 ∧ Aside0 (spec_direct.l0 kq a1 a2 a3 x9_1 l0 (l0.length : Int) x17_1 = some r) ∧ Aside0 (kq ≤ k) ∧ Aside0 (Kd.R Kd.string 9 w' w.heap.size (fun _ => True) v9 x9_1) ∧ Aside0 (Below w.heap.size w w'))
  case atStart => exact ⟨(y126), (0), (by first | rfl | (simp; done) | (simp [*]; done)), H', ⟨Nat.le_refl _⟩, ⟨by (with_reducible repeat (first | apply Kd.R_alloc | apply Kd.R_drewN | apply Kd.R_drew)); exact HO128.out⟩, ⟨by repeat (first | (with_reducible first | exact HB.out | apply below_alloc | apply pw_below_drewN | apply below_drew1) | exact HB.out)⟩⟩
  case round =>
    clear H'
    try clear c1
    try clear p2
    obtain ⟨x9_1, x17_1, rfl, HA, HK1, HO_9, HB⟩ := hrel
    cases gk with
    | zero => exact absurd HA.out (by simp [spec_direct.l0])
    | succ k1 =>
      have H := HA.out
      clear HA
      simp only [spec_direct.l0] at H
      by_cases c7 : x17_1 < (l0.length : Int)
      · rw [if_pos c7] at H
        have c7b0 : decide (x17_1 < (l0.length : Int)) = true := decide_eq_true c7
        clear c7
        by_cases c8 : 0 ≤ x17_1
        · rw [if_pos c8] at H
          have c8b0 : decide (0 ≤ x17_1) = true := decide_eq_true c8
          clear c8
          by_cases c9 : x17_1 < (l0.length : Int)
          · rw [if_pos c9] at H
            have c9b0 : decide (x17_1 < (l0.length : Int)) = true := decide_eq_true c9
            clear c9
            by_cases c10 : 0 < ((rd_L1 l0 x17_1).length : Int)
            · rw [if_pos c10] at H
              have c10b0 : decide (0 < ((rd_L1 l0 x17_1).length : Int)) = true := decide_eq_true c10
              have c10b1 : decide (0 < (rd_L1 l0 x17_1).length) = true := decide_eq_true (by omega)
              clear c10
              by_cases c11 : 1 < ((rd_L1 l0 x17_1).length : Int)
              · rw [if_pos c11] at H
                have c11b0 : decide (1 < ((rd_L1 l0 x17_1).length : Int)) = true := decide_eq_true c11
                have c11b1 : decide (1 < (rd_L1 l0 x17_1).length) = true := decide_eq_true (by omega)
                clear c11
                have HC12 := Aside0.mk H
                clear H
                have p129 : 0 ≤ (x17_1 : Int) := of_decide_eq_true (by first | (with_reducible assumption) | assumption)
                have q129 : x17_1 < (l0.length : Int) := of_decide_eq_true (by first | (with_reducible assumption) | assumption)
                obtain ⟨ad129, A129_0, c129_0, e129, hx129_0, hl129_0, hi129_0⟩ := at_L1 HR0.out x17_1 p129 q129
                cases e129
                replace hx129_0 := (HB.out.cell (World.block_lt_of_cell? w _ hx129_0)).trans hx129_0
                have HR129_0 := Aside0.mk hi129_0
                have HC129_0 := Aside0.mk hl129_0
                clear hi129_0 hl129_0
                replace p129 := eq_true p129
                replace q129 := eq_true q129
                have p130 : 0 ≤ (0 : Int) := (by omega)
                have q130 : 0 < ((rd_L1 l0 x17_1).length : Int) := of_decide_eq_true (by first | (with_reducible assumption) | assumption)
                obtain ⟨ad130, e130, hx130_0⟩ := Kd.at_string HR129_0.out 0 p130 q130
                cases e130
                have qi130 : (0 < (rd_L1 l0 x17_1).length) = True := eq_true (by omega)
                (try rw [show ((0 : Int)).toNat = 0 from rfl] at hx130_0)
                (try rw [Addr.add_zero'] at hx130_0)
                replace hx130_0 := (HB.out.cell (World.block_lt_of_cell? w _ hx130_0)).trans hx130_0
                replace p130 := eq_true p130
                replace q130 := eq_true q130
                have p131 : 0 ≤ (1 : Int) := (by omega)
                have q131 : 1 < ((rd_L1 l0 x17_1).length : Int) := of_decide_eq_true (by first | (with_reducible assumption) | assumption)
                obtain ⟨ad131, e131, hx131_0⟩ := Kd.at_string HR129_0.out 1 p131 q131
                obtain rfl : ad130 = ad131 := (by injection e131)
                (try simp only [show (1 : Int).toNat = 1 from rfl, Nat.reduceMul, Nat.reduceEqDiff, Go.Addr.add, ↓reduceIte] at hx131_0)
                have qi131 : (1 < (rd_L1 l0 x17_1).length) = True := eq_true (by omega)
                (try rw [show ((1 : Int)).toNat = 1 from rfl] at hx131_0)
                replace hx131_0 := (HB.out.cell (World.block_lt_of_cell? w _ hx131_0)).trans hx131_0
                replace p131 := eq_true p131
                replace q131 := eq_true q131
                go_upto_if 28 with (fail)
                repeat (go_quiet (fail); go_upto_if 28 with (fail))
                go_cut [12, 13] (fun v12 v13 wc => ∃ (kq : Nat) (x12_11 : ByteArray) (x13_11 : ByteArray), v12 = .string x12_11 ∧ v13 = .string x13_11 ∧ Aside0 (spec_direct.j1 kq a1 a2 a3 x9_1 (rd_L1 l0 x17_1) x12_11 x13_11 l0 (l0.length : Int) x17_1 = some r) ∧ Aside0 (kq ≤ k1) ∧ Aside0 (Kd.R Kd.string 9 wc w.heap.size (fun _ => True) u9 x9_1) ∧ Aside0 (Below w.heap.size w wc))
                case first =>
                  have H := HC12.out
                  clear HC12
                  by_cases c13 : a3 = true
                  · subst c13
                    have H1 : (spec_direct.j1 k1 a1 a2 true x9_1 (rd_L1 l0 x17_1) (rdOf ByteArray.empty (rd_L1 l0 x17_1) 0) (rdOf ByteArray.empty (rd_L1 l0 x17_1) 1) l0 (l0.length : Int) x17_1) = some r := by rw [if_pos rfl] at H; exact H
                    clear H
                    have H := H1
                    clear H1
                    have H' := Aside0.mk H
                    clear H
                    go_wp2
                    repeat (go_quiet (fail); try go_wp2)
                    go_meet
                    case rel => exact ⟨_, (rdOf ByteArray.empty (rd_L1 l0 x17_1) 0), (rdOf ByteArray.empty (rd_L1 l0 x17_1) 1), (by first | rfl | (simp; done) | (simp [*]; done)), (by first | rfl | (simp; done) | (simp [*]; done)), H', ⟨by have := HK1.out; first | omega | exact Nat.le_refl _⟩, ⟨by (with_reducible repeat (first | apply Kd.R_alloc | apply Kd.R_drewN | apply Kd.R_drew)); exact HO_9.out⟩, ⟨by repeat (first | (with_reducible first | exact HB.out | apply below_alloc | apply pw_below_drewN | apply below_drew1) | exact HB.out)⟩⟩
                  · replace c13 := Bool.eq_false_iff.mpr c13
                    subst c13
                    have H1 : (spec_direct.j1 k1 a1 a2 false x9_1 (rd_L1 l0 x17_1) (rdOf ByteArray.empty (rd_L1 l0 x17_1) 1) (rdOf ByteArray.empty (rd_L1 l0 x17_1) 0) l0 (l0.length : Int) x17_1) = some r := by rw [if_neg (show ¬ (false = true) by decide)] at H; exact H
                    clear H
                    have H := H1
                    clear H1
                    have H' := Aside0.mk H
                    clear H
                    go_wp2
                    repeat (go_quiet (fail); try go_wp2)
                    go_meet
                    case rel => exact ⟨_, (rdOf ByteArray.empty (rd_L1 l0 x17_1) 1), (rdOf ByteArray.empty (rd_L1 l0 x17_1) 0), (by first | rfl | (simp; done) | (simp [*]; done)), (by first | rfl | (simp; done) | (simp [*]; done)), H', ⟨by have := HK1.out; first | omega | exact Nat.le_refl _⟩, ⟨by (with_reducible repeat (first | apply Kd.R_alloc | apply Kd.R_drewN | apply Kd.R_drew)); exact HO_9.out⟩, ⟨by repeat (first | (with_reducible first | exact HB.out | apply below_alloc | apply pw_below_drewN | apply below_drew1) | exact HB.out)⟩⟩
                case rest =>
                  clear HC12
                  try clear c1
                  try clear p1
                  try clear q1
                  try clear hx1
                  try clear qi1
                  try clear p2
                  try clear c7
                  try clear c7b0
                  try clear c8
                  try clear c8b0
                  try clear c9
                  try clear c9b0
                  try clear c10
                  try clear c10b0
                  try clear c10b1
                  try clear c11
                  try clear c11b0
                  try clear c11b1
                  try clear c12
                  try clear p12
                  try clear q12
                  try clear hx12
                  try clear c13
                  try clear p13
                  try clear q13
                  try clear hx13
                  try clear qi13
                  try clear hx129_0
                  try clear hx130_0
                  try clear hx131_0
                  try clear p129
                  try clear p130
                  try clear p131
                  try clear p2
                  try clear q129
                  try clear q130
                  try clear q131
                  obtain ⟨kq, x12_11, x13_11, rfl, rfl, HA, HJ11, HO_9, HB⟩ := hcut
                  cases kq with
                  | zero => exact absurd HA.out (by simp [spec_direct.j1])
                  | succ kj11 =>
                    have H := HA.out
                    clear HA
                    simp only [spec_direct.j1] at H
                    replace H := Option.bind_eq_some_iff.mp H
                    obtain ⟨t132, A140, H⟩ := H
                    replace H : (if t132 = true then (if x12_11.toList = a2.toList then ((spec_hasName.f kj11 x9_1 x13_11).bind fun t133 => (if t133 = true then (spec_direct.l0 kj11 a1 a2 a3 x9_1 l0 (l0.length : Int) (wrap64 (x17_1 + 1))) else (if x9_1.length < 8796093022208 then (spec_direct.l0 kj11 a1 a2 a3 (x9_1 ++ [x13_11]) l0 (l0.length : Int) (wrap64 (x17_1 + 1))) else (none)))) else (spec_direct.l0 kj11 a1 a2 a3 x9_1 l0 (l0.length : Int) (wrap64 (x17_1 + 1)))) else (spec_direct.l0 kj11 a1 a2 a3 x9_1 l0 (l0.length : Int) (wrap64 (x17_1 + 1)))) = some r := H
                    have A14 := Aside0.mk A140
                    clear A140
                    by_cases c15 : t132 = true
                    · subst c15
                      have H1 : (if x12_11.toList = a2.toList then ((spec_hasName.f kj11 x9_1 x13_11).bind fun t133 => (if t133 = true then (spec_direct.l0 kj11 a1 a2 a3 x9_1 l0 (l0.length : Int) (wrap64 (x17_1 + 1))) else (if x9_1.length < 8796093022208 then (spec_direct.l0 kj11 a1 a2 a3 (x9_1 ++ [x13_11]) l0 (l0.length : Int) (wrap64 (x17_1 + 1))) else (none)))) else (spec_direct.l0 kj11 a1 a2 a3 x9_1 l0 (l0.length : Int) (wrap64 (x17_1 + 1)))) = some r := by rw [if_pos rfl] at H; exact H
                      clear H
                      have H := H1
                      clear H1
                      by_cases c16 : x12_11.toList = a2.toList
                      · rw [if_pos c16] at H
                        have c16b0 : (x12_11.toList == a2.toList) = true := beq_iff_eq.mpr c16
                        have c16b1 : (x12_11.toList != a2.toList) = false := bne_eq_false_iff_eq.mpr c16
                        clear c16
                        replace H := Option.bind_eq_some_iff.mp H
                        obtain ⟨t133, A170, H⟩ := H
                        replace H : (if t133 = true then (spec_direct.l0 kj11 a1 a2 a3 x9_1 l0 (l0.length : Int) (wrap64 (x17_1 + 1))) else (if x9_1.length < 8796093022208 then (spec_direct.l0 kj11 a1 a2 a3 (x9_1 ++ [x13_11]) l0 (l0.length : Int) (wrap64 (x17_1 + 1))) else (none))) = some r := H
                        have A17 := Aside0.mk A170
                        clear A170
                        by_cases c18 : t133 = true
                        · subst c18
                          have H1 : (spec_direct.l0 kj11 a1 a2 a3 x9_1 l0 (l0.length : Int) (wrap64 (x17_1 + 1))) = some r := by rw [if_pos rfl] at H; exact H
                          clear H
                          have H := H1
                          clear H1
                          have H' := Aside0.mk H
                          clear H
                          go_wp2_with (first | (go_at_call 26; (with_reducible refine (spec_inDomain.calls _ _ (rd_L1 l0 x17_1) a1 true _ ?side1 ?side2 A14.out).mono ?_); (case side1 => repeat (first | exact (Kd.C_below HR129_0.out HB.out) | (with_reducible refine Kd.C_alloc ?_ _) | (with_reducible refine Kd.C_drewN ?_ _) | (with_reducible refine Kd.C_drew ?_))); (case side2 => exact HC129_0.out); rintro e w' ⟨rfl, ⟨nd, rfl⟩⟩; (try first | exact ⟨rfl, _, World.drewN_drewN _ _ _⟩ | exact ⟨rfl, _, Eq.trans (World.drewN_drewN _ _ _) (congrArg (World.drewN _) (Nat.add_assoc _ _ _))⟩); obtain ⟨Ao19, co19, eo19⟩ := Kd.R_slice HO_9.out; subst eo19) | (go_at_call 17; (with_reducible refine (spec_hasName.calls kj11 _ _ x9_1 x13_11 true _ ?side1 ?side2 A17.out).mono ?_); (case side1 => repeat (first | exact (Kd.R_reads' HO_9.out).2.2 | (with_reducible refine Kd.C_alloc ?_ _) | (with_reducible refine Kd.C_drewN ?_ _) | (with_reducible refine Kd.C_drew ?_))); (case side2 => exact (Kd.R_reads' HO_9.out).2.1); rintro e w' ⟨rfl, ⟨nd, rfl⟩⟩; (try first | exact ⟨rfl, _, World.drewN_drewN _ _ _⟩ | exact ⟨rfl, _, Eq.trans (World.drewN_drewN _ _ _) (congrArg (World.drewN _) (Nat.add_assoc _ _ _))⟩)))
                          repeat (go_quiet (first | (go_at_call 26; (with_reducible refine (spec_inDomain.calls _ _ (rd_L1 l0 x17_1) a1 true _ ?side1 ?side2 A14.out).mono ?_); (case side1 => repeat (first | exact (Kd.C_below HR129_0.out HB.out) | (with_reducible refine Kd.C_alloc ?_ _) | (with_reducible refine Kd.C_drewN ?_ _) | (with_reducible refine Kd.C_drew ?_))); (case side2 => exact HC129_0.out); rintro e w' ⟨rfl, ⟨nd, rfl⟩⟩; (try first | exact ⟨rfl, _, World.drewN_drewN _ _ _⟩ | exact ⟨rfl, _, Eq.trans (World.drewN_drewN _ _ _) (congrArg (World.drewN _) (Nat.add_assoc _ _ _))⟩); obtain ⟨Ao19, co19, eo19⟩ := Kd.R_slice HO_9.out; subst eo19) | (go_at_call 17; (with_reducible refine (spec_hasName.calls kj11 _ _ x9_1 x13_11 true _ ?side1 ?side2 A17.out).mono ?_); (case side1 => repeat (first | exact (Kd.R_reads' HO_9.out).2.2 | (with_reducible refine Kd.C_alloc ?_ _) | (with_reducible refine Kd.C_drewN ?_ _) | (with_reducible refine Kd.C_drew ?_))); (case side2 => exact (Kd.R_reads' HO_9.out).2.1); rintro e w' ⟨rfl, ⟨nd, rfl⟩⟩; (try first | exact ⟨rfl, _, World.drewN_drewN _ _ _⟩ | exact ⟨rfl, _, Eq.trans (World.drewN_drewN _ _ _) (congrArg (World.drewN _) (Nat.add_assoc _ _ _))⟩))); try go_wp2_with (first | (go_at_call 26; (with_reducible refine (spec_inDomain.calls _ _ (rd_L1 l0 x17_1) a1 true _ ?side1 ?side2 A14.out).mono ?_); (case side1 => repeat (first | exact (Kd.C_below HR129_0.out HB.out) | (with_reducible refine Kd.C_alloc ?_ _) | (with_reducible refine Kd.C_drewN ?_ _) | (with_reducible refine Kd.C_drew ?_))); (case side2 => exact HC129_0.out); rintro e w' ⟨rfl, ⟨nd, rfl⟩⟩; (try first | exact ⟨rfl, _, World.drewN_drewN _ _ _⟩ | exact ⟨rfl, _, Eq.trans (World.drewN_drewN _ _ _) (congrArg (World.drewN _) (Nat.add_assoc _ _ _))⟩); obtain ⟨Ao19, co19, eo19⟩ := Kd.R_slice HO_9.out; subst eo19) | (go_at_call 17; (with_reducible refine (spec_hasName.calls kj11 _ _ x9_1 x13_11 true _ ?side1 ?side2 A17.out).mono ?_); (case side1 => repeat (first | exact (Kd.R_reads' HO_9.out).2.2 | (with_reducible refine Kd.C_alloc ?_ _) | (with_reducible refine Kd.C_drewN ?_ _) | (with_reducible refine Kd.C_drew ?_))); (case side2 => exact (Kd.R_reads' HO_9.out).2.1); rintro e w' ⟨rfl, ⟨nd, rfl⟩⟩; (try first | exact ⟨rfl, _, World.drewN_drewN _ _ _⟩ | exact ⟨rfl, _, Eq.trans (World.drewN_drewN _ _ _) (congrArg (World.drewN _) (Nat.add_assoc _ _ _))⟩))))
                          go_roundg kj11
                          case measure => have := HK1.out; have := HJ11.out; omega
                          case rel => exact ⟨(x9_1), (wrap64 (x17_1 + 1)), (by first | rfl | (simp; done) | (simp [*]; done)), H', ⟨by have := HK1.out; have := HJ11.out; omega⟩, ⟨by (with_reducible repeat (first | apply Kd.R_alloc | apply Kd.R_drewN | apply Kd.R_drew)); exact HO_9.out⟩, ⟨by repeat (first | (with_reducible first | exact HB.out | apply below_alloc | apply pw_below_drewN | apply below_drew1) | exact HB.out)⟩⟩
                        · replace c18 := Bool.eq_false_iff.mpr c18
                          subst c18
                          have H1 : (if x9_1.length < 8796093022208 then (spec_direct.l0 kj11 a1 a2 a3 (x9_1 ++ [x13_11]) l0 (l0.length : Int) (wrap64 (x17_1 + 1))) else (none)) = some r := by rw [if_neg (show ¬ (false = true) by decide)] at H; exact H
                          clear H
                          have H := H1
                          clear H1
                          by_cases c20 : x9_1.length < 8796093022208
                          · rw [if_pos c20] at H
                            have LMc20 := Aside0.mk c20
                            clear c20
                            obtain ⟨y134, hy134⟩ : ∃ y_ : List ByteArray, y_ = (x9_1 ++ [x13_11]) := ⟨_, rfl⟩
                            replace H : (spec_direct.l0 kj11 a1 a2 a3 y134 l0 (l0.length : Int) (wrap64 (x17_1 + 1))) = some r := by first | (rw [hy134]; with_reducible exact H) | (have H2_ := (Option.bind_some _ _).symm.trans H; rw [hy134]; with_reducible exact H2_) | (have H2_ := (Option.bind_some _ _).symm.trans H; with_reducible exact H2_) | with_reducible exact H | (rw [hy134]; exact H) | exact H
                            have Ny134 := Aside0.mk hy134
                            clear hy134
                            have H' := Aside0.mk H
                            clear H
                            go_wp2_with (first | (go_at_call 26; (with_reducible refine (spec_inDomain.calls _ _ (rd_L1 l0 x17_1) a1 true _ ?side1 ?side2 A14.out).mono ?_); (case side1 => repeat (first | exact (Kd.C_below HR129_0.out HB.out) | (with_reducible refine Kd.C_alloc ?_ _) | (with_reducible refine Kd.C_drewN ?_ _) | (with_reducible refine Kd.C_drew ?_))); (case side2 => exact HC129_0.out); rintro e w' ⟨rfl, ⟨nd, rfl⟩⟩; (try first | exact ⟨rfl, _, World.drewN_drewN _ _ _⟩ | exact ⟨rfl, _, Eq.trans (World.drewN_drewN _ _ _) (congrArg (World.drewN _) (Nat.add_assoc _ _ _))⟩); obtain ⟨Ao21, co21, eo21⟩ := Kd.R_slice HO_9.out; subst eo21) | (go_at_call 17; (with_reducible refine (spec_hasName.calls kj11 _ _ x9_1 x13_11 false _ ?side1 ?side2 A17.out).mono ?_); (case side1 => repeat (first | exact (Kd.R_reads' HO_9.out).2.2 | (with_reducible refine Kd.C_alloc ?_ _) | (with_reducible refine Kd.C_drewN ?_ _) | (with_reducible refine Kd.C_drew ?_))); (case side2 => exact (Kd.R_reads' HO_9.out).2.1); rintro e w' ⟨rfl, ⟨nd, rfl⟩⟩; (try first | exact ⟨rfl, _, World.drewN_drewN _ _ _⟩ | exact ⟨rfl, _, Eq.trans (World.drewN_drewN _ _ _) (congrArg (World.drewN _) (Nat.add_assoc _ _ _))⟩)) | ((with_reducible refine gate_builtin (b := .append) (xs := #[.tmp 45, .tmp 47]) rfl ?_); at_builtin; refine Kd.R_append Kd.string (w0 := w) w.heap.size rfl (.tmp 45) (.tmp 47) 24 9 (.string ⟨#[]⟩) 16 rfl Try.underlying24 info9 rfl (by decide) (by omega) (.slice Ao21 x9_1.length co21) x9_1 x13_11 [.string x13_11] (fun _ => True) (fun _ => False) rfl rfl ?aP (fun _ hk => hk.elim) ?aF ?aO ?aB ?aS ?aL ?_; (case aP => exact rfl); (case aB => exact (by repeat (first | (with_reducible first | exact HB.out | apply below_alloc | apply pw_below_drewN | apply below_drew1) | exact HB.out))); (case aF => exact (fun _ _ => trivial)); (case aO => exact (by (with_reducible repeat (first | apply Kd.R_alloc | apply Kd.R_drewN | apply Kd.R_drew)); exact HO_9.out)); (case aS => exact (below_size (by repeat (first | (with_reducible first | exact HB.out | apply below_alloc | apply pw_below_drewN | apply below_drew1) | exact HB.out)))); (case aL => have := LMc20.out; omega); intro v135 w22 ho hb hg hat; rw [← Ny134.out] at ho; have n0_ := Aside0.mk (hb); have n1_ := Aside0.mk (ho); clear HB; clear HO_9; have HB := n0_; have HO136 := n1_; clear n0_ n1_; clear ho hb hg hat))
                            repeat (go_quiet (first | (go_at_call 26; (with_reducible refine (spec_inDomain.calls _ _ (rd_L1 l0 x17_1) a1 true _ ?side1 ?side2 A14.out).mono ?_); (case side1 => repeat (first | exact (Kd.C_below HR129_0.out HB.out) | (with_reducible refine Kd.C_alloc ?_ _) | (with_reducible refine Kd.C_drewN ?_ _) | (with_reducible refine Kd.C_drew ?_))); (case side2 => exact HC129_0.out); rintro e w' ⟨rfl, ⟨nd, rfl⟩⟩; (try first | exact ⟨rfl, _, World.drewN_drewN _ _ _⟩ | exact ⟨rfl, _, Eq.trans (World.drewN_drewN _ _ _) (congrArg (World.drewN _) (Nat.add_assoc _ _ _))⟩); obtain ⟨Ao21, co21, eo21⟩ := Kd.R_slice HO_9.out; subst eo21) | (go_at_call 17; (with_reducible refine (spec_hasName.calls kj11 _ _ x9_1 x13_11 false _ ?side1 ?side2 A17.out).mono ?_); (case side1 => repeat (first | exact (Kd.R_reads' HO_9.out).2.2 | (with_reducible refine Kd.C_alloc ?_ _) | (with_reducible refine Kd.C_drewN ?_ _) | (with_reducible refine Kd.C_drew ?_))); (case side2 => exact (Kd.R_reads' HO_9.out).2.1); rintro e w' ⟨rfl, ⟨nd, rfl⟩⟩; (try first | exact ⟨rfl, _, World.drewN_drewN _ _ _⟩ | exact ⟨rfl, _, Eq.trans (World.drewN_drewN _ _ _) (congrArg (World.drewN _) (Nat.add_assoc _ _ _))⟩)) | ((with_reducible refine gate_builtin (b := .append) (xs := #[.tmp 45, .tmp 47]) rfl ?_); at_builtin; refine Kd.R_append Kd.string (w0 := w) w.heap.size rfl (.tmp 45) (.tmp 47) 24 9 (.string ⟨#[]⟩) 16 rfl Try.underlying24 info9 rfl (by decide) (by omega) (.slice Ao21 x9_1.length co21) x9_1 x13_11 [.string x13_11] (fun _ => True) (fun _ => False) rfl rfl ?aP (fun _ hk => hk.elim) ?aF ?aO ?aB ?aS ?aL ?_; (case aP => exact rfl); (case aB => exact (by repeat (first | (with_reducible first | exact HB.out | apply below_alloc | apply pw_below_drewN | apply below_drew1) | exact HB.out))); (case aF => exact (fun _ _ => trivial)); (case aO => exact (by (with_reducible repeat (first | apply Kd.R_alloc | apply Kd.R_drewN | apply Kd.R_drew)); exact HO_9.out)); (case aS => exact (below_size (by repeat (first | (with_reducible first | exact HB.out | apply below_alloc | apply pw_below_drewN | apply below_drew1) | exact HB.out)))); (case aL => have := LMc20.out; omega); intro v135 w22 ho hb hg hat; rw [← Ny134.out] at ho; have n0_ := Aside0.mk (hb); have n1_ := Aside0.mk (ho); clear HB; clear HO_9; have HB := n0_; have HO136 := n1_; clear n0_ n1_; clear ho hb hg hat)); try go_wp2_with (first | (go_at_call 26; (with_reducible refine (spec_inDomain.calls _ _ (rd_L1 l0 x17_1) a1 true _ ?side1 ?side2 A14.out).mono ?_); (case side1 => repeat (first | exact (Kd.C_below HR129_0.out HB.out) | (with_reducible refine Kd.C_alloc ?_ _) | (with_reducible refine Kd.C_drewN ?_ _) | (with_reducible refine Kd.C_drew ?_))); (case side2 => exact HC129_0.out); rintro e w' ⟨rfl, ⟨nd, rfl⟩⟩; (try first | exact ⟨rfl, _, World.drewN_drewN _ _ _⟩ | exact ⟨rfl, _, Eq.trans (World.drewN_drewN _ _ _) (congrArg (World.drewN _) (Nat.add_assoc _ _ _))⟩); obtain ⟨Ao21, co21, eo21⟩ := Kd.R_slice HO_9.out; subst eo21) | (go_at_call 17; (with_reducible refine (spec_hasName.calls kj11 _ _ x9_1 x13_11 false _ ?side1 ?side2 A17.out).mono ?_); (case side1 => repeat (first | exact (Kd.R_reads' HO_9.out).2.2 | (with_reducible refine Kd.C_alloc ?_ _) | (with_reducible refine Kd.C_drewN ?_ _) | (with_reducible refine Kd.C_drew ?_))); (case side2 => exact (Kd.R_reads' HO_9.out).2.1); rintro e w' ⟨rfl, ⟨nd, rfl⟩⟩; (try first | exact ⟨rfl, _, World.drewN_drewN _ _ _⟩ | exact ⟨rfl, _, Eq.trans (World.drewN_drewN _ _ _) (congrArg (World.drewN _) (Nat.add_assoc _ _ _))⟩)) | ((with_reducible refine gate_builtin (b := .append) (xs := #[.tmp 45, .tmp 47]) rfl ?_); at_builtin; refine Kd.R_append Kd.string (w0 := w) w.heap.size rfl (.tmp 45) (.tmp 47) 24 9 (.string ⟨#[]⟩) 16 rfl Try.underlying24 info9 rfl (by decide) (by omega) (.slice Ao21 x9_1.length co21) x9_1 x13_11 [.string x13_11] (fun _ => True) (fun _ => False) rfl rfl ?aP (fun _ hk => hk.elim) ?aF ?aO ?aB ?aS ?aL ?_; (case aP => exact rfl); (case aB => exact (by repeat (first | (with_reducible first | exact HB.out | apply below_alloc | apply pw_below_drewN | apply below_drew1) | exact HB.out))); (case aF => exact (fun _ _ => trivial)); (case aO => exact (by (with_reducible repeat (first | apply Kd.R_alloc | apply Kd.R_drewN | apply Kd.R_drew)); exact HO_9.out)); (case aS => exact (below_size (by repeat (first | (with_reducible first | exact HB.out | apply below_alloc | apply pw_below_drewN | apply below_drew1) | exact HB.out)))); (case aL => have := LMc20.out; omega); intro v135 w22 ho hb hg hat; rw [← Ny134.out] at ho; have n0_ := Aside0.mk (hb); have n1_ := Aside0.mk (ho); clear HB; clear HO_9; have HB := n0_; have HO136 := n1_; clear n0_ n1_; clear ho hb hg hat)))
                            go_roundg kj11
                            case measure => have := HK1.out; have := HJ11.out; omega
                            case rel => exact ⟨(y134), (wrap64 (x17_1 + 1)), (by first | rfl | (simp; done) | (simp [*]; done)), H', ⟨by have := HK1.out; have := HJ11.out; omega⟩, ⟨by (with_reducible repeat (first | apply Kd.R_alloc | apply Kd.R_drewN | apply Kd.R_drew)); exact HO136.out⟩, ⟨by repeat (first | (with_reducible first | exact HB.out | apply below_alloc | apply pw_below_drewN | apply below_drew1) | exact HB.out)⟩⟩
                          · rw [if_neg c20] at H
                            exact absurd H (by simp)
                      · rw [if_neg c16] at H
                        have c16b0 : (x12_11.toList == a2.toList) = false := beq_eq_false_iff_ne.mpr c16
                        have c16b1 : (x12_11.toList != a2.toList) = true := bne_iff_ne.mpr c16
                        have H' := Aside0.mk H
                        clear H
                        go_wp2_with (first | (go_at_call 26; (with_reducible refine (spec_inDomain.calls _ _ (rd_L1 l0 x17_1) a1 true _ ?side1 ?side2 A14.out).mono ?_); (case side1 => repeat (first | exact (Kd.C_below HR129_0.out HB.out) | (with_reducible refine Kd.C_alloc ?_ _) | (with_reducible refine Kd.C_drewN ?_ _) | (with_reducible refine Kd.C_drew ?_))); (case side2 => exact HC129_0.out); rintro e w' ⟨rfl, ⟨nd, rfl⟩⟩; (try first | exact ⟨rfl, _, World.drewN_drewN _ _ _⟩ | exact ⟨rfl, _, Eq.trans (World.drewN_drewN _ _ _) (congrArg (World.drewN _) (Nat.add_assoc _ _ _))⟩)))
                        repeat (go_quiet (first | (go_at_call 26; (with_reducible refine (spec_inDomain.calls _ _ (rd_L1 l0 x17_1) a1 true _ ?side1 ?side2 A14.out).mono ?_); (case side1 => repeat (first | exact (Kd.C_below HR129_0.out HB.out) | (with_reducible refine Kd.C_alloc ?_ _) | (with_reducible refine Kd.C_drewN ?_ _) | (with_reducible refine Kd.C_drew ?_))); (case side2 => exact HC129_0.out); rintro e w' ⟨rfl, ⟨nd, rfl⟩⟩; (try first | exact ⟨rfl, _, World.drewN_drewN _ _ _⟩ | exact ⟨rfl, _, Eq.trans (World.drewN_drewN _ _ _) (congrArg (World.drewN _) (Nat.add_assoc _ _ _))⟩))); try go_wp2_with (first | (go_at_call 26; (with_reducible refine (spec_inDomain.calls _ _ (rd_L1 l0 x17_1) a1 true _ ?side1 ?side2 A14.out).mono ?_); (case side1 => repeat (first | exact (Kd.C_below HR129_0.out HB.out) | (with_reducible refine Kd.C_alloc ?_ _) | (with_reducible refine Kd.C_drewN ?_ _) | (with_reducible refine Kd.C_drew ?_))); (case side2 => exact HC129_0.out); rintro e w' ⟨rfl, ⟨nd, rfl⟩⟩; (try first | exact ⟨rfl, _, World.drewN_drewN _ _ _⟩ | exact ⟨rfl, _, Eq.trans (World.drewN_drewN _ _ _) (congrArg (World.drewN _) (Nat.add_assoc _ _ _))⟩))))
                        go_roundg kj11
                        case measure => have := HK1.out; have := HJ11.out; omega
                        case rel => exact ⟨(x9_1), (wrap64 (x17_1 + 1)), (by first | rfl | (simp; done) | (simp [*]; done)), H', ⟨by have := HK1.out; have := HJ11.out; omega⟩, ⟨by (with_reducible repeat (first | apply Kd.R_alloc | apply Kd.R_drewN | apply Kd.R_drew)); exact HO_9.out⟩, ⟨by repeat (first | (with_reducible first | exact HB.out | apply below_alloc | apply pw_below_drewN | apply below_drew1) | exact HB.out)⟩⟩
                    · replace c15 := Bool.eq_false_iff.mpr c15
                      subst c15
                      have H1 : (spec_direct.l0 kj11 a1 a2 a3 x9_1 l0 (l0.length : Int) (wrap64 (x17_1 + 1))) = some r := by rw [if_neg (show ¬ (false = true) by decide)] at H; exact H
                      clear H
                      have H := H1
                      clear H1
                      have H' := Aside0.mk H
                      clear H
                      go_wp2_with (first | (go_at_call 26; (with_reducible refine (spec_inDomain.calls _ _ (rd_L1 l0 x17_1) a1 false _ ?side1 ?side2 A14.out).mono ?_); (case side1 => repeat (first | exact (Kd.C_below HR129_0.out HB.out) | (with_reducible refine Kd.C_alloc ?_ _) | (with_reducible refine Kd.C_drewN ?_ _) | (with_reducible refine Kd.C_drew ?_))); (case side2 => exact HC129_0.out); rintro e w' ⟨rfl, ⟨nd, rfl⟩⟩; (try first | exact ⟨rfl, _, World.drewN_drewN _ _ _⟩ | exact ⟨rfl, _, Eq.trans (World.drewN_drewN _ _ _) (congrArg (World.drewN _) (Nat.add_assoc _ _ _))⟩)))
                      repeat (go_quiet (first | (go_at_call 26; (with_reducible refine (spec_inDomain.calls _ _ (rd_L1 l0 x17_1) a1 false _ ?side1 ?side2 A14.out).mono ?_); (case side1 => repeat (first | exact (Kd.C_below HR129_0.out HB.out) | (with_reducible refine Kd.C_alloc ?_ _) | (with_reducible refine Kd.C_drewN ?_ _) | (with_reducible refine Kd.C_drew ?_))); (case side2 => exact HC129_0.out); rintro e w' ⟨rfl, ⟨nd, rfl⟩⟩; (try first | exact ⟨rfl, _, World.drewN_drewN _ _ _⟩ | exact ⟨rfl, _, Eq.trans (World.drewN_drewN _ _ _) (congrArg (World.drewN _) (Nat.add_assoc _ _ _))⟩))); try go_wp2_with (first | (go_at_call 26; (with_reducible refine (spec_inDomain.calls _ _ (rd_L1 l0 x17_1) a1 false _ ?side1 ?side2 A14.out).mono ?_); (case side1 => repeat (first | exact (Kd.C_below HR129_0.out HB.out) | (with_reducible refine Kd.C_alloc ?_ _) | (with_reducible refine Kd.C_drewN ?_ _) | (with_reducible refine Kd.C_drew ?_))); (case side2 => exact HC129_0.out); rintro e w' ⟨rfl, ⟨nd, rfl⟩⟩; (try first | exact ⟨rfl, _, World.drewN_drewN _ _ _⟩ | exact ⟨rfl, _, Eq.trans (World.drewN_drewN _ _ _) (congrArg (World.drewN _) (Nat.add_assoc _ _ _))⟩))))
                      go_roundg kj11
                      case measure => have := HK1.out; have := HJ11.out; omega
                      case rel => exact ⟨(x9_1), (wrap64 (x17_1 + 1)), (by first | rfl | (simp; done) | (simp [*]; done)), H', ⟨by have := HK1.out; have := HJ11.out; omega⟩, ⟨by (with_reducible repeat (first | apply Kd.R_alloc | apply Kd.R_drewN | apply Kd.R_drew)); exact HO_9.out⟩, ⟨by repeat (first | (with_reducible first | exact HB.out | apply below_alloc | apply pw_below_drewN | apply below_drew1) | exact HB.out)⟩⟩
              · rw [if_neg c11] at H
                exact absurd H (by simp)
            · rw [if_neg c10] at H
              exact absurd H (by simp)
          · rw [if_neg c9] at H
            exact absurd H (by simp)
        · rw [if_neg c8] at H
          exact absurd H (by simp)
      · rw [if_neg c7] at H
        have c7b0 : decide (x17_1 < (l0.length : Int)) = false := decide_eq_false c7
        clear c7
        obtain rfl := Option.some.inj H
        go_wp2
        repeat (go_quiet (fail); try go_wp2)
        go_ret
        exact ⟨_, by first | rfl | (simp [errW_none, errW_some] <;> rfl) | (simp [*, errW_none, errW_some] <;> rfl), by (with_reducible repeat (first | apply Kd.R_alloc | apply Kd.R_drewN | apply Kd.R_drew)); exact HO_9.out, by repeat (first | (with_reducible first | exact HB.out | apply below_alloc | apply pw_below_drewN | apply below_drew1) | exact HB.out)⟩

/-! ### spec_Users: function 7 -/
def spec_Users.f (k : Nat) (l0 : List (List ByteArray)) (a1 : ByteArray) (a2 : ByteArray) : Option (List ByteArray × Bool) := (spec_areLinks.f k l0 a1 a2).bind fun t137 => (if t137 = true then ((spec_direct.f k l0 a1 a2 false).bind fun t138 => (some (t138, true))) else (some (([] : List ByteArray), false)))
theorem spec_Users.mono : ∀ a0 a1 a2 k, LeO (spec_Users.f k a0 a1 a2) (spec_Users.f (k + 1) a0 a1 a2) := by
  intro a0 a1 a2 k
  unfold spec_Users.f
  repeat' first
      | (with_reducible exact spec_areLinks.mono _ _ _ _)
      | (with_reducible exact spec_direct.mono _ _ _ _ _)
      | (with_reducible exact LeO.refl _)
      | (with_reducible exact LeO.none _)
      | (with_reducible refine LeO.ite ?_ ?_)
      | (with_reducible refine LeO.bind ?_ (fun _ => ?_))
      | exact spec_areLinks.mono _ _ _ _
      | exact spec_direct.mono _ _ _ _ _
      | exact LeO.none _
      | refine LeO.ite ?_ ?_
      | refine LeO.bind ?_ (fun _ => ?_)
set_option maxHeartbeats 8000000 in
set_option maxRecDepth 100000 in
theorem spec_Users.calls (k : Nat) (A0 : Option Addr) (c0 : Nat) (l0 : List (List ByteArray)) (a1 : ByteArray) (a2 : ByteArray) (r1 : List ByteArray) (r2 : Bool) (w : World) (hr0 : Kd.C (Kd.slice 9 Kd.string) w A0 l0.length l0) (hc0 : l0.length ≤ c0) (h : spec_Users.f k l0 a1 a2 = some (r1, r2)) :
    Calls Try.prog 7 #[.slice A0 l0.length c0, .string a1, .string a2] w fun e w' => ∃ v0_ : Value, e = .returned (.tuple #[v0_, .bool r2]) ∧ Kd.R Kd.string 9 w' w.heap.size (fun _ => True) v0_ r1 ∧ Below w.heap.size w w' := by
  have HR0 := Aside0.mk hr0
  have HC0 := Aside0.mk hc0
  clear hr0 hc0
  have HB := Aside0.mk (Below.refl w.heap.size w)
  have H : ((spec_areLinks.f k l0 a1 a2).bind fun t137 => (if t137 = true then ((spec_direct.f k l0 a1 a2 false).bind fun t138 => (some (t138, true))) else (some (([] : List ByteArray), false)))) = some (r1, r2) := h
  clear h
  replace H := Option.bind_eq_some_iff.mp H
  obtain ⟨t137, A40, H⟩ := H
  replace H : (if t137 = true then ((spec_direct.f k l0 a1 a2 false).bind fun t138 => (some (t138, true))) else (some (([] : List ByteArray), false))) = some (r1, r2) := H
  have A4 := Aside0.mk A40
  clear A40
  by_cases c5 : t137 = true
  · subst c5
    have H1 : ((spec_direct.f k l0 a1 a2 false).bind fun t138 => (some (t138, true))) = some (r1, r2) := by rw [if_pos rfl] at H; exact H
    clear H
    have H := H1
    clear H1
    replace H := Option.bind_eq_some_iff.mp H
    obtain ⟨t138, A60, H⟩ := H
    replace H : (some (t138, true)) = some (r1, r2) := H
    have A6 := Aside0.mk A60
    clear A60
    simp only [Option.some.injEq, Prod.mk.injEq] at H
    obtain ⟨rfl, rfl⟩ := H
    go_enter Try.func7, Try.ntmps7
    go_wp2_with (first | ((with_reducible refine gate_callee (f := 15) rfl ?_); refine goesL_ (some 11) rfl rfl Try.func15 (by kernel_rfl) rfl #[.slice A0 l0.length c0, .string a1, .string a2] rfl (by (try simp only [List.map_toArray, List.map_cons, List.map_nil]); first | done | rfl | (simp only [List.length_drop, List.length_take]; rfl)) ?_; (with_reducible refine (spec_areLinks.calls k _ _ l0 a1 a2 true _ ?side1 ?side2 A4.out).mono ?_); (case side1 => repeat (first | exact HR0.out | (with_reducible refine Kd.C_alloc ?_ _) | (with_reducible refine Kd.C_drewN ?_ _) | (with_reducible refine Kd.C_drew ?_))); (case side2 => exact HC0.out); rintro e w' ⟨rfl, ⟨nd, rfl⟩⟩; refine ⟨_, rfl, ?_⟩) | ((with_reducible refine gate_callee (f := 16) rfl ?_); refine goesL_ (some 16) rfl rfl Try.func16 (by kernel_rfl) rfl #[.slice A0 l0.length c0, .string a1, .string a2, .bool false] rfl (by (try simp only [List.map_toArray, List.map_cons, List.map_nil]); first | done | rfl | (simp only [List.length_drop, List.length_take]; rfl)) ?_; (with_reducible refine (spec_direct.calls k _ _ l0 a1 a2 false t138 _ ?side1 ?side2 A6.out).mono ?_); (case side1 => repeat (first | exact HR0.out | (with_reducible refine Kd.C_alloc ?_ _) | (with_reducible refine Kd.C_drewN ?_ _) | (with_reducible refine Kd.C_drew ?_))); (case side2 => exact HC0.out); rintro e w7 ⟨v139, rfl, ho0, hb⟩; refine ⟨_, rfl, ?_⟩; have n0_ := Aside0.mk (Kd.R_lower ho0 (below_size (by repeat (first | (with_reducible first | exact HB.out | apply below_alloc | apply pw_below_drewN | apply below_drew1) | exact HB.out)))); have n1_ := Aside0.mk (below_step (by repeat (first | (with_reducible first | exact HB.out | apply below_alloc | apply pw_below_drewN | apply below_drew1) | exact HB.out)) hb); clear HB; have HO140 := n0_; have HB := n1_; clear n0_ n1_; (try clear hb); (try clear hb2); (try clear hk); (try clear hi); (try clear ho0)))
    go_ret2
    exact ⟨_, by first | rfl | (simp [errW_none, errW_some] <;> rfl) | (simp [*, errW_none, errW_some] <;> rfl), by (with_reducible repeat (first | apply Kd.R_alloc | apply Kd.R_drewN | apply Kd.R_drew)); exact HO140.out, by repeat (first | (with_reducible first | exact HB.out | apply below_alloc | apply pw_below_drewN | apply below_drew1) | exact HB.out)⟩
  · replace c5 := Bool.eq_false_iff.mpr c5
    subst c5
    have H1 : (some (([] : List ByteArray), false)) = some (r1, r2) := by rw [if_neg (show ¬ (false = true) by decide)] at H; exact H
    clear H
    have H := H1
    clear H1
    simp only [Option.some.injEq, Prod.mk.injEq] at H
    obtain ⟨rfl, rfl⟩ := H
    go_enter Try.func7, Try.ntmps7
    go_wp2_with (first | ((with_reducible refine gate_callee (f := 15) rfl ?_); refine goesL_ (some 11) rfl rfl Try.func15 (by kernel_rfl) rfl #[.slice A0 l0.length c0, .string a1, .string a2] rfl (by (try simp only [List.map_toArray, List.map_cons, List.map_nil]); first | done | rfl | (simp only [List.length_drop, List.length_take]; rfl)) ?_; (with_reducible refine (spec_areLinks.calls k _ _ l0 a1 a2 false _ ?side1 ?side2 A4.out).mono ?_); (case side1 => repeat (first | exact HR0.out | (with_reducible refine Kd.C_alloc ?_ _) | (with_reducible refine Kd.C_drewN ?_ _) | (with_reducible refine Kd.C_drew ?_))); (case side2 => exact HC0.out); rintro e w' ⟨rfl, ⟨nd, rfl⟩⟩; refine ⟨_, rfl, ?_⟩))
    go_ret2
    exact ⟨_, by first | rfl | (simp [errW_none, errW_some] <;> rfl) | (simp [*, errW_none, errW_some] <;> rfl), by first | exact Kd.R_nil _ _ _ _ _ | exact Kd.N_nil _ _ _ _ _ | exact Kd.V_nil _ _ _ _ _ | exact Kd.Q_nil _ _ _ _ _ | exact Kd.S_nil _ _ _ _ _, by repeat (first | (with_reducible first | exact HB.out | apply below_alloc | apply pw_below_drewN | apply below_drew1) | exact HB.out)⟩

/-! ### spec_SameNames: function 8 -/
def spec_SameNames.l0 : Nat → List ByteArray → List ByteArray → List ByteArray → Int → Int → Option (Bool)
  | 0, _, _, _, _, _ => none
  | k + 1, x0, x1, x7, x8, x9 => if x9 < x8 then (if 0 ≤ x9 then (if x9 < (x7.length : Int) then (if x9 ≤ (x0.length : Int) then ((spec_hasName.f k (x0.take (x9 : Int).toNat) (rdOf ByteArray.empty x7 x9)).bind fun t143 => (if t143 = true then (some false) else ((spec_hasName.f k x1 (rdOf ByteArray.empty x7 x9)).bind fun t144 => (if t144 = true then (spec_SameNames.l0 k x0 x1 x7 x8 (wrap64 (x9 + 1))) else (some false))))) else (none)) else (none)) else (none)) else (some ((x0.length : Int) == (x1.length : Int)))
def spec_SameNames.f (k : Nat) (l0 : List ByteArray) (l1 : List ByteArray) : Option (Bool) := spec_SameNames.l0 k l0 l1 l0 (l0.length : Int) 0
theorem spec_SameNames.mono_l : ∀ k, (∀ y0 y1 y2 y3 y4, LeO (spec_SameNames.l0 k y0 y1 y2 y3 y4) (spec_SameNames.l0 (k + 1) y0 y1 y2 y3 y4))
  | 0 => fun _ _ _ _ _ r h => by simp [spec_SameNames.l0] at h
  | k + 1 => by
    have ih0 := spec_SameNames.mono_l k
    · intro y0 y1 y2 y3 y4
      unfold spec_SameNames.l0
      repeat' first
      | (with_reducible exact ih0 _ _ _ _ _)
      | (with_reducible exact spec_hasName.mono _ _ _)
      | (with_reducible exact LeO.refl _)
      | (with_reducible exact LeO.none _)
      | (with_reducible refine LeO.ite ?_ ?_)
      | (with_reducible refine LeO.bind ?_ (fun _ => ?_))
      | exact ih0 _ _ _ _ _
      | exact spec_hasName.mono _ _ _
      | exact LeO.none _
      | refine LeO.ite ?_ ?_
      | refine LeO.bind ?_ (fun _ => ?_)
theorem spec_SameNames.mono : ∀ a0 a1 k, LeO (spec_SameNames.f k a0 a1) (spec_SameNames.f (k + 1) a0 a1) := by
  intro a0 a1 k
  have ih0 := spec_SameNames.mono_l k
  unfold spec_SameNames.f
  repeat' first
      | (with_reducible exact ih0 _ _ _ _ _)
      | (with_reducible exact spec_hasName.mono _ _ _)
      | (with_reducible exact LeO.refl _)
      | (with_reducible exact LeO.none _)
      | (with_reducible refine LeO.ite ?_ ?_)
      | (with_reducible refine LeO.bind ?_ (fun _ => ?_))
      | exact ih0 _ _ _ _ _
      | exact spec_hasName.mono _ _ _
      | exact LeO.none _
      | refine LeO.ite ?_ ?_
      | refine LeO.bind ?_ (fun _ => ?_)
set_option maxHeartbeats 8000000 in
set_option maxRecDepth 100000 in
theorem spec_SameNames.calls (k : Nat) (A0 : Option Addr) (c0 : Nat) (l0 : List ByteArray) (A1 : Option Addr) (c1 : Nat) (l1 : List ByteArray) (r : Bool) (w : World) (hr0 : Kd.C Kd.string w A0 l0.length l0) (hc0 : l0.length ≤ c0) (hr1 : Kd.C Kd.string w A1 l1.length l1) (hc1 : l1.length ≤ c1) (h : spec_SameNames.f k l0 l1 = some r) :
    Calls Try.prog 8 #[.slice A0 l0.length c0, .slice A1 l1.length c1] w fun e w' => e = .returned (.bool r) ∧ Drawn0 w w' := by
  have HR0 := Aside0.mk hr0
  have HC0 := Aside0.mk hc0
  clear hr0 hc0
  have HR1 := Aside0.mk hr1
  have HC1 := Aside0.mk hc1
  clear hr1 hc1
  have H : (spec_SameNames.l0 k l0 l1 l0 (l0.length : Int) 0) = some r := h
  clear h
  have H' := Aside0.mk H
  clear H
  go_enter Try.func8, Try.ntmps8
  go_wp2
  go_loopg [9] k (fun kq v9 w' => ∃ (x9_1 : Int), v9 = .int .i64 x9_1 ∧ Aside0 (spec_SameNames.l0 kq l0 l1 l0 (l0.length : Int) x9_1 = some r) ∧ Aside0 (kq ≤ k) ∧ Drawn0 w w')
  case atStart => exact ⟨(0), (by first | rfl | (simp; done) | (simp [*]; done)), H', ⟨Nat.le_refl _⟩, by repeat (first | exact Drawn0.refl _ | apply Drawn0.step)⟩
  case round =>
    clear H'
    try clear c1
    try clear p2
    obtain ⟨x9_1, rfl, HA, HK1, ⟨m1, rfl⟩⟩ := hrel
    cases gk with
    | zero => exact absurd HA.out (by simp [spec_SameNames.l0])
    | succ k1 =>
      have H := HA.out
      clear HA
      simp only [spec_SameNames.l0] at H
      by_cases c3 : x9_1 < (l0.length : Int)
      · rw [if_pos c3] at H
        have c3b0 : decide (x9_1 < (l0.length : Int)) = true := decide_eq_true c3
        clear c3
        by_cases c4 : 0 ≤ x9_1
        · rw [if_pos c4] at H
          have c4b0 : decide (0 ≤ x9_1) = true := decide_eq_true c4
          clear c4
          by_cases c5 : x9_1 < (l0.length : Int)
          · rw [if_pos c5] at H
            have c5b0 : decide (x9_1 < (l0.length : Int)) = true := decide_eq_true c5
            clear c5
            have c6b0 := eq_true (of_decide_eq_true (by first | (with_reducible assumption) | assumption) : 0 ≤ x9_1)
            by_cases c7 : x9_1 ≤ (l0.length : Int)
            · rw [if_pos c7] at H
              have c7b0 := eq_true c7
              have c7b1 : decide (x9_1 ≤ (l0.length : Int)) = true := decide_eq_true c7
              clear c7
              replace H := Option.bind_eq_some_iff.mp H
              obtain ⟨t143, A80, H⟩ := H
              replace H : (if t143 = true then (some false) else ((spec_hasName.f k1 l1 (rdOf ByteArray.empty l0 x9_1)).bind fun t144 => (if t144 = true then (spec_SameNames.l0 k1 l0 l1 l0 (l0.length : Int) (wrap64 (x9_1 + 1))) else (some false)))) = some r := H
              have A8 := Aside0.mk A80
              clear A80
              by_cases c9 : t143 = true
              · subst c9
                have H1 : (some false) = some r := by rw [if_pos rfl] at H; exact H
                clear H
                have H := H1
                clear H1
                obtain rfl := Option.some.inj H
                have p141 : 0 ≤ (x9_1 : Int) := of_decide_eq_true (by first | (with_reducible assumption) | assumption)
                have q141 : x9_1 < (l0.length : Int) := of_decide_eq_true (by first | (with_reducible assumption) | assumption)
                obtain ⟨ad141, e141, hx141_0⟩ := Kd.at_string HR0.out x9_1 p141 q141
                cases e141
                replace p141 := eq_true p141
                replace q141 := eq_true q141
                obtain ⟨i010, hi010, _, hsz10, _⟩ := info_parts info9
                obtain ⟨hcut10, hA10, hC10⟩ := print_take_of (P := Try.prog) Value.string (⟨#[]⟩ : ByteArray) 24 9 .i64 Try.underlying24 hi010 hsz10 (some ad141) c0 l0 x9_1 (of_decide_eq_true (by first | (with_reducible assumption) | assumption)) (of_decide_eq_true (by first | (with_reducible assumption) | assumption)) HC0.out
                have HR142 := Aside0.mk (Kd.C_of_reads (h1 := fun _ => rfl) (hA10 _ (Kd.reads_of_C HR0.out)))
                have HC142 := Aside0.mk hC10
                clear hA10 hC10 hi010 hsz10
                go_wp2_with (first | ((with_reducible refine gate_callee (f := 17) rfl ?_); refine goesL_ (some 18) rfl rfl Try.func17 (by kernel_rfl) rfl #[.slice (some ad141) (l0.take (x9_1 : Int).toNat).length c0, .string (rdOf ByteArray.empty l0 x9_1)] rfl (by (try simp only [List.map_toArray, List.map_cons, List.map_nil]); first | done | (rw [show (l0.take (x9_1 : Int).toNat).length = x9_1.toNat from (by rw [List.length_take]; have h_ : (x9_1 : Int) ≤ (l0.length : Int) := of_decide_eq_true (by first | (with_reducible assumption) | assumption); omega)] <;> rfl) | rfl | (simp only [List.length_drop, List.length_take]; rfl)) ?_; (with_reducible refine (spec_hasName.calls k1 _ _ (l0.take (x9_1 : Int).toNat) (rdOf ByteArray.empty l0 x9_1) true _ ?side1 ?side2 A8.out).mono ?_); (case side1 => repeat (first | exact HR142.out | (with_reducible refine Kd.C_alloc ?_ _) | (with_reducible refine Kd.C_drewN ?_ _) | (with_reducible refine Kd.C_drew ?_))); (case side2 => exact HC142.out); rintro e w' ⟨rfl, ⟨nd, rfl⟩⟩; refine ⟨_, rfl, ?_⟩))
                go_ret
                exact ⟨by first | rfl | (simp; done) | (simp [*]; done), by repeat (first | exact Drawn0.refl _ | apply Drawn0.step)⟩
              · replace c9 := Bool.eq_false_iff.mpr c9
                subst c9
                have H1 : ((spec_hasName.f k1 l1 (rdOf ByteArray.empty l0 x9_1)).bind fun t144 => (if t144 = true then (spec_SameNames.l0 k1 l0 l1 l0 (l0.length : Int) (wrap64 (x9_1 + 1))) else (some false))) = some r := by rw [if_neg (show ¬ (false = true) by decide)] at H; exact H
                clear H
                have H := H1
                clear H1
                replace H := Option.bind_eq_some_iff.mp H
                obtain ⟨t144, A110, H⟩ := H
                replace H : (if t144 = true then (spec_SameNames.l0 k1 l0 l1 l0 (l0.length : Int) (wrap64 (x9_1 + 1))) else (some false)) = some r := H
                have A11 := Aside0.mk A110
                clear A110
                by_cases c12 : t144 = true
                · subst c12
                  have H1 : (spec_SameNames.l0 k1 l0 l1 l0 (l0.length : Int) (wrap64 (x9_1 + 1))) = some r := by rw [if_pos rfl] at H; exact H
                  clear H
                  have H := H1
                  clear H1
                  have H' := Aside0.mk H
                  clear H
                  have p141 : 0 ≤ (x9_1 : Int) := of_decide_eq_true (by first | (with_reducible assumption) | assumption)
                  have q141 : x9_1 < (l0.length : Int) := of_decide_eq_true (by first | (with_reducible assumption) | assumption)
                  obtain ⟨ad141, e141, hx141_0⟩ := Kd.at_string HR0.out x9_1 p141 q141
                  cases e141
                  replace p141 := eq_true p141
                  replace q141 := eq_true q141
                  obtain ⟨i013, hi013, _, hsz13, _⟩ := info_parts info9
                  obtain ⟨hcut13, hA13, hC13⟩ := print_take_of (P := Try.prog) Value.string (⟨#[]⟩ : ByteArray) 24 9 .i64 Try.underlying24 hi013 hsz13 (some ad141) c0 l0 x9_1 (of_decide_eq_true (by first | (with_reducible assumption) | assumption)) (of_decide_eq_true (by first | (with_reducible assumption) | assumption)) HC0.out
                  have HR142 := Aside0.mk (Kd.C_of_reads (h1 := fun _ => rfl) (hA13 _ (Kd.reads_of_C HR0.out)))
                  have HC142 := Aside0.mk hC13
                  clear hA13 hC13 hi013 hsz13
                  go_wp2_with (first | ((with_reducible refine gate_callee (f := 17) rfl ?_); refine goesL_ (some 18) rfl rfl Try.func17 (by kernel_rfl) rfl #[.slice (some ad141) (l0.take (x9_1 : Int).toNat).length c0, .string (rdOf ByteArray.empty l0 x9_1)] rfl (by (try simp only [List.map_toArray, List.map_cons, List.map_nil]); first | done | (rw [show (l0.take (x9_1 : Int).toNat).length = x9_1.toNat from (by rw [List.length_take]; have h_ : (x9_1 : Int) ≤ (l0.length : Int) := of_decide_eq_true (by first | (with_reducible assumption) | assumption); omega)] <;> rfl) | rfl | (simp only [List.length_drop, List.length_take]; rfl)) ?_; (with_reducible refine (spec_hasName.calls k1 _ _ (l0.take (x9_1 : Int).toNat) (rdOf ByteArray.empty l0 x9_1) false _ ?side1 ?side2 A8.out).mono ?_); (case side1 => repeat (first | exact HR142.out | (with_reducible refine Kd.C_alloc ?_ _) | (with_reducible refine Kd.C_drewN ?_ _) | (with_reducible refine Kd.C_drew ?_))); (case side2 => exact HC142.out); rintro e w' ⟨rfl, ⟨nd, rfl⟩⟩; refine ⟨_, rfl, ?_⟩) | (go_at_call 17; (with_reducible refine (spec_hasName.calls k1 _ _ l1 (rdOf ByteArray.empty l0 x9_1) true _ ?side1 ?side2 A11.out).mono ?_); (case side1 => repeat (first | exact HR1.out | (with_reducible refine Kd.C_alloc ?_ _) | (with_reducible refine Kd.C_drewN ?_ _) | (with_reducible refine Kd.C_drew ?_))); (case side2 => exact HC1.out); rintro e w' ⟨rfl, ⟨nd, rfl⟩⟩))
                  go_roundg k1
                  case measure => have := HK1.out; omega
                  case rel => exact ⟨(wrap64 (x9_1 + 1)), (by first | rfl | (simp; done) | (simp [*]; done)), H', ⟨by have := HK1.out; omega⟩, by repeat (first | exact Drawn0.refl _ | apply Drawn0.step)⟩
                · replace c12 := Bool.eq_false_iff.mpr c12
                  subst c12
                  have H1 : (some false) = some r := by rw [if_neg (show ¬ (false = true) by decide)] at H; exact H
                  clear H
                  have H := H1
                  clear H1
                  obtain rfl := Option.some.inj H
                  have p141 : 0 ≤ (x9_1 : Int) := of_decide_eq_true (by first | (with_reducible assumption) | assumption)
                  have q141 : x9_1 < (l0.length : Int) := of_decide_eq_true (by first | (with_reducible assumption) | assumption)
                  obtain ⟨ad141, e141, hx141_0⟩ := Kd.at_string HR0.out x9_1 p141 q141
                  cases e141
                  replace p141 := eq_true p141
                  replace q141 := eq_true q141
                  obtain ⟨i014, hi014, _, hsz14, _⟩ := info_parts info9
                  obtain ⟨hcut14, hA14, hC14⟩ := print_take_of (P := Try.prog) Value.string (⟨#[]⟩ : ByteArray) 24 9 .i64 Try.underlying24 hi014 hsz14 (some ad141) c0 l0 x9_1 (of_decide_eq_true (by first | (with_reducible assumption) | assumption)) (of_decide_eq_true (by first | (with_reducible assumption) | assumption)) HC0.out
                  have HR142 := Aside0.mk (Kd.C_of_reads (h1 := fun _ => rfl) (hA14 _ (Kd.reads_of_C HR0.out)))
                  have HC142 := Aside0.mk hC14
                  clear hA14 hC14 hi014 hsz14
                  go_wp2_with (first | ((with_reducible refine gate_callee (f := 17) rfl ?_); refine goesL_ (some 18) rfl rfl Try.func17 (by kernel_rfl) rfl #[.slice (some ad141) (l0.take (x9_1 : Int).toNat).length c0, .string (rdOf ByteArray.empty l0 x9_1)] rfl (by (try simp only [List.map_toArray, List.map_cons, List.map_nil]); first | done | (rw [show (l0.take (x9_1 : Int).toNat).length = x9_1.toNat from (by rw [List.length_take]; have h_ : (x9_1 : Int) ≤ (l0.length : Int) := of_decide_eq_true (by first | (with_reducible assumption) | assumption); omega)] <;> rfl) | rfl | (simp only [List.length_drop, List.length_take]; rfl)) ?_; (with_reducible refine (spec_hasName.calls k1 _ _ (l0.take (x9_1 : Int).toNat) (rdOf ByteArray.empty l0 x9_1) false _ ?side1 ?side2 A8.out).mono ?_); (case side1 => repeat (first | exact HR142.out | (with_reducible refine Kd.C_alloc ?_ _) | (with_reducible refine Kd.C_drewN ?_ _) | (with_reducible refine Kd.C_drew ?_))); (case side2 => exact HC142.out); rintro e w' ⟨rfl, ⟨nd, rfl⟩⟩; refine ⟨_, rfl, ?_⟩) | (go_at_call 17; (with_reducible refine (spec_hasName.calls k1 _ _ l1 (rdOf ByteArray.empty l0 x9_1) false _ ?side1 ?side2 A11.out).mono ?_); (case side1 => repeat (first | exact HR1.out | (with_reducible refine Kd.C_alloc ?_ _) | (with_reducible refine Kd.C_drewN ?_ _) | (with_reducible refine Kd.C_drew ?_))); (case side2 => exact HC1.out); rintro e w' ⟨rfl, ⟨nd, rfl⟩⟩))
                  go_ret
                  exact ⟨by first | rfl | (simp; done) | (simp [*]; done), by repeat (first | exact Drawn0.refl _ | apply Drawn0.step)⟩
            · rw [if_neg c7] at H
              exact absurd H (by simp)
          · rw [if_neg c5] at H
            exact absurd H (by simp)
        · rw [if_neg c4] at H
          exact absurd H (by simp)
      · rw [if_neg c3] at H
        have c3b0 : decide (x9_1 < (l0.length : Int)) = false := decide_eq_false c3
        clear c3
        obtain rfl := Option.some.inj H
        go_wp2
        go_ret
        exact ⟨by first | rfl | (simp; done) | (simp [*]; done), by repeat (first | exact Drawn0.refl _ | apply Drawn0.step)⟩

-- NOT PRINTED: function 91 (casbin_NewLRUCache)

-- NOT PRINTED: function 77 (casbin_NewSyncLRUCache)

-- NOT PRINTED: function 56 (casbin_DomainManager_Clear)

-- NOT PRINTED: function 38 (casbin_NewDomainManager)

-- NOT PRINTED: function 27 (casbin_NewRoleManager)

-- NOT PRINTED: function 18 (impl_managerOf)

/-! ### impl_domainsOf: function 20 -/
def impl_domainsOf.f (a0 : ByteArray) : Option (List ByteArray) := if a0.toList = ([] : List UInt8) then (some ([] : List ByteArray)) else (some (([a0] : List ByteArray)))
set_option maxHeartbeats 8000000 in
set_option maxRecDepth 100000 in
theorem impl_domainsOf.calls (a0 : ByteArray) (r : List ByteArray) (w : World) (h : impl_domainsOf.f a0 = some r) :
    Calls Try.prog 20 #[.string a0] w fun e w' => ∃ v0_ : Value, e = .returned (v0_) ∧ Kd.R Kd.string 9 w' w.heap.size (fun _ => True) v0_ r ∧ Below w.heap.size w w' := by
  have HB := Aside0.mk (Below.refl w.heap.size w)
  have H : (if a0.toList = ([] : List UInt8) then (some ([] : List ByteArray)) else (some (([a0] : List ByteArray)))) = some r := h
  clear h
  by_cases c2 : a0.toList = ([] : List UInt8)
  · rw [if_pos c2] at H
    have c2b0 : (a0.toList == ([] : List UInt8)) = true := beq_iff_eq.mpr c2
    have c2b1 : (a0.toList != ([] : List UInt8)) = false := bne_eq_false_iff_eq.mpr c2
    clear c2
    obtain rfl := Option.some.inj H
    go_enter Try.func20, Try.ntmps20
    go_wp2
    go_ret
    exact ⟨_, by first | rfl | (simp [errW_none, errW_some] <;> rfl) | (simp [*, errW_none, errW_some] <;> rfl), by first | exact Kd.R_nil _ _ _ _ _ | exact Kd.N_nil _ _ _ _ _ | exact Kd.V_nil _ _ _ _ _ | exact Kd.Q_nil _ _ _ _ _ | exact Kd.S_nil _ _ _ _ _, by repeat (first | (with_reducible first | exact HB.out | apply below_alloc | apply pw_below_drewN | apply below_drew1) | exact HB.out)⟩
  · rw [if_neg c2] at H
    have c2b0 : (a0.toList == ([] : List UInt8)) = false := beq_eq_false_iff_ne.mpr c2
    have c2b1 : (a0.toList != ([] : List UInt8)) = true := bne_iff_ne.mpr c2
    obtain ⟨y145, hy145⟩ : ∃ y_ : List ByteArray, y_ = (([a0] : List ByteArray)) := ⟨_, rfl⟩
    replace H : (some y145) = some r := by first | (rw [hy145]; with_reducible exact H) | (have H2_ := (Option.bind_some _ _).symm.trans H; rw [hy145]; with_reducible exact H2_) | (have H2_ := (Option.bind_some _ _).symm.trans H; with_reducible exact H2_) | with_reducible exact H | (rw [hy145]; exact H) | exact H
    have Ny145 := Aside0.mk hy145
    clear hy145
    obtain rfl := Option.some.inj H
    go_enter Try.func20, Try.ntmps20
    go_wp2_with (first | ((with_reducible refine gate_dst (N := 6) rfl ?_); refine Kd.R_lit Kd.string _ 9 ?hg (N := 6) ?hd (xs := ([a0] : List ByteArray)) (inner := [.string a0]) (ok := fun _ => True) (okp := fun _ => True) ?hr ?hp (fun _ hk => hk) trivial (Below.refl _ _) (Nat.le_refl _) (by simp) ?_; (case hd => rfl); (case hg => rfl); (case hr => first | (go_simp; done) | (go_simp; rfl)); (case hp => exact (Reps.one (show Kd.M Kd.string _ _ _ a0 [.string a0] from rfl) (Reps.none _ _))); intro v146 w3 ho4 hb hg_ hnew_; clear hg_ hnew_; (first | rw [← Ny145.out] at ho4 | (simp only [Int.reduceToNat] at ho4; rw [← Ny145.out] at ho4)); have n0_ := Aside0.mk (Kd.R_lower ho4 (below_size (by repeat (first | (with_reducible first | exact HB.out | apply below_alloc | apply pw_below_drewN | apply below_drew1) | exact HB.out)))); have n1_ := Aside0.mk (below_step (by repeat (first | (with_reducible first | exact HB.out | apply below_alloc | apply pw_below_drewN | apply below_drew1) | exact HB.out)) hb); clear HB; have HO147 := n0_; have HB := n1_; clear n0_ n1_; clear hb ho4))
    go_ret
    exact ⟨_, by first | rfl | (simp [errW_none, errW_some] <;> rfl) | (simp [*, errW_none, errW_some] <;> rfl), by (with_reducible repeat (first | apply Kd.R_alloc | apply Kd.R_drewN | apply Kd.R_drew)); exact HO147.out, by repeat (first | (with_reducible first | exact HB.out | apply below_alloc | apply pw_below_drewN | apply below_drew1) | exact HB.out)⟩

-- NOT PRINTED: function 9 (impl_UsersOf)

-- NOT PRINTED: function 3 (laws_FnUsers)

end Go.Proofs.Ytpdejkalcminbaa.PFnUsers
