-- PRINTED BY print.sh 35421559b90ae4d0a3588c463048766b98c2df88dd9212a6774a882060cdf62d: not written by this session
import Derived.Test.YtmmjbhdjjhbjmaaPFnKeyGetx0
import Derived.Test.YtmmjbhdjjhbjmaaPFnKeyGetx1
import Derived.Test.YtmmjbhdjjhbjmaaPFnKeyGetx2
namespace Go.Proofs.Ytmmjbhdjjhbjmaa.PFnKeyGet
open Go.RowKit Go.Proofs.YtmmjbhdjjhbjmaaW.PrintWords Go.Proofs.YtmmjbhdjjhbjmaaW.PrintLast Go.Proofs.YtmmjbhdjjhbjmaaW.PrintMore
attribute [local go_sem] max2_int min2_int max_two min_two max_three min_three max_four min_four   -- for this text's walks alone
set_option linter.unusedVariables false
set_option linter.unusedSimpArgs false

/-! ### spec_isPattern: function 15 -/
mutual
def spec_isPattern.l0 : Nat → ByteArray → Bool → Bool → List ByteArray → List ByteArray → List ByteArray → Int → Int → Option (Bool)
  | 0, _, _, _, _, _, _, _, _ => none
  | k + 1, x0, x1, x2, x7, x8, x16, x17, x18 => if x18 < x17 then (if 0 ≤ x18 then (if x18 < (x16.length : Int) then ((spec_nameIn.f k (rdOf ByteArray.empty x16 x18) x1).bind fun bt127 => (if bt127.2 = true then (if x2 = true then (spec_isPattern.j1 k x0 x1 x2 x7 x8 x18 (rdOf ByteArray.empty x16 x18) bt127.1 bt127.2 x16 x17 x18 true) else ((spec_hasName.f k x7 bt127.1).bind fun t129 => (spec_isPattern.j1 k x0 x1 x2 x7 x8 x18 (rdOf ByteArray.empty x16 x18) bt127.1 bt127.2 x16 x17 x18 (!t129)))) else (spec_isPattern.j1 k x0 x1 x2 x7 x8 x18 (rdOf ByteArray.empty x16 x18) bt127.1 bt127.2 x16 x17 x18 false))) else (none)) else (none)) else (if (x0.size : Int) ≤ 60 then (if (x0.size : Int) > 0 then (if 0 < (x0.size : Int) then (some ((bt x0 0) == 47)) else (none)) else (some false)) else (some false))
def spec_isPattern.j1 : Nat → ByteArray → Bool → Bool → List ByteArray → List ByteArray → Int → ByteArray → ByteArray → Bool → List ByteArray → Int → Int → Bool → Option (Bool)
  | 0, _, _, _, _, _, _, _, _, _, _, _, _, _ => none
  | k + 1, x0, x1, x2, x7, x8, x9, x10, x11, x12, x16, x17, x18, x29 => if x29 = true then (if x7.length < 8796093022208 then (spec_isPattern.l0 k x0 x1 x2 (x7 ++ [x11]) x8 x16 x17 (wrap64 (x18 + 1))) else (none)) else (if x12 = true then (some false) else (if x10.toList = ([42] : List UInt8) then (if x9 = (wrap64 ((x8.length : Int) - 1)) then (if x9 > 0 then (spec_isPattern.j2 k x0 x1 x2 x7 x8 x10 x16 x17 x18 (!x2)) else (spec_isPattern.j2 k x0 x1 x2 x7 x8 x10 x16 x17 x18 false)) else (spec_isPattern.j2 k x0 x1 x2 x7 x8 x10 x16 x17 x18 false)) else (spec_isPattern.j2 k x0 x1 x2 x7 x8 x10 x16 x17 x18 false)))
def spec_isPattern.j2 : Nat → ByteArray → Bool → Bool → List ByteArray → List ByteArray → ByteArray → List ByteArray → Int → Int → Bool → Option (Bool)
  | 0, _, _, _, _, _, _, _, _, _, _ => none
  | k + 1, x0, x1, x2, x7, x8, x10, x16, x17, x18, x46 => if x46 = true then (spec_isPattern.l0 k x0 x1 x2 x7 x8 x16 x17 (wrap64 (x18 + 1))) else ((spec_isKey.f k x10).bind fun t133 => (if t133 = true then (spec_isPattern.l0 k x0 x1 x2 x7 x8 x16 x17 (wrap64 (x18 + 1))) else (some false)))
end
def spec_isPattern.f (k : Nat) (a0 : ByteArray) (a1 : Bool) (a2 : Bool) : Option (Bool) := (spec_split.f k a0).bind fun t123 => (spec_isPattern.l0 k a0 a1 a2 (([] : List ByteArray)) t123 t123 (t123.length : Int) 0)
theorem spec_isPattern.mono_l : ∀ k, (∀ y0 y1 y2 y3 y4 y5 y6 y7, LeO (spec_isPattern.l0 k y0 y1 y2 y3 y4 y5 y6 y7) (spec_isPattern.l0 (k + 1) y0 y1 y2 y3 y4 y5 y6 y7)) ∧ (∀ y0 y1 y2 y3 y4 y5 y6 y7 y8 y9 y10 y11 y12, LeO (spec_isPattern.j1 k y0 y1 y2 y3 y4 y5 y6 y7 y8 y9 y10 y11 y12) (spec_isPattern.j1 (k + 1) y0 y1 y2 y3 y4 y5 y6 y7 y8 y9 y10 y11 y12)) ∧ (∀ y0 y1 y2 y3 y4 y5 y6 y7 y8 y9, LeO (spec_isPattern.j2 k y0 y1 y2 y3 y4 y5 y6 y7 y8 y9) (spec_isPattern.j2 (k + 1) y0 y1 y2 y3 y4 y5 y6 y7 y8 y9))
  | 0 => ⟨fun _ _ _ _ _ _ _ _ r h => by simp [spec_isPattern.l0] at h, fun _ _ _ _ _ _ _ _ _ _ _ _ _ r h => by simp [spec_isPattern.j1] at h, fun _ _ _ _ _ _ _ _ _ _ r h => by simp [spec_isPattern.j2] at h⟩
  | k + 1 => by
    obtain ⟨ih0, ih1, ih2⟩ := spec_isPattern.mono_l k
    refine ⟨?_, ?_, ?_⟩
    · intro y0 y1 y2 y3 y4 y5 y6 y7
      unfold spec_isPattern.l0
      repeat' first
      | (with_reducible exact ih0 _ _ _ _ _ _ _ _)
      | (with_reducible exact ih1 _ _ _ _ _ _ _ _ _ _ _ _ _)
      | (with_reducible exact ih2 _ _ _ _ _ _ _ _ _ _)
      | (with_reducible exact spec_hasName.mono _ _ _)
      | (with_reducible exact spec_isKey.mono _ _)
      | (with_reducible exact spec_nameIn.mono _ _ _)
      | (with_reducible exact spec_split.mono _ _)
      | (with_reducible exact LeO.refl _)
      | (with_reducible exact LeO.none _)
      | (with_reducible refine LeO.ite ?_ ?_)
      | (with_reducible refine LeO.bind ?_ (fun _ => ?_))
      | exact ih0 _ _ _ _ _ _ _ _
      | exact ih1 _ _ _ _ _ _ _ _ _ _ _ _ _
      | exact ih2 _ _ _ _ _ _ _ _ _ _
      | exact spec_hasName.mono _ _ _
      | exact spec_isKey.mono _ _
      | exact spec_nameIn.mono _ _ _
      | exact spec_split.mono _ _
      | exact LeO.none _
      | refine LeO.ite ?_ ?_
      | refine LeO.bind ?_ (fun _ => ?_)
    · intro y0 y1 y2 y3 y4 y5 y6 y7 y8 y9 y10 y11 y12
      unfold spec_isPattern.j1
      repeat' first
      | (with_reducible exact ih0 _ _ _ _ _ _ _ _)
      | (with_reducible exact ih1 _ _ _ _ _ _ _ _ _ _ _ _ _)
      | (with_reducible exact ih2 _ _ _ _ _ _ _ _ _ _)
      | (with_reducible exact spec_hasName.mono _ _ _)
      | (with_reducible exact spec_isKey.mono _ _)
      | (with_reducible exact spec_nameIn.mono _ _ _)
      | (with_reducible exact spec_split.mono _ _)
      | (with_reducible exact LeO.refl _)
      | (with_reducible exact LeO.none _)
      | (with_reducible refine LeO.ite ?_ ?_)
      | (with_reducible refine LeO.bind ?_ (fun _ => ?_))
      | exact ih0 _ _ _ _ _ _ _ _
      | exact ih1 _ _ _ _ _ _ _ _ _ _ _ _ _
      | exact ih2 _ _ _ _ _ _ _ _ _ _
      | exact spec_hasName.mono _ _ _
      | exact spec_isKey.mono _ _
      | exact spec_nameIn.mono _ _ _
      | exact spec_split.mono _ _
      | exact LeO.none _
      | refine LeO.ite ?_ ?_
      | refine LeO.bind ?_ (fun _ => ?_)
    · intro y0 y1 y2 y3 y4 y5 y6 y7 y8 y9
      unfold spec_isPattern.j2
      repeat' first
      | (with_reducible exact ih0 _ _ _ _ _ _ _ _)
      | (with_reducible exact ih1 _ _ _ _ _ _ _ _ _ _ _ _ _)
      | (with_reducible exact ih2 _ _ _ _ _ _ _ _ _ _)
      | (with_reducible exact spec_hasName.mono _ _ _)
      | (with_reducible exact spec_isKey.mono _ _)
      | (with_reducible exact spec_nameIn.mono _ _ _)
      | (with_reducible exact spec_split.mono _ _)
      | (with_reducible exact LeO.refl _)
      | (with_reducible exact LeO.none _)
      | (with_reducible refine LeO.ite ?_ ?_)
      | (with_reducible refine LeO.bind ?_ (fun _ => ?_))
      | exact ih0 _ _ _ _ _ _ _ _
      | exact ih1 _ _ _ _ _ _ _ _ _ _ _ _ _
      | exact ih2 _ _ _ _ _ _ _ _ _ _
      | exact spec_hasName.mono _ _ _
      | exact spec_isKey.mono _ _
      | exact spec_nameIn.mono _ _ _
      | exact spec_split.mono _ _
      | exact LeO.none _
      | refine LeO.ite ?_ ?_
      | refine LeO.bind ?_ (fun _ => ?_)
theorem spec_isPattern.mono : ∀ a0 a1 a2 k, LeO (spec_isPattern.f k a0 a1 a2) (spec_isPattern.f (k + 1) a0 a1 a2) := by
  intro a0 a1 a2 k
  obtain ⟨ih0, ih1, ih2⟩ := spec_isPattern.mono_l k
  unfold spec_isPattern.f
  repeat' first
      | (with_reducible exact ih0 _ _ _ _ _ _ _ _)
      | (with_reducible exact ih1 _ _ _ _ _ _ _ _ _ _ _ _ _)
      | (with_reducible exact ih2 _ _ _ _ _ _ _ _ _ _)
      | (with_reducible exact spec_hasName.mono _ _ _)
      | (with_reducible exact spec_isKey.mono _ _)
      | (with_reducible exact spec_nameIn.mono _ _ _)
      | (with_reducible exact spec_split.mono _ _)
      | (with_reducible exact LeO.refl _)
      | (with_reducible exact LeO.none _)
      | (with_reducible refine LeO.ite ?_ ?_)
      | (with_reducible refine LeO.bind ?_ (fun _ => ?_))
      | exact ih0 _ _ _ _ _ _ _ _
      | exact ih1 _ _ _ _ _ _ _ _ _ _ _ _ _
      | exact ih2 _ _ _ _ _ _ _ _ _ _
      | exact spec_hasName.mono _ _ _
      | exact spec_isKey.mono _ _
      | exact spec_nameIn.mono _ _ _
      | exact spec_split.mono _ _
      | exact LeO.none _
      | refine LeO.ite ?_ ?_
      | refine LeO.bind ?_ (fun _ => ?_)
set_option maxHeartbeats 8000000 in
set_option maxRecDepth 100000 in
theorem spec_isPattern.calls (k : Nat) (a0 : ByteArray) (a1 : Bool) (a2 : Bool) (r : Bool) (w : World) (h : spec_isPattern.f k a0 a1 a2 = some r) :
    Calls Try.prog 15 #[.string a0, .bool a1, .bool a2] w fun e w' => e = .returned (.bool r) ∧ Below w.heap.size w w' := by
  have HB := Aside0.mk (Below.refl w.heap.size w)
  have H : ((spec_split.f k a0).bind fun t123 => (spec_isPattern.l0 k a0 a1 a2 (([] : List ByteArray)) t123 t123 (t123.length : Int) 0)) = some r := h
  clear h
  obtain ⟨y120, hy120⟩ : ∃ y_ : List ByteArray, y_ = (([] : List ByteArray)) := ⟨_, rfl⟩
  replace H : ((spec_split.f k a0).bind fun t123 => (spec_isPattern.l0 k a0 a1 a2 y120 t123 t123 (t123.length : Int) 0)) = some r := by first | (rw [hy120]; with_reducible exact H) | (have H2_ := (Option.bind_some _ _).symm.trans H; rw [hy120]; with_reducible exact H2_) | (have H2_ := (Option.bind_some _ _).symm.trans H; with_reducible exact H2_) | with_reducible exact H | (rw [hy120]; exact H) | exact H
  have Ny120 := Aside0.mk hy120
  clear hy120
  replace H := Option.bind_eq_some_iff.mp H
  obtain ⟨t123, A40, H⟩ := H
  replace H : (spec_isPattern.l0 k a0 a1 a2 y120 t123 t123 (t123.length : Int) 0) = some r := H
  have A4 := Aside0.mk A40
  clear A40
  have H' := Aside0.mk H
  clear H
  go_enter Try.func15, Try.ntmps15
  go_wp2_with (first | ((with_reducible refine gate_dst (N := 13) rfl ?_); (try (refine gate_guard (by rfl) ?_; dsimp only)); refine Kd.R_lit Kd.string _ 9 ?hg (N := 13) ?hd (xs := ([] : List ByteArray)) (inner := []) (ok := fun _ => True) (okp := fun _ => True) ?hr ?hp (fun _ hk => hk) trivial (Below.refl _ _) (Nat.le_refl _) (by simp) ?_; (case hd => rfl); (case hg => rfl); (case hr => first | (go_simp; done) | (go_simp; rfl)); (case hp => exact (Reps.none _ _)); intro v121 w5 ho6 hb hg_ hnew_; clear hg_ hnew_; (first | rw [← Ny120.out] at ho6 | (simp only [Int.reduceToNat] at ho6; rw [← Ny120.out] at ho6)); have n0_ := Aside0.mk (Kd.R_lower ho6 (below_size (by repeat (first | (with_reducible first | exact HB.out | apply below_alloc | apply pw_below_drewN | apply below_drew1) | exact HB.out)))); have n1_ := Aside0.mk (below_step (by repeat (first | (with_reducible first | exact HB.out | apply below_alloc | apply pw_below_drewN | apply below_drew1) | exact HB.out)) hb); clear HB; have HO122 := n0_; have HB := n1_; clear n0_ n1_; clear hb ho6) | ((with_reducible refine gate_callee (f := 16) rfl ?_); refine goesL_ (some 15) rfl rfl Try.func16 (by kernel_rfl) rfl #[.string a0] rfl (by (try simp only [List.map_toArray, List.map_cons, List.map_nil]); first | done | rfl | (simp only [List.length_drop, List.length_take]; rfl)) ?_; (with_reducible refine (spec_split.calls k a0 t123 _ A4.out).mono ?_); rintro e w7 ⟨v124, rfl, ho0, hb⟩; refine ⟨_, rfl, ?_⟩; have n0_ := Aside0.mk (Kd.R_elder' (by (with_reducible repeat (first | apply Kd.R_alloc | apply Kd.R_drewN | apply Kd.R_drew)); exact HO122.out) (Kd.R_base ho0) hb); have n1_ := Aside0.mk (Kd.R_lower (Kd.R_new' ho0 (Kd.R_lt (by (with_reducible repeat (first | apply Kd.R_alloc | apply Kd.R_drewN | apply Kd.R_drew)); exact HO122.out))) (below_size (by repeat (first | (with_reducible first | exact HB.out | apply below_alloc | apply pw_below_drewN | apply below_drew1) | exact HB.out)))); have n2_ := Aside0.mk (below_step (by repeat (first | (with_reducible first | exact HB.out | apply below_alloc | apply pw_below_drewN | apply below_drew1) | exact HB.out)) hb); clear HO122; clear HB; have HO122 := n0_; have HO125 := n1_; have HB := n2_; clear n0_ n1_ n2_; (try clear hb); (try clear hb2); (try clear hk); (try clear hi); (try clear ho0); obtain ⟨Ao8, co8, eo8⟩ := Kd.R_slice HO125.out; subst eo8))
  go_loopg [7, 18] k (fun kq v7 v18 w' => ∃ (x7_1 : List ByteArray) (x18_1 : Int), v18 = .int .i64 x18_1 ∧ Aside0 (spec_isPattern.l0 kq a0 a1 a2 x7_1 t123 t123 (t123.length : Int) x18_1 = some r) ∧ Aside0 (kq ≤ k) ∧ Aside0 (Kd.R Kd.string 9 w' w.heap.size (fun k_ => some k_ ≠ ((.slice Ao8 t123.length co8) : Value).ownBlock ∧ some k_ ≠ ((.slice Ao8 t123.length co8) : Value).ownBlock) v7 x7_1) ∧ Aside0 (Kd.R Kd.string 9 w' w.heap.size (fun k_ => some k_ ≠ (v7 : Value).ownBlock) (.slice Ao8 t123.length co8) t123) ∧ Aside0 (Kd.R Kd.string 9 w' w.heap.size (fun k_ => some k_ ≠ (v7 : Value).ownBlock) (.slice Ao8 t123.length co8) t123) ∧ Aside0 (Below w.heap.size w w'))
  case atStart => exact ⟨(y120), (0), (by first | rfl | (simp; done) | (simp [*]; done)), H', ⟨Nat.le_refl _⟩, ⟨by (with_reducible repeat (first | apply Kd.R_alloc | apply Kd.R_drewN | apply Kd.R_drew)); exact Kd.R_mono HO122.out (fun _ hk => ⟨hk.2, hk.2⟩)⟩, ⟨by (with_reducible repeat (first | apply Kd.R_alloc | apply Kd.R_drewN | apply Kd.R_drew)); exact Kd.R_mono HO125.out (fun _ hk => hk.2)⟩, ⟨by (with_reducible repeat (first | apply Kd.R_alloc | apply Kd.R_drewN | apply Kd.R_drew)); exact Kd.R_mono HO125.out (fun _ hk => hk.2)⟩, ⟨by repeat (first | (with_reducible first | exact HB.out | apply below_alloc | apply pw_below_drewN | apply below_drew1) | exact HB.out)⟩⟩
  case round =>
    clear H'
    try clear c1
    try clear p2
    obtain ⟨x7_1, x18_1, rfl, HA, HK1, HO_7, HO_8, HO_16, HB⟩ := hrel
    cases gk with
    | zero => exact absurd HA.out (by simp [spec_isPattern.l0])
    | succ k1 =>
      have H := HA.out
      clear HA
      simp only [spec_isPattern.l0] at H
      by_cases c9 : x18_1 < (t123.length : Int)
      · rw [if_pos c9] at H
        have c9b0 : decide (x18_1 < (t123.length : Int)) = true := decide_eq_true c9
        clear c9
        by_cases c10 : 0 ≤ x18_1
        · rw [if_pos c10] at H
          have c10b0 : decide (0 ≤ x18_1) = true := decide_eq_true c10
          clear c10
          by_cases c11 : x18_1 < (t123.length : Int)
          · rw [if_pos c11] at H
            have c11b0 : decide (x18_1 < (t123.length : Int)) = true := decide_eq_true c11
            clear c11
            replace H := Option.bind_eq_some_iff.mp H
            obtain ⟨⟨t127, t128⟩, A120, H⟩ := H
            replace H : (if t128 = true then (if a2 = true then (spec_isPattern.j1 k1 a0 a1 a2 x7_1 t123 x18_1 (rdOf ByteArray.empty t123 x18_1) t127 t128 t123 (t123.length : Int) x18_1 true) else ((spec_hasName.f k1 x7_1 t127).bind fun t129 => (spec_isPattern.j1 k1 a0 a1 a2 x7_1 t123 x18_1 (rdOf ByteArray.empty t123 x18_1) t127 t128 t123 (t123.length : Int) x18_1 (!t129)))) else (spec_isPattern.j1 k1 a0 a1 a2 x7_1 t123 x18_1 (rdOf ByteArray.empty t123 x18_1) t127 t128 t123 (t123.length : Int) x18_1 false)) = some r := H
            have A12 := Aside0.mk A120
            clear A120
            have HC13 := Aside0.mk H
            clear H
            have p126 : 0 ≤ (x18_1 : Int) := of_decide_eq_true (by first | (with_reducible assumption) | assumption)
            have q126 : x18_1 < (t123.length : Int) := of_decide_eq_true (by first | (with_reducible assumption) | assumption)
            obtain ⟨ad126, e126, hx126_0⟩ := Kd.at_string (Kd.R_reads' HO_16.out).2.2 x18_1 p126 q126
            cases e126
            replace p126 := eq_true p126
            replace q126 := eq_true q126
            go_upto_region 6 with (first | ((with_reducible refine gate_callee (f := 17) rfl ?_); refine goesL_ (some 26) rfl rfl Try.func17 (by kernel_rfl) rfl #[.string (rdOf ByteArray.empty t123 x18_1), .bool a1] rfl (by (try simp only [List.map_toArray, List.map_cons, List.map_nil]); first | done | rfl | (simp only [List.length_drop, List.length_take]; rfl)) ?_; (with_reducible refine (spec_nameIn.calls k1 (rdOf ByteArray.empty t123 x18_1) a1 t127 t128 _ A12.out).mono ?_); rintro e w' ⟨rfl, ⟨nd, rfl⟩⟩; refine ⟨_, rfl, ?_⟩))
            (try simp only [Act.put, List.setIfInBounds_toArray, List.set_cons_zero, List.set_cons_succ])
            go_cut [29] (fun v29 wc => ∃ (kq : Nat) (x29_12 : Bool), v29 = .bool x29_12 ∧ Aside0 (spec_isPattern.j1 kq a0 a1 a2 x7_1 t123 x18_1 (rdOf ByteArray.empty t123 x18_1) t127 t128 t123 (t123.length : Int) x18_1 x29_12 = some r) ∧ Aside0 (kq ≤ k1) ∧ Aside0 (Kd.R Kd.string 9 wc w.heap.size (fun k_ => some k_ ≠ ((.slice (some ad126) t123.length co8) : Value).ownBlock ∧ some k_ ≠ ((.slice (some ad126) t123.length co8) : Value).ownBlock) u7 x7_1) ∧ Aside0 (Kd.R Kd.string 9 wc w.heap.size (fun k_ => some k_ ≠ (u7 : Value).ownBlock) (.slice (some ad126) t123.length co8) t123) ∧ Aside0 (Kd.R Kd.string 9 wc w.heap.size (fun k_ => some k_ ≠ (u7 : Value).ownBlock) (.slice (some ad126) t123.length co8) t123) ∧ Aside0 (Below w.heap.size w wc))
            case first =>
              have H := HC13.out
              clear HC13
              by_cases c14 : t128 = true
              · subst c14
                have H1 : (if a2 = true then (spec_isPattern.j1 k1 a0 a1 a2 x7_1 t123 x18_1 (rdOf ByteArray.empty t123 x18_1) t127 true t123 (t123.length : Int) x18_1 true) else ((spec_hasName.f k1 x7_1 t127).bind fun t129 => (spec_isPattern.j1 k1 a0 a1 a2 x7_1 t123 x18_1 (rdOf ByteArray.empty t123 x18_1) t127 true t123 (t123.length : Int) x18_1 (!t129)))) = some r := by rw [if_pos rfl] at H; exact H
                clear H
                have H := H1
                clear H1
                by_cases c15 : a2 = true
                · subst c15
                  have H1 : (spec_isPattern.j1 k1 a0 a1 true x7_1 t123 x18_1 (rdOf ByteArray.empty t123 x18_1) t127 true t123 (t123.length : Int) x18_1 true) = some r := by rw [if_pos rfl] at H; exact H
                  clear H
                  have H := H1
                  clear H1
                  have H' := Aside0.mk H
                  clear H
                  go_wp2
                  go_meet
                  case rel => exact ⟨_, (true), (by first | rfl | (simp; done) | (simp [*]; done)), H', ⟨by have := HK1.out; first | omega | exact Nat.le_refl _⟩, ⟨by (with_reducible repeat (first | apply Kd.R_alloc | apply Kd.R_drewN | apply Kd.R_drew)); exact HO_7.out⟩, ⟨by (with_reducible repeat (first | apply Kd.R_alloc | apply Kd.R_drewN | apply Kd.R_drew)); exact HO_8.out⟩, ⟨by (with_reducible repeat (first | apply Kd.R_alloc | apply Kd.R_drewN | apply Kd.R_drew)); exact HO_16.out⟩, ⟨by repeat (first | (with_reducible first | exact HB.out | apply below_alloc | apply pw_below_drewN | apply below_drew1) | exact HB.out)⟩⟩
                · replace c15 := Bool.eq_false_iff.mpr c15
                  subst c15
                  have H1 : ((spec_hasName.f k1 x7_1 t127).bind fun t129 => (spec_isPattern.j1 k1 a0 a1 false x7_1 t123 x18_1 (rdOf ByteArray.empty t123 x18_1) t127 true t123 (t123.length : Int) x18_1 (!t129))) = some r := by rw [if_neg (show ¬ (false = true) by decide)] at H; exact H
                  clear H
                  have H := H1
                  clear H1
                  replace H := Option.bind_eq_some_iff.mp H
                  obtain ⟨t129, A160, H⟩ := H
                  replace H : (spec_isPattern.j1 k1 a0 a1 false x7_1 t123 x18_1 (rdOf ByteArray.empty t123 x18_1) t127 true t123 (t123.length : Int) x18_1 (!t129)) = some r := H
                  have A16 := Aside0.mk A160
                  clear A160
                  have H' := Aside0.mk H
                  clear H
                  obtain ⟨Ao17, co17, eo17⟩ := Kd.R_slice HO_7.out
                  subst eo17
                  go_wp2_with (first | (go_at_call 22; (with_reducible refine (spec_hasName.calls k1 _ _ x7_1 t127 t129 _ ?side1 ?side2 A16.out).mono ?_); (case side1 => repeat (first | exact (Kd.R_reads' HO_7.out).2.2 | (with_reducible refine Kd.C_alloc ?_ _) | (with_reducible refine Kd.C_drewN ?_ _) | (with_reducible refine Kd.C_drew ?_))); (case side2 => exact (Kd.R_reads' HO_7.out).2.1); rintro e w' ⟨rfl, ⟨nd, rfl⟩⟩))
                  go_meet
                  case rel => exact ⟨_, (!t129), (by first | rfl | (simp; done) | (simp [*]; done)), H', ⟨by have := HK1.out; first | omega | exact Nat.le_refl _⟩, ⟨by (with_reducible repeat (first | apply Kd.R_alloc | apply Kd.R_drewN | apply Kd.R_drew)); exact HO_7.out⟩, ⟨by (with_reducible repeat (first | apply Kd.R_alloc | apply Kd.R_drewN | apply Kd.R_drew)); exact HO_8.out⟩, ⟨by (with_reducible repeat (first | apply Kd.R_alloc | apply Kd.R_drewN | apply Kd.R_drew)); exact HO_16.out⟩, ⟨by repeat (first | (with_reducible first | exact HB.out | apply below_alloc | apply pw_below_drewN | apply below_drew1) | exact HB.out)⟩⟩
              · replace c14 := Bool.eq_false_iff.mpr c14
                subst c14
                have H1 : (spec_isPattern.j1 k1 a0 a1 a2 x7_1 t123 x18_1 (rdOf ByteArray.empty t123 x18_1) t127 false t123 (t123.length : Int) x18_1 false) = some r := by rw [if_neg (show ¬ (false = true) by decide)] at H; exact H
                clear H
                have H := H1
                clear H1
                have H' := Aside0.mk H
                clear H
                go_wp2
                go_meet
                case rel => exact ⟨_, (false), (by first | rfl | (simp; done) | (simp [*]; done)), H', ⟨by have := HK1.out; first | omega | exact Nat.le_refl _⟩, ⟨by (with_reducible repeat (first | apply Kd.R_alloc | apply Kd.R_drewN | apply Kd.R_drew)); exact HO_7.out⟩, ⟨by (with_reducible repeat (first | apply Kd.R_alloc | apply Kd.R_drewN | apply Kd.R_drew)); exact HO_8.out⟩, ⟨by (with_reducible repeat (first | apply Kd.R_alloc | apply Kd.R_drewN | apply Kd.R_drew)); exact HO_16.out⟩, ⟨by repeat (first | (with_reducible first | exact HB.out | apply below_alloc | apply pw_below_drewN | apply below_drew1) | exact HB.out)⟩⟩
            case rest =>
              clear HC13
              try clear c1
              try clear p1
              try clear q1
              try clear hx1
              try clear p2
              try clear c9
              try clear c9b0
              try clear c10
              try clear c10b0
              try clear c11
              try clear c11b0
              try clear p12
              try clear q12
              try clear hx12
              try clear c14
              try clear c15
              try clear c16
              try clear c17
              try clear hx126_0
              try clear p126
              try clear p2
              try clear q126
              obtain ⟨kq, x29_12, rfl, HA, HJ12, HO_7, HO_8, HO_16, HB⟩ := hcut
              cases kq with
              | zero => exact absurd HA.out (by simp [spec_isPattern.j1])
              | succ kj12 =>
                have H := HA.out
                clear HA
                simp only [spec_isPattern.j1] at H
                by_cases c18 : x29_12 = true
                · subst c18
                  have H1 : (if x7_1.length < 8796093022208 then (spec_isPattern.l0 kj12 a0 a1 a2 (x7_1 ++ [t127]) t123 t123 (t123.length : Int) (wrap64 (x18_1 + 1))) else (none)) = some r := by rw [if_pos rfl] at H; exact H
                  clear H
                  have H := H1
                  clear H1
                  by_cases c19 : x7_1.length < 8796093022208
                  · rw [if_pos c19] at H
                    have LMc19 := Aside0.mk c19
                    clear c19
                    obtain ⟨y130, hy130⟩ : ∃ y_ : List ByteArray, y_ = (x7_1 ++ [t127]) := ⟨_, rfl⟩
                    replace H : (spec_isPattern.l0 kj12 a0 a1 a2 y130 t123 t123 (t123.length : Int) (wrap64 (x18_1 + 1))) = some r := by first | (rw [hy130]; with_reducible exact H) | (have H2_ := (Option.bind_some _ _).symm.trans H; rw [hy130]; with_reducible exact H2_) | (have H2_ := (Option.bind_some _ _).symm.trans H; with_reducible exact H2_) | with_reducible exact H | (rw [hy130]; exact H) | exact H
                    have Ny130 := Aside0.mk hy130
                    clear hy130
                    have H' := Aside0.mk H
                    clear H
                    go_wp2_with (first | ((with_reducible refine gate_builtin (b := .append) (xs := #[.tmp 40, .tmp 42]) rfl ?_); (try (refine gate_guard (by rfl) ?_; dsimp only)); at_builtin; refine Kd.R_append Kd.string (w0 := w) w.heap.size rfl (.tmp 40) (.tmp 42) 37 9 (.string ⟨#[]⟩) 16 rfl Try.underlying37 info9 rfl (by decide) (by omega) u7 x7_1 t127 [.string t127] (fun k_ => some k_ ≠ (.slice (some ad126) t123.length co8 : Value).ownBlock ∧ some k_ ≠ (.slice (some ad126) t123.length co8 : Value).ownBlock) (fun _ => False) rfl rfl ?aP (fun _ hk => hk.elim) ?aF ?aO ?aB ?aS ?aL ?_; (case aP => exact rfl); (case aB => exact (by repeat (first | (with_reducible first | exact HB.out | apply below_alloc | apply pw_below_drewN | apply below_drew1) | exact HB.out))); (case aF => exact (fun k_ hk => ⟨Kd.fresh' (Kd.R_lt (by (with_reducible repeat (first | apply Kd.R_alloc | apply Kd.R_drewN | apply Kd.R_drew)); exact HO_8.out)) k_ hk, Kd.fresh' (Kd.R_lt (by (with_reducible repeat (first | apply Kd.R_alloc | apply Kd.R_drewN | apply Kd.R_drew)); exact HO_16.out)) k_ hk⟩)); (case aO => exact (by (with_reducible repeat (first | apply Kd.R_alloc | apply Kd.R_drewN | apply Kd.R_drew)); exact HO_7.out)); (case aS => exact (below_size (by repeat (first | (with_reducible first | exact HB.out | apply below_alloc | apply pw_below_drewN | apply below_drew1) | exact HB.out)))); (case aL => have := LMc19.out; omega); intro v131 w20 ho hb hg hat; rw [← Ny130.out] at ho; have n0_ := Aside0.mk (Kd.R_after (ok := (fun _ => True)) (by (with_reducible repeat (first | apply Kd.R_alloc | apply Kd.R_drewN | apply Kd.R_drew)); exact Kd.R_mono HO_8.out (fun _ hk => ⟨trivial, hk⟩)) hg hat); have n1_ := Aside0.mk (Kd.R_after (ok := (fun _ => True)) (by (with_reducible repeat (first | apply Kd.R_alloc | apply Kd.R_drewN | apply Kd.R_drew)); exact Kd.R_mono HO_16.out (fun _ hk => ⟨trivial, hk⟩)) hg hat); have n2_ := Aside0.mk (hb); have n3_ := Aside0.mk (ho); clear HO_8; clear HO_16; clear HB; clear HO_7; have HO_8 := n0_; have HO_16 := n1_; have HB := n2_; have HO132 := n3_; clear n0_ n1_ n2_ n3_; clear ho hb hg hat))
                    go_roundg kj12
                    case measure => have := HK1.out; have := HJ12.out; omega
                    case rel => exact ⟨(y130), (wrap64 (x18_1 + 1)), (by first | rfl | (simp; done) | (simp [*]; done)), H', ⟨by have := HK1.out; have := HJ12.out; omega⟩, ⟨by (with_reducible repeat (first | apply Kd.R_alloc | apply Kd.R_drewN | apply Kd.R_drew)); exact HO132.out⟩, ⟨by (with_reducible repeat (first | apply Kd.R_alloc | apply Kd.R_drewN | apply Kd.R_drew)); exact Kd.R_mono HO_8.out (fun _ hk => hk.2)⟩, ⟨by (with_reducible repeat (first | apply Kd.R_alloc | apply Kd.R_drewN | apply Kd.R_drew)); exact Kd.R_mono HO_16.out (fun _ hk => hk.2)⟩, ⟨by repeat (first | (with_reducible first | exact HB.out | apply below_alloc | apply pw_below_drewN | apply below_drew1) | exact HB.out)⟩⟩
                  · rw [if_neg c19] at H
                    exact absurd H (by simp)
                · replace c18 := Bool.eq_false_iff.mpr c18
                  subst c18
                  have H1 : (if t128 = true then (some false) else (if (rdOf ByteArray.empty t123 x18_1).toList = ([42] : List UInt8) then (if x18_1 = (wrap64 ((t123.length : Int) - 1)) then (if x18_1 > 0 then (spec_isPattern.j2 kj12 a0 a1 a2 x7_1 t123 (rdOf ByteArray.empty t123 x18_1) t123 (t123.length : Int) x18_1 (!a2)) else (spec_isPattern.j2 kj12 a0 a1 a2 x7_1 t123 (rdOf ByteArray.empty t123 x18_1) t123 (t123.length : Int) x18_1 false)) else (spec_isPattern.j2 kj12 a0 a1 a2 x7_1 t123 (rdOf ByteArray.empty t123 x18_1) t123 (t123.length : Int) x18_1 false)) else (spec_isPattern.j2 kj12 a0 a1 a2 x7_1 t123 (rdOf ByteArray.empty t123 x18_1) t123 (t123.length : Int) x18_1 false))) = some r := by rw [if_neg (show ¬ (false = true) by decide)] at H; exact H
                  clear H
                  have H := H1
                  clear H1
                  by_cases c21 : t128 = true
                  · subst c21
                    have H1 : (some false) = some r := by rw [if_pos rfl] at H; exact H
                    clear H
                    have H := H1
                    clear H1
                    obtain rfl := Option.some.inj H
                    go_wp2
                    go_ret
                    exact ⟨by first | rfl | (simp [errW_none, errW_some] <;> rfl) | (simp [*, errW_none, errW_some] <;> rfl), by repeat (first | (with_reducible first | exact HB.out | apply below_alloc | apply pw_below_drewN | apply below_drew1) | exact HB.out)⟩
                  · replace c21 := Bool.eq_false_iff.mpr c21
                    subst c21
                    have H1 : (if (rdOf ByteArray.empty t123 x18_1).toList = ([42] : List UInt8) then (if x18_1 = (wrap64 ((t123.length : Int) - 1)) then (if x18_1 > 0 then (spec_isPattern.j2 kj12 a0 a1 a2 x7_1 t123 (rdOf ByteArray.empty t123 x18_1) t123 (t123.length : Int) x18_1 (!a2)) else (spec_isPattern.j2 kj12 a0 a1 a2 x7_1 t123 (rdOf ByteArray.empty t123 x18_1) t123 (t123.length : Int) x18_1 false)) else (spec_isPattern.j2 kj12 a0 a1 a2 x7_1 t123 (rdOf ByteArray.empty t123 x18_1) t123 (t123.length : Int) x18_1 false)) else (spec_isPattern.j2 kj12 a0 a1 a2 x7_1 t123 (rdOf ByteArray.empty t123 x18_1) t123 (t123.length : Int) x18_1 false)) = some r := by rw [if_neg (show ¬ (false = true) by decide)] at H; exact H
                    clear H
                    have H := H1
                    clear H1
                    have HC22 := Aside0.mk H
                    clear H
                    go_upto_region 10 with (fail)
                    go_cut [46] (fun v46 wc => ∃ (kq : Nat) (x46_21 : Bool), v46 = .bool x46_21 ∧ Aside0 (spec_isPattern.j2 kq a0 a1 a2 x7_1 t123 (rdOf ByteArray.empty t123 x18_1) t123 (t123.length : Int) x18_1 x46_21 = some r) ∧ Aside0 (kq ≤ kj12) ∧ Aside0 (Kd.R Kd.string 9 wc w.heap.size (fun k_ => some k_ ≠ ((.slice (some ad126) t123.length co8) : Value).ownBlock ∧ some k_ ≠ ((.slice (some ad126) t123.length co8) : Value).ownBlock) u7 x7_1) ∧ Aside0 (Kd.R Kd.string 9 wc w.heap.size (fun k_ => some k_ ≠ (u7 : Value).ownBlock) (.slice (some ad126) t123.length co8) t123) ∧ Aside0 (Kd.R Kd.string 9 wc w.heap.size (fun k_ => some k_ ≠ (u7 : Value).ownBlock) (.slice (some ad126) t123.length co8) t123) ∧ Aside0 (Below w.heap.size w wc))
                    case first =>
                      have H := HC22.out
                      clear HC22
                      by_cases c23 : (rdOf ByteArray.empty t123 x18_1).toList = ([42] : List UInt8)
                      · rw [if_pos c23] at H
                        have c23b0 : ((rdOf ByteArray.empty t123 x18_1).toList == ([42] : List UInt8)) = true := beq_iff_eq.mpr c23
                        have c23b1 : ((rdOf ByteArray.empty t123 x18_1).toList != ([42] : List UInt8)) = false := bne_eq_false_iff_eq.mpr c23
                        clear c23
                        (first | rw [c23b0] | (simp only [i64_w, i32_w]; rw [c23b0]) | skip)
                        by_cases c24 : x18_1 = (wrap64 ((t123.length : Int) - 1))
                        · rw [if_pos c24] at H
                          have c24b0 : (x18_1 == (wrap64 ((t123.length : Int) - 1))) = true := beq_iff_eq.mpr c24
                          have c24b1 : (x18_1 != (wrap64 ((t123.length : Int) - 1))) = false := bne_eq_false_iff_eq.mpr c24
                          clear c24
                          by_cases c25 : x18_1 > 0
                          · rw [if_pos c25] at H
                            have c25b0 : decide (0 < x18_1) = true := decide_eq_true c25
                            clear c25
                            have H' := Aside0.mk H
                            clear H
                            go_wp2
                            go_meet
                            case rel => exact ⟨_, (!a2), (by first | rfl | (simp; done) | (simp [*]; done)), H', ⟨by have := HK1.out; have := HJ12.out; first | omega | exact Nat.le_refl _⟩, ⟨by (with_reducible repeat (first | apply Kd.R_alloc | apply Kd.R_drewN | apply Kd.R_drew)); exact HO_7.out⟩, ⟨by (with_reducible repeat (first | apply Kd.R_alloc | apply Kd.R_drewN | apply Kd.R_drew)); exact HO_8.out⟩, ⟨by (with_reducible repeat (first | apply Kd.R_alloc | apply Kd.R_drewN | apply Kd.R_drew)); exact HO_16.out⟩, ⟨by repeat (first | (with_reducible first | exact HB.out | apply below_alloc | apply pw_below_drewN | apply below_drew1) | exact HB.out)⟩⟩
                          · rw [if_neg c25] at H
                            have c25b0 : decide (0 < x18_1) = false := decide_eq_false c25
                            clear c25
                            have H' := Aside0.mk H
                            clear H
                            go_wp2
                            go_meet
                            case rel => exact ⟨_, (false), (by first | rfl | (simp; done) | (simp [*]; done)), H', ⟨by have := HK1.out; have := HJ12.out; first | omega | exact Nat.le_refl _⟩, ⟨by (with_reducible repeat (first | apply Kd.R_alloc | apply Kd.R_drewN | apply Kd.R_drew)); exact HO_7.out⟩, ⟨by (with_reducible repeat (first | apply Kd.R_alloc | apply Kd.R_drewN | apply Kd.R_drew)); exact HO_8.out⟩, ⟨by (with_reducible repeat (first | apply Kd.R_alloc | apply Kd.R_drewN | apply Kd.R_drew)); exact HO_16.out⟩, ⟨by repeat (first | (with_reducible first | exact HB.out | apply below_alloc | apply pw_below_drewN | apply below_drew1) | exact HB.out)⟩⟩
                        · rw [if_neg c24] at H
                          have c24b0 : (x18_1 == (wrap64 ((t123.length : Int) - 1))) = false := beq_eq_false_iff_ne.mpr c24
                          have c24b1 : (x18_1 != (wrap64 ((t123.length : Int) - 1))) = true := bne_iff_ne.mpr c24
                          have H' := Aside0.mk H
                          clear H
                          go_wp2
                          go_meet
                          case rel => exact ⟨_, (false), (by first | rfl | (simp; done) | (simp [*]; done)), H', ⟨by have := HK1.out; have := HJ12.out; first | omega | exact Nat.le_refl _⟩, ⟨by (with_reducible repeat (first | apply Kd.R_alloc | apply Kd.R_drewN | apply Kd.R_drew)); exact HO_7.out⟩, ⟨by (with_reducible repeat (first | apply Kd.R_alloc | apply Kd.R_drewN | apply Kd.R_drew)); exact HO_8.out⟩, ⟨by (with_reducible repeat (first | apply Kd.R_alloc | apply Kd.R_drewN | apply Kd.R_drew)); exact HO_16.out⟩, ⟨by repeat (first | (with_reducible first | exact HB.out | apply below_alloc | apply pw_below_drewN | apply below_drew1) | exact HB.out)⟩⟩
                      · rw [if_neg c23] at H
                        have c23b0 : ((rdOf ByteArray.empty t123 x18_1).toList == ([42] : List UInt8)) = false := beq_eq_false_iff_ne.mpr c23
                        have c23b1 : ((rdOf ByteArray.empty t123 x18_1).toList != ([42] : List UInt8)) = true := bne_iff_ne.mpr c23
                        (first | rw [c23b0] | (simp only [i64_w, i32_w]; rw [c23b0]) | skip)
                        have H' := Aside0.mk H
                        clear H
                        go_wp2
                        go_meet
                        case rel => exact ⟨_, (false), (by first | rfl | (simp; done) | (simp [*]; done)), H', ⟨by have := HK1.out; have := HJ12.out; first | omega | exact Nat.le_refl _⟩, ⟨by (with_reducible repeat (first | apply Kd.R_alloc | apply Kd.R_drewN | apply Kd.R_drew)); exact HO_7.out⟩, ⟨by (with_reducible repeat (first | apply Kd.R_alloc | apply Kd.R_drewN | apply Kd.R_drew)); exact HO_8.out⟩, ⟨by (with_reducible repeat (first | apply Kd.R_alloc | apply Kd.R_drewN | apply Kd.R_drew)); exact HO_16.out⟩, ⟨by repeat (first | (with_reducible first | exact HB.out | apply below_alloc | apply pw_below_drewN | apply below_drew1) | exact HB.out)⟩⟩
                    case rest =>
                      clear HC22
                      try clear c1
                      try clear p1
                      try clear q1
                      try clear hx1
                      try clear c2
                      try clear p2
                      try clear p6
                      try clear c9
                      try clear c9b0
                      try clear c10
                      try clear c10b0
                      try clear c11
                      try clear c11b0
                      try clear p12
                      try clear q12
                      try clear hx12
                      try clear c14
                      try clear c15
                      try clear c16
                      try clear c17
                      try clear c18
                      try clear c19
                      try clear c21
                      try clear c23
                      try clear c23b0
                      try clear c23b1
                      try clear c24
                      try clear c24b0
                      try clear c24b1
                      try clear c25
                      try clear c25b0
                      try clear hx126_0
                      try clear p1
                      try clear p12
                      try clear p126
                      try clear p2
                      try clear q1
                      try clear q12
                      try clear q126
                      obtain ⟨kq, x46_21, rfl, HA, HJ21, HO_7, HO_8, HO_16, HB⟩ := hcut
                      cases kq with
                      | zero => exact absurd HA.out (by simp [spec_isPattern.j2])
                      | succ kj21 =>
                        have H := HA.out
                        clear HA
                        simp only [spec_isPattern.j2] at H
                        by_cases c26 : x46_21 = true
                        · subst c26
                          have H1 : (spec_isPattern.l0 kj21 a0 a1 a2 x7_1 t123 t123 (t123.length : Int) (wrap64 (x18_1 + 1))) = some r := by rw [if_pos rfl] at H; exact H
                          clear H
                          have H := H1
                          clear H1
                          have H' := Aside0.mk H
                          clear H
                          go_wp2
                          go_roundg kj21
                          case measure => have := HK1.out; have := HJ12.out; have := HJ21.out; omega
                          case rel => exact ⟨(x7_1), (wrap64 (x18_1 + 1)), (by first | rfl | (simp; done) | (simp [*]; done)), H', ⟨by have := HK1.out; have := HJ12.out; have := HJ21.out; omega⟩, ⟨by (with_reducible repeat (first | apply Kd.R_alloc | apply Kd.R_drewN | apply Kd.R_drew)); exact HO_7.out⟩, ⟨by (with_reducible repeat (first | apply Kd.R_alloc | apply Kd.R_drewN | apply Kd.R_drew)); exact HO_8.out⟩, ⟨by (with_reducible repeat (first | apply Kd.R_alloc | apply Kd.R_drewN | apply Kd.R_drew)); exact HO_16.out⟩, ⟨by repeat (first | (with_reducible first | exact HB.out | apply below_alloc | apply pw_below_drewN | apply below_drew1) | exact HB.out)⟩⟩
                        · replace c26 := Bool.eq_false_iff.mpr c26
                          subst c26
                          have H1 : ((spec_isKey.f kj21 (rdOf ByteArray.empty t123 x18_1)).bind fun t133 => (if t133 = true then (spec_isPattern.l0 kj21 a0 a1 a2 x7_1 t123 t123 (t123.length : Int) (wrap64 (x18_1 + 1))) else (some false))) = some r := by rw [if_neg (show ¬ (false = true) by decide)] at H; exact H
                          clear H
                          have H := H1
                          clear H1
                          replace H := Option.bind_eq_some_iff.mp H
                          obtain ⟨t133, A270, H⟩ := H
                          replace H : (if t133 = true then (spec_isPattern.l0 kj21 a0 a1 a2 x7_1 t123 t123 (t123.length : Int) (wrap64 (x18_1 + 1))) else (some false)) = some r := H
                          have A27 := Aside0.mk A270
                          clear A270
                          by_cases c28 : t133 = true
                          · subst c28
                            have H1 : (spec_isPattern.l0 kj21 a0 a1 a2 x7_1 t123 t123 (t123.length : Int) (wrap64 (x18_1 + 1))) = some r := by rw [if_pos rfl] at H; exact H
                            clear H
                            have H := H1
                            clear H1
                            have H' := Aside0.mk H
                            clear H
                            go_wp2_with (first | ((with_reducible refine gate_callee (f := 14) rfl ?_); refine goesL_ (some 66) rfl rfl Try.func14 (by kernel_rfl) rfl #[.string (rdOf ByteArray.empty t123 x18_1)] rfl (by (try simp only [List.map_toArray, List.map_cons, List.map_nil]); first | done | rfl | (simp only [List.length_drop, List.length_take]; rfl)) ?_; (with_reducible refine (spec_isKey.calls kj21 (rdOf ByteArray.empty t123 x18_1) true _ A27.out).mono ?_); rintro e w' ⟨rfl, ⟨nd, rfl⟩⟩; refine ⟨_, rfl, ?_⟩))
                            go_roundg kj21
                            case measure => have := HK1.out; have := HJ12.out; have := HJ21.out; omega
                            case rel => exact ⟨(x7_1), (wrap64 (x18_1 + 1)), (by first | rfl | (simp; done) | (simp [*]; done)), H', ⟨by have := HK1.out; have := HJ12.out; have := HJ21.out; omega⟩, ⟨by (with_reducible repeat (first | apply Kd.R_alloc | apply Kd.R_drewN | apply Kd.R_drew)); exact HO_7.out⟩, ⟨by (with_reducible repeat (first | apply Kd.R_alloc | apply Kd.R_drewN | apply Kd.R_drew)); exact HO_8.out⟩, ⟨by (with_reducible repeat (first | apply Kd.R_alloc | apply Kd.R_drewN | apply Kd.R_drew)); exact HO_16.out⟩, ⟨by repeat (first | (with_reducible first | exact HB.out | apply below_alloc | apply pw_below_drewN | apply below_drew1) | exact HB.out)⟩⟩
                          · replace c28 := Bool.eq_false_iff.mpr c28
                            subst c28
                            have H1 : (some false) = some r := by rw [if_neg (show ¬ (false = true) by decide)] at H; exact H
                            clear H
                            have H := H1
                            clear H1
                            obtain rfl := Option.some.inj H
                            go_wp2_with (first | ((with_reducible refine gate_callee (f := 14) rfl ?_); refine goesL_ (some 66) rfl rfl Try.func14 (by kernel_rfl) rfl #[.string (rdOf ByteArray.empty t123 x18_1)] rfl (by (try simp only [List.map_toArray, List.map_cons, List.map_nil]); first | done | rfl | (simp only [List.length_drop, List.length_take]; rfl)) ?_; (with_reducible refine (spec_isKey.calls kj21 (rdOf ByteArray.empty t123 x18_1) false _ A27.out).mono ?_); rintro e w' ⟨rfl, ⟨nd, rfl⟩⟩; refine ⟨_, rfl, ?_⟩))
                            go_ret
                            exact ⟨by first | rfl | (simp [errW_none, errW_some] <;> rfl) | (simp [*, errW_none, errW_some] <;> rfl), by repeat (first | (with_reducible first | exact HB.out | apply below_alloc | apply pw_below_drewN | apply below_drew1) | exact HB.out)⟩
          · rw [if_neg c11] at H
            exact absurd H (by simp)
        · rw [if_neg c10] at H
          exact absurd H (by simp)
      · rw [if_neg c9] at H
        have c9b0 : decide (x18_1 < (t123.length : Int)) = false := decide_eq_false c9
        clear c9
        by_cases c29 : (a0.size : Int) ≤ 60
        · rw [if_pos c29] at H
          have c29b0 : decide ((a0.size : Int) ≤ 60) = true := decide_eq_true c29
          have c29b1 : decide (a0.size ≤ 60) = true := decide_eq_true (by omega)
          clear c29
          by_cases c30 : (a0.size : Int) > 0
          · rw [if_pos c30] at H
            have c30b0 : decide (0 < (a0.size : Int)) = true := decide_eq_true c30
            have c30b1 : decide (0 < a0.size) = true := decide_eq_true (by omega)
            clear c30
            by_cases c31 : 0 < (a0.size : Int)
            · rw [if_pos c31] at H
              have c31b0 : decide (0 < (a0.size : Int)) = true := decide_eq_true c31
              have c31b1 : decide (0 < a0.size) = true := decide_eq_true (by omega)
              clear c31
              obtain rfl := Option.some.inj H
              have p32 : 0 ≤ (0 : Int) := (by omega)
              have q32 : 0 < a0.size := (by have : (0 : Int) < (a0.size : Int) := of_decide_eq_true (by first | (with_reducible assumption) | assumption); omega)
              have hx32 : ∀ h : 0 < a0.size, ((a0[0]'h).toNat : Int) = bt a0 0 := bt_at a0 0
              clear p32
              have qi32 : (0 < (a0.size : Int)) = True := eq_true (of_decide_eq_true (by first | (with_reducible assumption) | assumption))
              replace q32 := eq_true q32
              go_wp2
              go_ret
              exact ⟨by first | rfl | (simp [errW_none, errW_some] <;> rfl) | (simp [*, errW_none, errW_some] <;> rfl), by repeat (first | (with_reducible first | exact HB.out | apply below_alloc | apply pw_below_drewN | apply below_drew1) | exact HB.out)⟩
            · rw [if_neg c31] at H
              exact absurd H (by simp)
          · rw [if_neg c30] at H
            have c30b0 : decide (0 < (a0.size : Int)) = false := decide_eq_false c30
            have c30b1 : decide (0 < a0.size) = false := decide_eq_false (by omega)
            clear c30
            obtain rfl := Option.some.inj H
            go_wp2
            go_ret
            exact ⟨by first | rfl | (simp [errW_none, errW_some] <;> rfl) | (simp [*, errW_none, errW_some] <;> rfl), by repeat (first | (with_reducible first | exact HB.out | apply below_alloc | apply pw_below_drewN | apply below_drew1) | exact HB.out)⟩
        · rw [if_neg c29] at H
          have c29b0 : decide ((a0.size : Int) ≤ 60) = false := decide_eq_false c29
          have c29b1 : decide (a0.size ≤ 60) = false := decide_eq_false (by omega)
          clear c29
          obtain rfl := Option.some.inj H
          go_wp2
          go_ret
          exact ⟨by first | rfl | (simp [errW_none, errW_some] <;> rfl) | (simp [*, errW_none, errW_some] <;> rfl), by repeat (first | (with_reducible first | exact HB.out | apply below_alloc | apply pw_below_drewN | apply below_drew1) | exact HB.out)⟩

-- NOT PRINTED: function 10 (spec_Named)

-- NOT PRINTED: function 7 (spec_Gotten)

/-! ### casbin_zzIndex: function 18 -/
def casbin_zzIndex.l0 : Nat → ByteArray → ByteArray → Int → Option (Int)
  | 0, _, _, _ => none
  | k + 1, x0, x1, x5 => if (wrap64 (x5 + (x1.size : Int))) ≤ (x0.size : Int) then (if 0 ≤ x5 then (if x5 ≤ (wrap64 (x5 + (x1.size : Int))) then (if (x0.extract (x5 : Int).toNat ((wrap64 (x5 + (x1.size : Int))) : Int).toNat).toList = x1.toList then (some x5) else (casbin_zzIndex.l0 k x0 x1 (wrap64 (x5 + 1)))) else (none)) else (none)) else (some (-1))
def casbin_zzIndex.f (k : Nat) (a0 : ByteArray) (a1 : ByteArray) : Option (Int) := casbin_zzIndex.l0 k a0 a1 0
theorem casbin_zzIndex.mono_l : ∀ k, (∀ y0 y1 y2, LeO (casbin_zzIndex.l0 k y0 y1 y2) (casbin_zzIndex.l0 (k + 1) y0 y1 y2))
  | 0 => fun _ _ _ r h => by simp [casbin_zzIndex.l0] at h
  | k + 1 => by
    have ih0 := casbin_zzIndex.mono_l k
    · intro y0 y1 y2
      unfold casbin_zzIndex.l0
      repeat' first
      | (with_reducible exact ih0 _ _ _)
      | (with_reducible exact LeO.refl _)
      | (with_reducible exact LeO.none _)
      | (with_reducible refine LeO.ite ?_ ?_)
      | (with_reducible refine LeO.bind ?_ (fun _ => ?_))
      | exact ih0 _ _ _
      | exact LeO.none _
      | refine LeO.ite ?_ ?_
      | refine LeO.bind ?_ (fun _ => ?_)
theorem casbin_zzIndex.mono : ∀ a0 a1 k, LeO (casbin_zzIndex.f k a0 a1) (casbin_zzIndex.f (k + 1) a0 a1) := by
  intro a0 a1 k
  have ih0 := casbin_zzIndex.mono_l k
  unfold casbin_zzIndex.f
  repeat' first
      | (with_reducible exact ih0 _ _ _)
      | (with_reducible exact LeO.refl _)
      | (with_reducible exact LeO.none _)
      | (with_reducible refine LeO.ite ?_ ?_)
      | (with_reducible refine LeO.bind ?_ (fun _ => ?_))
      | exact ih0 _ _ _
      | exact LeO.none _
      | refine LeO.ite ?_ ?_
      | refine LeO.bind ?_ (fun _ => ?_)
set_option maxHeartbeats 8000000 in
set_option maxRecDepth 100000 in
theorem casbin_zzIndex.calls (k : Nat) (a0 : ByteArray) (a1 : ByteArray) (r : Int) (w : World) (h : casbin_zzIndex.f k a0 a1 = some r) :
    Calls Try.prog 18 #[.string a0, .string a1] w fun e w' => e = .returned (.int .i64 r) ∧ Drawn0 w w' := by
  have H : (casbin_zzIndex.l0 k a0 a1 0) = some r := h
  clear h
  have H' := Aside0.mk H
  clear H
  go_enter Try.func18, Try.ntmps18
  go_wp2
  go_loopg [5] k (fun kq v5 w' => ∃ (x5_1 : Int), v5 = .int .i64 x5_1 ∧ Aside0 (casbin_zzIndex.l0 kq a0 a1 x5_1 = some r) ∧ Aside0 (kq ≤ k) ∧ Drawn0 w w')
  case atStart => exact ⟨(0), (by first | rfl | (simp; done) | (simp [*]; done)), H', ⟨Nat.le_refl _⟩, by repeat (first | exact Drawn0.refl _ | apply Drawn0.step)⟩
  case round =>
    clear H'
    try clear c1
    try clear p2
    obtain ⟨x5_1, rfl, HA, HK1, ⟨m1, rfl⟩⟩ := hrel
    cases gk with
    | zero => exact absurd HA.out (by simp [casbin_zzIndex.l0])
    | succ k1 =>
      have H := HA.out
      clear HA
      simp only [casbin_zzIndex.l0] at H
      by_cases c3 : (wrap64 (x5_1 + (a1.size : Int))) ≤ (a0.size : Int)
      · rw [if_pos c3] at H
        have c3b0 : decide ((wrap64 (x5_1 + (a1.size : Int))) ≤ (a0.size : Int)) = true := decide_eq_true c3
        clear c3
        by_cases c4 : 0 ≤ x5_1
        · rw [if_pos c4] at H
          have c4b0 := eq_true c4
          have c4b1 : decide (0 ≤ x5_1) = true := decide_eq_true c4
          clear c4
          by_cases c5 : x5_1 ≤ (wrap64 (x5_1 + (a1.size : Int)))
          · rw [if_pos c5] at H
            have c5b0 := eq_true c5
            have c5b1 : decide (x5_1 ≤ (wrap64 (x5_1 + (a1.size : Int)))) = true := decide_eq_true c5
            have c6b0 := eq_true (of_decide_eq_true (by first | (with_reducible assumption) | assumption) : (wrap64 (x5_1 + (a1.size : Int))) ≤ (a0.size : Int))
            by_cases c7 : (a0.extract (x5_1 : Int).toNat ((wrap64 (x5_1 + (a1.size : Int))) : Int).toNat).toList = a1.toList
            · rw [if_pos c7] at H
              have c7b0 : ((a0.extract (x5_1 : Int).toNat ((wrap64 (x5_1 + (a1.size : Int))) : Int).toNat).toList == a1.toList) = true := beq_iff_eq.mpr c7
              have c7b1 : ((a0.extract (x5_1 : Int).toNat ((wrap64 (x5_1 + (a1.size : Int))) : Int).toNat).toList != a1.toList) = false := bne_eq_false_iff_eq.mpr c7
              clear c7
              obtain rfl := Option.some.inj H
              go_wp2
              go_ret
              exact ⟨by first | rfl | (simp; done) | (simp [*]; done), by repeat (first | exact Drawn0.refl _ | apply Drawn0.step)⟩
            · rw [if_neg c7] at H
              have c7b0 : ((a0.extract (x5_1 : Int).toNat ((wrap64 (x5_1 + (a1.size : Int))) : Int).toNat).toList == a1.toList) = false := beq_eq_false_iff_ne.mpr c7
              have c7b1 : ((a0.extract (x5_1 : Int).toNat ((wrap64 (x5_1 + (a1.size : Int))) : Int).toNat).toList != a1.toList) = true := bne_iff_ne.mpr c7
              have H' := Aside0.mk H
              clear H
              go_wp2
              go_roundg k1
              case measure => have := HK1.out; omega
              case rel => exact ⟨(wrap64 (x5_1 + 1)), (by first | rfl | (simp; done) | (simp [*]; done)), H', ⟨by have := HK1.out; omega⟩, by repeat (first | exact Drawn0.refl _ | apply Drawn0.step)⟩
          · rw [if_neg c5] at H
            exact absurd H (by simp)
        · rw [if_neg c4] at H
          exact absurd H (by simp)
      · rw [if_neg c3] at H
        have c3b0 : decide ((wrap64 (x5_1 + (a1.size : Int))) ≤ (a0.size : Int)) = false := decide_eq_false c3
        clear c3
        obtain rfl := Option.some.inj H
        go_wp2
        go_ret
        exact ⟨by first | rfl | (simp; done) | (simp [*]; done), by repeat (first | exact Drawn0.refl _ | apply Drawn0.step)⟩

/-! ### casbin_KeyGet: function 13 -/
def casbin_KeyGet.f (k : Nat) (a0 : ByteArray) (a1 : ByteArray) : Option (ByteArray) := (casbin_zzIndex.f k a1 (⟨#[42]⟩ : ByteArray)).bind fun t162 => (if t162 = (-1) then (some (⟨#[]⟩ : ByteArray)) else (if (a0.size : Int) > t162 then (if 0 ≤ t162 then (if t162 ≤ (a0.size : Int) then (if t162 ≤ (a1.size : Int) then (if (a0.extract 0 (t162 : Int).toNat).toList = (a1.extract 0 (t162 : Int).toNat).toList then (some (a0.extract (t162 : Int).toNat a0.size)) else (some (⟨#[]⟩ : ByteArray))) else (none)) else (none)) else (none)) else (some (⟨#[]⟩ : ByteArray))))
theorem casbin_KeyGet.mono : ∀ a0 a1 k, LeO (casbin_KeyGet.f k a0 a1) (casbin_KeyGet.f (k + 1) a0 a1) := by
  intro a0 a1 k
  unfold casbin_KeyGet.f
  repeat' first
      | (with_reducible exact casbin_zzIndex.mono _ _ _)
      | (with_reducible exact LeO.refl _)
      | (with_reducible exact LeO.none _)
      | (with_reducible refine LeO.ite ?_ ?_)
      | (with_reducible refine LeO.bind ?_ (fun _ => ?_))
      | exact casbin_zzIndex.mono _ _ _
      | exact LeO.none _
      | refine LeO.ite ?_ ?_
      | refine LeO.bind ?_ (fun _ => ?_)
set_option maxHeartbeats 8000000 in
set_option maxRecDepth 100000 in
theorem casbin_KeyGet.calls (k : Nat) (a0 : ByteArray) (a1 : ByteArray) (r : ByteArray) (w : World) (h : casbin_KeyGet.f k a0 a1 = some r) :
    Calls Try.prog 13 #[.string a0, .string a1] w fun e w' => e = .returned (.string r) ∧ Drawn0 w w' := by
  have H : ((casbin_zzIndex.f k a1 (⟨#[42]⟩ : ByteArray)).bind fun t162 => (if t162 = (-1) then (some (⟨#[]⟩ : ByteArray)) else (if (a0.size : Int) > t162 then (if 0 ≤ t162 then (if t162 ≤ (a0.size : Int) then (if t162 ≤ (a1.size : Int) then (if (a0.extract 0 (t162 : Int).toNat).toList = (a1.extract 0 (t162 : Int).toNat).toList then (some (a0.extract (t162 : Int).toNat a0.size)) else (some (⟨#[]⟩ : ByteArray))) else (none)) else (none)) else (none)) else (some (⟨#[]⟩ : ByteArray))))) = some r := h
  clear h
  replace H := Option.bind_eq_some_iff.mp H
  obtain ⟨t162, A30, H⟩ := H
  replace H : (if t162 = (-1) then (some (⟨#[]⟩ : ByteArray)) else (if (a0.size : Int) > t162 then (if 0 ≤ t162 then (if t162 ≤ (a0.size : Int) then (if t162 ≤ (a1.size : Int) then (if (a0.extract 0 (t162 : Int).toNat).toList = (a1.extract 0 (t162 : Int).toNat).toList then (some (a0.extract (t162 : Int).toNat a0.size)) else (some (⟨#[]⟩ : ByteArray))) else (none)) else (none)) else (none)) else (some (⟨#[]⟩ : ByteArray)))) = some r := H
  have A3 := Aside0.mk A30
  clear A30
  by_cases c4 : t162 = (-1)
  · rw [if_pos c4] at H
    have c4b0 : (t162 == (-1)) = true := beq_iff_eq.mpr c4
    have c4b1 : (t162 != (-1)) = false := bne_eq_false_iff_eq.mpr c4
    clear c4
    obtain rfl := Option.some.inj H
    go_enter Try.func13, Try.ntmps13
    go_wp2_with (first | (go_at_call 18; (with_reducible refine (casbin_zzIndex.calls k a1 (⟨#[42]⟩ : ByteArray) t162 _ A3.out).mono ?_); rintro e w' ⟨rfl, ⟨nd, rfl⟩⟩; (try first | exact ⟨rfl, _, World.drewN_drewN _ _ _⟩ | exact ⟨rfl, _, Eq.trans (World.drewN_drewN _ _ _) (congrArg (World.drewN _) (Nat.add_assoc _ _ _))⟩)))
    repeat (go_quiet (first | (go_at_call 18; (with_reducible refine (casbin_zzIndex.calls k a1 (⟨#[42]⟩ : ByteArray) t162 _ A3.out).mono ?_); rintro e w' ⟨rfl, ⟨nd, rfl⟩⟩; (try first | exact ⟨rfl, _, World.drewN_drewN _ _ _⟩ | exact ⟨rfl, _, Eq.trans (World.drewN_drewN _ _ _) (congrArg (World.drewN _) (Nat.add_assoc _ _ _))⟩))); try go_wp2_with (first | (go_at_call 18; (with_reducible refine (casbin_zzIndex.calls k a1 (⟨#[42]⟩ : ByteArray) t162 _ A3.out).mono ?_); rintro e w' ⟨rfl, ⟨nd, rfl⟩⟩; (try first | exact ⟨rfl, _, World.drewN_drewN _ _ _⟩ | exact ⟨rfl, _, Eq.trans (World.drewN_drewN _ _ _) (congrArg (World.drewN _) (Nat.add_assoc _ _ _))⟩))))
    go_ret
    exact ⟨by first | rfl | (simp; done) | (simp [*]; done), by repeat (first | exact Drawn0.refl _ | apply Drawn0.step)⟩
  · rw [if_neg c4] at H
    have c4b0 : (t162 == (-1)) = false := beq_eq_false_iff_ne.mpr c4
    have c4b1 : (t162 != (-1)) = true := bne_iff_ne.mpr c4
    by_cases c5 : (a0.size : Int) > t162
    · rw [if_pos c5] at H
      have c5b0 : decide (t162 < (a0.size : Int)) = true := decide_eq_true c5
      clear c5
      by_cases c6 : 0 ≤ t162
      · rw [if_pos c6] at H
        have c6b0 := eq_true c6
        have c6b1 : decide (0 ≤ t162) = true := decide_eq_true c6
        clear c6
        by_cases c7 : t162 ≤ (a0.size : Int)
        · rw [if_pos c7] at H
          have c7b0 := eq_true c7
          have c7b1 : decide (t162 ≤ (a0.size : Int)) = true := decide_eq_true c7
          clear c7
          have c8b0 := eq_true (of_decide_eq_true (by first | (with_reducible assumption) | assumption) : 0 ≤ t162)
          by_cases c9 : t162 ≤ (a1.size : Int)
          · rw [if_pos c9] at H
            have c9b0 := eq_true c9
            have c9b1 : decide (t162 ≤ (a1.size : Int)) = true := decide_eq_true c9
            clear c9
            by_cases c10 : (a0.extract 0 (t162 : Int).toNat).toList = (a1.extract 0 (t162 : Int).toNat).toList
            · rw [if_pos c10] at H
              have c10b0 : ((a0.extract 0 (t162 : Int).toNat).toList == (a1.extract 0 (t162 : Int).toNat).toList) = true := beq_iff_eq.mpr c10
              have c10b1 : ((a0.extract 0 (t162 : Int).toNat).toList != (a1.extract 0 (t162 : Int).toNat).toList) = false := bne_eq_false_iff_eq.mpr c10
              clear c10
              have c11b0 := eq_true (of_decide_eq_true (by first | (with_reducible assumption) | assumption) : 0 ≤ t162)
              have c12b0 := eq_true (of_decide_eq_true (by first | (with_reducible assumption) | assumption) : t162 ≤ (a0.size : Int))
              obtain rfl := Option.some.inj H
              go_enter Try.func13, Try.ntmps13
              go_wp2_with (first | (go_at_call 18; (with_reducible refine (casbin_zzIndex.calls k a1 (⟨#[42]⟩ : ByteArray) t162 _ A3.out).mono ?_); rintro e w' ⟨rfl, ⟨nd, rfl⟩⟩; (try first | exact ⟨rfl, _, World.drewN_drewN _ _ _⟩ | exact ⟨rfl, _, Eq.trans (World.drewN_drewN _ _ _) (congrArg (World.drewN _) (Nat.add_assoc _ _ _))⟩)))
              repeat (go_quiet (first | (go_at_call 18; (with_reducible refine (casbin_zzIndex.calls k a1 (⟨#[42]⟩ : ByteArray) t162 _ A3.out).mono ?_); rintro e w' ⟨rfl, ⟨nd, rfl⟩⟩; (try first | exact ⟨rfl, _, World.drewN_drewN _ _ _⟩ | exact ⟨rfl, _, Eq.trans (World.drewN_drewN _ _ _) (congrArg (World.drewN _) (Nat.add_assoc _ _ _))⟩))); try go_wp2_with (first | (go_at_call 18; (with_reducible refine (casbin_zzIndex.calls k a1 (⟨#[42]⟩ : ByteArray) t162 _ A3.out).mono ?_); rintro e w' ⟨rfl, ⟨nd, rfl⟩⟩; (try first | exact ⟨rfl, _, World.drewN_drewN _ _ _⟩ | exact ⟨rfl, _, Eq.trans (World.drewN_drewN _ _ _) (congrArg (World.drewN _) (Nat.add_assoc _ _ _))⟩))))
              go_ret
              exact ⟨by first | rfl | (simp; done) | (simp [*]; done), by repeat (first | exact Drawn0.refl _ | apply Drawn0.step)⟩
            · rw [if_neg c10] at H
              have c10b0 : ((a0.extract 0 (t162 : Int).toNat).toList == (a1.extract 0 (t162 : Int).toNat).toList) = false := beq_eq_false_iff_ne.mpr c10
              have c10b1 : ((a0.extract 0 (t162 : Int).toNat).toList != (a1.extract 0 (t162 : Int).toNat).toList) = true := bne_iff_ne.mpr c10
              obtain rfl := Option.some.inj H
              go_enter Try.func13, Try.ntmps13
              go_wp2_with (first | (go_at_call 18; (with_reducible refine (casbin_zzIndex.calls k a1 (⟨#[42]⟩ : ByteArray) t162 _ A3.out).mono ?_); rintro e w' ⟨rfl, ⟨nd, rfl⟩⟩; (try first | exact ⟨rfl, _, World.drewN_drewN _ _ _⟩ | exact ⟨rfl, _, Eq.trans (World.drewN_drewN _ _ _) (congrArg (World.drewN _) (Nat.add_assoc _ _ _))⟩)))
              repeat (go_quiet (first | (go_at_call 18; (with_reducible refine (casbin_zzIndex.calls k a1 (⟨#[42]⟩ : ByteArray) t162 _ A3.out).mono ?_); rintro e w' ⟨rfl, ⟨nd, rfl⟩⟩; (try first | exact ⟨rfl, _, World.drewN_drewN _ _ _⟩ | exact ⟨rfl, _, Eq.trans (World.drewN_drewN _ _ _) (congrArg (World.drewN _) (Nat.add_assoc _ _ _))⟩))); try go_wp2_with (first | (go_at_call 18; (with_reducible refine (casbin_zzIndex.calls k a1 (⟨#[42]⟩ : ByteArray) t162 _ A3.out).mono ?_); rintro e w' ⟨rfl, ⟨nd, rfl⟩⟩; (try first | exact ⟨rfl, _, World.drewN_drewN _ _ _⟩ | exact ⟨rfl, _, Eq.trans (World.drewN_drewN _ _ _) (congrArg (World.drewN _) (Nat.add_assoc _ _ _))⟩))))
              go_ret
              exact ⟨by first | rfl | (simp; done) | (simp [*]; done), by repeat (first | exact Drawn0.refl _ | apply Drawn0.step)⟩
          · rw [if_neg c9] at H
            exact absurd H (by simp)
        · rw [if_neg c7] at H
          exact absurd H (by simp)
      · rw [if_neg c6] at H
        exact absurd H (by simp)
    · rw [if_neg c5] at H
      have c5b0 : decide (t162 < (a0.size : Int)) = false := decide_eq_false c5
      clear c5
      obtain rfl := Option.some.inj H
      go_enter Try.func13, Try.ntmps13
      go_wp2_with (first | (go_at_call 18; (with_reducible refine (casbin_zzIndex.calls k a1 (⟨#[42]⟩ : ByteArray) t162 _ A3.out).mono ?_); rintro e w' ⟨rfl, ⟨nd, rfl⟩⟩; (try first | exact ⟨rfl, _, World.drewN_drewN _ _ _⟩ | exact ⟨rfl, _, Eq.trans (World.drewN_drewN _ _ _) (congrArg (World.drewN _) (Nat.add_assoc _ _ _))⟩)))
      repeat (go_quiet (first | (go_at_call 18; (with_reducible refine (casbin_zzIndex.calls k a1 (⟨#[42]⟩ : ByteArray) t162 _ A3.out).mono ?_); rintro e w' ⟨rfl, ⟨nd, rfl⟩⟩; (try first | exact ⟨rfl, _, World.drewN_drewN _ _ _⟩ | exact ⟨rfl, _, Eq.trans (World.drewN_drewN _ _ _) (congrArg (World.drewN _) (Nat.add_assoc _ _ _))⟩))); try go_wp2_with (first | (go_at_call 18; (with_reducible refine (casbin_zzIndex.calls k a1 (⟨#[42]⟩ : ByteArray) t162 _ A3.out).mono ?_); rintro e w' ⟨rfl, ⟨nd, rfl⟩⟩; (try first | exact ⟨rfl, _, World.drewN_drewN _ _ _⟩ | exact ⟨rfl, _, Eq.trans (World.drewN_drewN _ _ _) (congrArg (World.drewN _) (Nat.add_assoc _ _ _))⟩))))
      go_ret
      exact ⟨by first | rfl | (simp; done) | (simp [*]; done), by repeat (first | exact Drawn0.refl _ | apply Drawn0.step)⟩

/-! ### impl_KeyGet: function 8 -/
def impl_KeyGet.f (k : Nat) (a0 : ByteArray) (a1 : ByteArray) : Option (ByteArray) := (casbin_KeyGet.f k a0 a1).bind fun t163 => (some t163)
theorem impl_KeyGet.mono : ∀ a0 a1 k, LeO (impl_KeyGet.f k a0 a1) (impl_KeyGet.f (k + 1) a0 a1) := by
  intro a0 a1 k
  unfold impl_KeyGet.f
  repeat' first
      | (with_reducible exact casbin_KeyGet.mono _ _ _)
      | (with_reducible exact LeO.refl _)
      | (with_reducible exact LeO.none _)
      | (with_reducible refine LeO.ite ?_ ?_)
      | (with_reducible refine LeO.bind ?_ (fun _ => ?_))
      | exact casbin_KeyGet.mono _ _ _
      | exact LeO.none _
      | refine LeO.ite ?_ ?_
      | refine LeO.bind ?_ (fun _ => ?_)
set_option maxHeartbeats 8000000 in
set_option maxRecDepth 100000 in
theorem impl_KeyGet.calls (k : Nat) (a0 : ByteArray) (a1 : ByteArray) (r : ByteArray) (w : World) (h : impl_KeyGet.f k a0 a1 = some r) :
    Calls Try.prog 8 #[.string a0, .string a1] w fun e w' => e = .returned (.string r) ∧ Drawn0 w w' := by
  have H : ((casbin_KeyGet.f k a0 a1).bind fun t163 => (some t163)) = some r := h
  clear h
  replace H := Option.bind_eq_some_iff.mp H
  obtain ⟨t163, A30, H⟩ := H
  replace H : (some t163) = some r := H
  have A3 := Aside0.mk A30
  clear A30
  obtain rfl := Option.some.inj H
  go_enter Try.func8, Try.ntmps8
  go_wp2_with (first | ((with_reducible refine gate_callee (f := 13) rfl ?_); refine goesL_ (some 7) rfl rfl Try.func13 (by kernel_rfl) rfl #[.string a0, .string a1] rfl (by (try simp only [List.map_toArray, List.map_cons, List.map_nil]); first | done | rfl | (simp only [List.length_drop, List.length_take]; rfl)) ?_; (with_reducible refine (casbin_KeyGet.calls k a0 a1 t163 _ A3.out).mono ?_); rintro e w' ⟨rfl, ⟨nd, rfl⟩⟩; refine ⟨_, rfl, ?_⟩))
  go_ret
  exact ⟨by first | rfl | (simp; done) | (simp [*]; done), by repeat (first | exact Drawn0.refl _ | apply Drawn0.step)⟩

-- NOT PRINTED: function 4 (laws_FnKeyGet)

end Go.Proofs.Ytmmjbhdjjhbjmaa.PFnKeyGet
