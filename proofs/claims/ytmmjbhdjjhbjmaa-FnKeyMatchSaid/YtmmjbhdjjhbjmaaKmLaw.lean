/- 'laws.FnKeyMatch' answers true for every path and every pattern; its arguments read afterwards as before. No condition. -/
import Derived.Test.YtmmjbhdjjhbjmaaRows
import Derived.Test.YtmmjbhdjjhbjmaaKm
import Derived.WalkKit
import Derived.ProofKit
import Derived.OpenShut
import Derived.ShutString
import Derived.ChangeOld
import Derived.Below
import Derived.SizedLaws
namespace Go.Proofs.Ytmmjbhdjjhbjmaa.KmLaw
open Go.ChangeShapes Go.WideShapes Go.ChangeAt Go.RowKit Go.Proofs.YtmmjbhdjjhbjmaaW.PrintWords Go.Proofs.Ytmmjbhdjjhbjmaa.PFnKeyMatch
open Go.ChangeMaps (open_string shut_string)

set_option maxHeartbeats 1000000 in
set_option maxRecDepth 100000 in
theorem matches1 (k : Nat) (a0 a1 : ByteArray) (r1 : Bool) (r2 : ByteArray) (r3 : Bool) (w : World) (h : spec_Starred.f k a0 a1 = some (r1, r2, r3)) :
    Calls Try.prog 5 #[.int .i64 1, .string a0, .string a1] w fun e w' => e = .returned (.tuple #[.bool r1, .bool r3]) ∧ Drawn0 w w' := by
  have H := Aside0.mk h
  clear h
  go_enter Try.func5, Try.ntmps5
  go_wp2_with (go_at_call 9; (with_reducible refine (spec_Starred.calls k a0 a1 r1 r2 r3 _ H.out).mono ?_); rintro e w' ⟨rfl, ⟨nd, rfl⟩⟩)
  go_ret2
  exact ⟨rfl, by repeat (first | exact Drawn0.refl _ | apply Drawn0.step)⟩

set_option maxHeartbeats 1000000 in
set_option maxRecDepth 100000 in
theorem walk (a0 a1 : ByteArray) (w : World) :
    Calls Try.prog 3 #[.string a0, .string a1] w fun e w' => e = .returned (.bool true) ∧ Drawn0 w w' := by
  by_cases h0 : 2147483647 < a0.size
  · have c0 : decide (2147483647 < (a0.size : Int)) = true := decide_eq_true (by omega)
    have c0' : decide (2147483647 < a0.size) = true := decide_eq_true h0
    clear h0
    go_enter Try.func3, Try.ntmps3
    go_wp2
    go_ret
    exact ⟨rfl, by repeat (first | exact Drawn0.refl _ | apply Drawn0.step)⟩
  · have c0 : decide (2147483647 < (a0.size : Int)) = false := decide_eq_false (by omega)
    have c0' : decide (2147483647 < a0.size) = false := decide_eq_false h0
    by_cases h1 : 2147483647 < a1.size
    · have c1 : decide (2147483647 < (a1.size : Int)) = true := decide_eq_true (by omega)
      have c1' : decide (2147483647 < a1.size) = true := decide_eq_true h1
      clear h0 h1
      go_enter Try.func3, Try.ntmps3
      go_wp2
      go_ret
      exact ⟨rfl, by repeat (first | exact Drawn0.refl _ | apply Drawn0.step)⟩
    · have c1 : decide (2147483647 < (a1.size : Int)) = false := decide_eq_false (by omega)
      have c1' : decide (2147483647 < a1.size) = false := decide_eq_false h1
      obtain ⟨k, r1, r2, r3, h, ht⟩ := Km.starred_tells a0 a1 (by omega) (by omega)
      have H := Aside0.mk h
      cases r3 with
      | false =>
        clear h ht h0 h1
        go_enter Try.func3, Try.ntmps3
        go_wp2_with (go_at_call 5; (with_reducible refine (matches1 k a0 a1 r1 r2 false _ H.out).mono ?_); rintro e w' ⟨rfl, ⟨nd, rfl⟩⟩)
        go_ret
        exact ⟨rfl, by repeat (first | exact Drawn0.refl _ | apply Drawn0.step)⟩
      | true =>
        obtain ⟨i, hi⟩ := ht rfl
        obtain ⟨k2, h2⟩ := Km.keyMatch_same hi
        have H2 := Aside0.mk h2
        clear h ht h0 h1 hi h2
        go_enter Try.func3, Try.ntmps3
        go_wp2_with (first
          | (go_at_call 5; (with_reducible refine (matches1 k a0 a1 r1 r2 true _ H.out).mono ?_); rintro e w' ⟨rfl, ⟨nd, rfl⟩⟩)
          | (go_at_call 6; (with_reducible refine (impl_KeyMatch.calls k2 a0 a1 r1 _ H2.out).mono ?_); rintro e w' ⟨rfl, ⟨nd, rfl⟩⟩))
        go_ret
        exact ⟨by simp, by repeat (first | exact Drawn0.refl _ | apply Drawn0.step)⟩

theorem own : ownKnob Try.prog.godebug = none := by kernel_rfl
set_option maxRecDepth 100000 in
theorem lifted (os : Os) (started : os.Started) (H : Type) (enc : TypeId × Value → H) :
    ReturnsInHanded {} Try.checked os 3 .any (Rows.fnKeyMatchSpec.pre6 enc Try.prog Try.f3 Rows.fnKeyMatchRow.domain false) (Rows.fnKeyMatchSpec.post enc Try.prog Try.f3 false true false false) := by
  refine returnsInHanded_of_change (C := Try.checked) own started (by kernel_rfl) Try.func3
    (ChangeSpec.witness6 (enc := enc) (C := Try.checked) false ⟨#[], #[.string ByteArray.empty, .string ByteArray.empty], []⟩ 8 (by kernel_rfl) (by kernel_rfl) (by kernel_rfl) (by kernel_rfl)) ?_
  intro W base args ds gs before hval0 hW hcnd _
  have hval : ∀ (j : Nat) t v, Try.f3.params[j]? = some t → args[j]? = some v → Value.okWide Try.prog W .any base t v := hval0
  have hW' := hW
  obtain ⟨p, q, hA0, hV, rfl, hfz, hnd⟩ := hW
  have hA : DataW.TrodAll enc Try.prog W 0 (fun _ => true) true Try.f3.params.toList args.toList ds p := hA0
  rw [Try.params3] at hA hval
  obtain ⟨v0, v1, d0, d1, p0, p1, rfl, rfl, rfl, h0, h1⟩ := trodAll_two hA
  obtain ⟨rfl, rfl⟩ := trodVars_none hV
  obtain ⟨a0, rfl, rfl, rfl, y0⟩ := open_string Try.underlying9 (hval 0 9 v0 rfl rfl) h0
  obtain ⟨a1, rfl, rfl, rfl, y1⟩ := open_string Try.underlying9 (hval 1 9 v1 rfl rfl) h1
  clear hA0 hval0
  refine (walk a0 a1 W).mono fun e W' ⟨he, hd⟩ => ?_
  subst he
  have bel := hd.below
  exact ⟨_, rfl, _, _, _, [], _, [], hW', trodAll_mk1 (shut_bool Try.underlying4 _), trodAll_mk2 (shut_string Try.underlying9 y0) (shut_string Try.underlying9 y1), rfl, bel.frame _, fun h => by cases h⟩
theorem proved : Rows.FnKeyMatchSaid :=
  OpenClaim.holds_of_wide 3 Try.f3 rfl rfl rfl rfl rfl rfl rfl ⟨rfl, rfl, rfl, rfl, rfl⟩ rfl rfl rfl rfl rfl (by kernel_rfl) Try.func3 (by kernel_rfl)
    (of_decide_eq_true (by kernel_rfl)) (by unfold Func.isWrapper; first | (rw [if_pos (by decide +kernel)]; kernel_rfl) | (rw [if_neg (by decide +kernel)]; exact ⟨rfl, rfl⟩))
    (fun os started H enc _ => lifted os started H enc)
#print axioms proved
end Go.Proofs.Ytmmjbhdjjhbjmaa.KmLaw
