/- 'laws.FnKeyGet' answers true for every path and every pattern (what stands for the star is given); its arguments read afterwards as before. No condition. -/
import Derived.Test.YtmmjbhdjjhbjmaaRows
import Derived.Test.YtmmjbhdjjhbjmaaKg
import Derived.WalkKit
import Derived.ProofKit
import Derived.OpenShut
import Derived.ShutString
import Derived.ChangeOld
import Derived.Below
import Derived.SizedLaws
namespace Go.Proofs.Ytmmjbhdjjhbjmaa.KgLaw
open Go.ChangeShapes Go.WideShapes Go.ChangeAt Go.RowKit Go.Proofs.YtmmjbhdjjhbjmaaW.PrintWords Go.Proofs.Ytmmjbhdjjhbjmaa.PFnKeyGet
open Go.ChangeMaps (open_string shut_string)

set_option maxHeartbeats 1000000 in
set_option maxRecDepth 100000 in
theorem gotten_yes (k : Nat) (a0 a1 a2 : ByteArray) (r2 : ByteArray) (r3 : Bool) (w : World) (h : spec_Starred.f k a0 a1 = some (true, r2, r3)) :
    Calls Try.prog 7 #[.int .i64 1, .string a0, .string a1, .string a2] w fun e w' => e = .returned (.tuple #[.string r2, .bool r3]) ∧ Drawn0 w w' := by
  have H := Aside0.mk h
  clear h
  go_enter Try.func7, Try.ntmps7
  go_wp2_with (go_at_call 9; (with_reducible refine (spec_Starred.calls k a0 a1 true r2 r3 _ H.out).mono ?_); rintro e w' ⟨rfl, ⟨nd, rfl⟩⟩)
  go_ret2
  exact ⟨rfl, by repeat (first | exact Drawn0.refl _ | apply Drawn0.step)⟩

set_option maxHeartbeats 1000000 in
set_option maxRecDepth 100000 in
theorem gotten_no (k : Nat) (a0 a1 a2 : ByteArray) (r2 : ByteArray) (r3 : Bool) (w : World) (h : spec_Starred.f k a0 a1 = some (false, r2, r3)) :
    Calls Try.prog 7 #[.int .i64 1, .string a0, .string a1, .string a2] w fun e w' => e = .returned (.tuple #[.string ⟨#[]⟩, .bool r3]) ∧ Drawn0 w w' := by
  have H := Aside0.mk h
  clear h
  go_enter Try.func7, Try.ntmps7
  go_wp2_with (go_at_call 9; (with_reducible refine (spec_Starred.calls k a0 a1 false r2 r3 _ H.out).mono ?_); rintro e w' ⟨rfl, ⟨nd, rfl⟩⟩)
  go_ret2
  exact ⟨rfl, by repeat (first | exact Drawn0.refl _ | apply Drawn0.step)⟩

/-- What Gotten gives: the part where it matches, nothing otherwise. -/
def part : Bool → ByteArray → ByteArray
  | true, r2 => r2
  | false, _ => ⟨#[]⟩

theorem gotten (k : Nat) (a0 a1 a2 : ByteArray) (r1 : Bool) (r2 : ByteArray) (r3 : Bool) (w : World) (h : spec_Starred.f k a0 a1 = some (r1, r2, r3)) :
    Calls Try.prog 7 #[.int .i64 1, .string a0, .string a1, .string a2] w fun e w' => e = .returned (.tuple #[.string (part r1 r2), .bool r3]) ∧ Drawn0 w w' := by
  cases r1 with
  | true => exact gotten_yes k a0 a1 a2 r2 r3 w h
  | false => exact gotten_no k a0 a1 a2 r2 r3 w h

set_option maxHeartbeats 1000000 in
set_option maxRecDepth 100000 in
theorem walk (a0 a1 : ByteArray) (w : World) :
    Calls Try.prog 4 #[.string a0, .string a1] w fun e w' => e = .returned (.bool true) ∧ Drawn0 w w' := by
  by_cases h0 : 2147483647 < a0.size
  · have c0 : decide (2147483647 < (a0.size : Int)) = true := decide_eq_true (by omega)
    have c0' : decide (2147483647 < a0.size) = true := decide_eq_true h0
    clear h0
    go_enter Try.func4, Try.ntmps4
    go_wp2
    go_ret
    exact ⟨rfl, by repeat (first | exact Drawn0.refl _ | apply Drawn0.step)⟩
  · have c0 : decide (2147483647 < (a0.size : Int)) = false := decide_eq_false (by omega)
    have c0' : decide (2147483647 < a0.size) = false := decide_eq_false h0
    by_cases h1 : 2147483647 < a1.size
    · have c1 : decide (2147483647 < (a1.size : Int)) = true := decide_eq_true (by omega)
      have c1' : decide (2147483647 < a1.size) = true := decide_eq_true h1
      clear h0 h1
      go_enter Try.func4, Try.ntmps4
      go_wp2
      go_ret
      exact ⟨rfl, by repeat (first | exact Drawn0.refl _ | apply Drawn0.step)⟩
    · have c1 : decide (2147483647 < (a1.size : Int)) = false := decide_eq_false (by omega)
      have c1' : decide (2147483647 < a1.size) = false := decide_eq_false h1
      obtain ⟨k, r1, r2, r3, h, ht⟩ := Kg.starred_tells a0 a1 (by omega) (by omega)
      obtain ⟨P, hP⟩ : ∃ P, P = part r1 r2 := ⟨_, rfl⟩
      have HG : Aside0 (∀ w, Calls Try.prog 7 #[.int .i64 1, .string a0, .string a1, .string ⟨#[]⟩] w fun e w' => e = .returned (.tuple #[.string P, .bool r3]) ∧ Drawn0 w w') := ⟨fun w => hP ▸ gotten k a0 a1 ⟨#[]⟩ r1 r2 r3 w h⟩
      cases r3 with
      | false =>
        clear h ht h0 h1 hP
        go_enter Try.func4, Try.ntmps4
        go_wp2_with (go_at_call 7; (with_reducible refine (HG.out _).mono ?_); rintro e w' ⟨rfl, ⟨nd, rfl⟩⟩)
        go_ret
        exact ⟨rfl, by repeat (first | exact Drawn0.refl _ | apply Drawn0.step)⟩
      | true =>
        obtain ⟨i, hi⟩ := ht rfl
        have h2 : ∃ k, impl_KeyGet.f k a0 a1 = some P := by
          cases r1 with
          | true => rw [hP]; exact Kg.keyGet_same hi
          | false => rw [hP]; have := Kg.gotten_empty hi; subst this; exact Kg.keyGet_same hi
        obtain ⟨k2, h2⟩ := h2
        have H2 := Aside0.mk h2
        clear h ht h0 h1 hi h2 hP
        go_enter Try.func4, Try.ntmps4
        go_wp2_with (first
          | (go_at_call 7; (with_reducible refine (HG.out _).mono ?_); rintro e w' ⟨rfl, ⟨nd, rfl⟩⟩)
          | (go_at_call 8; (with_reducible refine (impl_KeyGet.calls k2 a0 a1 P _ H2.out).mono ?_); rintro e w' ⟨rfl, ⟨nd, rfl⟩⟩))
        go_ret
        exact ⟨by simp, by repeat (first | exact Drawn0.refl _ | apply Drawn0.step)⟩

theorem own : ownKnob Try.prog.godebug = none := by kernel_rfl
set_option maxRecDepth 100000 in
theorem lifted (os : Os) (started : os.Started) (H : Type) (enc : TypeId × Value → H) :
    ReturnsInHanded {} Try.checked os 4 .any (Rows.fnKeyGetSpec.pre6 enc Try.prog Try.f4 Rows.fnKeyGetRow.domain false) (Rows.fnKeyGetSpec.post enc Try.prog Try.f4 false true false false) := by
  refine returnsInHanded_of_change (C := Try.checked) own started (by kernel_rfl) Try.func4
    (ChangeSpec.witness6 (enc := enc) (C := Try.checked) false ⟨#[], #[.string ByteArray.empty, .string ByteArray.empty], []⟩ 8 (by kernel_rfl) (by kernel_rfl) (by kernel_rfl) (by kernel_rfl)) ?_
  intro W base args ds gs before hval0 hW hcnd _
  have hval : ∀ (j : Nat) t v, Try.f4.params[j]? = some t → args[j]? = some v → Value.okWide Try.prog W .any base t v := hval0
  have hW' := hW
  obtain ⟨p, q, hA0, hV, rfl, hfz, hnd⟩ := hW
  have hA : DataW.TrodAll enc Try.prog W 0 (fun _ => true) true Try.f4.params.toList args.toList ds p := hA0
  rw [Try.params4] at hA hval
  obtain ⟨v0, v1, d0, d1, p0, p1, rfl, rfl, rfl, h0, h1⟩ := trodAll_two hA
  obtain ⟨rfl, rfl⟩ := trodVars_none hV
  obtain ⟨a0, rfl, rfl, rfl, y0⟩ := open_string Try.underlying9 (hval 0 9 v0 rfl rfl) h0
  obtain ⟨a1, rfl, rfl, rfl, y1⟩ := open_string Try.underlying9 (hval 1 9 v1 rfl rfl) h1
  clear hA0 hval0
  refine (walk a0 a1 W).mono fun e W' ⟨he, hd⟩ => ?_
  subst he
  have bel := hd.below
  exact ⟨_, rfl, _, _, _, [], _, [], hW', trodAll_mk1 (shut_bool Try.underlying4 _), trodAll_mk2 (shut_string Try.underlying9 y0) (shut_string Try.underlying9 y1), rfl, bel.frame _, fun h => by cases h⟩
theorem proved : Rows.FnKeyGetSaid :=
  OpenClaim.holds_of_wide 4 Try.f4 rfl rfl rfl rfl rfl rfl rfl ⟨rfl, rfl, rfl, rfl, rfl⟩ rfl rfl rfl rfl rfl (by kernel_rfl) Try.func4 (by kernel_rfl)
    (of_decide_eq_true (by kernel_rfl)) (by unfold Func.isWrapper; first | (rw [if_pos (by decide +kernel)]; kernel_rfl) | (rw [if_neg (by decide +kernel)]; exact ⟨rfl, rfl⟩))
    (fun os started H enc _ => lifted os started H enc)
#print axioms proved
end Go.Proofs.Ytmmjbhdjjhbjmaa.KgLaw
