/- 'laws.FnLinked' answers true for all rows, every domain and every two names; its arguments read afterwards as before. No condition. -/
import Derived.Test.YtpdejkalcminbaaRows
import Derived.Test.YtpdejkalcminbaaLn
import Derived.Test.YtpdejkalcminbaaHi
import Derived.ProofKit
import Derived.OpenShut
import Derived.ShutString
import Derived.ChangeOld
import Derived.SizedLaws
namespace Go.Proofs.Ytpdejkalcminbaa.Lk
open Go.ChangeShapes Go.WideShapes Go.ChangeAt Go.RowKit
open Go.ChangeMaps (open_string shut_string)
open Go.Proofs.YtpdejkalcminbaaW.PrintWords (Kd Drawn0)
open Go.Proofs.Ytpdejkalcminbaa.PFnUsers Go.Proofs.Ytpdejkalcminbaa.Hp Go.Proofs.Ytpdejkalcminbaa.Pl

theorem same {p : Prop} {u v : Bool} (hu : u = true ↔ p) (hv : v = true ↔ p) : u = v := by
  cases u <;> cases v <;> simp_all

set_option maxHeartbeats 2000000 in
set_option maxRecDepth 100000 in
theorem walk {A0 : Option Addr} {c0 : Nat} {rows : List (List ByteArray)} (d a b : ByteArray) (w : World) (hr : Kd.C (Kd.slice 9 Kd.string) w A0 rows.length rows) (hc : rows.length ≤ c0) :
    Calls Try.prog 5 #[.slice A0 rows.length c0, .string d, .string a, .string b] w fun e w' => e = .returned (.bool true) ∧ Below w.heap.size w w' := by
  obtain ⟨fit, eb, hfit⟩ := fits3_ev rows
  obtain ⟨k, hk⟩ := eb.rounds
  have CF := hid (laws_zzFits3.calls k A0 c0 rows fit w hr hc hk)
  cases fit with
  | false =>
    clear hr hc hfit hk eb
    go_enter Try.func5, Try.ntmps5
    go_wp2_with (go_at_call 6; (with_reducible refine CF.out.mono ?_); rintro e w1 ⟨rfl, hd⟩; have HD := hid hd.below; clear hd)
    go_ret
    exact ⟨rfl, HD.out⟩
  | true =>
    have F := hfit rfl
    have hbig : big = 2147483647 := rfl
    by_cases h0 : 2147483647 < d.size
    · have q0 : decide (2147483647 < (d.size : Int)) = true := decide_eq_true (by omega)
      have q0' : decide (2147483647 < d.size) = true := decide_eq_true h0
      clear hr hc hfit hk eb F h0 hbig
      go_enter Try.func5, Try.ntmps5
      go_wp2_with (go_at_call 6; (with_reducible refine CF.out.mono ?_); rintro e w1 ⟨rfl, hd⟩; have HD := hid hd.below; clear hd)
      go_ret
      exact ⟨rfl, HD.out⟩
    have q0 : decide (2147483647 < (d.size : Int)) = false := decide_eq_false (by omega)
    have q0' : decide (2147483647 < d.size) = false := decide_eq_false h0
    by_cases h1 : 2147483647 < a.size
    · have q1 : decide (2147483647 < (a.size : Int)) = true := decide_eq_true (by omega)
      have q1' : decide (2147483647 < a.size) = true := decide_eq_true h1
      clear hr hc hfit hk eb F h0 h1 hbig
      go_enter Try.func5, Try.ntmps5
      go_wp2_with (go_at_call 6; (with_reducible refine CF.out.mono ?_); rintro e w1 ⟨rfl, hd⟩; have HD := hid hd.below; clear hd)
      go_ret
      exact ⟨rfl, HD.out⟩
    have q1 : decide (2147483647 < (a.size : Int)) = false := decide_eq_false (by omega)
    have q1' : decide (2147483647 < a.size) = false := decide_eq_false h1
    by_cases h2 : 2147483647 < b.size
    · have q2 : decide (2147483647 < (b.size : Int)) = true := decide_eq_true (by omega)
      have q2' : decide (2147483647 < b.size) = true := decide_eq_true h2
      clear hr hc hfit hk eb F h0 h1 h2 hbig
      go_enter Try.func5, Try.ntmps5
      go_wp2_with (go_at_call 6; (with_reducible refine CF.out.mono ?_); rintro e w1 ⟨rfl, hd⟩; have HD := hid hd.below; clear hd)
      go_ret
      exact ⟨rfl, HD.out⟩
    have q2 : decide (2147483647 < (b.size : Int)) = false := decide_eq_false (by omega)
    have q2' : decide (2147483647 < b.size) = false := decide_eq_false h2
    obtain ⟨may, hmay, cl⟩ := Ln.linked (rows := rows) d a b F (by omega) (by omega) (by omega)
    have CL := hid (fun w1 (hw : Below w.heap.size w w1) => cl A0 c0 w1 (Kd.C_below hr hw) hc)
    have HR := hid hr
    have HM := hid hmay
    clear hr hc hfit hk eb F h0 h1 h2 hbig cl hmay
    go_enter Try.func5, Try.ntmps5
    go_wp2_with (go_at_call 6; (with_reducible refine CF.out.mono ?_); rintro e w1 ⟨rfl, hd⟩; have HD := hid hd.below; clear hd)
    refine (CL.out _ HD.out).mono ?_
    rintro e w2 ⟨ans, told, rfl, ht, hb2⟩
    have HB2 := hid (HD.out.trans (hb2.mono HD.out.size))
    have HT := hid ht
    clear ht hb2
    cases told with
    | false =>
      go_wp2
      go_ret
      exact ⟨rfl, HB2.out⟩
    | true =>
      obtain ⟨hm, hans⟩ := HT.out rfl
      have S := HM.out hm
      have CO := hid (Hi.hasLinkOf (c0 := c0) d a b (Kd.C_below HR.out HB2.out) S)
      have HA := hid hans
      clear hm hans S HT HM CL
      go_wp2_with (go_at_call 13; (with_reducible refine CO.out.mono ?_); rintro e w3 ⟨v, H3, rfl, hv, h3⟩; obtain rfl := same hv HA.out; have HB3 := hid (HB2.out.trans (h3.bel.mono HB2.out.size)); clear hv h3)
      go_ret
      exact ⟨rfl, HB3.out⟩

theorem own : ownKnob Try.prog.godebug = none := by kernel_rfl
theorem laidOut : laidOutB Try.prog = true := by kernel_rfl
set_option maxRecDepth 100000 in
theorem lifted (os : Os) (started : os.Started) (H : Type) (enc : TypeId × Value → H) :
    ReturnsInHanded {} Try.checked os 5 .any (Rows.fnLinkedSpec.pre6 enc Try.prog Try.f5 Rows.fnLinkedRow.domain false) (Rows.fnLinkedSpec.post enc Try.prog Try.f5 false true false false) := by
  refine returnsInHanded_of_change (C := Try.checked) own started (by kernel_rfl) Try.func5
    (ChangeSpec.witness6 (enc := enc) (C := Try.checked) false ⟨#[], #[.slice none 0 0, .string ByteArray.empty, .string ByteArray.empty, .string ByteArray.empty], []⟩ 8 (by kernel_rfl) (by kernel_rfl) (by kernel_rfl) (by kernel_rfl)) ?_
  intro W base args ds gs before hval0 hW hcnd _
  have hval : ∀ (j : Nat) t v, Try.f5.params[j]? = some t → args[j]? = some v → Value.okWide Try.prog W .any base t v := hval0
  have hW' := hW
  obtain ⟨p, q, hA0, hV, rfl, hfz, hnd⟩ := hW
  have hA : DataW.TrodAll enc Try.prog W 0 (fun _ => true) true Try.f5.params.toList args.toList ds p := hA0
  rw [Try.params5] at hA hval
  obtain ⟨v0, vs0, d0, ds0, p0, q0, hargs, rfl, rfl, h0, r0⟩ := trodAll_cons hA
  obtain ⟨v1, vs1, d1, ds1, p1, q1, rfl, rfl, rfl, h1, r1⟩ := trodAll_cons r0
  obtain ⟨v2, vs2, d2, ds2, p2, q2, rfl, rfl, rfl, h2, r2⟩ := trodAll_cons r1
  obtain ⟨v3, vs3, d3, ds3, p3, q3, rfl, rfl, rfl, h3, r3⟩ := trodAll_cons r2
  obtain ⟨rfl, rfl, rfl⟩ := trodAll_nil r3
  obtain rfl : args = #[v0, v1, v2, v3] := by cases args; simp_all
  obtain ⟨rfl, rfl⟩ := trodVars_none hV
  obtain ⟨a0, len0, cap0, rfl⟩ := okWide_slice Try.underlying22 (hval 0 22 v0 rfl rfl)
  have k0 := h0
  have lt0 : ∀ x ∈ p0, x.block < W.heap.size := by obtain ⟨m, hm⟩ := k0; exact DataW.trod_lt m _ _ _ hm
  obtain ⟨rows, rfl, hcap, hC⟩ : ∃ rows : List (List ByteArray), rows.length = len0 ∧ len0 ≤ cap0 ∧ Kd.C (Kd.slice 9 Kd.string) W a0 len0 rows := by
    obtain ⟨fuel, hf⟩ := h0
    exact Lw.open_rows (by simpa [Value.cells] using hf)
  obtain ⟨a1, rfl, rfl, rfl, y1⟩ := open_string Try.underlying9 (hval 1 9 v1 rfl rfl) h1
  obtain ⟨a2, rfl, rfl, rfl, y2⟩ := open_string Try.underlying9 (hval 2 9 v2 rfl rfl) h2
  obtain ⟨a3, rfl, rfl, rfl, y3⟩ := open_string Try.underlying9 (hval 3 9 v3 rfl rfl) h3
  clear hA0 hval0
  refine (walk a1 a2 a3 W hC hcap).mono fun e W' ⟨he, bel⟩ => ?_
  subst he
  exact ⟨_, rfl, _, _, _, [], _, [], hW', trodAll_mk1 (shut_bool Try.underlying4 _), trodAll_cons_mk (Below.trod laidOut (by kernel_rfl) (of_decide_eq_true (by kernel_rfl)) k0 bel lt0) (trodAll_cons_mk (shut_string Try.underlying9 y1) (trodAll_cons_mk (shut_string Try.underlying9 y2) (trodAll_cons_mk (shut_string Try.underlying9 y3) trodAll_mk0))), rfl, bel.frame _, fun h => by cases h⟩
theorem proved : Rows.FnLinkedSaid :=
  OpenClaim.holds_of_wide 5 Try.f5 rfl rfl rfl rfl rfl rfl rfl ⟨rfl, rfl, rfl, rfl, rfl⟩ rfl rfl rfl rfl rfl (by kernel_rfl) Try.func5 (by kernel_rfl)
    (of_decide_eq_true (by kernel_rfl)) (by unfold Func.isWrapper; first | (rw [if_pos (by decide +kernel)]; kernel_rfl) | (rw [if_neg (by decide +kernel)]; exact ⟨rfl, rfl⟩))
    (fun os started H enc _ => lifted os started H enc)
#print axioms proved
end Go.Proofs.Ytpdejkalcminbaa.Lk
