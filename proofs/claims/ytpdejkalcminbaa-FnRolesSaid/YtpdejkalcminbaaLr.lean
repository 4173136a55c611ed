/- 'laws.FnRoles' answers true for all rows, every domain and every name; its arguments read afterwards as before. No condition. -/
import Derived.Test.YtpdejkalcminbaaRows
import Derived.Test.YtpdejkalcminbaaLr0
import Derived.ProofKit
import Derived.OpenShut
import Derived.ShutString
import Derived.ChangeOld
import Derived.SizedLaws
namespace Go.Proofs.Ytpdejkalcminbaa.Lr
open Go.ChangeShapes Go.WideShapes Go.ChangeAt Go.RowKit
open Go.ChangeMaps (open_string shut_string)
open Go.Proofs.YtpdejkalcminbaaW.PrintWords (Kd Drawn0)
open Go.Proofs.Ytpdejkalcminbaa.PFnUsers Go.Proofs.Ytpdejkalcminbaa.Hp Go.Proofs.Ytpdejkalcminbaa.Pl

set_option maxHeartbeats 2000000 in
set_option maxRecDepth 100000 in
theorem walk {A0 : Option Addr} {c0 : Nat} {rows : List (List ByteArray)} (d n : ByteArray) (w : World) (hr : Kd.C (Kd.slice 9 Kd.string) w A0 rows.length rows) (hc : rows.length ≤ c0) :
    Calls Try.prog 4 #[.slice A0 rows.length c0, .string d, .string n] w fun e w' => e = .returned (.bool true) ∧ Below w.heap.size w w' := by
  obtain ⟨b, eb, hb⟩ := fits3_ev rows
  obtain ⟨k, hk⟩ := eb.rounds
  have CF := hid (laws_zzFits3.calls k A0 c0 rows b w hr hc hk)
  cases b with
  | false =>
    clear hr hc hb hk eb
    go_enter Try.func4, Try.ntmps4
    go_wp2_with (go_at_call 6; (with_reducible refine CF.out.mono ?_); rintro e w1 ⟨rfl, hd⟩; have HD := hid hd; clear hd)
    go_ret
    exact ⟨rfl, HD.out.below⟩
  | true =>
    have F := hb rfl
    have hbig : big = 2147483647 := rfl
    by_cases h0 : 2147483647 < d.size
    · have q0 : decide (2147483647 < (d.size : Int)) = true := decide_eq_true (by omega)
      have q0' : decide (2147483647 < d.size) = true := decide_eq_true h0
      clear hr hc hb hk eb F h0 hbig
      go_enter Try.func4, Try.ntmps4
      go_wp2_with (go_at_call 6; (with_reducible refine CF.out.mono ?_); rintro e w1 ⟨rfl, hd⟩; have HD := hid hd; clear hd)
      go_ret
      exact ⟨rfl, HD.out.below⟩
    · have q0 : decide (2147483647 < (d.size : Int)) = false := decide_eq_false (by omega)
      have q0' : decide (2147483647 < d.size) = false := decide_eq_false h0
      by_cases h1 : 2147483647 < n.size
      · have q1 : decide (2147483647 < (n.size : Int)) = true := decide_eq_true (by omega)
        have q1' : decide (2147483647 < n.size) = true := decide_eq_true h1
        clear hr hc hb hk eb F h0 h1 hbig
        go_enter Try.func4, Try.ntmps4
        go_wp2_with (go_at_call 6; (with_reducible refine CF.out.mono ?_); rintro e w1 ⟨rfl, hd⟩; have HD := hid hd; clear hd)
        go_ret
        exact ⟨rfl, HD.out.below⟩
      · have q1 : decide (2147483647 < (n.size : Int)) = false := decide_eq_false (by omega)
        have q1' : decide (2147483647 < n.size) = false := decide_eq_false h1
        obtain ⟨l, told, hu, cu⟩ := Lr0.specRoles rows d n F (by omega) (by omega)
        have CU := hid (fun w1 (hw : Below w.heap.size w w1) => cu A0 c0 w1 (Kd.C_below hr hw) hc)
        have HR := hid hr
        have HU := hid hu
        clear hr hc hb hk eb F h0 h1 hbig cu hu
        cases told with
        | false =>
          go_enter Try.func4, Try.ntmps4
          go_wp2_with (first
            | (go_at_call 6; (with_reducible refine CF.out.mono ?_); rintro e w1 ⟨rfl, hd⟩; have HD := hid hd; clear hd)
            | (go_at_call 10; (with_reducible refine (CU.out _ (by exact HD.out.below)).mono ?_); rintro e w2 ⟨v, rfl, hv, hb2⟩; obtain ⟨A1, c1, rfl⟩ := Kd.R_slice hv; have HB2 := hid hb2; clear hv hb2))
          go_ret
          exact ⟨rfl, HD.out.below.trans (HB2.out.mono HD.out.below.size)⟩
        | true =>
          obtain ⟨S, rfl⟩ := HU.out rfl
          have hnd := Gu.up_nodup (Lw.links_nodup S d) n
          have hlen : (Rm.up (Mo.LdOf rows d) n).length < 1000 := by have := Gr.up_le (Mo.LdOf rows d) n; have := Mo.Ld_le rows d; have := S.few; omega
          obtain ⟨k3, hk3⟩ := (sameNames_ev (Rm.up (Mo.LdOf rows d) n) (by have : big = 2147483647 := rfl; omega) hnd).rounds
          have CO := hid (fun w1 (hw : Below w.heap.size w w1) => Rl.rolesOf (c0 := c0) d n (Kd.C_below HR.out hw) S)
          have CS := hid (spec_SameNames.calls k3)
          have HK3 := hid hk3
          have HLEN := hid hlen
          clear hnd hlen hk3 HU S
          go_enter Try.func4, Try.ntmps4
          go_wp2_with (first
            | (go_at_call 6; (with_reducible refine CF.out.mono ?_); rintro e w1 ⟨rfl, hd⟩; have HD := hid hd; clear hd)
            | (go_at_call 10; (with_reducible refine (CU.out _ (by exact HD.out.below)).mono ?_); rintro e w2 ⟨v, rfl, hv, hb2⟩; obtain ⟨A1, c1, rfl, hl1, hC1⟩ := Kd.R_reads hv; have HB2 := hid (HD.out.below.trans (hb2.mono HD.out.below.size)); have HC1 := hid hC1; have HL1 := hid hl1; clear hv hb2 hl1 hC1)
            | (go_at_call 11; (with_reducible refine (CO.out _ (by exact HB2.out)).mono ?_); rintro e w3 ⟨v3, H3, rfl, h3, hv3⟩; obtain ⟨A2, c2, rfl, hl2, hC2⟩ := Lr0.held_C h3 hv3 (by have := HLEN.out; omega); have HB3 := hid (HB2.out.trans (h3.bel.mono HB2.out.size)); have HC2 := hid hC2; have HL2 := hid hl2; have HC1' := hid (Kd.C_below HC1.out h3.bel); clear h3 hv3 hl2 hC2)
            | (go_at_call 8; (with_reducible refine (CS.out _ _ _ _ _ _ true _ HC2.out HL2.out HC1'.out HL1.out HK3.out).mono ?_); rintro e w4 ⟨rfl, hd4⟩; have HD4 := hid hd4; clear hd4))
          go_ret
          exact ⟨rfl, HB3.out.trans (HD4.out.below.mono HB3.out.size)⟩

theorem own : ownKnob Try.prog.godebug = none := by kernel_rfl
theorem laidOut : laidOutB Try.prog = true := by kernel_rfl
set_option maxRecDepth 100000 in
theorem lifted (os : Os) (started : os.Started) (H : Type) (enc : TypeId × Value → H) :
    ReturnsInHanded {} Try.checked os 4 .any (Rows.fnRolesSpec.pre6 enc Try.prog Try.f4 Rows.fnRolesRow.domain false) (Rows.fnRolesSpec.post enc Try.prog Try.f4 false true false false) := by
  refine returnsInHanded_of_change (C := Try.checked) own started (by kernel_rfl) Try.func4
    (ChangeSpec.witness6 (enc := enc) (C := Try.checked) false ⟨#[], #[.slice none 0 0, .string ByteArray.empty, .string ByteArray.empty], []⟩ 8 (by kernel_rfl) (by kernel_rfl) (by kernel_rfl) (by kernel_rfl)) ?_
  intro W base args ds gs before hval0 hW hcnd _
  have hval : ∀ (j : Nat) t v, Try.f4.params[j]? = some t → args[j]? = some v → Value.okWide Try.prog W .any base t v := hval0
  have hW' := hW
  obtain ⟨p, q, hA0, hV, rfl, hfz, hnd⟩ := hW
  have hA : DataW.TrodAll enc Try.prog W 0 (fun _ => true) true Try.f4.params.toList args.toList ds p := hA0
  rw [Try.params4] at hA hval
  obtain ⟨v0, vs0, d0, ds0, p0, q0, hargs, rfl, rfl, h0, r0⟩ := trodAll_cons hA
  obtain ⟨v1, vs1, d1, ds1, p1, q1, rfl, rfl, rfl, h1, r1⟩ := trodAll_cons r0
  obtain ⟨v2, vs2, d2, ds2, p2, q2, rfl, rfl, rfl, h2, r2⟩ := trodAll_cons r1
  obtain ⟨rfl, rfl, rfl⟩ := trodAll_nil r2
  obtain rfl : args = #[v0, v1, v2] := by cases args; simp_all
  obtain ⟨rfl, rfl⟩ := trodVars_none hV
  obtain ⟨a0, len0, cap0, rfl⟩ := okWide_slice Try.underlying22 (hval 0 22 v0 rfl rfl)
  have k0 := h0
  have lt0 : ∀ x ∈ p0, x.block < W.heap.size := by obtain ⟨m, hm⟩ := k0; exact DataW.trod_lt m _ _ _ hm
  obtain ⟨rows, rfl, hcap, hC⟩ : ∃ rows : List (List ByteArray), rows.length = len0 ∧ len0 ≤ cap0 ∧ Kd.C (Kd.slice 9 Kd.string) W a0 len0 rows := by
    obtain ⟨fuel, hf⟩ := h0
    exact Lw.open_rows (by simpa [Value.cells] using hf)
  obtain ⟨a1, rfl, rfl, rfl, y1⟩ := open_string Try.underlying9 (hval 1 9 v1 rfl rfl) h1
  obtain ⟨a2, rfl, rfl, rfl, y2⟩ := open_string Try.underlying9 (hval 2 9 v2 rfl rfl) h2
  clear hA0 hval0
  refine (walk a1 a2 W hC hcap).mono fun e W' ⟨he, bel⟩ => ?_
  subst he
  exact ⟨_, rfl, _, _, _, [], _, [], hW', trodAll_mk1 (shut_bool Try.underlying4 _), trodAll_cons_mk (Below.trod laidOut (by kernel_rfl) (of_decide_eq_true (by kernel_rfl)) k0 bel lt0) (trodAll_cons_mk (shut_string Try.underlying9 y1) (trodAll_cons_mk (shut_string Try.underlying9 y2) trodAll_mk0)), rfl, bel.frame _, fun h => by cases h⟩
theorem proved : Rows.FnRolesSaid :=
  OpenClaim.holds_of_wide 4 Try.f4 rfl rfl rfl rfl rfl rfl rfl ⟨rfl, rfl, rfl, rfl, rfl⟩ rfl rfl rfl rfl rfl (by kernel_rfl) Try.func4 (by kernel_rfl)
    (of_decide_eq_true (by kernel_rfl)) (by unfold Func.isWrapper; first | (rw [if_pos (by decide +kernel)]; kernel_rfl) | (rw [if_neg (by decide +kernel)]; exact ⟨rfl, rfl⟩))
    (fun os started H enc _ => lifted os started H enc)
#print axioms proved
end Go.Proofs.Ytpdejkalcminbaa.Lr
