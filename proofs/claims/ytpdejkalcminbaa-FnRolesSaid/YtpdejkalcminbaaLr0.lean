/- spec.Roles: the roles in the order of the rows. -/
import Derived.Test.YtpdejkalcminbaaLw
import Derived.Test.YtpdejkalcminbaaRl
namespace Go.Proofs.Ytpdejkalcminbaa.Lr0
open Go.RowKit
open Go.Proofs.YtpdejkalcminbaaW.PrintWords (Kd Drawn0 Ev)
open Go.Proofs.Ytpdejkalcminbaa.PFnUsers Go.Proofs.Ytpdejkalcminbaa.Hp Go.Proofs.Ytpdejkalcminbaa.Pl Go.Proofs.Ytpdejkalcminbaa.Mo Go.Proofs.Ytpdejkalcminbaa.Rm

theorem held_C {w0 w : World} {H : Heap} {v : Value} {l : List ByteArray} (h : Rep w0 w H) (hv : Gw.Held H v l) (hl : l.length < 1000000) :
    ∃ A c, v = .slice A l.length c ∧ l.length ≤ c ∧ Kd.C Kd.string w A l.length l := by
  obtain ⟨g, rfl, hg⟩ := hv
  have hh := h.at hg
  refine ⟨_, _, rfl, Nat.le_refl _, rfl, by omega, fun _ => ⟨_, rfl, fun j p hj => ⟨[.string p], rfl, rfl, fun i u hu => ?_⟩⟩⟩
  match i, hu with
  | 0, hu =>
    simp at hu
    subst hu
    have hsz : Kd.string.sz = 1 := rfl
    rw [hsz, Nat.mul_one, Nat.add_zero, Addr.add_lit, Nat.zero_add]
    exact Hp.cell_of hh j (by simp [hj])

/-- spec.Roles. -/
theorem specRoles (rows : List (List ByteArray)) (d n : ByteArray) (F : Fits rows) (hd : d.size ≤ big) (hn : n.size ≤ big) :
    ∃ l told, (told = true → Shaped rows (sizeOf' d) ∧ l = up (LdOf rows d) n) ∧ ∀ (A0 : Option Addr) (c0 : Nat) (w : World), Kd.C (Kd.slice 9 Kd.string) w A0 rows.length rows → rows.length ≤ c0 →
      Calls Try.prog 10 #[.slice A0 rows.length c0, .string d, .string n] w fun e w' => ∃ v0 : Value, e = .returned (.tuple #[v0, .bool told]) ∧ Kd.R Kd.string 9 w' w.heap.size (fun _ => True) v0 l ∧ Below w.heap.size w w' := by
  obtain ⟨b, eb, hb⟩ := areLinks_ev rows d n F hd hn
  obtain ⟨k, hk⟩ := eb.rounds
  cases b with
  | false =>
    refine ⟨[], false, (by simp), fun A0 c0 w hr hc => ?_⟩
    have CA := hid (spec_areLinks.calls k A0 c0 rows d n false w hr hc hk)
    clear hr hc hk eb hb
    go_enter Try.func10, Try.ntmps10
    go_wp2_with (go_at_call 15; (with_reducible refine CA.out.mono ?_); rintro e w1 ⟨rfl, hd⟩; have HD := hid hd; clear hd)
    go_ret2
    exact ⟨_, rfl, Kd.R_nil _ _ _ _ _, HD.out.below⟩
  | true =>
    have S := hb rfl
    obtain ⟨k2, hk2⟩ := (direct_ev rows d n true F S).rounds
    refine ⟨_, true, fun _ => ⟨S, rfl⟩, fun A0 c0 w hr hc => ?_⟩
    have CA := hid (spec_areLinks.calls k A0 c0 rows d n true w hr hc hk)
    have CD := hid (fun w1 (hw : Below w.heap.size w w1) => spec_direct.calls k2 A0 c0 rows d n true _ w1 (Kd.C_below hr hw) hc hk2)
    clear hr hc hk eb hb S hk2
    go_enter Try.func10, Try.ntmps10
    go_wp2_with (first
      | (go_at_call 15; (with_reducible refine CA.out.mono ?_); rintro e w1 ⟨rfl, hd⟩; have HD := hid hd; clear hd)
      | (go_at_call 16; (with_reducible refine (CD.out _ (by exact HD.out.below)).mono ?_); rintro e w2 ⟨v0, rfl, hv, hb⟩; obtain ⟨A1, c1, rfl⟩ := Kd.R_slice hv; have HV := hid (Kd.R_lower hv HD.out.below.size); have HB := hid (HD.out.below.trans (hb.mono HD.out.below.size)); clear hv hb))
    go_ret2
    exact ⟨_, rfl, HV.out, HB.out⟩

end Go.Proofs.Ytpdejkalcminbaa.Lr0
