/- impl.HasLink: whether a name has a role by at most ten links. -/
import Derived.Test.YtpdejkalcminbaaUo
import Derived.Test.YtpdejkalcminbaaHk
namespace Go.Proofs.Ytpdejkalcminbaa.Hi
open Go.RowKit Go.Proofs.Ytpdejkalcminbaa.Hm Go.Proofs.Ytpdejkalcminbaa.Hp Go.Proofs.Ytpdejkalcminbaa.Zm Go.Proofs.Ytpdejkalcminbaa.Mk Go.Proofs.Ytpdejkalcminbaa.Rg Go.Proofs.Ytpdejkalcminbaa.Ro Go.Proofs.Ytpdejkalcminbaa.Rm Go.Proofs.Ytpdejkalcminbaa.Dm Go.Proofs.Ytpdejkalcminbaa.Da Go.Proofs.Ytpdejkalcminbaa.Mo Go.Proofs.Ytpdejkalcminbaa.Uo Go.Proofs.Ytpdejkalcminbaa.Hk
open Go.Proofs.YtpdejkalcminbaaW.PrintWords (Kd)

set_option maxHeartbeats 1000000 in
set_option maxRecDepth 100000 in
theorem dmHasLink {w0 w : World} {H : Heap} {dm m : Nat} {ca dv : Value} {ds : List ByteArray} {rp : ByteArray → Nat} {Ld : ByteArray → List (ByteArray × ByteArray)} {d a b : ByteArray} (h : Rep w0 w H) (D : DMp H dm m ca ds rp Ld) (hdv : DomV w dv d) (hL : (Ld d).length < 4000) :
    Calls Try.prog 24 #[pt dm, .string a, .string b, dv] w fun e w' => ∃ v H', e = .returned (.tuple #[.bool v, .nilIface]) ∧ (v = true ↔ Near (Ld d) a b) ∧ Rep w0 w' H' := by
  have CD := hid (getDomain (dm := dm) hdv)
  have CR := hid (getRmOf d h D)
  have hnn := neq_nil37
  clear h D hdv
  go_enter Try.func24, Try.ntmps24
  go_wp2_with (first | (go_at_call 29; (with_reducible refine CD.out.mono ?_); rintro e w1 ⟨rfl, rfl⟩) | (go_at_call 30; (with_reducible refine CR.out.mono ?_); rintro e w1 ⟨r, P, names, H1, rfl, hR⟩; have HR := hid hR; clear hR))
  have CU := hid (hasLink (a := a) (b := b) dv HR.out.rep HR.out.rm (by have := HR.out.few; omega) (by omega))
  refine CU.out.mono ?_
  rintro e w2 ⟨v, H2, rfl, hv, h2⟩
  have H2' := hid (And.intro hv h2)
  clear hv h2 CU
  go_wp2
  go_ret2
  exact ⟨v, H2, rfl, H2'.out⟩

theorem eql_nil37 (w : World) : (Go.binOp .eql 37 .nilIface .nilIface).run Try.prog w = .ok (.bool true) w := by kernel_rfl

/-- What impl.HasLink answers. -/
def Ans (w : World) (L : List (ByteArray × ByteArray)) (a b : ByteArray) (e : Ending) (w' : World) : Prop := ∃ v H', e = .returned (.bool v) ∧ (v = true ↔ Near L a b) ∧ Rep w w' H'

set_option maxHeartbeats 2000000 in
set_option maxRecDepth 100000 in
theorem hasLinkOf {w : World} {A0 : Option Addr} {c0 sz : Nat} {rows : List (List ByteArray)} (d a b : ByteArray) (hr : Kd.C (Kd.slice 9 Kd.string) w A0 rows.length rows) (S : Shaped rows sz) :
    Calls Try.prog 13 #[.slice A0 rows.length c0, .string d, .string a, .string b] w (Ans w (LdOf rows d) a b) := by
  have CM := hid (manager (c0 := c0) d hr S)
  have hle : (LdOf rows d).length < 4000 := by have := Ld_le rows d; have := S.few; omega
  have hnn := neq_nil37
  have hne := eql_nil37
  clear hr S
  go_enter Try.func13, Try.ntmps13
  go_wp2_with fail
  go_region_with (first
    | (go_at_call 18; refine CM.out.mono ?_; rintro e w1 ⟨q, dm, m, ca, H, ds, rp, rfl, hM⟩
       have G := hid hM
       have q0 : w1.cell? ⟨q, 0, none⟩ = some (pt dm) := cell_of (G.out.rep.at G.out.q_) 0 rfl
       clear hM)
    | (go_at_call 20; refine (domainsOf d G.out.rep).mono ?_; rintro e w2 ⟨A, sn, sc, rfl, hD⟩
       obtain ⟨H2, hG2⟩ := G.out.doms hD
       have G2 := hid hG2
       have q1 : w2.cell? ⟨q, 0, none⟩ = some (pt dm) := cell_of (G2.out.rep.at G2.out.q_) 0 rfl
       clear hG2 hD)
    | (go_at_call 24; refine (dmHasLink (a := a) (b := b) G2.out.rep G2.out.dmp G2.out.dom hle).mono ?_; rintro e w3 ⟨v, H3, rfl, hv, h3⟩
       have HF := hid (show Ans w (LdOf rows d) a b (.returned (.bool v)) w3 from ⟨v, H3, rfl, hv, h3⟩)
       clear hv h3))
  all_goals
    go_wp2
    go_ret
    exact HF.out

end Go.Proofs.Ytpdejkalcminbaa.Hi
