/- impl.RolesOf: the roles of a name, in the order of the rows. Printed by mk_gw.py from the text on users. -/
import Derived.Test.YtpdejkalcminbaaUo
import Derived.Test.YtpdejkalcminbaaGw
namespace Go.Proofs.Ytpdejkalcminbaa.Rl
open Go.RowKit Go.Proofs.Ytpdejkalcminbaa.Hm Go.Proofs.Ytpdejkalcminbaa.Hp Go.Proofs.Ytpdejkalcminbaa.Zm Go.Proofs.Ytpdejkalcminbaa.Mk Go.Proofs.Ytpdejkalcminbaa.Rg Go.Proofs.Ytpdejkalcminbaa.Ro Go.Proofs.Ytpdejkalcminbaa.Rm Go.Proofs.Ytpdejkalcminbaa.Gr Go.Proofs.Ytpdejkalcminbaa.Dm Go.Proofs.Ytpdejkalcminbaa.Da Go.Proofs.Ytpdejkalcminbaa.Mo Go.Proofs.Ytpdejkalcminbaa.Us Go.Proofs.Ytpdejkalcminbaa.Gu Go.Proofs.Ytpdejkalcminbaa.Uo Go.Proofs.Ytpdejkalcminbaa.Gw
open Go.Proofs.YtpdejkalcminbaaW.PrintWords (Kd)

set_option maxHeartbeats 1000000 in
set_option maxRecDepth 100000 in
theorem dmGetRoles {w0 w : World} {H : Heap} {dm m : Nat} {ca dv : Value} {ds : List ByteArray} {rp : ByteArray → Nat} {Ld : ByteArray → List (ByteArray × ByteArray)} {d n : ByteArray} (h : Rep w0 w H) (D : DMp H dm m ca ds rp Ld) (hdv : DomV w dv d) (hL : (Ld d).length < 10000) :
    Calls Try.prog 21 #[pt dm, .string n, dv] w fun e w' => ∃ v H', e = .returned (.tuple #[v, .nilIface]) ∧ Rep w0 w' H' ∧ Held H' v (up (Ld d) n) := by
  have CD := hid (getDomain (dm := dm) hdv)
  have CR := hid (getRmOf d h D)
  have hnn := neq_nil37
  clear h D hdv
  go_enter Try.func21, Try.ntmps21
  go_wp2_with (first | (go_at_call 29; (with_reducible refine CD.out.mono ?_); rintro e w1 ⟨rfl, rfl⟩) | (go_at_call 30; (with_reducible refine CR.out.mono ?_); rintro e w1 ⟨r, P, names, H1, rfl, hR⟩; have HR := hid hR; clear hR))
  have CU := hid (rmGetRoles (n := n) dv HR.out.rep HR.out.rm (by have := HR.out.few; omega) (by omega))
  refine CU.out.mono ?_
  rintro e w2 ⟨v, H2, rfl, h2⟩
  have H2' := hid h2
  clear h2 CU
  go_wp2
  go_ret2
  exact ⟨v, H2, rfl, H2'.out⟩

set_option maxHeartbeats 2000000 in
set_option maxRecDepth 100000 in
theorem rolesOf {w : World} {A0 : Option Addr} {c0 sz : Nat} {rows : List (List ByteArray)} (d n : ByteArray) (hr : Kd.C (Kd.slice 9 Kd.string) w A0 rows.length rows) (S : Shaped rows sz) :
    Calls Try.prog 11 #[.slice A0 rows.length c0, .string d, .string n] w fun e w' => ∃ v H', e = .returned v ∧ Rep w w' H' ∧ Held H' v (up (LdOf rows d) n) := by
  have CM := hid (manager (c0 := c0) d hr S)
  have hnn := neq_nil37
  clear hr S
  go_enter Try.func11, Try.ntmps11
  go_wp2_with fail
  go_region_with (first
    | (go_at_call 18; refine CM.out.mono ?_; rintro e w1 ⟨q, dm, m, ca, H, ds, rp, rfl, hM⟩
       have G := hid hM
       have q0 : w1.cell? ⟨q, 0, none⟩ = some (pt dm) := cell_of (G.out.rep.at G.out.q_) 0 rfl
       clear hM)
    | (go_at_call 20; refine (domainsOf d G.out.rep).mono ?_; rintro e w2 ⟨A, sn, sc, rfl, hD⟩
       obtain ⟨H2, hG2⟩ := G.out.doms hD
       have G2 := hid hG2
       have q1 : w2.cell? ⟨q, 0, none⟩ = some (pt dm) := cell_of (G2.out.rep.at G2.out.q_) 0 rfl
       clear hG2 hD)
    | (go_at_call 21; refine (dmGetRoles (n := n) G2.out.rep G2.out.dmp G2.out.dom G2.out.le).mono ?_; rintro e w3 ⟨v, H3, rfl, h3⟩
       have HF := hid h3
       clear h3))
  all_goals
    go_wp2
    go_ret
    exact ⟨v, H3, rfl, HF.out⟩

end Go.Proofs.Ytpdejkalcminbaa.Rl
