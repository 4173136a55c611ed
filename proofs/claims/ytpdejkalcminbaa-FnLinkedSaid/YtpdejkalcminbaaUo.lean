/- impl.UsersOf: the users of a role, in the order of the rows. -/
import Derived.Test.YtpdejkalcminbaaGu
import Derived.Deep.RegionWith
namespace Go.Proofs.Ytpdejkalcminbaa.Uo
open Go.RowKit Go.Proofs.Ytpdejkalcminbaa.Hm Go.Proofs.Ytpdejkalcminbaa.Hp Go.Proofs.Ytpdejkalcminbaa.Zm Go.Proofs.Ytpdejkalcminbaa.Mk Go.Proofs.Ytpdejkalcminbaa.Rg Go.Proofs.Ytpdejkalcminbaa.Ro Go.Proofs.Ytpdejkalcminbaa.Rm Go.Proofs.Ytpdejkalcminbaa.Gr Go.Proofs.Ytpdejkalcminbaa.Dm Go.Proofs.Ytpdejkalcminbaa.Da Go.Proofs.Ytpdejkalcminbaa.Mo Go.Proofs.Ytpdejkalcminbaa.Us Go.Proofs.Ytpdejkalcminbaa.Gu
open Go.Proofs.YtpdejkalcminbaaW.PrintWords (Kd)

/-- A manager of roles of a domain. -/
structure RmOf (w0 w1 : World) (H : Heap) (r : Nat) (L : List (ByteArray × ByteArray)) (P : Ptr) (names : List ByteArray) (H1 : Heap) : Prop where
  rep : Rep w0 w1 H1
  rm : RMp P H1 r names L
  few : names.length ≤ 2 * L.length
  raws : Raws H H1

/-- getRoleManager where it stores nothing. -/
theorem getRmOf {w0 w : World} {H : Heap} {dm m : Nat} {ca : Value} {ds : List ByteArray} {rp : ByteArray → Nat} {Ld : ByteArray → List (ByteArray × ByteArray)} (d : ByteArray) (h : Rep w0 w H) (D : DMp H dm m ca ds rp Ld) :
    Calls Try.prog 30 #[pt dm, .string d, .bool false] w fun e w' => ∃ r P names H', e = .returned (pt r) ∧ RmOf w0 w' H r (Ld d) P names H' := by
  by_cases hd : d ∈ ds
  · refine (getRm_old false h D hd).mono ?_
    rintro e w' ⟨rfl, h'⟩
    obtain ⟨P, names, R, hf⟩ := D.rm_ d hd
    exact ⟨rp d, P, names, H, rfl, h', R, hf, Raws.refl _⟩
  · refine (getRm_lone h D hd).mono ?_
    rintro e w' ⟨r, P, H', rfl, h', x', R⟩
    refine ⟨r, P, [], H', rfl, h', ?_, by simp, Ext.raws x'⟩
    rw [D.nil_ d hd]; exact R

set_option maxHeartbeats 1000000 in
set_option maxRecDepth 100000 in
theorem dmGetUsers {w0 w : World} {H : Heap} {dm m : Nat} {ca dv : Value} {ds : List ByteArray} {rp : ByteArray → Nat} {Ld : ByteArray → List (ByteArray × ByteArray)} {d n : ByteArray} (h : Rep w0 w H) (D : DMp H dm m ca ds rp Ld) (hdv : DomV w dv d) (hL : (Ld d).length < 10000) :
    Calls Try.prog 19 #[pt dm, .string n, dv] w fun e w' => ∃ nv v H', e = .returned (.tuple #[v, .nilIface]) ∧ Rep w0 w' H' ∧ H' nv = some (.strs v (down (Ld d) n)) := by
  have CD := hid (getDomain (dm := dm) hdv)
  have CR := hid (getRmOf d h D)
  have hnn := neq_nil37
  clear h D hdv
  go_enter Try.func19, Try.ntmps19
  go_wp2_with (first | (go_at_call 29; (with_reducible refine CD.out.mono ?_); rintro e w1 ⟨rfl, rfl⟩) | (go_at_call 30; (with_reducible refine CR.out.mono ?_); rintro e w1 ⟨r, P, names, H1, rfl, hR⟩; have HR := hid hR; clear hR))
  have CU := hid (rmGetUsers (n := n) dv HR.out.rep HR.out.rm (by have := HR.out.few; omega) (by omega))
  refine CU.out.mono ?_
  rintro e w2 ⟨nv, v, H2, rfl, h2⟩
  have H2' := hid h2
  clear h2 CU
  go_wp2
  go_ret2
  exact ⟨nv, v, H2, rfl, H2'.out⟩

/-- domainsOf. -/
def Doms (w0 : World) (H : Heap) (d : ByteArray) (w' : World) (v : Value) : Prop := ∃ H', Rep w0 w' H' ∧ Ext H H' ∧ ∀ w1, Rep w0 w1 H' → DomV w1 v d

theorem toList_nil (d : ByteArray) : d.toList = [] ↔ d = none' := by
  rw [Go.ByteArray.toList_eq]
  constructor
  · intro h; cases d with | mk a => congr 1; exact Array.toList_inj.mp h
  · rintro rfl; rfl

set_option maxHeartbeats 1000000 in
set_option maxRecDepth 100000 in
theorem domainsOf {w0 w : World} {H : Heap} (d : ByteArray) (h : Rep w0 w H) :
    Calls Try.prog 20 #[.string d] w fun e w' => ∃ A sn sc, e = .returned (.slice A sn sc) ∧ Doms w0 H d w' (.slice A sn sc) := by
  by_cases hd : d = none'
  · subst hd
    have E := hid (show Doms w0 H none' w (.slice none 0 0) from ⟨H, h, Ext.refl _, fun _ _ => .inl ⟨none, 0, rfl, rfl⟩⟩)
    clear h
    go_enter Try.func20, Try.ntmps20
    go_wp2
    go_ret
    exact ⟨_, _, _, rfl, E.out⟩
  · have c1 : (d.toList == ([] : List UInt8)) = false := beq_eq_false_iff_ne.mpr (fun e => hd ((toList_nil d).mp e))
    have c2 : d.toList.isEmpty = false := by rw [← Bool.not_eq_true, List.isEmpty_iff]; exact fun e => hd ((toList_nil d).mp e)
    have E := hid (show Doms w0 H d (w.alloc (.cells #[.string d] 9)) (.slice (some ⟨w.heap.size, 0, none⟩) 1 1) from
      ⟨_, h.raw (.cells #[.string d] 9) rfl, (Ext.refl H).upd (h.fresh (Nat.le_refl _)) _, fun w1 h1 => .inr ⟨w.heap.size, 0, 0, 1, rfl, cell_of (h1.at (upd_at _ _ _)) 0 rfl, by omega⟩⟩)
    clear h hd
    go_enter Try.func20, Try.ntmps20
    go_wp2
    go_ret
    exact ⟨_, _, _, rfl, E.out⟩

theorem Rep.of_drew {w w' : World} {H : Heap} (h : Rep w.drew w' H) : Rep w w' H := by
  obtain ⟨own, h⟩ := h
  exact ⟨own, ⟨h.bel.os, h.bel.tape, h.bel.output, h.bel.size, h.bel.block⟩, h.rep, h.dom⟩

/-- The manager, in a world behind a draw. -/
structure Got (w : World) (rows : List (List ByteArray)) (d : ByteArray) (w1 : World) (q dm m : Nat) (ca : Value) (H : Heap) (ds : List ByteArray) (rp : ByteArray → Nat) : Prop where
  rep : Rep w w1 H
  q_ : H q = some (drO dm)
  dmp : DMp H dm m ca ds rp (LdOf rows)
  le : (LdOf rows d).length < 10000

theorem manager {w : World} {A0 : Option Addr} {c0 sz : Nat} {rows : List (List ByteArray)} (d : ByteArray) (hr : Kd.C (Kd.slice 9 Kd.string) w A0 rows.length rows) (S : Shaped rows sz) :
    Calls Try.prog 18 #[.slice A0 rows.length c0] w.drew fun e w1 => ∃ q dm m ca H ds rp, e = .returned (pt q) ∧ Got w rows d w1 q dm m ca H ds rp := by
  refine (managerOf (c0 := c0) (w := w.drew) (Kd.C_below hr (Below.refl _ _).drew) S).mono ?_
  rintro e w1 ⟨q, dm, m, ca, rfl, H, ds, rp, M⟩
  refine ⟨q, dm, m, ca, H, ds, rp, rfl, Rep.of_drew M.rep, M.q_, ?_, ?_⟩
  · have := M.dmp
    rwa [List.take_of_length_le (Nat.le_refl _)] at this
  · have := Ld_le rows d
    have := S.few
    omega

/-- The manager, and the slice of its domain. -/
structure Got2 (w : World) (rows : List (List ByteArray)) (d : ByteArray) (w2 : World) (q dm m : Nat) (ca v : Value) (H : Heap) (ds : List ByteArray) (rp : ByteArray → Nat) : Prop extends Got w rows d w2 q dm m ca H ds rp where
  dom : DomV w2 v d

theorem Got.doms {w w1 w2 : World} {rows : List (List ByteArray)} {d : ByteArray} {q dm m : Nat} {ca v : Value} {H : Heap} {ds : List ByteArray} {rp : ByteArray → Nat} (G : Got w rows d w1 q dm m ca H ds rp) (h : Doms w H d w2 v) : ∃ H2, Got2 w rows d w2 q dm m ca v H2 ds rp := by
  obtain ⟨H2, h2, x2, hv⟩ := h
  refine ⟨H2, ⟨h2, x2 _ _ G.q_, ⟨x2 _ _ G.dmp.dm_, x2 _ _ G.dmp.m_, fun x hx => ?_, G.dmp.nil_, G.dmp.nd, G.dmp.inj⟩, G.le⟩, hv w2 h2⟩
  obtain ⟨P, names, R, hf⟩ := G.dmp.rm_ x hx
  exact ⟨P, names, R.ext x2, hf⟩

set_option maxHeartbeats 2000000 in
set_option maxRecDepth 100000 in
theorem usersOf {w : World} {A0 : Option Addr} {c0 sz : Nat} {rows : List (List ByteArray)} (d n : ByteArray) (hr : Kd.C (Kd.slice 9 Kd.string) w A0 rows.length rows) (S : Shaped rows sz) :
    Calls Try.prog 9 #[.slice A0 rows.length c0, .string d, .string n] w fun e w' => ∃ nv v H', e = .returned v ∧ Rep w w' H' ∧ H' nv = some (.strs v (down (LdOf rows d) n)) := by
  have CM := hid (manager (c0 := c0) d hr S)
  have hnn := neq_nil37
  clear hr S
  go_enter Try.func9, Try.ntmps9
  go_wp2_with fail
  go_region_with (first
    | (go_at_call 18; refine CM.out.mono ?_; rintro e w1 ⟨q, dm, m, ca, H, ds, rp, rfl, hM⟩
       have G := hid hM
       have q0 : w1.cell? ⟨q, 0, none⟩ = some (pt dm) := cell_of (G.out.rep.at G.out.q_) 0 rfl
       clear hM)
    | (go_at_call 20; refine (domainsOf d G.out.rep).mono ?_; rintro e w2 ⟨A, sn, sc, rfl, hD⟩
       obtain ⟨H2, hG2⟩ := G.out.doms hD
       have G2 := hid hG2
       have q1 : w2.cell? ⟨q, 0, none⟩ = some (pt dm) := cell_of (G2.out.rep.at G2.out.q_) 0 rfl
       clear hG2 hD)
    | (go_at_call 19; refine (dmGetUsers (n := n) G2.out.rep G2.out.dmp G2.out.dom G2.out.le).mono ?_; rintro e w3 ⟨nv, v, H3, rfl, h3⟩
       have HF := hid h3
       clear h3))
  all_goals
    go_wp2
    go_ret
    exact ⟨nv, v, H3, rfl, HF.out⟩

end Go.Proofs.Ytpdejkalcminbaa.Uo
