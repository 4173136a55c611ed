/- A manager of domains: AddLink. -/
import Derived.Test.YtpdejkalcminbaaDm
namespace Go.Proofs.Ytpdejkalcminbaa.Da
open Go.RowKit Go.Proofs.Ytpdejkalcminbaa.Hm Go.Proofs.Ytpdejkalcminbaa.Hp Go.Proofs.Ytpdejkalcminbaa.Zm Go.Proofs.Ytpdejkalcminbaa.Mk Go.Proofs.Ytpdejkalcminbaa.Ro Go.Proofs.Ytpdejkalcminbaa.Rm Go.Proofs.Ytpdejkalcminbaa.Gr Go.Proofs.Ytpdejkalcminbaa.Dm

/-- A slice of domains that tells the domain d: the empty one for none. -/
def DomV (w : World) (dv : Value) (d : ByteArray) : Prop :=
  (∃ A c, dv = .slice A 0 c ∧ d = none') ∨ ∃ b o n c, dv = .slice (some ⟨b, o, none⟩) (n + 1) c ∧ w.cell? ⟨b, o, none⟩ = some (.string d) ∧ n < 1000000

set_option maxHeartbeats 1000000 in
set_option maxRecDepth 100000 in
theorem getDomain_one {w : World} {dm b o n c : Nat} {d : ByteArray} (hc : w.cell? ⟨b, o, none⟩ = some (.string d)) (hn : n < 1000000) :
    Calls Try.prog 29 #[pt dm, .slice (some ⟨b, o, none⟩) (n + 1) c] w fun e w' => e = .returned (.tuple #[.string d, .nilIface]) ∧ w = w' := by
  have hne : ((n : Int) + 1 == 0) = false := beq_eq_false_iff_ne.mpr (by omega)
  go_enter Try.func29, Try.ntmps29
  go_wp2
  go_ret2
  exact ⟨rfl, rfl⟩

set_option maxHeartbeats 1000000 in
set_option maxRecDepth 100000 in
theorem getDomain_none {w : World} {dm c : Nat} {A : Option Addr} :
    Calls Try.prog 29 #[pt dm, .slice A 0 c] w fun e w' => e = .returned (.tuple #[.string none', .nilIface]) ∧ w = w' := by
  go_enter Try.func29, Try.ntmps29
  go_wp2
  go_ret2
  exact ⟨rfl, rfl⟩

theorem getDomain {w : World} {dm : Nat} {dv : Value} {d : ByteArray} (h : DomV w dv d) :
    Calls Try.prog 29 #[pt dm, dv] w fun e w' => e = .returned (.tuple #[.string d, .nilIface]) ∧ w = w' := by
  rcases h with ⟨A, c, rfl, rfl⟩ | ⟨b, o, n, c, rfl, hc, hn⟩
  · exact getDomain_none
  · exact getDomain_one hc hn

set_option maxHeartbeats 1000000 in
set_option maxRecDepth 100000 in
/-- rangeAffectedRoleManagers without a function that matches domains. -/
theorem affected {w0 w : World} {H : Heap} {dm m kf : Nat} {ca : Value} {d : ByteArray} {C : Array Value} (h : Rep w0 w H) (hd : H dm = some (dmO m ca)) :
    Calls Try.prog 40 #[pt dm, .string d, .func (.func kf) #[] C] w fun e w' => e = .returned (.tuple #[]) ∧ Rep w0 w' H := by
  have c3 : (((w.alloc (.cells #[pt dm] 42)).alloc (.cells #[.string d] 9)).alloc (.cells #[.func (.func kf) #[] C] 63)).cell? ⟨dm, 3, none⟩ = some .nilFunc := cell_of ((((h.alloc (.cells #[pt dm] 42)).alloc (.cells #[.string d] 9)).alloc (.cells #[.func (.func kf) #[] C] 63)).at hd) 3 rfl
  have HE := hid (((h.alloc (.cells #[pt dm] 42)).alloc (.cells #[.string d] 9)).alloc (.cells #[.func (.func kf) #[] C] 63))
  have hnf := neq_nilFunc
  clear h hd
  go_enter Try.func40, Try.ntmps40
  go_wp2
  go_end0
  exact ⟨rfl, HE.out⟩

structure DAdded (w0 : World) (H : Heap) (dm m : Nat) (ca : Value) (ds : List ByteArray) (Ld : ByteArray → List (ByteArray × ByteArray)) (w' : World) (ds' : List ByteArray) (rp' : ByteArray → Nat) (H' : Heap) : Prop where
  rep : Rep w0 w' H'
  dmp : DMp H' dm m ca ds' rp' Ld
  raws : Raws H H'
  few : ds'.length ≤ ds.length + 1

/-- The links with one more. -/
def put (Ld : ByteArray → List (ByteArray × ByteArray)) (d a b : ByteArray) : ByteArray → List (ByteArray × ByteArray) := fun x => if x = d then Ld d ++ [(a, b)] else Ld x

theorem put_at (Ld : ByteArray → List (ByteArray × ByteArray)) (d a b : ByteArray) : put Ld d a b d = Ld d ++ [(a, b)] := by simp [put]
theorem put_ne {Ld : ByteArray → List (ByteArray × ByteArray)} {d a b x : ByteArray} (h : x ≠ d) : put Ld d a b x = Ld x := by simp [put, h]

theorem added {H H2 : Heap} {dm m : Nat} {ca : Value} {ds : List ByteArray} {rp : ByteArray → Nat} {Ld : ByteArray → List (ByteArray × ByteArray)} {d a b : ByteArray} {P : Ptr} {names : List ByteArray} (D : DMp H dm m ca ds rp Ld) (hd : d ∈ ds)
    (K : Keep (rp d) H H2) (R : RMp P H2 (rp d) names (Ld d ++ [(a, b)])) (hf : names.length ≤ 2 * (Ld d ++ [(a, b)]).length) : DMp H2 dm m ca ds rp (put Ld d a b) := by
  obtain ⟨P0, n0, R0, _⟩ := D.rm_ d hd
  have hne : dm ≠ rp d := fun e => by have h1 := D.dm_; have h2 := R0.r_; rw [← e, h1] at h2; simp at h2
  refine ⟨Keep.raws K _ _ D.dm_, K _ _ D.m_ (zm_ne hne), fun x hx => ?_, fun x hx => ?_, D.nd, D.inj⟩
  · by_cases e : x = d
    · subst e
      rw [put_at]
      exact ⟨P, names, R, hf⟩
    · rw [put_ne e]
      obtain ⟨P1, n1, R1, h1⟩ := D.rm_ x hx
      exact ⟨P1, n1, R1.keep K (fun e2 => e (D.inj x hx d hd e2)), h1⟩
  · rw [put_ne (fun e => hx (by rw [e]; exact hd))]
    exact D.nil_ x hx

theorem neq_nil37 (w : World) : (Go.binOp .neq 37 .nilIface .nilIface).run Try.prog w = .ok (.bool false) w := by kernel_rfl

set_option maxHeartbeats 2000000 in
set_option maxRecDepth 100000 in
/-- AddLink of a new link of a domain. -/
theorem dmAddLink {w0 w : World} {H : Heap} {dm m : Nat} {ca : Value} {ds : List ByteArray} {rp : ByteArray → Nat} {Ld : ByteArray → List (ByteArray × ByteArray)} (a b d : ByteArray) {A : Option Addr} {sn sc : Nat} (h : Rep w0 w H) (D : DMp H dm m ca ds rp Ld)
    (hdv : ∀ w1, Rep w0 w1 H → DomV w1 (.slice A sn sc) d) (hab : (a, b) ∉ Ld d) (hl : ds.length < 10000) (hl2 : (Ld d).length < 10000) :
    Calls Try.prog 28 #[pt dm, .string a, .string b, .slice A sn sc] w fun e w' => e = .returned .nilIface ∧ ∃ ds' rp' H', DAdded w0 H dm m ca ds (put Ld d a b) w' ds' rp' H' := by
  have hN0 := h.fresh (Nat.le_refl w.heap.size)
  have hN1 := h.fresh (show w.heap.size ≤ w.heap.size + 1 by omega)
  have hN2 := h.fresh (show w.heap.size ≤ w.heap.size + 1 + 1 by omega)
  have h0 := ((h.alloc (.cells #[.string a] 9)).alloc (.cells #[.string b] 9)).alloc (.cells #[.slice A sn sc] 24)
  have h1 := ((h.raw (.cells #[.string a] 9) (n := w.heap.size) rfl).raw (.cells #[.string b] 9) (n := w.heap.size + 1) (by simp)).raw (.cells #[.slice A sn sc] 24) (n := w.heap.size + 1 + 1) (by simp)
  have x1 := (((Ext.refl H).upd hN0 (.raw (.cells #[.string a] 9))).upd hN1 (.raw (.cells #[.string b] 9))).upd hN2 (.raw (.cells #[.slice A sn sc] 24))
  have v0 : upd (upd (upd H w.heap.size (.raw (.cells #[.string a] 9))) (w.heap.size + 1) (.raw (.cells #[.string b] 9))) (w.heap.size + 1 + 1) (.raw (.cells #[.slice A sn sc] 24)) w.heap.size = some (.raw (.cells #[.string a] 9)) := by rw [upd_ne (by omega), upd_ne (by omega), upd_at]
  have v1 : upd (upd (upd H w.heap.size (.raw (.cells #[.string a] 9))) (w.heap.size + 1) (.raw (.cells #[.string b] 9))) (w.heap.size + 1 + 1) (.raw (.cells #[.slice A sn sc] 24)) (w.heap.size + 1) = some (.raw (.cells #[.string b] 9)) := by rw [upd_ne (by omega), upd_at]
  have v2 : upd (upd (upd H w.heap.size (.raw (.cells #[.string a] 9))) (w.heap.size + 1) (.raw (.cells #[.string b] 9))) (w.heap.size + 1 + 1) (.raw (.cells #[.slice A sn sc] 24)) (w.heap.size + 1 + 1) = some (.raw (.cells #[.slice A sn sc] 24)) := upd_at _ _ _
  generalize upd (upd (upd H w.heap.size (.raw (.cells #[.string a] 9))) (w.heap.size + 1) (.raw (.cells #[.string b] 9))) (w.heap.size + 1 + 1) (.raw (.cells #[.slice A sn sc] 24)) = H1 at h1 x1 v0 v1 v2
  have CD := hid (getDomain (dm := dm) (hdv _ h0))
  have D1 : DMp H1 dm m ca ds rp Ld := ⟨x1 _ _ D.dm_, x1 _ _ D.m_, fun x hx => by obtain ⟨P, n, R, hf⟩ := D.rm_ x hx; exact ⟨P, n, R.ext x1, hf⟩, D.nil_, D.nd, D.inj⟩
  have CR := hid (getRm d h1 D1 (by omega))
  have HX := hid x1
  have V0 := hid v0
  have V1 := hid v1
  have V2 := hid v2
  have Hab := hid hab
  clear h D hdv hab hN0 hN1 hN2 h0 h1 x1 v0 v1 v2 D1
  have hmf : ∀ (fn : Fn) (first cap : Array Value) (w : World), (Instr.makeFunc fn first cap).run Try.prog w = .ok (.func fn first cap) w := fun _ _ _ _ => rfl
  have hnn := neq_nil37
  go_enter Try.func28, Try.ntmps28
  go_wp2_with (go_at_call 29; (with_reducible refine CD.out.mono ?_); rintro e w' ⟨rfl, rfl⟩)
  clear CD
  refine CR.out.mono ?_
  rintro e w1 ⟨ds1, rp1, H2, rfl, hG⟩
  have G := hid hG
  clear hG CR
  have R1 := G.out.rep
  have b0 : w1.cell? ⟨w.heap.size, 0, none⟩ = some (.string a) := cell_of (R1.at (G.out.raws _ _ V0.out)) 0 rfl
  have b1 : w1.cell? ⟨w.heap.size + 1, 0, none⟩ = some (.string b) := cell_of (R1.at (G.out.raws _ _ V1.out)) 0 rfl
  have b2 : w1.cell? ⟨w.heap.size + 1 + 1, 0, none⟩ = some (.slice A sn sc) := cell_of (R1.at (G.out.raws _ _ V2.out)) 0 rfl
  obtain ⟨P, names, RM, hf⟩ := G.out.dmp.rm_ d G.out.mem
  have CA := hid (addLink a b (.slice A sn sc) R1 RM Hab.out (by omega) (by omega))
  have HF := hid hf
  have HG := hid G.out.few
  clear R1 RM hf
  go_wp2_with fail
  refine CA.out.mono ?_
  rintro e w2 ⟨rfl, P2, H3, n2, hA⟩
  have HA := hid hA
  clear hA CA b0 b1 b2
  have CF := hid (affected (kf := 41) (d := d) (C := #[pt w.heap.size, pt (w.heap.size + 1), pt (w.heap.size + 1 + 1)]) HA.out.rep ((Keep.raws HA.out.keep) _ _ G.out.dmp.dm_))
  go_wp2_with fail
  refine CF.out.mono ?_
  rintro e w3 ⟨rfl, hR⟩
  have HR := hid hR
  clear hR CF
  go_wp2
  go_ret
  refine ⟨rfl, ds1, rp1, H3, HR.out, added G.out.dmp G.out.mem HA.out.keep HA.out.rm ?_, fun q o hq => Keep.raws HA.out.keep _ _ (G.out.raws _ _ (HX.out _ _ hq)), HG.out⟩
  have := HA.out.few
  have := HF.out
  simp only [List.length_append, List.length_cons, List.length_nil]
  omega

end Go.Proofs.Ytpdejkalcminbaa.Da
