/- A manager of domains as objects: its managers of roles by their domains; getRoleManager and AddLink. -/
import Derived.Test.YtpdejkalcminbaaGr
namespace Go.Proofs.Ytpdejkalcminbaa.Dm
open Go.RowKit Go.Proofs.Ytpdejkalcminbaa.Hm Go.Proofs.Ytpdejkalcminbaa.Hp Go.Proofs.Ytpdejkalcminbaa.Zm Go.Proofs.Ytpdejkalcminbaa.Mk Go.Proofs.Ytpdejkalcminbaa.Ro Go.Proofs.Ytpdejkalcminbaa.Rm Go.Proofs.Ytpdejkalcminbaa.Gr

/-- What lies as it is stays. -/
def Raws (H H' : Heap) : Prop := ∀ b o, H b = some (.raw o) → H' b = some (.raw o)
theorem Raws.refl (H : Heap) : Raws H H := fun _ _ h => h
theorem Raws.trans {A B C : Heap} (h : Raws A B) (k : Raws B C) : Raws A C := fun b o hb => k b o (h b o hb)
theorem Keep.raws {r : Nat} {A B : Heap} (h : Keep r A B) : Raws A B := fun b _ hb => h b _ hb (fun _ _ _ _ e => by cases e)
theorem Ext.raws {A B : Heap} (h : Ext A B) : Raws A B := fun b _ hb => h b _ hb

structure DMp (H : Heap) (dm m : Nat) (ca : Value) (ds : List ByteArray) (rp : ByteArray → Nat) (Ld : ByteArray → List (ByteArray × ByteArray)) : Prop where
  dm_ : H dm = some (dmO m ca)
  m_ : H m = some (.zm (dm, none', 9) 57 (ds.map fun d => (d, rp d)))
  rm_ : ∀ d ∈ ds, ∃ P names, RMp P H (rp d) names (Ld d) ∧ names.length ≤ 2 * (Ld d).length
  nil_ : ∀ d, d ∉ ds → Ld d = []
  nd : ds.Nodup
  inj : ∀ d ∈ ds, ∀ d' ∈ ds, rp d = rp d' → d = d'

set_option maxHeartbeats 1000000 in
set_option maxRecDepth 100000 in
theorem dmLoad_none {w0 w : World} {H : Heap} {dm m : Nat} {ca : Value} {tag : Nat × ByteArray × Nat} {l : List (ByteArray × Nat)} {k : ByteArray} (h : Rep w0 w H) (hr : H dm = some (dmO m ca)) (hz : H m = some (.zm tag 57 l)) (hk : ∀ x ∈ l, x.1 ≠ k) :
    Calls Try.prog 42 #[pt dm, .iface 9 (.string k)] w fun e w' => e = .returned (.tuple #[.pointer none, .bool false]) ∧ w = w' := by
  have c0 : w.cell? ⟨dm, 0, none⟩ = some (pt m) := cell_of (h.at hr) 0 rfl
  have CL := hid (load_none h hz hk)
  clear h hr hz hk
  go_enter Try.func42, Try.ntmps42
  go_wp2_with (go_at_call 59; (with_reducible refine CL.out.mono ?_); rintro e w' ⟨rfl, rfl⟩)
  go_ret2
  exact ⟨rfl, rfl⟩

set_option maxHeartbeats 1000000 in
set_option maxRecDepth 100000 in
theorem dmLoad_some {w0 w : World} {H : Heap} {dm m p : Nat} {ca : Value} {tag : Nat × ByteArray × Nat} {l1 l2 : List (ByteArray × Nat)} {k : ByteArray} (h : Rep w0 w H) (hr : H dm = some (dmO m ca)) (hz : H m = some (.zm tag 57 (l1 ++ (k, p) :: l2))) (hk : ∀ x ∈ l1, x.1 ≠ k) :
    Calls Try.prog 42 #[pt dm, .iface 9 (.string k)] w fun e w' => e = .returned (.tuple #[pt p, .bool true]) ∧ w = w' := by
  have c0 : w.cell? ⟨dm, 0, none⟩ = some (pt m) := cell_of (h.at hr) 0 rfl
  have CL := hid (load_some h hz hk)
  have hta : ∀ (v : Value) (W : World), (Instr.typeAssert (.iface 57 v) 20 57 false).run Try.prog W = .ok v W := fun v W => by rfl
  clear h hr hz hk
  go_enter Try.func42, Try.ntmps42
  go_wp2_with (go_at_call 59; (with_reducible refine CL.out.mono ?_); rintro e w' ⟨rfl, rfl⟩)
  go_ret2
  exact ⟨rfl, rfl⟩

set_option maxHeartbeats 1000000 in
set_option maxRecDepth 100000 in
/-- getRoleManager of a domain that is there. -/
theorem getRm_old {w0 w : World} {H : Heap} {dm m : Nat} {ca : Value} {ds : List ByteArray} {rp : ByteArray → Nat} {Ld : ByteArray → List (ByteArray × ByteArray)} {d : ByteArray} (st : Bool) (h : Rep w0 w H) (D : DMp H dm m ca ds rp Ld) (hd : d ∈ ds) :
    Calls Try.prog 30 #[pt dm, .string d, .bool st] w fun e w' => e = .returned (pt (rp d)) ∧ Rep w0 w' H := by
  have h1 := (((h.alloc (.cells #[pt dm] 42)).alloc (.cells #[.string d] 9)).alloc (.cells #[.pointer none] 57))
  have hnd : ((ds.map fun d => (d, rp d)).map (·.1)).Nodup := by simpa [Function.comp_def] using D.nd
  obtain ⟨i, hi, hin⟩ := List.mem_iff_getElem.mp hd
  have hix : (ds.map fun d => (d, rp d))[i]? = some (d, rp d) := by simp [hi, hin]
  obtain ⟨l1, l2, hl, hne⟩ := Rg.split_at hix hnd
  have hall := D.m_
  rw [hl] at hall
  have CL := hid (dmLoad_some h1 D.dm_ hall hne)
  have HE := hid (((h.alloc (.cells #[pt dm] 42)).alloc (.cells #[.string d] 9)).alloc (.cells #[pt (rp d)] 57))
  clear h h1 D hd hnd hi hin hix hl hne hall
  go_enter Try.func30, Try.ntmps30
  go_wp2_with (go_at_call 42; (with_reducible refine CL.out.mono ?_); rintro e w' ⟨rfl, rfl⟩)
  go_ret
  exact ⟨rfl, HE.out⟩

/-- The three variables of getRoleManager. -/
structure Vars (w0 w : World) (H : Heap) (N : Nat) (dm : Nat) (d : ByteArray) (v : Value) : Prop where
  rep : Rep w0 w H
  v0 : H N = some (.raw (.cells #[pt dm] 42 (0, 0)))
  v1 : H (N + 1) = some (.raw (.cells #[.string d] 9 (0, 0)))
  v2 : H (N + 1 + 1) = some (.raw (.cells #[v] 57 (0, 0)))

structure Behind (H : Heap) (N dm : Nat) (d : ByteArray) (r all : Nat) (lg ca : Value) (H3 : Heap) : Prop where
  ext : Ext H H3
  v0 : H3 N = some (.raw (.cells #[pt dm] 42 (0, 0)))
  v1 : H3 (N + 1) = some (.raw (.cells #[.string d] 9 (0, 0)))
  v2 : H3 (N + 1 + 1) = some (.raw (.cells #[pt r] 57 (0, 0)))
  r_ : H3 r = some (rmO all lg ca)
  all_ : H3 all = some (.zm (r, none', 0) 78 [])
  new : H r = none

theorem behind {w0 W2 w3 W4 : World} {H H1 H2 : Heap} {dm m N r all : Nat} {ca lg ca3 : Value} {ds : List ByteArray} {rp : ByteArray → Nat} {Ld : ByteArray → List (ByteArray × ByteArray)} {d : ByteArray} (_D : DMp H dm m ca ds rp Ld) (x1 : Ext H H1) (hN2 : H (N + 1 + 1) = none)
    (V : Vars w0 W2 H1 N dm d (.pointer none)) (NR : NewRm w0 H1 w3 r all lg ca3 H2) (_R : Rep w0 W4 (upd H2 (N + 1 + 1) (.raw (.cells #[pt r] 57 (0, 0))))) :
    Behind H N dm d r all lg ca3 (upd H2 (N + 1 + 1) (.raw (.cells #[pt r] 57 (0, 0)))) := by
  have e := (x1.trans NR.ext).upd hN2 (.raw (.cells #[pt r] 57 (0, 0)))
  have v2 := NR.ext _ _ V.v2
  refine ⟨e, ?_, ?_, upd_at _ _ _, ?_, ?_, ?_⟩
  · rw [upd_ne (by omega)]; exact NR.ext _ _ V.v0
  · rw [upd_ne (by omega)]; exact NR.ext _ _ V.v1
  · rw [upd_ne (fun e => by have := NR.r_; rw [e, v2] at this; cases this)]; exact NR.r_
  · rw [upd_ne (fun e => by have := NR.all_; rw [e, v2] at this; cases this)]; exact NR.all_
  · cases hr : H r with
    | none => rfl
    | some o => have := x1 _ _ hr; rw [NR.new] at this; cases this

def ptr0 (all : Nat) (lg ca : Value) : Ptr := ⟨all, lg, ca, fun _ => 0, fun _ => 0, fun _ => 0, fun _ => 0, fun _ => 0, fun _ => .nilIface, fun _ => .nilIface⟩

theorem rm_new {H : Heap} {r all : Nat} {lg ca : Value} (hr : H r = some (rmO all lg ca)) (ha : H all = some (.zm (r, none', 0) 78 [])) : RMp (ptr0 all lg ca) H r [] [] :=
  ⟨hr, ha, (fun _ h => by cases h), (fun _ h => by cases h), (fun _ h => by cases h), (fun _ h => by cases h), (fun _ h => by cases h), List.nodup_nil, List.nodup_nil, (fun _ h => by cases h)⟩

set_option maxHeartbeats 2000000 in
set_option maxRecDepth 100000 in
/-- getRoleManager of a new domain that is not stored. -/
theorem getRm_lone {w0 w : World} {H : Heap} {dm m : Nat} {ca : Value} {ds : List ByteArray} {rp : ByteArray → Nat} {Ld : ByteArray → List (ByteArray × ByteArray)} {d : ByteArray} (h : Rep w0 w H) (D : DMp H dm m ca ds rp Ld) (hd : d ∉ ds) :
    Calls Try.prog 30 #[pt dm, .string d, .bool false] w fun e w' => ∃ r P H', e = .returned (pt r) ∧ Rep w0 w' H' ∧ Ext H H' ∧ RMp P H' r [] [] := by
  have hN0 := h.fresh (Nat.le_refl w.heap.size)
  have hN1 := h.fresh (show w.heap.size ≤ w.heap.size + 1 by omega)
  have hN2 := h.fresh (show w.heap.size ≤ w.heap.size + 1 + 1 by omega)
  have h1 := ((h.raw (.cells #[pt dm] 42) (n := w.heap.size) rfl).raw (.cells #[.string d] 9) (n := w.heap.size + 1) (by simp)).raw (.cells #[.pointer none] 57) (n := w.heap.size + 1 + 1) (by simp)
  have x1 := (((Ext.refl H).upd hN0 (.raw (.cells #[pt dm] 42))).upd hN1 (.raw (.cells #[.string d] 9))).upd hN2 (.raw (.cells #[.pointer none] 57))
  have V1 : Vars w0 _ _ w.heap.size dm d (.pointer none) := ⟨h1, by rw [upd_ne (by omega), upd_ne (by omega), upd_at], by rw [upd_ne (by omega), upd_at], by rw [upd_at]⟩
  generalize upd (upd (upd H w.heap.size (.raw (.cells #[pt dm] 42))) (w.heap.size + 1) (.raw (.cells #[.string d] 9))) (w.heap.size + 1 + 1) (.raw (.cells #[.pointer none] 57)) = H1 at h1 x1 V1
  have hne : ∀ x ∈ (ds.map fun d => (d, rp d)), x.1 ≠ d := fun x hx e => by
    obtain ⟨m, hm, rfl⟩ := List.mem_map.mp hx
    exact hd (e ▸ hm)
  have CL := hid (dmLoad_none h1 (x1 _ _ D.dm_) (x1 _ _ D.m_) hne)
  have X1 := hid x1
  have HV1 := hid V1
  have HD := hid D
  have HN2 := hid hN2
  have HNE := hid hne
  clear h h1 x1 V1 D hd hN0 hN1 hN2 hne
  go_enter Try.func30, Try.ntmps30
  go_wp2_with (first | (go_at_call 42; (with_reducible refine CL.out.mono ?_); rintro e w' ⟨rfl, rfl⟩))
  clear CL
  generalize ((w.alloc (.cells #[pt dm] 42)).alloc (.cells #[.string d] 9)).alloc (.cells #[.pointer none] 57) = W2 at HV1 ⊢
  generalize w.heap.size = N at HV1 HN2 ⊢
  have R2 := HV1.out.rep
  have g0 : W2.cell? ⟨N, 0, none⟩ = some (pt dm) := cell_of (R2.at HV1.out.v0) 0 rfl
  have c1 : W2.cell? ⟨dm, 1, none⟩ = some (.int .i64 10) := cell_of (R2.at (X1.out _ _ HD.out.dm_)) 1 rfl
  have c2 : W2.cell? ⟨dm, 2, none⟩ = some .nilFunc := cell_of (R2.at (X1.out _ _ HD.out.dm_)) 2 rfl
  have CN := hid (newRm R2.drew)
  clear R2
  go_still_tail 8, (by kernel_rfl)
  change wpList _ _ _ _ _ W2.drew
  go_wp2_with fail
  refine CN.out.mono ?_
  rintro e w3 ⟨r, all, lg, ca3, H2, rfl, hNR⟩
  have NR := hid hNR
  clear hNR CN c1 c2 g0
  have b2 : w3.cell? ⟨N + 1 + 1, 0, none⟩ = some (.pointer none) := cell_of (NR.out.rep.at (NR.out.ext _ _ HV1.out.v2)) 0 rfl
  have f2 : w3.frozen? ⟨N + 1 + 1, 0, none⟩ = false := free_of (NR.out.rep.at (NR.out.ext _ _ HV1.out.v2)) 0
  have R3 := NR.out.rep.set (o := 0) (NR.out.ext _ _ HV1.out.v2) (pt r)
  have B := behind HD.out X1.out HN2.out HV1.out NR.out R3
  have HB := hid B
  have d0 : (w3.setCell ⟨N + 1 + 1, 0, none⟩ (pt r)).cell? ⟨N, 0, none⟩ = some (pt dm) := cell_of (R3.at B.v0) 0 rfl
  have d1 : (w3.setCell ⟨N + 1 + 1, 0, none⟩ (pt r)).cell? ⟨N + 1, 0, none⟩ = some (.string d) := cell_of (R3.at B.v1) 0 rfl
  have d2 : (w3.setCell ⟨N + 1 + 1, 0, none⟩ (pt r)).cell? ⟨N + 1 + 1, 0, none⟩ = some (pt r) := cell_of (R3.at B.v2) 0 rfl
  have d3 : (w3.setCell ⟨N + 1 + 1, 0, none⟩ (pt r)).cell? ⟨dm, 3, none⟩ = some .nilFunc := cell_of (R3.at (B.ext _ _ HD.out.dm_)) 3 rfl
  have d4 : (w3.setCell ⟨N + 1 + 1, 0, none⟩ (pt r)).cell? ⟨dm, 0, none⟩ = some (pt m) := cell_of (R3.at (B.ext _ _ HD.out.dm_)) 0 rfl
  have HR3 := hid R3
  have hnf := neq_nilFunc
  clear B R3
  go_wp2
  go_ret
  exact ⟨r, _, _, rfl, HR3.out, HB.out.ext, rm_new HB.out.r_ HB.out.all_⟩

structure GotRm (w0 : World) (H : Heap) (dm m : Nat) (ca : Value) (ds : List ByteArray) (rp : ByteArray → Nat) (Ld : ByteArray → List (ByteArray × ByteArray)) (d : ByteArray) (w' : World) (ds' : List ByteArray) (rp' : ByteArray → Nat) (H' : Heap) : Prop where
  rep : Rep w0 w' H'
  dmp : DMp H' dm m ca ds' rp' Ld
  raws : Raws H H'
  mem : d ∈ ds'
  few : ds'.length ≤ ds.length + 1

/-- The heap behind getRoleManager of a new domain that is stored. -/
theorem gotRm {w0 w' : World} {H H3 : Heap} {dm m N r all : Nat} {ca lg ca3 : Value} {ds : List ByteArray} {rp : ByteArray → Nat} {Ld : ByteArray → List (ByteArray × ByteArray)} {d : ByteArray} (D : DMp H dm m ca ds rp Ld) (hd : d ∉ ds) (B : Behind H N dm d r all lg ca3 H3)
    (hrep : Rep w0 w' (upd H3 m (.zm (dm, none', 9) 57 ((ds.map fun d => (d, rp d)) ++ [(d, r)])))) :
    GotRm w0 H dm m ca ds rp Ld d w' (ds ++ [d]) (fun x => if x = d then r else rp x) (upd H3 m (.zm (dm, none', 9) 57 ((ds.map fun d => (d, rp d)) ++ [(d, r)]))) := by
  have hm3 := B.ext _ _ D.m_
  have raws : Raws H (upd H3 m (.zm (dm, none', 9) 57 ((ds.map fun d => (d, rp d)) ++ [(d, r)]))) := fun b o hb => by
    have h3 := B.ext _ _ hb
    rw [upd_ne (fun e => by rw [e, hm3] at h3; cases h3)]; exact h3
  have hdr : ∀ x, ∀ P names L, RMp P H x names L → x ≠ dm := fun x P names L R e => by
    have h1 := R.r_; rw [e, D.dm_] at h1; simp at h1
  have hs : ∀ x ∈ ds, (if x = d then r else rp x) = rp x := fun x hx => by rw [if_neg (fun e => hd (by rw [← e]; exact hx))]
  have hr3 : upd H3 m (.zm (dm, none', 9) 57 ((ds.map fun d => (d, rp d)) ++ [(d, r)])) r = some (rmO all lg ca3) := by
    rw [upd_ne (fun e => by have := B.r_; rw [e, hm3] at this; cases this)]; exact B.r_
  have hrdm : r ≠ dm := fun e => by have h1 := B.r_; have h2 := B.ext _ _ D.dm_; rw [e, h2] at h1; cases h1
  have ha3 : upd H3 m (.zm (dm, none', 9) 57 ((ds.map fun d => (d, rp d)) ++ [(d, r)])) all = some (.zm (r, none', 0) 78 []) := by
    rw [upd_ne (fun e => by have := B.all_; rw [e, hm3] at this; cases this)]; exact B.all_
  have K : Keep dm H3 (upd H3 m (.zm (dm, none', 9) 57 ((ds.map fun d => (d, rp d)) ++ [(d, r)]))) := Keep.one hm3
  refine ⟨hrep, ⟨raws _ _ D.dm_, ?_, ?_, ?_, ?_, ?_⟩, raws, by simp, by simp⟩
  · rw [upd_at, List.map_append]
    congr 1
    rw [List.map_congr_left (f := fun x => (x, if x = d then r else rp x)) (g := fun x => (x, rp x)) (fun x hx => by rw [hs x hx])]
    simp
  · intro x hx
    rcases List.mem_append.mp hx with hx | hx
    · obtain ⟨P, names, R, hf⟩ := D.rm_ x hx
      refine ⟨P, names, ?_, hf⟩
      show RMp P _ (if x = d then r else rp x) names (Ld x)
      rw [hs x hx]
      exact (R.ext B.ext).keep K (hdr _ _ _ _ R)
    · obtain rfl : x = d := by simpa using hx
      refine ⟨ptr0 all lg ca3, [], ?_, by simp⟩
      show RMp _ _ (if x = x then r else rp x) [] (Ld x)
      rw [if_pos rfl, D.nil_ x hd]
      exact rm_new hr3 ha3
  · intro x hx
    exact D.nil_ x (fun h => hx (List.mem_append_left _ h))
  · rw [List.nodup_append]
    exact ⟨D.nd, by simp, fun a ha b hb e => by simp at hb; subst hb; subst e; exact hd ha⟩
  · have hrn : ∀ x ∈ ds, rp x ≠ r := fun x hx e => by
      obtain ⟨P, names, R, _⟩ := D.rm_ x hx
      have := R.r_
      rw [e, B.new] at this; cases this
    intro x hx y hy e
    rcases List.mem_append.mp hx with hx1 | hx1 <;> rcases List.mem_append.mp hy with hy1 | hy1
    · rw [hs x hx1, hs y hy1] at e; exact D.inj x hx1 y hy1 e
    · have hy2 : y = d := by simpa using hy1
      rw [hs x hx1, if_pos hy2] at e; exact absurd e (hrn x hx1)
    · have hx2 : x = d := by simpa using hx1
      rw [hs y hy1, if_pos hx2] at e; exact absurd e.symm (hrn y hy1)
    · rw [show x = d by simpa using hx1, show y = d by simpa using hy1]

set_option maxHeartbeats 2000000 in
set_option maxRecDepth 100000 in
/-- getRoleManager of a new domain that is stored. -/
theorem getRm_new {w0 w : World} {H : Heap} {dm m : Nat} {ca : Value} {ds : List ByteArray} {rp : ByteArray → Nat} {Ld : ByteArray → List (ByteArray × ByteArray)} {d : ByteArray} (h : Rep w0 w H) (D : DMp H dm m ca ds rp Ld) (hd : d ∉ ds) (hl : ds.length < 1000000) :
    Calls Try.prog 30 #[pt dm, .string d, .bool true] w fun e w' => ∃ ds' rp' H', e = .returned (pt (rp' d)) ∧ GotRm w0 H dm m ca ds rp Ld d w' ds' rp' H' := by
  have Hd := hid hd
  have hN0 := h.fresh (Nat.le_refl w.heap.size)
  have hN1 := h.fresh (show w.heap.size ≤ w.heap.size + 1 by omega)
  have hN2 := h.fresh (show w.heap.size ≤ w.heap.size + 1 + 1 by omega)
  have h1 := ((h.raw (.cells #[pt dm] 42) (n := w.heap.size) rfl).raw (.cells #[.string d] 9) (n := w.heap.size + 1) (by simp)).raw (.cells #[.pointer none] 57) (n := w.heap.size + 1 + 1) (by simp)
  have x1 := (((Ext.refl H).upd hN0 (.raw (.cells #[pt dm] 42))).upd hN1 (.raw (.cells #[.string d] 9))).upd hN2 (.raw (.cells #[.pointer none] 57))
  have V1 : Vars w0 _ _ w.heap.size dm d (.pointer none) := ⟨h1, by rw [upd_ne (by omega), upd_ne (by omega), upd_at], by rw [upd_ne (by omega), upd_at], by rw [upd_at]⟩
  generalize upd (upd (upd H w.heap.size (.raw (.cells #[pt dm] 42))) (w.heap.size + 1) (.raw (.cells #[.string d] 9))) (w.heap.size + 1 + 1) (.raw (.cells #[.pointer none] 57)) = H1 at h1 x1 V1
  have hne : ∀ x ∈ (ds.map fun d => (d, rp d)), x.1 ≠ d := fun x hx e => by
    obtain ⟨m, hm, rfl⟩ := List.mem_map.mp hx
    exact hd (e ▸ hm)
  have CL := hid (dmLoad_none h1 (x1 _ _ D.dm_) (x1 _ _ D.m_) hne)
  have X1 := hid x1
  have HV1 := hid V1
  have HD := hid D
  have HN2 := hid hN2
  have HNE := hid hne
  clear h h1 x1 V1 D hd hN0 hN1 hN2 hne
  go_enter Try.func30, Try.ntmps30
  go_wp2_with (first | (go_at_call 42; (with_reducible refine CL.out.mono ?_); rintro e w' ⟨rfl, rfl⟩))
  clear CL
  generalize ((w.alloc (.cells #[pt dm] 42)).alloc (.cells #[.string d] 9)).alloc (.cells #[.pointer none] 57) = W2 at HV1 ⊢
  generalize w.heap.size = N at HV1 HN2 ⊢
  have R2 := HV1.out.rep
  have g0 : W2.cell? ⟨N, 0, none⟩ = some (pt dm) := cell_of (R2.at HV1.out.v0) 0 rfl
  have c1 : W2.cell? ⟨dm, 1, none⟩ = some (.int .i64 10) := cell_of (R2.at (X1.out _ _ HD.out.dm_)) 1 rfl
  have c2 : W2.cell? ⟨dm, 2, none⟩ = some .nilFunc := cell_of (R2.at (X1.out _ _ HD.out.dm_)) 2 rfl
  have CN := hid (newRm R2.drew)
  clear R2
  go_still_tail 8, (by kernel_rfl)
  change wpList _ _ _ _ _ W2.drew
  go_wp2_with fail
  refine CN.out.mono ?_
  rintro e w3 ⟨r, all, lg, ca3, H2, rfl, hNR⟩
  have NR := hid hNR
  clear hNR CN c1 c2 g0
  have b2 : w3.cell? ⟨N + 1 + 1, 0, none⟩ = some (.pointer none) := cell_of (NR.out.rep.at (NR.out.ext _ _ HV1.out.v2)) 0 rfl
  have f2 : w3.frozen? ⟨N + 1 + 1, 0, none⟩ = false := free_of (NR.out.rep.at (NR.out.ext _ _ HV1.out.v2)) 0
  have R3 := NR.out.rep.set (o := 0) (NR.out.ext _ _ HV1.out.v2) (pt r)
  have B := behind HD.out X1.out HN2.out HV1.out NR.out R3
  have HB := hid B
  have d0 : (w3.setCell ⟨N + 1 + 1, 0, none⟩ (pt r)).cell? ⟨N, 0, none⟩ = some (pt dm) := cell_of (R3.at B.v0) 0 rfl
  have d1 : (w3.setCell ⟨N + 1 + 1, 0, none⟩ (pt r)).cell? ⟨N + 1, 0, none⟩ = some (.string d) := cell_of (R3.at B.v1) 0 rfl
  have d2 : (w3.setCell ⟨N + 1 + 1, 0, none⟩ (pt r)).cell? ⟨N + 1 + 1, 0, none⟩ = some (pt r) := cell_of (R3.at B.v2) 0 rfl
  have d3 : (w3.setCell ⟨N + 1 + 1, 0, none⟩ (pt r)).cell? ⟨dm, 3, none⟩ = some .nilFunc := cell_of (R3.at (B.ext _ _ HD.out.dm_)) 3 rfl
  have d4 : (w3.setCell ⟨N + 1 + 1, 0, none⟩ (pt r)).cell? ⟨dm, 0, none⟩ = some (pt m) := cell_of (R3.at (B.ext _ _ HD.out.dm_)) 0 rfl
  have HR3 := hid R3
  have hnf := neq_nilFunc
  clear B R3
  have CS := hid (Zm.store (p := r) HR3.out.drew (HB.out.ext _ _ HD.out.m_) HNE.out (by simpa using hl))
  go_wp2_with fail
  generalize w3.setCell ⟨N + 1 + 1, 0, none⟩ (pt r) = W4 at *
  go_still_tail 8, (by kernel_rfl)
  change wpList _ _ _ _ _ W4.drew
  have hne0 : N ≠ m := fun e => by have h1 := HB.out.v0; have h2 := HB.out.ext _ _ HD.out.m_; rw [← e, h1] at h2; cases h2
  have hne2 : N + 1 + 1 ≠ m := fun e => by have h1 := HB.out.v2; have h2 := HB.out.ext _ _ HD.out.m_; rw [← e, h1] at h2; cases h2
  have hned : dm ≠ m := fun e => by have h1 := HD.out.dm_; have h2 := HD.out.m_; rw [e, h2] at h1; cases h1
  have Hne0 := hid hne0
  have Hne2 := hid hne2
  have Hned := hid hned
  clear hne0 hne2 hned d0 d1 d2 d3 d4 b2 f2
  go_wp2_with fail
  refine CS.out.mono ?_
  rintro e w5 ⟨rfl, hR5⟩
  have R5 := hid hR5
  clear hR5
  have d0 : w5.cell? ⟨N, 0, none⟩ = some (pt dm) := cell_of (R5.out.at (by rw [upd_ne Hne0.out]; exact HB.out.v0)) 0 rfl
  have d2 : w5.cell? ⟨N + 1 + 1, 0, none⟩ = some (pt r) := cell_of (R5.out.at (by rw [upd_ne Hne2.out]; exact HB.out.v2)) 0 rfl
  have d3 : w5.cell? ⟨dm, 3, none⟩ = some .nilFunc := cell_of (R5.out.at (by rw [upd_ne Hned.out]; exact HB.out.ext _ _ HD.out.dm_)) 3 rfl
  go_wp2
  go_ret
  exact ⟨_, _, _, by simp, gotRm HD.out Hd.out HB.out R5.out⟩

/-- getRoleManager where it stores what it makes. -/
theorem getRm {w0 w : World} {H : Heap} {dm m : Nat} {ca : Value} {ds : List ByteArray} {rp : ByteArray → Nat} {Ld : ByteArray → List (ByteArray × ByteArray)} (d : ByteArray) (h : Rep w0 w H) (D : DMp H dm m ca ds rp Ld) (hl : ds.length < 1000000) :
    Calls Try.prog 30 #[pt dm, .string d, .bool true] w fun e w' => ∃ ds' rp' H', e = .returned (pt (rp' d)) ∧ GotRm w0 H dm m ca ds rp Ld d w' ds' rp' H' := by
  by_cases hd : d ∈ ds
  · refine (getRm_old true h D hd).mono ?_
    rintro e w' ⟨rfl, h'⟩
    exact ⟨ds, rp, H, rfl, h', D, Raws.refl _, hd, by omega⟩
  · exact getRm_new h D hd hl

end Go.Proofs.Ytpdejkalcminbaa.Dm
