/- getRole and AddLink of a manager of roles. -/
import Derived.Test.YtpdejkalcminbaaRm
namespace Go.Proofs.Ytpdejkalcminbaa.Gr
open Go.RowKit Go.Proofs.Ytpdejkalcminbaa.Hm Go.Proofs.Ytpdejkalcminbaa.Hp Go.Proofs.Ytpdejkalcminbaa.Zm Go.Proofs.Ytpdejkalcminbaa.Mk Go.Proofs.Ytpdejkalcminbaa.Ro Go.Proofs.Ytpdejkalcminbaa.Rm

theorem neq_nilFunc (w : World) : (Go.binOp .neq 69 .nilFunc .nilFunc).run Try.prog w = .ok (.bool false) w := by kernel_rfl

set_option maxHeartbeats 1000000 in
set_option maxRecDepth 100000 in
/-- getRole of a name that is there. -/
theorem getRole_old {w0 w : World} {P : Ptr} {H : Heap} {r : Nat} {names : List ByteArray} {L : List (ByteArray × ByteArray)} {n : ByteArray} (h : Rep w0 w H) (R : RMp P H r names L) (hn : n ∈ names) :
    Calls Try.prog 49 #[pt r, .string n] w fun e w' => e = .returned (.tuple #[pt (P.ro n), .bool false]) ∧ Rep w0 w' H := by
  have h1 := (h.alloc (.cells #[.pointer none] 78))
  have hnd : ((names.map fun n => (n, P.ro n)).map (·.1)).Nodup := by simpa [Function.comp_def] using R.nd
  obtain ⟨i, hi, hin⟩ := List.mem_iff_getElem.mp hn
  have hix : (names.map fun n => (n, P.ro n))[i]? = some (n, P.ro n) := by simp [hi, hin]
  obtain ⟨l1, l2, hl, hne⟩ := Rg.split_at hix hnd
  have hall := R.all_
  rw [hl] at hall
  have CL := hid (rmLoad_some h1 R.r_ hall hne)
  have c2 : (w.alloc (.cells #[pt (P.ro n)] 78)).cell? ⟨r, 2, none⟩ = some .nilFunc := cell_of ((h.alloc _).at R.r_) 2 rfl
  have HE := hid (h.alloc (.cells #[pt (P.ro n)] 78))
  clear h h1 R hn hnd hi hin hix hl hne hall
  go_enter Try.func49, Try.ntmps49
  go_wp2_with (go_at_call 63; (with_reducible refine CL.out.mono ?_); rintro e w' ⟨rfl, rfl⟩)
  go_ret2
  exact ⟨rfl, HE.out⟩

set_option maxHeartbeats 1000000 in
set_option maxRecDepth 100000 in
/-- getRole of a new name. -/
theorem getRole_new {w0 w : World} {P : Ptr} {H : Heap} {r : Nat} {names : List ByteArray} {L : List (ByteArray × ByteArray)} {n : ByteArray} (h : Rep w0 w H) (R : RMp P H r names L) (hn : n ∉ names) (hl : names.length < 1000000) :
    Calls Try.prog 49 #[pt r, .string n] w fun e w' => ∃ P' H', e = .returned (.tuple #[pt (P'.ro n), .bool true]) ∧ GotRole w0 P H r names L n w' P' H' := by
  have h1 := h.raw (.cells #[.pointer none] 78) (n := w.heap.size) rfl
  have hN := h.fresh (Nat.le_refl w.heap.size)
  have x1 : Ext H (upd H w.heap.size (.raw (.cells #[.pointer none] 78))) := (Ext.refl H).upd hN _
  have hne : ∀ x ∈ (names.map fun n => (n, P.ro n)), x.1 ≠ n := fun x hx e => by
    obtain ⟨m, hm, rfl⟩ := List.mem_map.mp hx
    exact hn (e ▸ hm)
  have CL := hid (rmLoad_none h1 (x1 _ _ R.r_) (x1 _ _ R.all_) hne)
  have CN := hid (newRole h1 r n)
  have Hh := hid h
  have HR := hid R
  have Hn := hid hn
  have HN := hid hN
  have HNE := hid hne
  clear h h1 R hn hN x1 hne
  go_enter Try.func49, Try.ntmps49
  go_wp2_with (first | (go_at_call 63; (with_reducible refine CL.out.mono ?_); rintro e w' ⟨rfl, rfl⟩) | (go_at_call 64; (with_reducible refine CN.out.mono ?_); rintro e w1 ⟨p, a, b, c, d, x, y, H1, rfl, hNR⟩; have NR := hid hNR; clear hNR; have b0 : w1.cell? ⟨w.heap.size, 0, none⟩ = some (.pointer none) := cell_of (NR.out.rep.at (NR.out.ext _ _ (upd_at _ _ _))) 0 rfl; have f0 : w1.frozen? ⟨w.heap.size, 0, none⟩ = false := free_of (NR.out.rep.at (NR.out.ext _ _ (upd_at _ _ _))) 0))
  have e1 : Ext H H1 := ((Ext.refl H).upd HN.out _).trans NR.out.ext
  have R2 := NR.out.rep.set (o := 0) (NR.out.ext _ _ (upd_at _ _ _)) (pt p)
  have e2 : Ext H (upd H1 w.heap.size (.raw (.cells #[pt p] 78))) := e1.upd HN.out _
  generalize w1.setCell ⟨w.heap.size, 0, none⟩ (.pointer (some ⟨p, 0, none⟩)) = W2 at R2 ⊢
  have R2' : Rep w0 W2 (upd H1 w.heap.size (.raw (.cells #[pt p] 78))) := R2
  have c0 : W2.cell? ⟨r, 0, none⟩ = some (pt P.all) := cell_of (R2'.at (e2 _ _ HR.out.r_)) 0 rfl
  have c1 : W2.cell? ⟨w.heap.size, 0, none⟩ = some (pt p) := cell_of (R2'.at (upd_at _ _ _)) 0 rfl
  have CS := hid (Zm.store (p := p) R2'.drew (e2 _ _ HR.out.all_) HNE.out (by simpa using hl))
  have HN2 := hid (show P.all ≠ w.heap.size from fun e => by have := HR.out.all_; rw [e, HN.out] at this; cases this)
  have HRA := hid (show r ≠ P.all from fun e => by have h1 := HR.out.r_; have h2 := HR.out.all_; rw [e, h2] at h1; cases h1)
  have E2 := hid e2
  have hnf := neq_nilFunc
  clear e1 e2 R2 R2'
  go_still_tail 8, (by kernel_rfl)
  change wpList _ _ _ _ _ W2.drew
  go_wp2_with (go_at_call 44; (with_reducible refine CS.out.mono ?_); rintro e w3 ⟨rfl, hR3⟩; have R3 := hid hR3; clear hR3; have d1 : w3.cell? ⟨w.heap.size, 0, none⟩ = some (pt p) := cell_of (R3.out.at (by rw [upd_ne (fun e => HN2.out e.symm), upd_at])) 0 rfl; have d2 : w3.cell? ⟨r, 2, none⟩ = some .nilFunc := cell_of (R3.out.at (by rw [upd_ne HRA.out]; exact E2.out _ _ HR.out.r_)) 2 rfl)
  go_ret2
  refine ⟨P.ins n p a b c d x y, _, ?_, got_new HR.out Hn.out HN.out NR.out R3.out⟩
  simp [Ptr.ins]

structure Got (w0 : World) (P : Ptr) (H : Heap) (r : Nat) (names : List ByteArray) (L : List (ByteArray × ByteArray)) (n : ByteArray) (w' : World) (P' : Ptr) (H' : Heap) (names' : List ByteArray) : Prop where
  rep : Rep w0 w' H'
  rm : RMp P' H' r names' L
  keep : Keep r H H'
  mem : n ∈ names'
  same : ∀ m ∈ names, m ∈ names' ∧ P'.ro m = P.ro m
  few : names'.length ≤ names.length + 1

theorem getRole {w0 w : World} {P : Ptr} {H : Heap} {r : Nat} {names : List ByteArray} {L : List (ByteArray × ByteArray)} (n : ByteArray) (h : Rep w0 w H) (R : RMp P H r names L) (hl : names.length < 1000000) :
    Calls Try.prog 49 #[pt r, .string n] w fun e w' => ∃ P' H' names' b, e = .returned (.tuple #[pt (P'.ro n), .bool b]) ∧ Got w0 P H r names L n w' P' H' names' := by
  by_cases hn : n ∈ names
  · refine (getRole_old h R hn).mono ?_
    rintro e w' ⟨rfl, h'⟩
    exact ⟨P, H, names, false, rfl, h', R, Keep.refl _ _, hn, fun m hm => ⟨hm, rfl⟩, by omega⟩
  · refine (getRole_new h R hn hl).mono ?_
    rintro e w' ⟨P', H', rfl, G⟩
    exact ⟨P', H', names ++ [n], true, rfl, G.rep, G.rm, G.keep, by simp, fun m hm => ⟨List.mem_append_left _ hm, G.same m hm⟩, by simp⟩

theorem up_snoc (L : List (ByteArray × ByteArray)) (a b n : ByteArray) : up (L ++ [(a, b)]) n = if a = n then up L n ++ [b] else up L n := by
  unfold up
  by_cases e : a = n
  · subst e; simp
  · have : (a == n) = false := beq_eq_false_iff_ne.mpr e
    simp [e]
theorem down_snoc (L : List (ByteArray × ByteArray)) (a b n : ByteArray) : down (L ++ [(a, b)]) n = if b = n then down L n ++ [a] else down L n := by
  unfold down
  by_cases e : b = n
  · subst e; simp
  · simp [e]
theorem up_le (L : List (ByteArray × ByteArray)) (n : ByteArray) : (up L n).length ≤ L.length := by
  unfold up; rw [List.length_map]; exact List.length_filter_le _ _
theorem down_le (L : List (ByteArray × ByteArray)) (n : ByteArray) : (down L n).length ≤ L.length := by
  unfold down; rw [List.length_map]; exact List.length_filter_le _ _

/-- The links behind addRole. -/
theorem linked {P : Ptr} {H : Heap} {r : Nat} {names : List ByteArray} {L : List (ByteArray × ByteArray)} {a b : ByteArray} (R : RMp P H r names L) (ha : a ∈ names) (hb : b ∈ names) (hab : (a, b) ∉ L) :
    RMp P (upd (upd H (P.za a) (.zm (r, a, 1) 78 (((up L a).map fun m => (m, P.ro m)) ++ [(b, P.ro b)]))) (P.zb b) (.zm (r, b, 2) 78 (((down L b).map fun m => (m, P.ro m)) ++ [(a, P.ro a)]))) r names (L ++ [(a, b)]) ∧
    Keep r H (upd (upd H (P.za a) (.zm (r, a, 1) 78 (((up L a).map fun m => (m, P.ro m)) ++ [(b, P.ro b)]))) (P.zb b) (.zm (r, b, 2) 78 (((down L b).map fun m => (m, P.ro m)) ++ [(a, P.ro a)]))) := by
  have hA := R.a_ a ha
  have hB := R.b_ b hb
  have hne : P.zb b ≠ P.za a := fun e => by rw [e, hA] at hB; cases hB
  have hB1 : upd H (P.za a) (.zm (r, a, 1) 78 (((up L a).map fun m => (m, P.ro m)) ++ [(b, P.ro b)])) (P.zb b) = some (.zm (r, b, 2) 78 ((down L b).map fun m => (m, P.ro m))) := by rw [upd_ne hne]; exact hB
  have K : Keep r H (upd (upd H (P.za a) (.zm (r, a, 1) 78 (((up L a).map fun m => (m, P.ro m)) ++ [(b, P.ro b)]))) (P.zb b) (.zm (r, b, 2) 78 (((down L b).map fun m => (m, P.ro m)) ++ [(a, P.ro a)]))) := (Keep.one hA).updZm hB1
  have other : ∀ q t l, H q = some (.zm t 78 l) → t ≠ (r, a, 1) → t ≠ (r, b, 2) → upd (upd H (P.za a) (.zm (r, a, 1) 78 (((up L a).map fun m => (m, P.ro m)) ++ [(b, P.ro b)]))) (P.zb b) (.zm (r, b, 2) 78 (((down L b).map fun m => (m, P.ro m)) ++ [(a, P.ro a)])) q = some (.zm t 78 l) := fun q t l hq h1 h2 => by
    have q1 : q ≠ P.zb b := fun e => by rw [e, hB] at hq; cases hq; exact h2 rfl
    have q2 : q ≠ P.za a := fun e => by rw [e, hA] at hq; cases hq; exact h1 rfl
    rw [upd_ne q1, upd_ne q2]; exact hq
  refine ⟨⟨K _ _ R.r_ (fun _ _ _ _ e => by cases e), other _ _ _ R.all_ (by simp) (by simp), fun n hn => K _ _ (R.ro_ n hn) (fun _ _ _ _ e => by cases e), fun n hn => ?_, fun n hn => ?_, fun n hn => other _ _ _ (R.c_ n hn) (by simp) (by simp), fun n hn => other _ _ _ (R.d_ n hn) (by simp) (by simp), R.nd, ?_, ?_⟩, K⟩
  · rw [up_snoc]
    by_cases e : a = n
    · subst e
      rw [if_pos rfl, upd_ne (fun e => hne e.symm), upd_at, List.map_append]
      rfl
    · rw [if_neg e]
      exact other _ _ _ (R.a_ n hn) (by simp; exact fun h => e h.symm) (by simp)
  · rw [down_snoc]
    by_cases e : b = n
    · subst e
      rw [if_pos rfl, upd_at, List.map_append]
      rfl
    · rw [if_neg e]
      exact other _ _ _ (R.b_ n hn) (by simp) (by simp; exact fun h => e h.symm)
  · rw [List.nodup_append]
    exact ⟨R.ndL, by simp, fun x hx y hy e => by simp at hy; subst hy; subst e; exact hab hx⟩
  · intro x hx
    rcases List.mem_append.mp hx with hx | hx
    · exact R.lk x hx
    · obtain rfl : x = (a, b) := by simpa using hx
      exact ⟨ha, hb⟩

structure Added (w0 : World) (H : Heap) (r : Nat) (names : List ByteArray) (L : List (ByteArray × ByteArray)) (w' : World) (P' : Ptr) (H' : Heap) (names' : List ByteArray) : Prop where
  rep : Rep w0 w' H'
  rm : RMp P' H' r names' L
  keep : Keep r H H'
  few : names'.length ≤ names.length + 2

set_option maxHeartbeats 1000000 in
set_option maxRecDepth 100000 in
/-- AddLink of a new link. -/
theorem addLink {w0 w : World} {P : Ptr} {H : Heap} {r : Nat} {names : List ByteArray} {L : List (ByteArray × ByteArray)} (a b : ByteArray) (dv : Value) (h : Rep w0 w H) (R : RMp P H r names L) (hab : (a, b) ∉ L) (hl : names.length < 100000) (hl2 : L.length < 100000) :
    Calls Try.prog 39 #[pt r, .string a, .string b, dv] w fun e w' => e = .returned .nilIface ∧ ∃ P' H' names', Added w0 H r names (L ++ [(a, b)]) w' P' H' names' := by
  have C1 := hid (getRole a h R (by omega))
  have Hab := hid hab
  clear h R hab
  go_enter Try.func39, Try.ntmps39
  go_wp2_with fail
  refine C1.out.mono ?_
  rintro e w1 ⟨P1, H1, n1, b1, rfl, hG1⟩
  have G1 := hid hG1
  clear hG1
  have C2 := hid (getRole b G1.out.rep G1.out.rm (by have := G1.out.few; omega))
  go_wp2_with fail
  refine C2.out.mono ?_
  rintro e w2 ⟨P2, H2, n2, b2, rfl, hG2⟩
  have G2 := hid hG2
  clear hG2
  have hro : P2.ro a = P1.ro a := (G2.out.same a G1.out.mem).2
  have ha2 : a ∈ n2 := (G2.out.same a G1.out.mem).1
  have R2 := G2.out.rm
  have C3 := addRole G2.out.rep (R2.ro_ a ha2) (R2.ro_ b G2.out.mem) (R2.a_ a ha2) (R2.b_ b G2.out.mem) (by simp) (fun x hx e => by
      obtain ⟨m, hm, rfl⟩ := List.mem_map.mp hx
      exact Hab.out (e ▸ mem_up.mp hm)) (fun x hx e => by
      obtain ⟨m, hm, rfl⟩ := List.mem_map.mp hx
      exact Hab.out (e ▸ mem_down.mp hm)) (by have := up_le L a; simp; omega) (by have := down_le L b; simp; omega)
  rw [hro] at C3
  have HC3 := hid C3
  have Hro := hid hro
  have Ha2 := hid ha2
  have HR2 := hid R2
  clear C3 hro ha2 R2
  go_wp2_with fail
  refine HC3.out.mono ?_
  rintro e w3 ⟨rfl, hR3⟩
  have HR3 := hid hR3
  clear hR3
  go_wp2
  go_ret
  obtain ⟨K1, K2⟩ := linked HR2.out Ha2.out G2.out.mem Hab.out
  refine ⟨rfl, P2, _, n2, ?_, K1, (G1.out.keep.trans G2.out.keep).trans K2, by have := G1.out.few; have := G2.out.few; omega⟩
  have := HR3.out
  rwa [← Hro.out] at this

end Go.Proofs.Ytpdejkalcminbaa.Gr
