/- rangeUsers, rangeRoles of a role whose roles match nothing: the users, the roles in their order. -/
import Derived.Test.YtpdejkalcminbaaNm
namespace Go.Proofs.Ytpdejkalcminbaa.Us
open Go.RowKit Go.Proofs.Ytpdejkalcminbaa.Hm Go.Proofs.Ytpdejkalcminbaa.Hp Go.Proofs.Ytpdejkalcminbaa.Zm Go.Proofs.Ytpdejkalcminbaa.Mk Go.Proofs.Ytpdejkalcminbaa.Rg

/-- A heap without one object. -/
def del (H : Heap) (n : Nat) : Heap := fun b => if b = n then none else H b
theorem del_ext (H : Heap) (n : Nat) : Ext (del H n) H := fun b o h => by
  unfold del at h
  split at h
  · cases h
  · exact h
theorem del_at (H : Heap) (n : Nat) : del H n n = none := by simp [del]
theorem del_ne {H : Heap} {n b : Nat} {o : Ob} (h : b ≠ n) (hb : H b = some o) : del H n b = some o := by simp [del, h, hb]

set_option maxHeartbeats 1000000 in
set_option maxRecDepth 100000 in
/-- rangeUsers$1: a user that matches nothing. -/
theorem users1 {w0 w : World} {H : Heap} {N q a b c d : Nat} {n : ByteArray} {x y key f : Value} {tag : Nat × ByteArray × Nat} (h : Rep w0 w H) (hq : H q = some (roO n a b c d x y)) (hc : H c = some (.zm tag 78 [])) (hN : H N = some (.raw (.cells #[f] 77 (0, 0)))) :
    Calls Try.prog 87 #[key, .iface 78 (pt q), pt N] w fun e w' => e = .returned (.bool true) ∧ Rep w0 w' H := by
  have c0 : w.cell? ⟨q, 3, none⟩ = some (pt c) := cell_of (h.at hq) 3 rfl
  have c1 : w.cell? ⟨N, 0, none⟩ = some f := cell_of (h.at hN) 0 rfl
  have hta : ∀ (v : Value) (W : World), (Instr.typeAssert (.iface 78 v) 20 78 false).run Try.prog W = .ok v W := fun v W => by rfl
  have CR := hid (range_none f h.drew hc)
  have HE := hid h.drew
  clear h hq hc hN
  go_enter Try.func87, Try.ntmps87
  go_wp2
  go_still_tail 5, (by kernel_rfl)
  change wpList _ _ _ _ _ w.drew
  go_wp2_with (go_at_call 45; (with_reducible refine CR.out.mono ?_); rintro e w' ⟨rfl, rfl⟩)
  go_ret
  exact ⟨rfl, HE.out⟩

set_option maxHeartbeats 1000000 in
set_option maxRecDepth 100000 in
/-- rangeRoles$1: a role that matches nothing. -/
theorem roles1 {w0 w : World} {H : Heap} {N q a b c d : Nat} {n : ByteArray} {x y key f : Value} {tag : Nat × ByteArray × Nat} (h : Rep w0 w H) (hq : H q = some (roO n a b c d x y)) (hc : H c = some (.zm tag 78 [])) (hN : H N = some (.raw (.cells #[f] 77 (0, 0)))) :
    Calls Try.prog 89 #[key, .iface 78 (pt q), pt N] w fun e w' => e = .returned (.bool true) ∧ Rep w0 w' H := by
  have c0 : w.cell? ⟨q, 3, none⟩ = some (pt c) := cell_of (h.at hq) 3 rfl
  have c1 : w.cell? ⟨N, 0, none⟩ = some f := cell_of (h.at hN) 0 rfl
  have hta : ∀ (v : Value) (W : World), (Instr.typeAssert (.iface 78 v) 20 78 false).run Try.prog W = .ok v W := fun v W => by rfl
  have CR := hid (range_none f h.drew hc)
  have HE := hid h.drew
  clear h hq hc hN
  go_enter Try.func89, Try.ntmps89
  go_wp2
  go_still_tail 5, (by kernel_rfl)
  change wpList _ _ _ _ _ w.drew
  go_wp2_with (go_at_call 45; (with_reducible refine CR.out.mono ?_); rintro e w' ⟨rfl, rfl⟩)
  go_ret
  exact ⟨rfl, HE.out⟩

theorem enters_of {f : FuncId} {fn : Func} {c : Code} (hf : Try.prog.funcs[f]? = some fn) (hname : (fn.name == "runtime.NumGoroutine") = false) (hb : fn.body = some c) : ∀ args w, (callFunc f args).run Try.prog w = .ok (.enter f args) w := by
  intro args w
  have h1 : fn.name ≠ "runtime.NumGoroutine" := by simpa using hname
  simp [callFunc, hf, h1, hb, mark]

theorem enters87 : ∀ args w, (callFunc 87 args).run Try.prog w = .ok (.enter 87 args) w := enters_of Try.func87 (by kernel_rfl) rfl
theorem enters89 : ∀ args w, (callFunc 89 args).run Try.prog w = .ok (.enter 89 args) w := enters_of Try.func89 (by kernel_rfl) rfl
theorem enters72 : ∀ args w, (callFunc 72 args).run Try.prog w = .ok (.enter 72 args) w := enters_of Try.func72 (by kernel_rfl) rfl
theorem enters74 : ∀ args w, (callFunc 74 args).run Try.prog w = .ok (.enter 74 args) w := enters_of Try.func74 (by kernel_rfl) rfl

set_option maxHeartbeats 2000000 in
set_option maxRecDepth 100000 in
/-- rangeUsers: the function is called for each in their order. -/
theorem rangeUsers {w0 w : World} {H B : Heap} {p a b c d kf nv : Nat} {n : ByteArray} {x y : Value} {tag tag' : Nat × ByteArray × Nat} {l : List (ByteArray × Nat)} {C : Array Value} {S : Nat → Ob → Prop} {o : Ob}
    (hen : ∀ args w, (callFunc kf args).run Try.prog w = .ok (.enter kf args) w)
    (h : Rep w0 w H) (hp : H p = some (roO n a b c d x y)) (hz : H b = some (.zm tag 78 l)) (hd : H d = some (.zm tag' 78 [])) (hn : (l.map (·.1)).Nodup) (hl : l.length < 1000000)
    (hro : ∀ z ∈ l, ∃ m a' b' c' d' x' y' t', H z.2 = some (roO m a' b' c' d' x' y') ∧ H c' = some (.zm t' 78 []) ∧ z.2 ≠ nv ∧ c' ≠ nv)
    (hB : Ext B H) (hBn : B nv = none) (hpn : p ≠ nv) (hzn : b ≠ nv) (hdn : d ≠ nv) (hv : H nv = some o) (hS : S 0 o) (hbody : Body w0 l 78 kf nv C S B) :
    Calls Try.prog 71 #[pt p, .func (.func kf) #[] C] w fun e w' => e = .returned (.tuple #[]) ∧ ∃ o', S l.length o' ∧ Rep w0 w' (upd H nv o') := by
  have hN := h.fresh (Nat.le_refl w.heap.size)
  have h1 := h.raw (.cells #[.func (.func kf) #[] C] 77) (n := w.heap.size) rfl
  have x1 : Ext H (upd H w.heap.size (.raw (.cells #[.func (.func kf) #[] C] 77))) := (Ext.refl H).upd hN _
  have v1 : upd H w.heap.size (.raw (.cells #[.func (.func kf) #[] C] 77)) w.heap.size = some (.raw (.cells #[.func (.func kf) #[] C] 77)) := upd_at _ _ _
  have hNn : w.heap.size ≠ nv := fun e => by rw [e, hv] at hN; cases hN
  generalize upd H w.heap.size (.raw (.cells #[.func (.func kf) #[] C] 77)) = H1 at h1 x1 v1
  have c0 : (w.alloc (.cells #[.func (.func kf) #[] C] 77)).cell? ⟨p, 2, none⟩ = some (pt b) := cell_of (h1.at (x1 _ _ hp)) 2 rfl
  have b0 : (w.alloc (.cells #[.func (.func kf) #[] C] 77)).cell? ⟨w.heap.size, 0, none⟩ = some (.func (.func kf) #[] C) := cell_of (h1.at v1) 0 rfl
  have CR := hid (range (B := B) (S := S) (o := o) hen h1.drew (x1 _ _ hz) hn hl (fun q o hq => x1 _ _ (hB q o hq)) hBn hzn (x1 _ _ hv) hS hbody)
  have step2 : ∀ o' w1, S l.length o' → Rep w0 w1 (upd H1 nv o') → Calls Try.prog 45 #[pt b, .func (.func 87) #[] #[pt w.heap.size]] w1 fun e w' => e = .returned (.tuple #[]) ∧ Rep w0 w' (upd H1 nv o') := fun o' w1 ho' h2 => by
    have K : ∀ {q u}, H q = some u → q ≠ nv → upd H1 nv o' q = some u := fun hq hne => by rw [upd_ne hne]; exact x1 _ _ hq
    have hB2 : Body w0 l 78 87 nv #[pt w.heap.size] (fun _ u => u = o') (del (upd H1 nv o') nv) := by
      intro i z hz2 w2 H2 u hr2 he2 hu hu2
      subst hu2
      obtain ⟨m, a', b', c', d', x', y', t', q1, q2, q3, q4⟩ := hro z (List.mem_of_getElem? hz2)
      have r1 := he2 _ _ (del_ne q3 (K q1 q3))
      have r2 := he2 _ _ (del_ne q4 (K q2 q4))
      have r3 := he2 _ _ (del_ne hNn (show upd H1 nv u w.heap.size = _ by rw [upd_ne hNn]; exact v1))
      refine (users1 (key := .iface 9 (.string z.1)) hr2 r1 r2 r3).mono ?_
      rintro e w' ⟨rfl, h'⟩
      refine ⟨rfl, u, rfl, h'.less (fun q v hq => ?_)⟩
      by_cases e : q = nv
      · subst e; rw [upd_at] at hq; rw [hu]; exact hq
      · rw [upd_ne e] at hq; exact hq
    refine (range (B := del (upd H1 nv o') nv) (S := fun _ u => u = o') (o := o') enters87 h2 (K hz hzn) hn hl (del_ext _ _) (del_at _ _) hzn (upd_at _ _ _) rfl hB2).mono ?_
    rintro e w' ⟨rfl, o2, rfl, h'⟩
    exact ⟨rfl, h'.less (fun q v hq => by
      by_cases e : q = nv
      · subst e; rw [upd_at] at hq ⊢; exact hq
      · rw [upd_ne e] at hq; rw [upd_ne e, upd_ne e]; exact hq)⟩
  have Hp := hid (x1 _ _ hp)
  have Hd := hid (x1 _ _ hd)
  have X1 := hid x1
  have HP := hid (And.intro hpn hdn)
  have S2 := hid step2
  have HN := hid hN
  have hmf : ∀ (fn : Fn) (first cap : Array Value) (w : World), (Instr.makeFunc fn first cap).run Try.prog w = .ok (.func fn first cap) w := fun _ _ _ _ => rfl
  clear hen h hp hz hd hn hl hro hB hBn hpn hzn hdn hv hS hbody hN h1 x1 v1 hNn step2
  go_enter Try.func71, Try.ntmps71
  go_wp2
  generalize w.alloc (.cells #[.func (.func kf) #[] C] 77) = W1 at CR c0 b0 ⊢
  go_still_tail 5, (by kernel_rfl)
  change wpList _ _ _ _ _ W1.drew
  go_wp2_with fail
  refine CR.out.mono ?_
  rintro e w1 ⟨rfl, o', ho', hR1⟩
  have R1 := hid hR1
  have Ho' := hid ho'
  clear hR1 ho' CR c0
  have c1 : w1.cell? ⟨p, 2, none⟩ = some (pt b) := cell_of (R1.out.at (by rw [upd_ne HP.out.1]; exact Hp.out)) 2 rfl
  have C2 := hid (S2.out o' w1 Ho'.out R1.out)
  go_wp2_with fail
  refine C2.out.mono ?_
  rintro e w2 ⟨rfl, hR2⟩
  have R2 := hid hR2
  clear hR2 C2 c1
  have c2 : w2.cell? ⟨p, 4, none⟩ = some (pt d) := cell_of (R2.out.at (by rw [upd_ne HP.out.1]; exact Hp.out)) 4 rfl
  have C3 := fun f => hid (range_none f R2.out (show upd H1 nv o' d = _ by rw [upd_ne HP.out.2]; exact Hd.out))
  have HC3 := hid C3
  clear C3
  go_wp2_with fail
  refine (HC3.out _).out.mono ?_
  rintro e w3 ⟨rfl, rfl⟩
  go_wp2
  go_end0
  refine ⟨rfl, o', Ho'.out, R2.out.less (fun q v hq => ?_)⟩
  by_cases e : q = nv
  · subst e; rw [upd_at] at hq ⊢; exact hq
  · rw [upd_ne e] at hq ⊢; exact X1.out _ _ hq

set_option maxHeartbeats 2000000 in
set_option maxRecDepth 100000 in
/-- rangeRoles: the function is called for each in their order. -/
theorem rangeRoles {w0 w : World} {H B : Heap} {p a b c d kf nv : Nat} {n : ByteArray} {x y : Value} {tag tag' : Nat × ByteArray × Nat} {l : List (ByteArray × Nat)} {C : Array Value} {S : Nat → Ob → Prop} {o : Ob}
    (hen : ∀ args w, (callFunc kf args).run Try.prog w = .ok (.enter kf args) w)
    (h : Rep w0 w H) (hp : H p = some (roO n a b c d x y)) (hz : H a = some (.zm tag 78 l)) (hd : H d = some (.zm tag' 78 [])) (hn : (l.map (·.1)).Nodup) (hl : l.length < 1000000)
    (hro : ∀ z ∈ l, ∃ m a' b' c' d' x' y' t', H z.2 = some (roO m a' b' c' d' x' y') ∧ H c' = some (.zm t' 78 []) ∧ z.2 ≠ nv ∧ c' ≠ nv)
    (hB : Ext B H) (hBn : B nv = none) (hpn : p ≠ nv) (hzn : a ≠ nv) (hdn : d ≠ nv) (hv : H nv = some o) (hS : S 0 o) (hbody : Body w0 l 78 kf nv C S B) :
    Calls Try.prog 73 #[pt p, .func (.func kf) #[] C] w fun e w' => e = .returned (.tuple #[]) ∧ ∃ o', S l.length o' ∧ Rep w0 w' (upd H nv o') := by
  have hN := h.fresh (Nat.le_refl w.heap.size)
  have h1 := h.raw (.cells #[.func (.func kf) #[] C] 77) (n := w.heap.size) rfl
  have x1 : Ext H (upd H w.heap.size (.raw (.cells #[.func (.func kf) #[] C] 77))) := (Ext.refl H).upd hN _
  have v1 : upd H w.heap.size (.raw (.cells #[.func (.func kf) #[] C] 77)) w.heap.size = some (.raw (.cells #[.func (.func kf) #[] C] 77)) := upd_at _ _ _
  have hNn : w.heap.size ≠ nv := fun e => by rw [e, hv] at hN; cases hN
  generalize upd H w.heap.size (.raw (.cells #[.func (.func kf) #[] C] 77)) = H1 at h1 x1 v1
  have c0 : (w.alloc (.cells #[.func (.func kf) #[] C] 77)).cell? ⟨p, 1, none⟩ = some (pt a) := cell_of (h1.at (x1 _ _ hp)) 1 rfl
  have b0 : (w.alloc (.cells #[.func (.func kf) #[] C] 77)).cell? ⟨w.heap.size, 0, none⟩ = some (.func (.func kf) #[] C) := cell_of (h1.at v1) 0 rfl
  have CR := hid (range (B := B) (S := S) (o := o) hen h1.drew (x1 _ _ hz) hn hl (fun q o hq => x1 _ _ (hB q o hq)) hBn hzn (x1 _ _ hv) hS hbody)
  have step2 : ∀ o' w1, S l.length o' → Rep w0 w1 (upd H1 nv o') → Calls Try.prog 45 #[pt a, .func (.func 89) #[] #[pt w.heap.size]] w1 fun e w' => e = .returned (.tuple #[]) ∧ Rep w0 w' (upd H1 nv o') := fun o' w1 ho' h2 => by
    have K : ∀ {q u}, H q = some u → q ≠ nv → upd H1 nv o' q = some u := fun hq hne => by rw [upd_ne hne]; exact x1 _ _ hq
    have hB2 : Body w0 l 78 89 nv #[pt w.heap.size] (fun _ u => u = o') (del (upd H1 nv o') nv) := by
      intro i z hz2 w2 H2 u hr2 he2 hu hu2
      subst hu2
      obtain ⟨m, a', b', c', d', x', y', t', q1, q2, q3, q4⟩ := hro z (List.mem_of_getElem? hz2)
      have r1 := he2 _ _ (del_ne q3 (K q1 q3))
      have r2 := he2 _ _ (del_ne q4 (K q2 q4))
      have r3 := he2 _ _ (del_ne hNn (show upd H1 nv u w.heap.size = _ by rw [upd_ne hNn]; exact v1))
      refine (roles1 (key := .iface 9 (.string z.1)) hr2 r1 r2 r3).mono ?_
      rintro e w' ⟨rfl, h'⟩
      refine ⟨rfl, u, rfl, h'.less (fun q v hq => ?_)⟩
      by_cases e : q = nv
      · subst e; rw [upd_at] at hq; rw [hu]; exact hq
      · rw [upd_ne e] at hq; exact hq
    refine (range (B := del (upd H1 nv o') nv) (S := fun _ u => u = o') (o := o') enters89 h2 (K hz hzn) hn hl (del_ext _ _) (del_at _ _) hzn (upd_at _ _ _) rfl hB2).mono ?_
    rintro e w' ⟨rfl, o2, rfl, h'⟩
    exact ⟨rfl, h'.less (fun q v hq => by
      by_cases e : q = nv
      · subst e; rw [upd_at] at hq ⊢; exact hq
      · rw [upd_ne e] at hq; rw [upd_ne e, upd_ne e]; exact hq)⟩
  have Hp := hid (x1 _ _ hp)
  have Hd := hid (x1 _ _ hd)
  have X1 := hid x1
  have HP := hid (And.intro hpn hdn)
  have S2 := hid step2
  have HN := hid hN
  have hmf : ∀ (fn : Fn) (first cap : Array Value) (w : World), (Instr.makeFunc fn first cap).run Try.prog w = .ok (.func fn first cap) w := fun _ _ _ _ => rfl
  clear hen h hp hz hd hn hl hro hB hBn hpn hzn hdn hv hS hbody hN h1 x1 v1 hNn step2
  go_enter Try.func73, Try.ntmps73
  go_wp2
  generalize w.alloc (.cells #[.func (.func kf) #[] C] 77) = W1 at CR c0 b0 ⊢
  go_still_tail 5, (by kernel_rfl)
  change wpList _ _ _ _ _ W1.drew
  go_wp2_with fail
  refine CR.out.mono ?_
  rintro e w1 ⟨rfl, o', ho', hR1⟩
  have R1 := hid hR1
  have Ho' := hid ho'
  clear hR1 ho' CR c0
  have c1 : w1.cell? ⟨p, 1, none⟩ = some (pt a) := cell_of (R1.out.at (by rw [upd_ne HP.out.1]; exact Hp.out)) 1 rfl
  have C2 := hid (S2.out o' w1 Ho'.out R1.out)
  go_wp2_with fail
  refine C2.out.mono ?_
  rintro e w2 ⟨rfl, hR2⟩
  have R2 := hid hR2
  clear hR2 C2 c1
  have c2 : w2.cell? ⟨p, 4, none⟩ = some (pt d) := cell_of (R2.out.at (by rw [upd_ne HP.out.1]; exact Hp.out)) 4 rfl
  have C3 := fun f => hid (range_none f R2.out (show upd H1 nv o' d = _ by rw [upd_ne HP.out.2]; exact Hd.out))
  have HC3 := hid C3
  clear C3
  go_wp2_with fail
  refine (HC3.out _).out.mono ?_
  rintro e w3 ⟨rfl, rfl⟩
  go_wp2
  go_end0
  refine ⟨rfl, o', Ho'.out, R2.out.less (fun q v hq => ?_)⟩
  by_cases e : q = nv
  · subst e; rw [upd_at] at hq ⊢; exact hq
  · rw [upd_ne e] at hq ⊢; exact X1.out _ _ hq

end Go.Proofs.Ytpdejkalcminbaa.Us
