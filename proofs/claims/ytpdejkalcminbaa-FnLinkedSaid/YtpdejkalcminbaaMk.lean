/- What the package makes anew: a role, a manager of roles, a manager of domains. -/
import Derived.Test.YtpdejkalcminbaaDl
import Derived.Laws.EntriesVeiled
namespace Go.Proofs.Ytpdejkalcminbaa.Mk
open Go.RowKit Go.Proofs.Ytpdejkalcminbaa.Hm Go.Proofs.Ytpdejkalcminbaa.Hp Go.Proofs.Ytpdejkalcminbaa.Zm

abbrev none' : ByteArray := ⟨#[]⟩
/-- A manager of roles, of domains, of both, a role: how their blocks lie. -/
abbrev rmO (all : Nat) (lg ca : Value) : Ob := .raw (.cells #[pt all, .int .i64 10, .nilFunc, .nilFunc, lg, ca] 86 (0, 0))
abbrev dmO (m : Nat) (ca : Value) : Ob := .raw (.cells #[pt m, .int .i64 10, .nilFunc, .nilFunc, .nilIface, ca] 74 (0, 0))
abbrev drO (dm : Nat) : Ob := .raw (.cells #[pt dm] 44 (0, 0))
abbrev roO (n : ByteArray) (a b c d : Nat) (x y : Value) : Ob := .raw (.cells #[.string n, pt a, pt b, pt c, pt d, x, y] 83 (0, 0))

structure NewDr (w0 : World) (H : Heap) (w' : World) (q dm m : Nat) (ca : Value) (H' : Heap) : Prop where
  rep : Rep w0 w' H'
  ext : Ext H H'
  q_ : H' q = some (drO dm)
  dm_ : H' dm = some (dmO m ca)
  m_ : H' m = some (.zm (dm, none', 9) 57 [])

set_option maxHeartbeats 1000000 in
set_option maxRecDepth 100000 in
theorem newDm {w0 w : World} {H : Heap} (h : Rep w0 w H) :
    Calls Try.prog 27 #[.int .i64 10] w fun e w' => ∃ q dm m ca H', e = .returned (pt q) ∧ NewDr w0 H w' q dm m ca H' := by
  have hmm := @run_makeMap Try.prog
  have R := (((((((h.raw (.cells #[pt (w.heap.size + 1)] 44 (0, 0)) rfl).raw (.cells #[pt (w.heap.size + 1 + 1), .int .i64 10, .nilFunc, .nilFunc, .nilIface, pt (w.heap.size + 1 + 1 + 1)] 74 (0, 0)) (n := w.heap.size + 1) (by simp)).zmNew (w.heap.size + 1, none', 9) 57 (n := w.heap.size + 1 + 1) (by simp)).alloc (.cells #[pt (w.heap.size + 1 + 1 + 1 + 1)] 117)).alloc
    (.cells #[.int .i64 100, .map (some (w.heap.size + 1 + 1 + 1 + 1 + 1)), pt (w.heap.size + 1 + 1 + 1 + 1 + 1 + 1), pt (w.heap.size + 1 + 1 + 1 + 1 + 1 + 1 + 1)] 122)).alloc (.map #[] 0)).alloc
    (.cells #[.nilIface, .nilIface, .pointer none, pt (w.heap.size + 1 + 1 + 1 + 1 + 1 + 1 + 1)] 124)).alloc (.cells #[.nilIface, .nilIface, pt (w.heap.size + 1 + 1 + 1 + 1 + 1 + 1), .pointer none] 124)
  have f0 := h.fresh (Nat.le_refl w.heap.size)
  have f1 := h.fresh (show w.heap.size ≤ w.heap.size + 1 by omega)
  have f2 := h.fresh (show w.heap.size ≤ w.heap.size + 1 + 1 by omega)
  have E := hid (show NewDr w0 H _ w.heap.size (w.heap.size + 1) (w.heap.size + 1 + 1) (pt (w.heap.size + 1 + 1 + 1)) _ from
    ⟨R, (((Ext.refl H).upd f0 _).upd f1 _).upd f2 _, by rw [upd_ne (by omega), upd_ne (by omega), upd_at], by rw [upd_ne (by omega), upd_at], by rw [upd_at]⟩)
  clear R f0 f1 f2 h
  go_enter Try.func27, Try.ntmps27
  go_wp2
  go_ret
  exact ⟨_, _, _, _, _, rfl, E.out⟩

structure NewRm (w0 : World) (H : Heap) (w' : World) (r all : Nat) (lg ca : Value) (H' : Heap) : Prop where
  rep : Rep w0 w' H'
  ext : Ext H H'
  new : H r = none
  r_ : H' r = some (rmO all lg ca)
  all_ : H' all = some (.zm (r, none', 0) 78 [])

set_option maxHeartbeats 1000000 in
set_option maxRecDepth 100000 in
theorem newRm {w0 w : World} {H : Heap} (h : Rep w0 w H) :
    Calls Try.prog 43 #[.int .i64 10, .nilFunc] w fun e w' => ∃ r all lg ca H', e = .returned (pt r) ∧ NewRm w0 H w' r all lg ca H' := by
  have hmm := @run_makeMap Try.prog
  have R := (((((((h.raw (.cells #[pt (w.heap.size + 1 + 1 + 1 + 1 + 1 + 1), .int .i64 10, .nilFunc, .nilFunc, .iface 108 (pt (w.heap.size + 1 + 1 + 1 + 1 + 1 + 1 + 1)), pt (w.heap.size + 1)] 86 (0, 0)) rfl).alloc (.cells #[pt (w.heap.size + 1 + 1)] 117)).alloc
    (.cells #[.int .i64 100, .map (some (w.heap.size + 1 + 1 + 1)), pt (w.heap.size + 1 + 1 + 1 + 1), pt (w.heap.size + 1 + 1 + 1 + 1 + 1)] 122)).alloc (.map #[] 0)).alloc
    (.cells #[.nilIface, .nilIface, .pointer none, pt (w.heap.size + 1 + 1 + 1 + 1 + 1)] 124)).alloc (.cells #[.nilIface, .nilIface, pt (w.heap.size + 1 + 1 + 1 + 1), .pointer none] 124)).zmNew (w.heap.size, none', 0) 78 (n := w.heap.size + 1 + 1 + 1 + 1 + 1 + 1) (by simp)).alloc (.cells #[] 110)
  have f0 := h.fresh (Nat.le_refl w.heap.size)
  have f6 := h.fresh (show w.heap.size ≤ w.heap.size + 1 + 1 + 1 + 1 + 1 + 1 by omega)
  have E := hid (show NewRm w0 H _ w.heap.size (w.heap.size + 1 + 1 + 1 + 1 + 1 + 1) (.iface 108 (pt (w.heap.size + 1 + 1 + 1 + 1 + 1 + 1 + 1))) (pt (w.heap.size + 1)) _ from
    ⟨R, ((Ext.refl H).upd f0 _).upd f6 _, f0, by rw [upd_ne (by omega), upd_at], by rw [upd_at]⟩)
  clear R f0 f6 h
  go_enter Try.func43, Try.ntmps43
  go_wp2
  go_end0
  go_wp2
  go_ret
  exact ⟨_, _, _, _, _, rfl, E.out⟩

structure NewRo (w0 : World) (H : Heap) (w' : World) (r : Nat) (n : ByteArray) (p a b c d : Nat) (x y : Value) (H' : Heap) : Prop where
  rep : Rep w0 w' H'
  ext : Ext H H'
  new : H p = none
  p_ : H' p = some (roO n a b c d x y)
  a_ : H' a = some (.zm (r, n, 1) 78 [])
  b_ : H' b = some (.zm (r, n, 2) 78 [])
  c_ : H' c = some (.zm (r, n, 3) 78 [])
  d_ : H' d = some (.zm (r, n, 4) 78 [])

set_option maxHeartbeats 1000000 in
set_option maxRecDepth 100000 in
theorem newRole {w0 w : World} {H : Heap} (h : Rep w0 w H) (r : Nat) (n : ByteArray) :
    Calls Try.prog 64 #[.string n] w fun e w' => ∃ p a b c d x y H', e = .returned (pt p) ∧ NewRo w0 H w' r n p a b c d x y H' := by
  have R := ((((((h.raw (.cells #[.string n, pt (w.heap.size + 1), pt (w.heap.size + 1 + 1), pt (w.heap.size + 1 + 1 + 1), pt (w.heap.size + 1 + 1 + 1 + 1), pt (w.heap.size + 1 + 1 + 1 + 1 + 1), pt (w.heap.size + 1 + 1 + 1 + 1 + 1 + 1)] 83 (0, 0)) rfl).zmNew (r, n, 1) 78 (n := w.heap.size + 1) (by simp)).zmNew (r, n, 2) 78 (n := w.heap.size + 1 + 1) (by simp)).zmNew (r, n, 3) 78 (n := w.heap.size + 1 + 1 + 1) (by simp)).zmNew (r, n, 4) 78 (n := w.heap.size + 1 + 1 + 1 + 1) (by simp)).alloc (.cells #[.slice none 0 0, .map none] 97)).alloc (.cells #[.slice none 0 0, .map none] 97)
  have f0 := h.fresh (Nat.le_refl w.heap.size)
  have f1 := h.fresh (show w.heap.size ≤ w.heap.size + 1 by omega)
  have f2 := h.fresh (show w.heap.size ≤ w.heap.size + 1 + 1 by omega)
  have f3 := h.fresh (show w.heap.size ≤ w.heap.size + 1 + 1 + 1 by omega)
  have f4 := h.fresh (show w.heap.size ≤ w.heap.size + 1 + 1 + 1 + 1 by omega)
  have E := hid (show NewRo w0 H _ r n w.heap.size (w.heap.size + 1) (w.heap.size + 1 + 1) (w.heap.size + 1 + 1 + 1) (w.heap.size + 1 + 1 + 1 + 1) (pt (w.heap.size + 1 + 1 + 1 + 1 + 1)) (pt (w.heap.size + 1 + 1 + 1 + 1 + 1 + 1)) _ from
    ⟨R, (((((Ext.refl H).upd f0 _).upd f1 _).upd f2 _).upd f3 _).upd f4 _, f0, by rw [upd_ne (by omega), upd_ne (by omega), upd_ne (by omega), upd_ne (by omega), upd_at], by rw [upd_ne (by omega), upd_ne (by omega), upd_ne (by omega), upd_at], by rw [upd_ne (by omega), upd_ne (by omega), upd_at], by rw [upd_ne (by omega), upd_at], by rw [upd_at]⟩)
  clear R f0 f1 f2 f3 f4 h
  go_enter Try.func64, Try.ntmps64
  go_wp2
  go_ret
  exact ⟨_, _, _, _, _, _, _, _, rfl, E.out⟩

end Go.Proofs.Ytpdejkalcminbaa.Mk
