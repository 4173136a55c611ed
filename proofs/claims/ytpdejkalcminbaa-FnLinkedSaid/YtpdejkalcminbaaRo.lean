/- A manager of roles as objects: what its methods do. -/
import Derived.Test.YtpdejkalcminbaaMk
import Derived.StillTailTactics
namespace Go.Proofs.Ytpdejkalcminbaa.Ro
open Go.RowKit Go.Proofs.Ytpdejkalcminbaa.Hm Go.Proofs.Ytpdejkalcminbaa.Hp Go.Proofs.Ytpdejkalcminbaa.Zm Go.Proofs.Ytpdejkalcminbaa.Mk

set_option maxHeartbeats 1000000 in
set_option maxRecDepth 100000 in
theorem rmLoad_none {w0 w : World} {H : Heap} {r all : Nat} {lg ca : Value} {tag : Nat × ByteArray × Nat} {l : List (ByteArray × Nat)} {k : ByteArray} (h : Rep w0 w H) (hr : H r = some (rmO all lg ca)) (hz : H all = some (.zm tag 78 l)) (hk : ∀ x ∈ l, x.1 ≠ k) :
    Calls Try.prog 63 #[pt r, .iface 9 (.string k)] w fun e w' => e = .returned (.tuple #[.pointer none, .bool false]) ∧ w = w' := by
  have c0 : w.cell? ⟨r, 0, none⟩ = some (pt all) := cell_of (h.at hr) 0 rfl
  have CL := hid (load_none h hz hk)
  clear h hr hz hk
  go_enter Try.func63, Try.ntmps63
  go_wp2_with (go_at_call 59; (with_reducible refine CL.out.mono ?_); rintro e w' ⟨rfl, rfl⟩)
  go_ret2
  exact ⟨rfl, rfl⟩

set_option maxHeartbeats 1000000 in
set_option maxRecDepth 100000 in
theorem rmLoad_some {w0 w : World} {H : Heap} {r all p : Nat} {lg ca : Value} {tag : Nat × ByteArray × Nat} {l1 l2 : List (ByteArray × Nat)} {k : ByteArray} (h : Rep w0 w H) (hr : H r = some (rmO all lg ca)) (hz : H all = some (.zm tag 78 (l1 ++ (k, p) :: l2))) (hk : ∀ x ∈ l1, x.1 ≠ k) :
    Calls Try.prog 63 #[pt r, .iface 9 (.string k)] w fun e w' => e = .returned (.tuple #[pt p, .bool true]) ∧ w = w' := by
  have c0 : w.cell? ⟨r, 0, none⟩ = some (pt all) := cell_of (h.at hr) 0 rfl
  have CL := hid (load_some h hz hk)
  have hta : ∀ (v : Value) (W : World), (Instr.typeAssert (.iface 78 v) 20 78 false).run Try.prog W = .ok v W := fun v W => by rfl
  clear h hr hz hk
  go_enter Try.func63, Try.ntmps63
  go_wp2_with (go_at_call 59; (with_reducible refine CL.out.mono ?_); rintro e w' ⟨rfl, rfl⟩)
  go_ret2
  exact ⟨rfl, rfl⟩

set_option maxHeartbeats 1000000 in
set_option maxRecDepth 100000 in
/-- addUser: the user is stored under its name. -/
theorem addUser {w0 w : World} {H : Heap} {p q a b c d a' b' c' d' : Nat} {n m : ByteArray} {x y x' y' : Value} {tag : Nat × ByteArray × Nat} {l : List (ByteArray × Nat)} (h : Rep w0 w H) (hp : H p = some (roO n a b c d x y)) (hq : H q = some (roO m a' b' c' d' x' y')) (hz : H b = some (.zm tag 78 l)) (hk : ∀ x ∈ l, x.1 ≠ m) (hl : l.length < 1000000) :
    Calls Try.prog 78 #[pt p, pt q] w fun e w' => e = .returned (.tuple #[]) ∧ Rep w0 w' (upd H b (.zm tag 78 (l ++ [(m, q)]))) := by
  have e0 : w.cell? ⟨p, 2, none⟩ = some (pt b) := cell_of (h.at hp) 2 rfl
  have e1 : w.cell? ⟨q, 0, none⟩ = some (.string m) := cell_of (h.at hq) 0 rfl
  have CL := hid (Zm.store (p := q) h.drew hz hk hl)
  clear h hp hq hz hk hl
  go_enter Try.func78, Try.ntmps78
  go_wp2
  go_still_tail 11, (by kernel_rfl)
  change wpList _ _ _ _ _ w.drew
  go_wp2_with (go_at_call 44; (with_reducible refine CL.out.mono ?_); rintro e w' ⟨rfl, hR⟩; have HR := hid hR; clear hR)
  go_end0
  exact ⟨rfl, HR.out⟩

set_option maxHeartbeats 1000000 in
set_option maxRecDepth 100000 in
/-- addRole: the role is stored with the user, and the user with the role. -/
theorem addRole {w0 w : World} {H : Heap} {p q a b c d a' b' c' d' : Nat} {n m : ByteArray} {x y x' y' : Value} {tag tag' : Nat × ByteArray × Nat} {l l' : List (ByteArray × Nat)} (h : Rep w0 w H) (hp : H p = some (roO n a b c d x y)) (hq : H q = some (roO m a' b' c' d' x' y'))
    (hz : H a = some (.zm tag 78 l)) (hz' : H b' = some (.zm tag' 78 l')) (htag : tag ≠ tag') (hk : ∀ x ∈ l, x.1 ≠ m) (hk' : ∀ x ∈ l', x.1 ≠ n) (hl : l.length < 1000000) (hl' : l'.length < 1000000) :
    Calls Try.prog 57 #[pt p, pt q] w fun e w' => e = .returned (.tuple #[]) ∧ Rep w0 w' (upd (upd H a (.zm tag 78 (l ++ [(m, q)]))) b' (.zm tag' 78 (l' ++ [(n, p)]))) := by
  have e0 : w.cell? ⟨p, 1, none⟩ = some (pt a) := cell_of (h.at hp) 1 rfl
  have e1 : w.cell? ⟨q, 0, none⟩ = some (.string m) := cell_of (h.at hq) 0 rfl
  have CL := hid (Zm.store (p := q) h.drew hz hk hl)
  have ne1 : p ≠ a := fun e => by subst e; rw [hp] at hz; cases hz
  have ne2 : q ≠ a := fun e => by subst e; rw [hq] at hz; cases hz
  have ne3 : b' ≠ a := fun e => by subst e; rw [hz'] at hz; cases hz; exact htag rfl
  have CU : Aside (∀ w1, Rep w0 w1 (upd H a (.zm tag 78 (l ++ [(m, q)]))) → Calls Try.prog 78 #[pt q, pt p] w1 fun e w' => e = .returned (.tuple #[]) ∧ Rep w0 w' (upd (upd H a (.zm tag 78 (l ++ [(m, q)]))) b' (.zm tag' 78 (l' ++ [(n, p)])))) :=
    hid fun w1 h1 => addUser h1 (by rw [upd_ne ne2]; exact hq) (by rw [upd_ne ne1]; exact hp) (by rw [upd_ne ne3]; exact hz') hk' hl'
  clear h hp hq hz hz' hk hk' hl hl' htag ne1 ne2 ne3
  go_enter Try.func57, Try.ntmps57
  go_wp2
  go_still_tail 11, (by kernel_rfl)
  change wpList _ _ _ _ _ w.drew
  go_wp2_with (first | (go_at_call 44; (with_reducible refine CL.out.mono ?_); rintro e w' ⟨rfl, hR⟩; have HR := hid hR; clear hR) | (go_at_call 78; (with_reducible refine (CU.out _ (by exact HR.out)).mono ?_); rintro e w' ⟨rfl, hR⟩; have HR2 := hid hR; clear hR))
  go_end0
  exact ⟨rfl, HR2.out⟩

end Go.Proofs.Ytpdejkalcminbaa.Ro
