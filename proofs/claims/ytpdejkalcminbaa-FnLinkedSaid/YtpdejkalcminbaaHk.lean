/- HasLink of a manager of roles. -/
import Derived.Test.YtpdejkalcminbaaHl
import Derived.Deep.RegionHeld3
namespace Go.Proofs.Ytpdejkalcminbaa.Hk
open Go.RowKit Go.ChangeMaps Go.Proofs.Ytpdejkalcminbaa.Hm Go.Proofs.Ytpdejkalcminbaa.Hp Go.Proofs.Ytpdejkalcminbaa.Zm Go.Proofs.Ytpdejkalcminbaa.Mk Go.Proofs.Ytpdejkalcminbaa.Rg Go.Proofs.Ytpdejkalcminbaa.Ro Go.Proofs.Ytpdejkalcminbaa.Rm Go.Proofs.Ytpdejkalcminbaa.Gr Go.Proofs.Ytpdejkalcminbaa.Us Go.Proofs.Ytpdejkalcminbaa.Gu Go.Proofs.Ytpdejkalcminbaa.Fm Go.Proofs.Ytpdejkalcminbaa.Hl

/-- Linked by at most ten links. -/
def Near (L : List (ByteArray × ByteArray)) (a b : ByteArray) : Prop := ∃ j, j < 11 ∧ Hl.Reach L j a b

/-- What the search answers. -/
structure Found (w0 : World) (H : Heap) (L : List (ByteArray × ByteArray)) (a b : ByteArray) (v : Bool) (w' : World) (H' : Heap) : Prop where
  ans : v = true ↔ Near L a b
  rep : Rep w0 w' H'
  ext : Ext H H'

/-- The search from one name on: a map of that name alone is made. -/
theorem one {w0 w : World} {P : Ptr} {H : Heap} {r : Nat} {names : List ByteArray} {L : List (ByteArray × ByteArray)} {a b : ByteArray} (h : Rep w0 w H) (R : RMp P H r names L) (ha : a ∈ names) (hL : L.length < 100000) :
    ∃ W, (Instr.mapUpdate 88 (.map (some w.heap.size)) (.string a) (pt (P.ro a))).run Try.prog (w.alloc (.map #[] 0)).drew = .ok () W ∧ Rep w0 W H ∧
      Calls Try.prog 54 #[pt r, .string b, .map (some w.heap.size), .int .i64 10] W fun e w' => ∃ v H', e = .returned (.bool v) ∧ Found w0 H L a b v w' H' := by
  have f0 := h.fresh (Nat.le_refl w.heap.size)
  have h1 := (h.raw (.map #[] 0) (n := w.heap.size) rfl).drew
  have x1 : Ext H (upd H w.heap.size (.raw (.map #[] 0))) := (Ext.refl H).upd f0 _
  obtain ⟨es', c', S', hrun, F', hS'⟩ := put (h1.at (upd_at _ _ _)) (FM.empty P.ro) a
  have h2 := rep_setBlock h1 (upd_at _ _ _) (.map es' c')
  have x2 : Ext H (upd (upd H w.heap.size (.raw (.map #[] 0))) w.heap.size (.raw (.map es' c'))) := x1.upd f0 _
  refine ⟨_, hrun, h2.less x2, ?_⟩
  refine (helper (b := b) hL 11 10 _ _ w.heap.size c' es' S' (by omega) (by omega) h2 (R.ext x2) (upd_at _ _ _) F' (fun n hn => ?_)).mono ?_
  · rcases (hS' n).mp hn with h | rfl
    · cases h
    · exact ha
  · rintro e w' ⟨v, H', rfl, hv, h', x'⟩
    refine ⟨v, H', rfl, hv.trans ?_, h', x2.trans x'⟩
    unfold Near
    constructor
    · rintro ⟨j, hj, n, hn, hr⟩
      rcases (hS' n).mp hn with h | rfl
      · cases h
      · exact ⟨j, hj, hr⟩
    · rintro ⟨j, hj, hr⟩
      exact ⟨j, hj, a, (hS' a).mpr (.inr rfl), hr⟩

/-- The role that was made last goes again. -/
theorem remove1 {w0 w : World} {P : Ptr} {H : Heap} {r : Nat} {names : List ByteArray} {L : List (ByteArray × ByteArray)} {n : ByteArray} (u : FrameMode) (h : Rep w0 w H) (R : RMp P H r (names ++ [n]) L) (hn : n ∉ names) (hl : names.length < 100000) :
    CallsD Try.prog 50 #[pt r, .string n] u w fun e u' w' => u' = u ∧ (e = .returned (.tuple #[]) ∧ Rep w0 w' (upd H P.all (.zm (r, none', 0) 78 (names.map fun m => (m, P.ro m))))) := by
  have hmem : n ∈ names ++ [n] := by simp
  have hall := R.all_
  rw [List.map_append] at hall
  have hk : ∀ x ∈ (names.map fun m => (m, P.ro m)), x.1 ≠ n := fun x hx e => by
    obtain ⟨m, hm, rfl⟩ := List.mem_map.mp hx
    exact hn (e ▸ hm)
  exact removeRole u h R.r_ hall hk (by simp; omega) (R.ro_ n hmem) (R.c_ n hmem) (R.d_ n hmem)

/-- The last two roles that were made go again, the last one first. -/
theorem remove2 {w0 w : World} {P : Ptr} {H : Heap} {r : Nat} {names : List ByteArray} {L : List (ByteArray × ByteArray)} {m n : ByteArray} (u : FrameMode) (h : Rep w0 w (upd H P.all (.zm (r, none', 0) 78 ((names ++ [m]).map fun m => (m, P.ro m))))) (R : RMp P H r (names ++ [m] ++ [n]) L) (hm : m ∉ names) (hl : names.length < 100000) :
    CallsD Try.prog 50 #[pt r, .string m] u w fun e u' w' => u' = u ∧ (e = .returned (.tuple #[]) ∧ ∃ H', Rep w0 w' H') := by
  have hmem : m ∈ names ++ [m] ++ [n] := by simp
  have hall : upd H P.all (.zm (r, none', 0) 78 ((names ++ [m]).map fun m => (m, P.ro m))) P.all = some (.zm (r, none', 0) 78 ((names.map fun m => (m, P.ro m)) ++ [(m, P.ro m)])) := by rw [upd_at, List.map_append]; rfl
  have hk : ∀ x ∈ (names.map fun m => (m, P.ro m)), x.1 ≠ m := fun x hx e => by
    obtain ⟨y, hy, rfl⟩ := List.mem_map.mp hx
    exact hm (e ▸ hy)
  have ne : ∀ {q : Nat} {o : Ob}, H q = some o → (∀ l, o ≠ .zm (r, none', 0) 78 l) → upd H P.all (.zm (r, none', 0) 78 ((names ++ [m]).map fun m => (m, P.ro m))) q = some o := fun hq ho => by
    rw [upd_ne]
    · exact hq
    · intro e
      rw [e, R.all_] at hq
      cases hq
      exact ho _ rfl
  refine (removeRole u h (ne R.r_ (fun _ e => by cases e)) hall hk (by simp; omega) (ne (R.ro_ m hmem) (fun _ e => by cases e)) (ne (R.c_ m hmem) (fun _ e => by cases e)) (ne (R.d_ m hmem) (fun _ e => by cases e))).mono ?_
  rintro e u' w' ⟨rfl, rfl, h'⟩
  exact ⟨rfl, rfl, _, h'⟩

set_option maxHeartbeats 2000000 in
set_option maxRecDepth 100000 in
/-- HasLink of two names: there, there. -/
theorem hasLink_oo {w0 w : World} {P : Ptr} {H : Heap} {r : Nat} {names : List ByteArray} {L : List (ByteArray × ByteArray)} {a b : ByteArray} (dv : Value) (h : Rep w0 w H) (R : RMp P H r names L) (hab : a ≠ b) (ha : a ∈ names) (hb : b ∈ names) (hl : names.length < 10000) (hL : L.length < 100000) :
    Calls Try.prog 35 #[pt r, .string a, .string b, dv] w fun e w' => ∃ v H', e = .returned (.tuple #[.bool v, .nilIface]) ∧ (v = true ↔ Near L a b) ∧ Rep w0 w' H' := by
  have hq : (a.toList == b.toList) = false := beq_eq_false_iff_ne.mpr (fun e => hab (str_inj e))
  have q2 : w.cell? ⟨r, 2, none⟩ = some .nilFunc := cell_of (h.at R.r_) 2 rfl
  have hnf := neq_nilFunc
  have CA := hid (fun w1 (h1 : Rep w0 w1 H) => getRole_old h1 R ha)
  have HH := hid h
  have HR := hid R
  have HA := hid ha
  have HB := hid hb
  have HAB := hid hab
  have HL := hid hl
  clear h R hab ha hb hl
  go_enter_defers Try.func35, Try.ntmps35
  go_wp2_with fail
  refine (CA.out _ HH.out).mono ?_
  rintro e w1 ⟨rfl, h1⟩
  have H1 := hid h1
  have R1 := hid HR.out
  have A1 := hid HA.out
  clear h1
  have B1 := hid (show b ∈ names from HB.out)
  have CB := hid (getRole_old H1.out R1.out B1.out)
  clear CA
  go_wp2_with fail
  refine CB.out.mono ?_
  rintro e w2 ⟨rfl, h2⟩
  have R2 := hid R1.out
  have A2 := hid A1.out
  have B2 := hid B1.out
  have hpa : P.ro a = P.ro a := rfl
  have cells : ∀ (w' : World) (H' : Heap), Rep w0 w' H' → RMp P H' r (names) L → w'.cell? ⟨P.ro a, 0, none⟩ = some (.string a) ∧ w'.cell? ⟨P.ro b, 0, none⟩ = some (.string b) ∧ w'.cell? ⟨r, 1, none⟩ = some (.int .i64 10) := fun w' H' h' R' =>
    ⟨by rw [← hpa]; exact cell_of (h'.at (R'.ro_ a A2.out)) 0 rfl, cell_of (h'.at (R'.ro_ b B2.out)) 0 rfl, cell_of (h'.at R'.r_) 1 rfl⟩
  obtain ⟨a0, b0, r1⟩ := cells _ _ h2 R2.out
  obtain ⟨W, hrun, hW, hcall⟩ := one (b := b) h2 R2.out A2.out hL
  clear hpa
  have CH := hid hcall
  obtain ⟨s0, s1, s2⟩ := cells _ _ (h2.alloc (.map #[] 0)) R2.out
  obtain ⟨t0, t1, t2⟩ := cells _ _ hW R2.out
  have CE := hid cells
  have hmm := @run_makeMap Try.prog
  clear h2 hcall hW CB cells
  go_wp2_with fail
  go_region_held3 (fun w' => w'.cell? ⟨P.ro a, 0, none⟩ = some (.string a) ∧ w'.cell? ⟨P.ro b, 0, none⟩ = some (.string b) ∧ w'.cell? ⟨r, 1, none⟩ = some (.int .i64 10))
    (first | exact ⟨a0, b0, r1⟩ | exact ⟨s0, s1, s2⟩ | exact ⟨t0, t1, t2⟩ | exact ⟨u0, u1, u2⟩)
    (first
    | (go_at_call 54; (with_reducible refine CH.out.mono ?_); rintro e w3 ⟨v, H3, rfl, hF⟩
       obtain ⟨u0, u1, u2⟩ := CE.out _ _ hF.rep (R2.out.ext hF.ext)
       have FF := hid hF
       clear hF))
  go_wp2_with fail
  exact ⟨_, results_tmp2 rfl _ _ _, v, H3, rfl, FF.out.ans, FF.out.rep⟩

set_option maxHeartbeats 2000000 in
set_option maxRecDepth 100000 in
/-- HasLink of two names: there, new. -/
theorem hasLink_on {w0 w : World} {P : Ptr} {H : Heap} {r : Nat} {names : List ByteArray} {L : List (ByteArray × ByteArray)} {a b : ByteArray} (dv : Value) (h : Rep w0 w H) (R : RMp P H r names L) (hab : a ≠ b) (ha : a ∈ names) (hb : b ∉ names) (hl : names.length < 10000) (hL : L.length < 100000) :
    Calls Try.prog 35 #[pt r, .string a, .string b, dv] w fun e w' => ∃ v H', e = .returned (.tuple #[.bool v, .nilIface]) ∧ (v = true ↔ Near L a b) ∧ Rep w0 w' H' := by
  have hq : (a.toList == b.toList) = false := beq_eq_false_iff_ne.mpr (fun e => hab (str_inj e))
  have q2 : w.cell? ⟨r, 2, none⟩ = some .nilFunc := cell_of (h.at R.r_) 2 rfl
  have hnf := neq_nilFunc
  have CA := hid (fun w1 (h1 : Rep w0 w1 H) => getRole_old h1 R ha)
  have HH := hid h
  have HR := hid R
  have HA := hid ha
  have HB := hid hb
  have HAB := hid hab
  have HL := hid hl
  clear h R hab ha hb hl
  go_enter_defers Try.func35, Try.ntmps35
  go_wp2_with fail
  refine (CA.out _ HH.out).mono ?_
  rintro e w1 ⟨rfl, h1⟩
  have H1 := hid h1
  have R1 := hid HR.out
  have A1 := hid HA.out
  clear h1
  have B1 := hid (show b ∉ names from HB.out)
  have CB := hid (getRole_new H1.out R1.out B1.out (by have := HL.out; omega))
  clear CA
  go_wp2_with fail
  refine CB.out.mono ?_
  rintro e w2 ⟨P2, K2, rfl, hG2⟩
  have h2 := hG2.rep
  have R2 := hid hG2.rm
  have A2 := hid (show a ∈ names ++ [b] from List.mem_append_left _ A1.out)
  have B2 := hid (show b ∈ names ++ [b] by simp)
  have hpa : P2.ro a = P.ro a := hG2.same a A1.out
  clear hG2
  have cells : ∀ (w' : World) (H' : Heap), Rep w0 w' H' → RMp P2 H' r (names ++ [b]) L → w'.cell? ⟨P.ro a, 0, none⟩ = some (.string a) ∧ w'.cell? ⟨P2.ro b, 0, none⟩ = some (.string b) ∧ w'.cell? ⟨r, 1, none⟩ = some (.int .i64 10) := fun w' H' h' R' =>
    ⟨by rw [← hpa]; exact cell_of (h'.at (R'.ro_ a A2.out)) 0 rfl, cell_of (h'.at (R'.ro_ b B2.out)) 0 rfl, cell_of (h'.at R'.r_) 1 rfl⟩
  obtain ⟨a0, b0, r1⟩ := cells _ _ h2 R2.out
  obtain ⟨W, hrun, hW, hcall⟩ := one (b := b) h2 R2.out A2.out hL
  rw [hpa] at hrun
  have CH := hid hcall
  obtain ⟨s0, s1, s2⟩ := cells _ _ (h2.alloc (.map #[] 0)) R2.out
  obtain ⟨t0, t1, t2⟩ := cells _ _ hW R2.out
  have CE := hid cells
  have hmm := @run_makeMap Try.prog
  clear h2 hcall hW CB cells
  go_wp2_with fail
  go_region_held3 (fun w' => w'.cell? ⟨P.ro a, 0, none⟩ = some (.string a) ∧ w'.cell? ⟨P2.ro b, 0, none⟩ = some (.string b) ∧ w'.cell? ⟨r, 1, none⟩ = some (.int .i64 10))
    (first | exact ⟨a0, b0, r1⟩ | exact ⟨s0, s1, s2⟩ | exact ⟨t0, t1, t2⟩ | exact ⟨u0, u1, u2⟩)
    (first
    | (go_at_call 54; (with_reducible refine CH.out.mono ?_); rintro e w3 ⟨v, H3, rfl, hF⟩
       obtain ⟨u0, u1, u2⟩ := CE.out _ _ hF.rep (R2.out.ext hF.ext)
       have FF := hid hF
       clear hF))
  go_wp2_with fail
  refine leaves_cons (f := 50) (args := #[pt r, .string b]) (by simp) (by simp [go_sem]) ?_
  refine (remove1 .returning FF.out.rep (R2.out.ext FF.out.ext) HB.out (by have := HL.out; omega)).mono ?_
  rintro e u' w4 ⟨rfl, rfl, h4⟩
  exact ⟨_, results_tmp2 rfl _ _ _, v, _, rfl, FF.out.ans, h4⟩

set_option maxHeartbeats 2000000 in
set_option maxRecDepth 100000 in
/-- HasLink of two names: new, there. -/
theorem hasLink_no {w0 w : World} {P : Ptr} {H : Heap} {r : Nat} {names : List ByteArray} {L : List (ByteArray × ByteArray)} {a b : ByteArray} (dv : Value) (h : Rep w0 w H) (R : RMp P H r names L) (hab : a ≠ b) (ha : a ∉ names) (hb : b ∈ names) (hl : names.length < 10000) (hL : L.length < 100000) :
    Calls Try.prog 35 #[pt r, .string a, .string b, dv] w fun e w' => ∃ v H', e = .returned (.tuple #[.bool v, .nilIface]) ∧ (v = true ↔ Near L a b) ∧ Rep w0 w' H' := by
  have hq : (a.toList == b.toList) = false := beq_eq_false_iff_ne.mpr (fun e => hab (str_inj e))
  have q2 : w.cell? ⟨r, 2, none⟩ = some .nilFunc := cell_of (h.at R.r_) 2 rfl
  have hnf := neq_nilFunc
  have CA := hid (fun w1 (h1 : Rep w0 w1 H) => getRole_new h1 R ha (by omega))
  have HH := hid h
  have HR := hid R
  have HA := hid ha
  have HB := hid hb
  have HAB := hid hab
  have HL := hid hl
  clear h R hab ha hb hl
  go_enter_defers Try.func35, Try.ntmps35
  go_wp2_with fail
  refine (CA.out _ HH.out).mono ?_
  rintro e w1 ⟨P1, K1, rfl, hG⟩
  have H1 := hid hG.rep
  have R1 := hid hG.rm
  have A1 := hid (show a ∈ names ++ [a] by simp)
  clear hG
  have B1 := hid (show b ∈ (names ++ [a]) from (List.mem_append_left _ HB.out))
  have CB := hid (getRole_old H1.out R1.out B1.out)
  clear CA
  go_wp2_with fail
  refine CB.out.mono ?_
  rintro e w2 ⟨rfl, h2⟩
  have R2 := hid R1.out
  have A2 := hid A1.out
  have B2 := hid B1.out
  have hpa : P1.ro a = P1.ro a := rfl
  have cells : ∀ (w' : World) (H' : Heap), Rep w0 w' H' → RMp P1 H' r ((names ++ [a])) L → w'.cell? ⟨P1.ro a, 0, none⟩ = some (.string a) ∧ w'.cell? ⟨P1.ro b, 0, none⟩ = some (.string b) ∧ w'.cell? ⟨r, 1, none⟩ = some (.int .i64 10) := fun w' H' h' R' =>
    ⟨by rw [← hpa]; exact cell_of (h'.at (R'.ro_ a A2.out)) 0 rfl, cell_of (h'.at (R'.ro_ b B2.out)) 0 rfl, cell_of (h'.at R'.r_) 1 rfl⟩
  obtain ⟨a0, b0, r1⟩ := cells _ _ h2 R2.out
  obtain ⟨W, hrun, hW, hcall⟩ := one (b := b) h2 R2.out A2.out hL
  clear hpa
  have CH := hid hcall
  obtain ⟨s0, s1, s2⟩ := cells _ _ (h2.alloc (.map #[] 0)) R2.out
  obtain ⟨t0, t1, t2⟩ := cells _ _ hW R2.out
  have CE := hid cells
  have hmm := @run_makeMap Try.prog
  clear h2 hcall hW CB cells
  go_wp2_with fail
  go_region_held3 (fun w' => w'.cell? ⟨P1.ro a, 0, none⟩ = some (.string a) ∧ w'.cell? ⟨P1.ro b, 0, none⟩ = some (.string b) ∧ w'.cell? ⟨r, 1, none⟩ = some (.int .i64 10))
    (first | exact ⟨a0, b0, r1⟩ | exact ⟨s0, s1, s2⟩ | exact ⟨t0, t1, t2⟩ | exact ⟨u0, u1, u2⟩)
    (first
    | (go_at_call 54; (with_reducible refine CH.out.mono ?_); rintro e w3 ⟨v, H3, rfl, hF⟩
       obtain ⟨u0, u1, u2⟩ := CE.out _ _ hF.rep (R2.out.ext hF.ext)
       have FF := hid hF
       clear hF))
  go_wp2_with fail
  refine leaves_cons (f := 50) (args := #[pt r, .string a]) (by simp) (by simp [go_sem]) ?_
  refine (remove1 .returning FF.out.rep (R2.out.ext FF.out.ext) HA.out (by have := HL.out; omega)).mono ?_
  rintro e u' w4 ⟨rfl, rfl, h4⟩
  exact ⟨_, results_tmp2 rfl _ _ _, v, _, rfl, FF.out.ans, h4⟩

set_option maxHeartbeats 2000000 in
set_option maxRecDepth 100000 in
/-- HasLink of two names: new, new. -/
theorem hasLink_nn {w0 w : World} {P : Ptr} {H : Heap} {r : Nat} {names : List ByteArray} {L : List (ByteArray × ByteArray)} {a b : ByteArray} (dv : Value) (h : Rep w0 w H) (R : RMp P H r names L) (hab : a ≠ b) (ha : a ∉ names) (hb : b ∉ names) (hl : names.length < 10000) (hL : L.length < 100000) :
    Calls Try.prog 35 #[pt r, .string a, .string b, dv] w fun e w' => ∃ v H', e = .returned (.tuple #[.bool v, .nilIface]) ∧ (v = true ↔ Near L a b) ∧ Rep w0 w' H' := by
  have hq : (a.toList == b.toList) = false := beq_eq_false_iff_ne.mpr (fun e => hab (str_inj e))
  have q2 : w.cell? ⟨r, 2, none⟩ = some .nilFunc := cell_of (h.at R.r_) 2 rfl
  have hnf := neq_nilFunc
  have CA := hid (fun w1 (h1 : Rep w0 w1 H) => getRole_new h1 R ha (by omega))
  have HH := hid h
  have HR := hid R
  have HA := hid ha
  have HB := hid hb
  have HAB := hid hab
  have HL := hid hl
  clear h R hab ha hb hl
  go_enter_defers Try.func35, Try.ntmps35
  go_wp2_with fail
  refine (CA.out _ HH.out).mono ?_
  rintro e w1 ⟨P1, K1, rfl, hG⟩
  have H1 := hid hG.rep
  have R1 := hid hG.rm
  have A1 := hid (show a ∈ names ++ [a] by simp)
  clear hG
  have B1 := hid (show b ∉ (names ++ [a]) from (fun hm => by rcases List.mem_append.mp hm with hm | hm; exact HB.out hm; exact HAB.out (List.mem_singleton.mp hm).symm))
  have CB := hid (getRole_new H1.out R1.out B1.out (by have := HL.out; simp; omega))
  clear CA
  go_wp2_with fail
  refine CB.out.mono ?_
  rintro e w2 ⟨P2, K2, rfl, hG2⟩
  have h2 := hG2.rep
  have R2 := hid hG2.rm
  have A2 := hid (show a ∈ (names ++ [a]) ++ [b] from List.mem_append_left _ A1.out)
  have B2 := hid (show b ∈ (names ++ [a]) ++ [b] by simp)
  have hpa : P2.ro a = P1.ro a := hG2.same a A1.out
  clear hG2
  have cells : ∀ (w' : World) (H' : Heap), Rep w0 w' H' → RMp P2 H' r ((names ++ [a]) ++ [b]) L → w'.cell? ⟨P1.ro a, 0, none⟩ = some (.string a) ∧ w'.cell? ⟨P2.ro b, 0, none⟩ = some (.string b) ∧ w'.cell? ⟨r, 1, none⟩ = some (.int .i64 10) := fun w' H' h' R' =>
    ⟨by rw [← hpa]; exact cell_of (h'.at (R'.ro_ a A2.out)) 0 rfl, cell_of (h'.at (R'.ro_ b B2.out)) 0 rfl, cell_of (h'.at R'.r_) 1 rfl⟩
  obtain ⟨a0, b0, r1⟩ := cells _ _ h2 R2.out
  obtain ⟨W, hrun, hW, hcall⟩ := one (b := b) h2 R2.out A2.out hL
  rw [hpa] at hrun
  have CH := hid hcall
  obtain ⟨s0, s1, s2⟩ := cells _ _ (h2.alloc (.map #[] 0)) R2.out
  obtain ⟨t0, t1, t2⟩ := cells _ _ hW R2.out
  have CE := hid cells
  have hmm := @run_makeMap Try.prog
  clear h2 hcall hW CB cells
  go_wp2_with fail
  go_region_held3 (fun w' => w'.cell? ⟨P1.ro a, 0, none⟩ = some (.string a) ∧ w'.cell? ⟨P2.ro b, 0, none⟩ = some (.string b) ∧ w'.cell? ⟨r, 1, none⟩ = some (.int .i64 10))
    (first | exact ⟨a0, b0, r1⟩ | exact ⟨s0, s1, s2⟩ | exact ⟨t0, t1, t2⟩ | exact ⟨u0, u1, u2⟩)
    (first
    | (go_at_call 54; (with_reducible refine CH.out.mono ?_); rintro e w3 ⟨v, H3, rfl, hF⟩
       obtain ⟨u0, u1, u2⟩ := CE.out _ _ hF.rep (R2.out.ext hF.ext)
       have FF := hid hF
       clear hF))
  go_wp2_with fail
  refine leaves_cons (f := 50) (args := #[pt r, .string b]) (by simp) (by simp [go_sem]) ?_
  refine (remove1 .returning FF.out.rep (R2.out.ext FF.out.ext) B1.out (by have := HL.out; simp; omega)).mono ?_
  rintro e u' w4 ⟨rfl, rfl, h4⟩
  refine leaves_cons (f := 50) (args := #[pt r, .string a]) (by simp [settle]) (by simp [go_sem]) ?_
  refine (remove2 .returning h4 (R2.out.ext FF.out.ext) HA.out (by have := HL.out; omega)).mono ?_
  rintro e u' w5 ⟨rfl, rfl, H5, h5⟩
  exact ⟨_, results_tmp2 rfl _ _ _, v, H5, rfl, FF.out.ans, h5⟩

set_option maxHeartbeats 1000000 in
set_option maxRecDepth 100000 in
/-- HasLink of a name and itself. -/
theorem hasLink_same {w0 w : World} {H : Heap} {r : Nat} {L : List (ByteArray × ByteArray)} {a : ByteArray} (dv : Value) (h : Rep w0 w H) :
    Calls Try.prog 35 #[pt r, .string a, .string a, dv] w fun e w' => ∃ v H', e = .returned (.tuple #[.bool v, .nilIface]) ∧ (v = true ↔ Near L a a) ∧ Rep w0 w' H' := by
  have HE := hid (show ∃ v H', Ending.returned (.tuple #[.bool true, .nilIface]) = .returned (.tuple #[.bool v, .nilIface]) ∧ (v = true ↔ Near L a a) ∧ Rep w0 w H' from ⟨true, H, rfl, by simp only [true_iff]; exact ⟨0, by omega, rfl⟩, h⟩)
  clear h
  go_enter_defers Try.func35, Try.ntmps35
  go_wp2_with fail
  obtain ⟨v, H', e1, e2, e3⟩ := HE.out
  cases e1
  exact ⟨_, results_tmp2 rfl _ _ _, true, H', rfl, e2, e3⟩

/-- HasLink. -/
theorem hasLink {w0 w : World} {P : Ptr} {H : Heap} {r : Nat} {names : List ByteArray} {L : List (ByteArray × ByteArray)} {a b : ByteArray} (dv : Value) (h : Rep w0 w H) (R : RMp P H r names L) (hl : names.length < 10000) (hL : L.length < 100000) :
    Calls Try.prog 35 #[pt r, .string a, .string b, dv] w fun e w' => ∃ v H', e = .returned (.tuple #[.bool v, .nilIface]) ∧ (v = true ↔ Near L a b) ∧ Rep w0 w' H' := by
  by_cases hab : a = b
  · subst hab; exact hasLink_same dv h
  · by_cases ha : a ∈ names
    · by_cases hb : b ∈ names
      · exact hasLink_oo dv h R hab ha hb hl hL
      · exact hasLink_on dv h R hab ha hb hl hL
    · by_cases hb : b ∈ names
      · exact hasLink_no dv h R hab ha hb hl hL
      · exact hasLink_nn dv h R hab ha hb hl hL

end Go.Proofs.Ytpdejkalcminbaa.Hk
