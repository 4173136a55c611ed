/- getUsers, removeRole, GetUsers of a manager of roles. -/
import Derived.Test.YtpdejkalcminbaaUs
namespace Go.Proofs.Ytpdejkalcminbaa.Gu
open Go.RowKit Go.Proofs.Ytpdejkalcminbaa.Hm Go.Proofs.Ytpdejkalcminbaa.Hp Go.Proofs.Ytpdejkalcminbaa.Zm Go.Proofs.Ytpdejkalcminbaa.Mk Go.Proofs.Ytpdejkalcminbaa.Rg Go.Proofs.Ytpdejkalcminbaa.Ro Go.Proofs.Ytpdejkalcminbaa.Rm Go.Proofs.Ytpdejkalcminbaa.Gr Go.Proofs.Ytpdejkalcminbaa.Us

/-- The names so far. -/
def Names (l : List (ByteArray × Nat)) (i : Nat) (o : Ob) : Prop := ∃ v, o = .strs v ((l.take i).map (·.1))

theorem names_body {w0 : World} {l : List (ByteArray × Nat)} {nv : Nat} (hl : l.length < 1000000) : Body w0 l 78 72 nv #[pt nv] (Names l) (fun _ => none) := by
  intro i x hx w H o h _ hv ho
  obtain ⟨v, rfl⟩ := ho
  have hlen : ((l.take i).map (·.1)).length < 1000000 := by simp; omega
  refine (Nm.add (s := x.1) h hv hlen).mono ?_
  rintro e w' ⟨rfl, v', h'⟩
  refine ⟨rfl, _, ⟨v', ?_⟩, h'⟩
  rw [List.take_add_one, hx]
  simp

theorem up_nodup {L : List (ByteArray × ByteArray)} (h : L.Nodup) (n : ByteArray) : (up L n).Nodup := by
  unfold up
  induction L with
  | nil => simp
  | cons x L ih =>
    obtain ⟨h1, h2⟩ := List.nodup_cons.mp h
    by_cases e : (x.1 == n) = true
    · simp only [List.filter_cons, e, if_true, List.map_cons]
      refine List.nodup_cons.mpr ⟨fun hm => ?_, ih h2⟩
      have hm2 := mem_up.mp hm
      have : x = (n, x.2) := by rw [← beq_iff_eq.mp e]
      exact h1 (this ▸ hm2)
    · simp only [List.filter_cons, e]
      exact ih h2
theorem down_nodup {L : List (ByteArray × ByteArray)} (h : L.Nodup) (n : ByteArray) : (down L n).Nodup := by
  unfold down
  induction L with
  | nil => simp
  | cons x L ih =>
    obtain ⟨h1, h2⟩ := List.nodup_cons.mp h
    by_cases e : (x.2 == n) = true
    · simp only [List.filter_cons, e, if_true, List.map_cons]
      refine List.nodup_cons.mpr ⟨fun hm => ?_, ih h2⟩
      have hm2 := mem_down.mp hm
      have : x = (x.1, n) := by rw [← beq_iff_eq.mp e]
      exact h1 (this ▸ hm2)
    · simp only [List.filter_cons, e]
      exact ih h2

set_option maxHeartbeats 1000000 in
set_option maxRecDepth 100000 in
/-- getUsers. -/
theorem getUsers {w0 w : World} {P : Ptr} {H : Heap} {r : Nat} {names : List ByteArray} {L : List (ByteArray × ByteArray)} {n : ByteArray} (h : Rep w0 w H) (R : RMp P H r names L) (hn : n ∈ names) (hL : L.length < 100000) :
    Calls Try.prog 51 #[pt (P.ro n)] w fun e w' => ∃ nv v H', e = .returned v ∧ Rep w0 w' H' ∧ Ext H H' ∧ H' nv = some (.strs v (down L n)) := by
  have hN := h.fresh (Nat.le_refl w.heap.size)
  have h1 := h.strsNew (n := w.heap.size) rfl
  have x1 : Ext H (upd H w.heap.size (.strs (.slice none 0 0) [])) := (Ext.refl H).upd hN _
  have ne : ∀ {q o}, H q = some o → q ≠ w.heap.size := fun hq e => by rw [e, hN] at hq; cases hq
  have hlen : ((down L n).map fun m => (m, P.ro m)).length < 1000000 := by have := down_le L n; simp; omega
  have hnd : (((down L n).map fun m => (m, P.ro m)).map (·.1)).Nodup := by simpa [Function.comp_def] using down_nodup R.ndL n
  have CU := hid (rangeUsers (B := fun _ => none) (C := #[pt w.heap.size]) (S := Names ((down L n).map fun m => (m, P.ro m))) (o := .strs (.slice none 0 0) []) enters72 h1 (x1 _ _ (R.ro_ n hn)) (x1 _ _ (R.b_ n hn)) (x1 _ _ (R.d_ n hn)) hnd hlen
    (fun z hz => by
      obtain ⟨m, hm, rfl⟩ := List.mem_map.mp hz
      have hmn := (R.lk _ (mem_down.mp hm)).1
      exact ⟨m, _, _, _, _, _, _, _, x1 _ _ (R.ro_ m hmn), x1 _ _ (R.c_ m hmn), ne (R.ro_ m hmn), ne (R.c_ m hmn)⟩)
    (fun _ _ e => by cases e) rfl (ne (R.ro_ n hn)) (ne (R.b_ n hn)) (ne (R.d_ n hn)) (upd_at _ _ _) ⟨.slice none 0 0, by simp⟩ (names_body hlen))
  have X1 := hid x1
  have HN := hid hN
  have hmf : ∀ (fn : Fn) (first cap : Array Value) (w : World), (Instr.makeFunc fn first cap).run Try.prog w = .ok (.func fn first cap) w := fun _ _ _ _ => rfl
  clear h h1 x1 ne hN hlen hnd R hn
  go_enter Try.func51, Try.ntmps51
  go_wp2_with fail
  refine CU.out.mono ?_
  rintro e w1 ⟨rfl, o', ho', hR⟩
  obtain ⟨v, rfl⟩ := ho'
  have HR := hid hR
  have c0 : w1.cell? ⟨w.heap.size, 0, none⟩ = some v := by
    obtain ⟨own, hO⟩ := hR
    have hs : StrsAt w1 own w.heap.size v _ := (hO.rep w.heap.size _ (upd_at _ _ _)).2
    exact cell_of hs.blk 0 rfl
  have hv : v = .slice none 0 0 ∨ ∃ g m c, v = .slice (some ⟨g, 0, none⟩) m c := by
    obtain ⟨own, hO⟩ := hR
    have hs : StrsAt w1 own w.heap.size v _ := (hO.rep w.heap.size _ (upd_at _ _ _)).2
    rcases hs.row.2 with ⟨e, _⟩ | ⟨g, c, _, e, _⟩
    · exact .inl e
    · exact .inr ⟨g, _, c, e⟩
  have fin : ∃ H', Rep w0 w1 H' ∧ Ext H H' ∧ H' w.heap.size = some (.strs v (down L n)) := by
    refine ⟨_, hR, fun q o hq => ?_, ?_⟩
    · have hqn : q ≠ w.heap.size := fun e => by rw [e, HN.out] at hq; cases hq
      rw [upd_ne hqn]; exact X1.out _ _ hq
    · rw [upd_at, List.take_of_length_le (Nat.le_refl _), List.map_map]
      simp [Function.comp_def]
  have FIN := hid fin
  clear fin hR CU
  rcases hv with rfl | ⟨g, m, c, rfl⟩
  · go_wp2
    go_ret
    obtain ⟨H', f1, f2, f3⟩ := FIN.out
    exact ⟨_, _, H', rfl, f1, f2, f3⟩
  · go_wp2
    go_ret
    obtain ⟨H', f1, f2, f3⟩ := FIN.out
    exact ⟨_, _, H', rfl, f1, f2, f3⟩

set_option maxHeartbeats 1000000 in
set_option maxRecDepth 100000 in
/-- removeMatches of a role that matches nothing. -/
theorem removeMatches {w0 w : World} {H : Heap} {p a b c d : Nat} {n : ByteArray} {x y : Value} {t t' : Nat × ByteArray × Nat} (h : Rep w0 w H) (hp : H p = some (roO n a b c d x y)) (hc : H c = some (.zm t 78 [])) (hd : H d = some (.zm t' 78 [])) :
    Calls Try.prog 70 #[pt p] w fun e w' => e = .returned (.tuple #[]) ∧ Rep w0 w' H := by
  have h1 := h.alloc (.cells #[pt p] 78)
  have c3 : (w.alloc (.cells #[pt p] 78)).cell? ⟨p, 3, none⟩ = some (pt c) := cell_of (h1.at hp) 3 rfl
  have c4 : (w.alloc (.cells #[pt p] 78)).cell? ⟨p, 4, none⟩ = some (pt d) := cell_of (h1.at hp) 4 rfl
  have C1 := hid (fun f => range_none f h1 hc)
  have C2 := hid (fun f => range_none f h1 hd)
  have HE := hid h1
  have hmf : ∀ (fn : Fn) (first cap : Array Value) (w : World), (Instr.makeFunc fn first cap).run Try.prog w = .ok (.func fn first cap) w := fun _ _ _ _ => rfl
  clear h h1 hp hc hd
  go_enter Try.func70, Try.ntmps70
  go_wp2_with fail
  refine (C1.out _).mono ?_
  rintro e w1 ⟨rfl, rfl⟩
  go_wp2_with fail
  refine (C2.out _).mono ?_
  rintro e w1 ⟨rfl, rfl⟩
  go_wp2
  go_end0
  exact ⟨rfl, HE.out⟩

set_option maxHeartbeats 1000000 in
set_option maxRecDepth 100000 in
theorem loadAndDelete {w0 w : World} {H : Heap} {z p : Nat} {tag : Nat × ByteArray × Nat} {T : TypeId} {l : List (ByteArray × Nat)} {k : ByteArray} (h : Rep w0 w H) (hz : H z = some (.zm tag T (l ++ [(k, p)]))) (hk : ∀ x ∈ l, x.1 ≠ k) (hl : l.length < 1000000) :
    Calls Try.prog 69 #[pt z, .string k] w fun e w' => e = .returned (.tuple #[.iface T (pt p), .bool true]) ∧ Rep w0 w' (upd H z (.zm tag T l)) := by
  have CL := hid (load_some (l1 := l) (l2 := []) h hz hk)
  have CD := hid (Dl.delete h hz hk hl)
  clear h hz hk hl
  go_enter Try.func69, Try.ntmps69
  go_wp2_with (first | (go_at_call 59; (with_reducible refine CL.out.mono ?_); rintro e w1 ⟨rfl, rfl⟩) | (go_at_call 83; (with_reducible refine CD.out.mono ?_); rintro e w1 ⟨rfl, hR⟩; have HR := hid hR; clear hR))
  go_ret2
  exact ⟨rfl, HR.out⟩

set_option maxHeartbeats 1000000 in
set_option maxRecDepth 100000 in
/-- removeRole of the role that was made last, as a deferred call. -/
theorem removeRole {w0 w : World} {H : Heap} {r all p a b c d : Nat} {n : ByteArray} {lg ca x y : Value} {tag t t' : Nat × ByteArray × Nat} {l : List (ByteArray × Nat)} (u : FrameMode) (h : Rep w0 w H) (hr : H r = some (rmO all lg ca)) (hz : H all = some (.zm tag 78 (l ++ [(n, p)]))) (hk : ∀ x ∈ l, x.1 ≠ n) (hl : l.length < 1000000)
    (hp : H p = some (roO n a b c d x y)) (hc : H c = some (.zm t 78 [])) (hd : H d = some (.zm t' 78 [])) :
    CallsD Try.prog 50 #[pt r, .string n] u w fun e u' w' => u' = u ∧ (e = .returned (.tuple #[]) ∧ Rep w0 w' (upd H all (.zm tag 78 l))) := by
  have c0 : w.cell? ⟨r, 0, none⟩ = some (pt all) := cell_of (h.at hr) 0 rfl
  have CL := hid (loadAndDelete h hz hk hl)
  have n1 : p ≠ all := fun e => by rw [e, hz] at hp; cases hp
  have n2 : c ≠ all := fun e => by rw [e, hz] at hc; simp at hc
  have n3 : d ≠ all := fun e => by rw [e, hz] at hd; simp at hd
  have CM := hid (fun w1 (h1 : Rep w0 w1 (upd H all (.zm tag 78 l))) => removeMatches (x := x) (y := y) h1 (by rw [upd_ne n1]; exact hp) (by rw [upd_ne n2]; exact hc) (by rw [upd_ne n3]; exact hd))
  have hta : ∀ (v : Value) (W : World), (Instr.typeAssert (.iface 78 v) 20 78 false).run Try.prog W = .ok v W := fun v W => by rfl
  clear h hr hz hk hl hp hc hd n1 n2 n3
  go_enter_d Try.func50, Try.ntmps50
  go_wp2_with (first | (go_at_call 69; (with_reducible refine CL.out.mono ?_); rintro e w1 ⟨rfl, hR⟩; have HR := hid hR; clear hR) | (go_at_call 70; (with_reducible refine (CM.out _ (by exact HR.out)).mono ?_); rintro e w2 ⟨rfl, hR⟩; have HR2 := hid hR; clear hR))
  go_end0
  exact ⟨rfl, HR2.out⟩

set_option maxHeartbeats 1000000 in
set_option maxRecDepth 100000 in
/-- GetUsers of a name that is there. -/
theorem rmGetUsers_old {w0 w : World} {P : Ptr} {H : Heap} {r : Nat} {names : List ByteArray} {L : List (ByteArray × ByteArray)} {n : ByteArray} (dv : Value) (h : Rep w0 w H) (R : RMp P H r names L) (hn : n ∈ names) (hL : L.length < 100000) :
    Calls Try.prog 31 #[pt r, .string n, dv] w fun e w' => ∃ nv v H', e = .returned (.tuple #[v, .nilIface]) ∧ Rep w0 w' H' ∧ H' nv = some (.strs v (down L n)) := by
  have CG := hid (getRole_old h R hn)
  have CU := hid (fun w1 (h1 : Rep w0 w1 H) => getUsers h1 R hn hL)
  clear h R hn hL
  go_enter_defers Try.func31, Try.ntmps31
  go_wp2_with (first | (go_at_call 49; (with_reducible refine CG.out.mono ?_); rintro e w1 ⟨rfl, hR⟩; have HR := hid hR; clear hR) | (go_at_call 51; (with_reducible refine (CU.out _ (by exact HR.out)).mono ?_); rintro e w2 ⟨nv, v, H', rfl, hR⟩; have HR2 := hid hR; clear hR))
  exact ⟨_, results_tmp2 rfl _ _ _, nv, v, H', rfl, HR2.out.1, HR2.out.2.2⟩

set_option maxHeartbeats 1000000 in
set_option maxRecDepth 100000 in
/-- GetUsers of a new name: nobody; the name goes again. -/
theorem rmGetUsers_new {w0 w : World} {P : Ptr} {H : Heap} {r : Nat} {names : List ByteArray} {L : List (ByteArray × ByteArray)} {n : ByteArray} (dv : Value) (h : Rep w0 w H) (R : RMp P H r names L) (hn : n ∉ names) (hl : names.length < 100000) (hL : L.length < 100000) :
    Calls Try.prog 31 #[pt r, .string n, dv] w fun e w' => ∃ nv v H', e = .returned (.tuple #[v, .nilIface]) ∧ Rep w0 w' H' ∧ H' nv = some (.strs v (down L n)) := by
  have CG := hid (getRole_new h R hn (by omega))
  have HN := hid hn
  have HRM := hid R
  clear h R hn
  go_enter_defers Try.func31, Try.ntmps31
  go_wp2_with fail
  refine CG.out.mono ?_
  rintro e w1 ⟨P1, H1, rfl, hG⟩
  have G := hid hG
  clear hG CG
  have hmem : n ∈ names ++ [n] := by simp
  have c0 : w1.cell? ⟨P1.ro n, 0, none⟩ = some (.string n) := cell_of (G.out.rep.at (G.out.rm.ro_ n hmem)) 0 rfl
  have CU := hid (getUsers G.out.rep G.out.rm hmem hL)
  have HM := hid hmem
  clear hmem
  go_wp2_with fail
  refine CU.out.mono ?_
  rintro e w2 ⟨nv, v, H2, rfl, hR⟩
  have HR := hid hR
  clear hR CU c0
  go_wp2_with fail
  obtain ⟨h2, x2, v2⟩ := HR.out
  have R1 := G.out.rm
  have hall := R1.all_
  rw [List.map_append] at hall
  have hk : ∀ x ∈ (names.map fun m => (m, P1.ro m)), x.1 ≠ n := fun x hx e => by
    obtain ⟨m, hm, rfl⟩ := List.mem_map.mp hx
    exact HN.out (e ▸ hm)
  have CR := removeRole .returning h2 (x2 _ _ R1.r_) (x2 _ _ hall) hk (by simp; omega) (x2 _ _ (R1.ro_ n HM.out)) (x2 _ _ (R1.c_ n HM.out)) (x2 _ _ (R1.d_ n HM.out))
  refine leaves_cons (f := 50) (args := #[pt r, .string n]) (by simp) (by simp [go_sem]) ?_
  refine CR.mono ?_
  rintro e u' w3 ⟨rfl, rfl, h3⟩
  refine ⟨_, results_tmp2 rfl _ _ _, nv, v, _, rfl, h3, ?_⟩
  rw [upd_ne (fun e => by rw [e, x2 _ _ R1.all_] at v2; cases v2)]
  exact v2

theorem rmGetUsers {w0 w : World} {P : Ptr} {H : Heap} {r : Nat} {names : List ByteArray} {L : List (ByteArray × ByteArray)} {n : ByteArray} (dv : Value) (h : Rep w0 w H) (R : RMp P H r names L) (hl : names.length < 100000) (hL : L.length < 100000) :
    Calls Try.prog 31 #[pt r, .string n, dv] w fun e w' => ∃ nv v H', e = .returned (.tuple #[v, .nilIface]) ∧ Rep w0 w' H' ∧ H' nv = some (.strs v (down L n)) := by
  by_cases hn : n ∈ names
  · exact rmGetUsers_old dv h R hn hL
  · exact rmGetUsers_new dv h R hn hl hL

end Go.Proofs.Ytpdejkalcminbaa.Gu
