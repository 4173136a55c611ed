/- getRoles, GetRoles of a manager of roles. Printed by mk_gw.py from the texts on users. -/
import Derived.Test.YtpdejkalcminbaaRd
namespace Go.Proofs.Ytpdejkalcminbaa.Gw
open Go.RowKit Go.Proofs.Ytpdejkalcminbaa.Hm Go.Proofs.Ytpdejkalcminbaa.Hp Go.Proofs.Ytpdejkalcminbaa.Zm Go.Proofs.Ytpdejkalcminbaa.Mk Go.Proofs.Ytpdejkalcminbaa.Rg Go.Proofs.Ytpdejkalcminbaa.Ro Go.Proofs.Ytpdejkalcminbaa.Rm Go.Proofs.Ytpdejkalcminbaa.Gr Go.Proofs.Ytpdejkalcminbaa.Us Go.Proofs.Ytpdejkalcminbaa.Gu Go.Proofs.Ytpdejkalcminbaa.Nm

set_option maxHeartbeats 1000000 in
set_option maxRecDepth 100000 in
theorem add_raw {w : World} {nv n : Nat} {v y : Value} {s : ByteArray} {xs : List Value} (hc : w.heap[nv]? = some (.cells #[v] 24 (0, 0))) (hrow : w.ownsRow 0 9 1 v n xs) (hv : v.ownBlock ≠ some nv) (hn : n < 1000000) :
    Calls Try.prog 74 #[.iface 9 (.string s), y, pt nv] w fun e w' => e = .returned (.bool true) ∧ ∃ w1 v', NameEnd w nv n v s xs w' w1 v' := by
  obtain ⟨i0, hi, hz0, hz1, hz2⟩ := info_parts info9
  have c0 : w.cell? ⟨nv, 0, none⟩ = some v := cell_of hc 0 rfl
  have hlt := lt_of_block hc
  have hta : ∀ (v : Value) (W : World), (Instr.typeAssert (.iface 9 v) 20 9 false).run Try.prog W = .ok v W := fun v W => by rfl
  have HC := hid hc
  clear hc
  go_enter Try.func74, Try.ntmps74
  go_wp2_with fail
  go_region_law
    ((refine step_append_lies _ (by rfl) _ _ _ (by rfl) 0 9 i0 _ 1 16 Try.underlying24 hi hz0 hz1 hz2 rfl (by omega) v n xs (by rfl) ((hrow.alloc _).drew)
        ⟨w.heap.size, 0, none⟩ 1 1 [.string s] (by rfl) (by rfl) (World.news_of_block (cs := #[.string s]) (t := 9) (fr := (0, 0)) (heap_alloc_new w _)) (by simp [Value.oneCell'])
        (by omega) (by unfold maxLen; omega) (by omega) (by simp) (w.heap.size + 1) (by simp) ?_; intro g cap w1 hown1 hgrow hat hlt1
      have hb1 : w1.heap[nv]? = some (.cells #[v] 24 (0, 0)) := by rw [hgrow.block nv (by simp; omega) (fun e => hv e.symm)]; exact (Below.heap_alloc _ _ _ hlt).trans HC.out
      have d1 : w1.cell? ⟨nv, 0, none⟩ = some v := cell_of hb1 0 rfl
      have f1 : w1.frozen? ⟨nv, 0, none⟩ = false := free_of hb1 0
      have E := hid (show NameEnd w nv n v s xs _ w1 (.slice (some ⟨g, 0, none⟩) (n + 1) cap) from ⟨hown1, ⟨hgrow.os, hgrow.tape, hgrow.output, hgrow.size, hgrow.block⟩, ⟨g, rfl, hat⟩, rfl⟩)
      clear hown1 hgrow hat hb1))
  all_goals
    go_wp2
    go_ret
    exact ⟨rfl, _, _, E.out⟩

/-- The name is put behind the others. -/
theorem add {w0 w : World} {H : Heap} {nv : Nat} {v y : Value} {s : ByteArray} {l : List ByteArray} (h : Rep w0 w H) (hv : H nv = some (.strs v l)) (hl : l.length < 1000000) :
    Calls Try.prog 74 #[.iface 9 (.string s), y, pt nv] w fun e w' => e = .returned (.bool true) ∧ ∃ v', Rep w0 w' (upd H nv (.strs v' (l ++ [s]))) := by
  obtain ⟨own, h⟩ := h
  obtain ⟨hon, hst⟩ := h.rep nv _ hv
  have hz : StrsAt w own nv v l := hst
  have hd := h.dom nv nv hon
  have hs0 := h.bel.size
  have hvn : v.ownBlock ≠ some nv := fun e => by
    rcases hz.row.2 with ⟨e2, _⟩ | ⟨g, cap, cur, e2, _, hh, _⟩
    · rw [e2] at e; cases e
    · rw [e2] at e; cases e; rw [hz.blk] at hh; cases hh
  refine (add_raw (y := y) (s := s) hz.blk hz.row hvn hl).mono ?_
  rintro e w' ⟨rfl, w1, v', E⟩
  refine ⟨rfl, v', ?_⟩
  have hw' := E.end_
  obtain ⟨g, hg, hgat⟩ := E.at_
  have hv0 : ∀ k, v.ownBlock = some k → w0.heap.size ≤ k ∧ k < w.heap.size := fun k hk => h.dom k nv (hz.ownv k hk)
  have bl : Below w0.heap.size w w1 := ((Below.refl _ _).alloc hs0 _).grown E.grown (by rw [size_alloc]; omega) (fun j hj => (hv0 j hj).1)
  have hblk : ∀ x, x < w.heap.size → v.ownBlock ≠ some x → w1.heap[x]? = w.heap[x]? := fun x hx hn => by
    rw [E.grown.block x (by rw [size_alloc]; omega) (fun e => hn e.symm), Below.heap_alloc _ _ _ hx]
  have b1 : w1.heap[nv]? = some (.cells #[v] 24 (0, 0)) := (hblk nv hd.2 hvn).trans hz.blk
  have blw : Below w0.heap.size w w' := by rw [hw']; exact bl.setCell hd.1 _
  have hsz : w'.heap.size = w1.heap.size := by rw [hw', size_setCell]
  obtain ⟨cur, hgc⟩ : ∃ cur, w1.heap[g]? = some (.cells cur 9 (0, 0)) := by
    rcases E.row.2 with ⟨e, _⟩ | ⟨g2, cap, cur, e, _, hh, _⟩
    · rw [e] at hg; cases hg
    · rw [e] at hg; cases hg; exact ⟨cur, hh⟩
  have hgl : g < w1.heap.size := lt_of_block hgc
  have hgn : g ≠ nv := fun e => by subst e; rw [b1] at hgc; cases hgc
  have hgo : own g = some nv ∨ w.heap.size ≤ g := by
    rcases hgat with e | e
    · exact .inl (hz.ownv g e)
    · right; omega
  have hg0 : w0.heap.size ≤ g := by rcases hgo with e | e; exact (h.dom _ _ e).1; omega
  have hsw := bl.size
  refine ⟨fun x => if x = g then some nv else own x, h.change blw (fun x y hx hy => ?_) (fun x y hx hy => ?_) (fun x y hx => ?_) ?_ ⟨?_, ?_, ?_, ?_⟩⟩
  · have hxn : x ≠ nv := fun e => by subst e; rw [hon] at hx; cases hx; exact hy rfl
    have hxv : v.ownBlock ≠ some x := fun e => by
      have := hz.ownv x e
      rw [this] at hx; cases hx; exact hy rfl
    rw [hw', Below.heap_setCell _ _ _ _ (by exact hxn), hblk x (h.dom x y hx).2 hxv]
  · show (if x = g then some nv else own x) = some y
    rw [if_neg]
    · exact hx
    · intro e
      subst e
      rcases hgo with e | e
      · rw [e] at hx; cases hx; exact hy rfl
      · have := (h.dom x y hx).2; omega
  · rw [hsz]
    by_cases e : x = g
    · subst e; exact ⟨hg0, hgl⟩
    · simp only [if_neg e] at hx
      have := h.dom x y hx
      omega
  · show (if nv = g then some nv else own nv) = some nv
    split
    · rfl
    · exact hon
  · rw [hw']; exact heap_setCell_at b1
  · have hr : w1.ownsRow 0 9 1 v' (l ++ [s]).length ((l ++ [s]).map Value.string) := by simpa using E.row
    refine ownsRow_same hr (fun x hx => ?_)
    rw [hg] at hx; cases hx
    rw [hw', Below.heap_setCell _ _ _ _ (by exact hgn)]
  · intro e; simp at e
  · intro x hx
    rw [hg] at hx; cases hx
    simp

theorem names_body {w0 : World} {l : List (ByteArray × Nat)} {nv : Nat} (hl : l.length < 1000000) : Body w0 l 78 74 nv #[pt nv] (Names l) (fun _ => none) := by
  intro i x hx w H o h _ hv ho
  obtain ⟨v, rfl⟩ := ho
  have hlen : ((l.take i).map (·.1)).length < 1000000 := by simp; omega
  refine (add (s := x.1) h hv hlen).mono ?_
  rintro e w' ⟨rfl, v', h'⟩
  refine ⟨rfl, _, ⟨v', ?_⟩, h'⟩
  rw [List.take_add_one, hx]
  simp

/-- Texts in a block of their own. -/
def Held (H : Heap) (v : Value) (l : List ByteArray) : Prop := ∃ g, v = .slice (some ⟨g, 0, none⟩) l.length l.length ∧ H g = some (.raw (.cells (l.map Value.string).toArray 9 (0, 0)))

theorem rep_fresh_raw {w0 w w3 : World} {H : Heap} {g : Nat} {o : Obj} (h : Rep w0 w H) (hb : Below w.heap.size w w3) (hg : w.heap.size ≤ g) (ho : w3.heap[g]? = some o) : Rep w0 w3 (upd H g (.raw o)) := by
  obtain ⟨own, h⟩ := h
  have hs := h.bel.size
  have hlt := lt_of_block ho
  refine ⟨fun x => if x = g then some g else own x, h.change (hb.mono hs) (fun x y hx _ => hb.block x (h.dom x y hx).2) (fun x y hx _ => ?_) (fun x y hx => ?_) (by simp) ho⟩
  · have := (h.dom x y hx).2
    show (if x = g then some g else own x) = some y
    rw [if_neg (by omega)]; exact hx
  · by_cases e : x = g
    · subst e; exact ⟨by omega, hlt⟩
    · simp only [if_neg e] at hx
      have := h.dom x y hx
      have := hb.size
      omega

theorem rep_held {w0 w w3 : World} {H : Heap} {l : List ByteArray} {mb : Nat} (h : Rep w0 w H) (M : Rd.Mid w l mb l.length w3) :
    ∃ H', Rep w0 w3 H' ∧ Ext H H' ∧ Held H' (.slice (some ⟨w.heap.size, 0, none⟩) l.length l.length) l := by
  rcases M.row.2 with ⟨e, _⟩ | ⟨g, cap, cur, e, _, hh, _, _, hsz, hcur⟩
  · cases e
  · simp only [Value.slice.injEq, Option.some.injEq, Addr.mk.injEq, and_true, true_and] at e
    obtain ⟨rfl, rfl⟩ := e
    rw [List.take_of_length_le (Nat.le_refl _), List.take_of_length_le (by simp [hsz])] at hcur
    have hc : cur = (l.map Value.string).toArray := by rw [← hcur]
    subst hc
    exact ⟨_, rep_fresh_raw h M.bel (Nat.le_refl _) hh, (Ext.refl H).upd (h.fresh (Nat.le_refl _)) _, w.heap.size, rfl, upd_at _ _ _⟩

theorem Held.ne {H : Heap} {v : Value} {l : List ByteArray} {b : Nat} {o : Ob} (h : Held H v l) (hb : ∀ ob, H b ≠ some (.raw ob)) : Held (upd H b o) v l := by
  obtain ⟨g, rfl, hg⟩ := h
  refine ⟨g, rfl, ?_⟩
  rw [upd_ne (fun e => hb _ (by rw [← e]; exact hg))]
  exact hg

set_option maxHeartbeats 1000000 in
set_option maxRecDepth 100000 in
/-- getRoles. -/
theorem getRoles {w0 w : World} {P : Ptr} {H : Heap} {r : Nat} {names : List ByteArray} {L : List (ByteArray × ByteArray)} {n : ByteArray} (h : Rep w0 w H) (R : RMp P H r names L) (hn : n ∈ names) (hL : L.length < 100000) :
    Calls Try.prog 52 #[pt (P.ro n)] w fun e w' => ∃ v H', e = .returned v ∧ Rep w0 w' H' ∧ Ext H H' ∧ Held H' v (up L n) := by
  have hN := h.fresh (Nat.le_refl w.heap.size)
  have h1 := h.strsNew (n := w.heap.size) rfl
  have x1 : Ext H (upd H w.heap.size (.strs (.slice none 0 0) [])) := (Ext.refl H).upd hN _
  have ne : ∀ {q o}, H q = some o → q ≠ w.heap.size := fun hq e => by rw [e, hN] at hq; cases hq
  have hlen : ((up L n).map fun m => (m, P.ro m)).length < 1000000 := by have := up_le L n; simp; omega
  have hnd : (((up L n).map fun m => (m, P.ro m)).map (·.1)).Nodup := by simpa [Function.comp_def] using up_nodup R.ndL n
  have CU := hid (rangeRoles (B := fun _ => none) (C := #[pt w.heap.size]) (S := Names ((up L n).map fun m => (m, P.ro m))) (o := .strs (.slice none 0 0) []) enters74 h1 (x1 _ _ (R.ro_ n hn)) (x1 _ _ (R.a_ n hn)) (x1 _ _ (R.d_ n hn)) hnd hlen
    (fun z hz => by
      obtain ⟨m, hm, rfl⟩ := List.mem_map.mp hz
      have hmn := (R.lk _ (mem_up.mp hm)).2
      exact ⟨m, _, _, _, _, _, _, _, x1 _ _ (R.ro_ m hmn), x1 _ _ (R.c_ m hmn), ne (R.ro_ m hmn), ne (R.c_ m hmn)⟩)
    (fun _ _ e => by cases e) rfl (ne (R.ro_ n hn)) (ne (R.a_ n hn)) (ne (R.d_ n hn)) (upd_at _ _ _) ⟨.slice none 0 0, by simp⟩ (names_body hlen))
  have X1 := hid x1
  have HN := hid hN
  have HND := hid (up_nodup R.ndL n)
  have HLE := hid (Nat.le_trans (up_le L n) (Nat.le_of_lt hL))
  have hmf : ∀ (fn : Fn) (first cap : Array Value) (w : World), (Instr.makeFunc fn first cap).run Try.prog w = .ok (.func fn first cap) w := fun _ _ _ _ => rfl
  clear h h1 x1 ne hN hlen hnd R hn
  go_enter Try.func52, Try.ntmps52
  go_wp2_with fail
  refine CU.out.mono ?_
  rintro e w1 ⟨rfl, o', ho', hR⟩
  obtain ⟨v, rfl⟩ := ho'
  have HR := hid hR
  have c0 : w1.cell? ⟨w.heap.size, 0, none⟩ = some v := by
    obtain ⟨own, hO⟩ := hR
    have hs : StrsAt w1 own w.heap.size v _ := (hO.rep w.heap.size _ (upd_at _ _ _)).2
    exact cell_of hs.blk 0 rfl
  have hv : v = .slice none 0 0 ∨ ∃ g m c, v = .slice (some ⟨g, 0, none⟩) m c := by
    obtain ⟨own, hO⟩ := hR
    have hs : StrsAt w1 own w.heap.size v _ := (hO.rep w.heap.size _ (upd_at _ _ _)).2
    rcases hs.row.2 with ⟨e, _⟩ | ⟨g, c, _, e, _⟩
    · exact .inl e
    · exact .inr ⟨g, _, c, e⟩
  have hc9 : ∀ (i : Nat) (s : ByteArray), (up L n)[i]? = some s → ∃ g m c, v = .slice (some ⟨g, 0, none⟩) m c ∧ w1.cell? ⟨g, i, none⟩ = some (.string s) := by
    obtain ⟨own, hO⟩ := hR
    have hs : StrsAt w1 own w.heap.size v _ := (hO.rep w.heap.size _ (upd_at _ _ _)).2
    have e9 : (List.map (·.1) (List.take ((up L n).map fun m => (m, P.ro m)).length ((up L n).map fun m => (m, P.ro m)))) = up L n := by
      rw [List.take_of_length_le (Nat.le_refl _), List.map_map]; simp [Function.comp_def]
    rw [e9] at hs
    intro i s hi
    have hlt : i < (up L n).length := (List.getElem?_eq_some_iff.mp hi).1
    rcases hs.row.2 with ⟨_, e⟩ | ⟨g, c, cur, e, _, hh, hc, _, _, hcur⟩
    · omega
    · refine ⟨g, _, c, e, cell_of hh i ?_⟩
      have h1 : ((up L n).map Value.string)[i]? = some (.string s) := by simp [hi]
      rw [← hcur] at h1
      rw [List.getElem?_take_of_lt (by omega)] at h1
      simpa using h1
  have hv9 : ∃ A c, v = .slice A (up L n).length c := by
    obtain ⟨own, hO⟩ := hR
    have hs : StrsAt w1 own w.heap.size v _ := (hO.rep w.heap.size _ (upd_at _ _ _)).2
    have e9 : (List.map (·.1) (List.take ((up L n).map fun m => (m, P.ro m)).length ((up L n).map fun m => (m, P.ro m)))) = up L n := by
      rw [List.take_of_length_le (Nat.le_refl _), List.map_map]; simp [Function.comp_def]
    rw [e9] at hs
    rcases hs.row.2 with ⟨e, e0⟩ | ⟨g, c, _, e, _⟩
    · exact ⟨none, 0, by rw [e, e0]⟩
    · exact ⟨_, c, e⟩
  obtain ⟨A, c, rfl⟩ := hv9
  have CD := hid (Rd.rde (w := w1) (A := A) (c := c) (HND.out) (by have := HLE.out; omega) (fun i s hi => by
    obtain ⟨g, m, c', e, h⟩ := hc9 i s hi
    simp only [Value.slice.injEq] at e
    exact ⟨g, e.1, h⟩))
  have fin : ∃ H', Rep w0 w1 H' ∧ Ext H H' := ⟨_, hR, fun q o hq => by
    have hqn : q ≠ w.heap.size := fun e => by rw [e, HN.out] at hq; cases hq
    rw [upd_ne hqn]; exact X1.out _ _ hq⟩
  have FIN := hid fin
  clear fin hR CU hv hc9 HR
  go_wp2_with (go_at_call 75; (with_reducible refine CD.out.mono ?_); rintro e w3 ⟨rfl, mb, hm⟩; have HM := hid hm; clear hm)
  go_ret
  obtain ⟨H', f1, f2⟩ := FIN.out
  obtain ⟨H3, g1, g2, g3⟩ := rep_held f1 HM.out
  exact ⟨_, H3, rfl, g1, fun q o hq => g2 _ _ (f2 _ _ hq), g3⟩

set_option maxHeartbeats 1000000 in
set_option maxRecDepth 100000 in
/-- GetRoles of a name that is there. -/
theorem rmGetRoles_old {w0 w : World} {P : Ptr} {H : Heap} {r : Nat} {names : List ByteArray} {L : List (ByteArray × ByteArray)} {n : ByteArray} (dv : Value) (h : Rep w0 w H) (R : RMp P H r names L) (hn : n ∈ names) (hL : L.length < 100000) :
    Calls Try.prog 32 #[pt r, .string n, dv] w fun e w' => ∃ v H', e = .returned (.tuple #[v, .nilIface]) ∧ Rep w0 w' H' ∧ Held H' v (up L n) := by
  have CG := hid (getRole_old h R hn)
  have CU := hid (fun w1 (h1 : Rep w0 w1 H) => getRoles h1 R hn hL)
  clear h R hn hL
  go_enter_defers Try.func32, Try.ntmps32
  go_wp2_with (first | (go_at_call 49; (with_reducible refine CG.out.mono ?_); rintro e w1 ⟨rfl, hR⟩; have HR := hid hR; clear hR) | (go_at_call 52; (with_reducible refine (CU.out _ (by exact HR.out)).mono ?_); rintro e w2 ⟨v, H', rfl, hR⟩; have HR2 := hid hR; clear hR))
  exact ⟨_, results_tmp2 rfl _ _ _, v, H', rfl, HR2.out.1, HR2.out.2.2⟩

set_option maxHeartbeats 1000000 in
set_option maxRecDepth 100000 in
/-- GetRoles of a new name: no one; the name goes again. -/
theorem rmGetRoles_new {w0 w : World} {P : Ptr} {H : Heap} {r : Nat} {names : List ByteArray} {L : List (ByteArray × ByteArray)} {n : ByteArray} (dv : Value) (h : Rep w0 w H) (R : RMp P H r names L) (hn : n ∉ names) (hl : names.length < 100000) (hL : L.length < 100000) :
    Calls Try.prog 32 #[pt r, .string n, dv] w fun e w' => ∃ v H', e = .returned (.tuple #[v, .nilIface]) ∧ Rep w0 w' H' ∧ Held H' v (up L n) := by
  have CG := hid (getRole_new h R hn (by omega))
  have HN := hid hn
  have HRM := hid R
  clear h R hn
  go_enter_defers Try.func32, Try.ntmps32
  go_wp2_with fail
  refine CG.out.mono ?_
  rintro e w1 ⟨P1, H1, rfl, hG⟩
  have G := hid hG
  clear hG CG
  have hmem : n ∈ names ++ [n] := by simp
  have c0 : w1.cell? ⟨P1.ro n, 0, none⟩ = some (.string n) := cell_of (G.out.rep.at (G.out.rm.ro_ n hmem)) 0 rfl
  have CU := hid (getRoles G.out.rep G.out.rm hmem hL)
  have HM := hid hmem
  clear hmem
  go_wp2_with fail
  refine CU.out.mono ?_
  rintro e w2 ⟨v, H2, rfl, hR⟩
  have HR := hid hR
  clear hR CU c0
  go_wp2_with fail
  obtain ⟨h2, x2, v2⟩ := HR.out
  have R1 := G.out.rm
  have hall := R1.all_
  rw [List.map_append] at hall
  have hk : ∀ x ∈ (names.map fun m => (m, P1.ro m)), x.1 ≠ n := fun x hx e => by
    obtain ⟨m, hm, rfl⟩ := List.mem_map.mp hx
    exact HN.out (e ▸ hm)
  have CR := removeRole .returning h2 (x2 _ _ R1.r_) (x2 _ _ hall) hk (by simp; omega) (x2 _ _ (R1.ro_ n HM.out)) (x2 _ _ (R1.c_ n HM.out)) (x2 _ _ (R1.d_ n HM.out))
  refine leaves_cons (f := 50) (args := #[pt r, .string n]) (by simp) (by simp [go_sem]) ?_
  refine CR.mono ?_
  rintro e u' w3 ⟨rfl, rfl, h3⟩
  refine ⟨_, results_tmp2 rfl _ _ _, v, _, rfl, h3, v2.ne (fun ob e => by rw [x2 _ _ R1.all_] at e; cases e)⟩

theorem rmGetRoles {w0 w : World} {P : Ptr} {H : Heap} {r : Nat} {names : List ByteArray} {L : List (ByteArray × ByteArray)} {n : ByteArray} (dv : Value) (h : Rep w0 w H) (R : RMp P H r names L) (hl : names.length < 100000) (hL : L.length < 100000) :
    Calls Try.prog 32 #[pt r, .string n, dv] w fun e w' => ∃ v H', e = .returned (.tuple #[v, .nilIface]) ∧ Rep w0 w' H' ∧ Held H' v (up L n) := by
  by_cases hn : n ∈ names
  · exact rmGetRoles_old dv h R hn hL
  · exact rmGetRoles_new dv h R hn hl hL

end Go.Proofs.Ytpdejkalcminbaa.Gw
