/- The package's ordered map: Range calls a function for the keys in their order. -/
import Derived.Test.YtpdejkalcminbaaZm
namespace Go.Proofs.Ytpdejkalcminbaa.Rg
open Go.RowKit Go.Proofs.Ytpdejkalcminbaa.Hm Go.Proofs.Ytpdejkalcminbaa.Hp Go.Proofs.Ytpdejkalcminbaa.Zm

theorem split_at {l : List (ByteArray × Nat)} {i : Nat} {x : ByteArray × Nat} (hi : l[i]? = some x) (hn : (l.map (·.1)).Nodup) : ∃ l1 l2, l = l1 ++ x :: l2 ∧ ∀ y ∈ l1, y.1 ≠ x.1 := by
  obtain ⟨hlt, rfl⟩ := List.getElem?_eq_some_iff.mp hi
  refine ⟨l.take i, l.drop (i + 1), ?_, ?_⟩
  · conv => lhs; rw [← List.take_append_drop i l, List.drop_eq_getElem_cons hlt]
  · intro y hy e
    obtain ⟨j, hj, rfl⟩ := List.mem_iff_getElem.mp hy
    simp only [List.length_take] at hj
    rw [List.getElem_take] at e
    have h1 : (l.map (·.1))[j]'(by simp; omega) = (l.map (·.1))[i]'(by simpa using hlt) := by simpa using e
    have := (List.getElem_inj hn).mp h1
    omega

theorem zm_look {w0 w : World} {H : Heap} {z i : Nat} {tag : Nat × ByteArray × Nat} {T : TypeId} {l : List (ByteArray × Nat)} {x : ByteArray × Nat} (h : Rep w0 w H) (hz : H z = some (.zm tag T l)) (hi : l[i]? = some x) (hn : (l.map (·.1)).Nodup) :
    ∃ M, w.cell? ⟨z, 1, none⟩ = some (.map M) ∧ (Instr.lookup 95 (.map M) (.iface 9 (.string x.1)) true).run Try.prog w = .ok (.tuple #[.iface T (pt x.2), .bool true]) w := by
  obtain ⟨own, h⟩ := h
  obtain ⟨_, v, M, hv⟩ := h.rep z _ hz
  refine ⟨M, cell_of hv.blk 1 rfl, ?_⟩
  obtain ⟨l1, l2, e, hne⟩ := split_at hi hn
  rcases hv.map with ⟨rfl, e2⟩ | ⟨mb, es, c, rfl, _, hb, hm⟩
  · subst e2; simp at e
  · subst e
    exact look_some hb hm hne

/-- The keys as they lie. -/
theorem zm_keys {w0 w : World} {H : Heap} {z : Nat} {tag : Nat × ByteArray × Nat} {T : TypeId} {l : List (ByteArray × Nat)} (h : Rep w0 w H) (hz : H z = some (.zm tag T l)) (hl : l ≠ []) :
    ∃ g cap, w.cell? ⟨z, 0, none⟩ = some (.slice (some ⟨g, 0, none⟩) l.length cap) ∧ ∀ i x, l[i]? = some x → w.cell? ⟨g, i, none⟩ = some (.iface 9 (.string x.1)) := by
  obtain ⟨own, h⟩ := h
  obtain ⟨_, v, M, hv⟩ := h.rep z _ hz
  rcases hv.row.2 with ⟨_, e⟩ | ⟨g, cap, cur, e, _, hh, _, _, _, hc⟩
  · exact absurd (List.length_eq_zero_iff.mp e) hl
  · refine ⟨g, cap, ?_, fun i x hx => ?_⟩
    · rw [← e]; exact cell_of hv.blk 0 rfl
    · refine cell_of hh i ?_
      have h1 : (l.map fun x => ky x.1)[i]? = some (ky x.1) := by simp [hx]
      rw [← hc] at h1
      have hlt : i < l.length := (List.getElem?_eq_some_iff.mp hx).1
      rw [List.getElem?_take_of_lt (by omega)] at h1
      simpa using h1

theorem zm_none {w0 w : World} {H : Heap} {z : Nat} {tag : Nat × ByteArray × Nat} {T : TypeId} (h : Rep w0 w H) (hz : H z = some (.zm tag T [])) : w.cell? ⟨z, 0, none⟩ = some (.slice none 0 0) := by
  obtain ⟨own, h⟩ := h
  obtain ⟨_, v, M, hv⟩ := h.rep z _ hz
  rw [← hv.nil rfl]; exact cell_of hv.blk 0 rfl

theorem append_nil (w : World) : (Builtin.append_ #[94, 94] 94 #[.slice none 0 0, .slice none 0 0]).run Try.prog w = .ok (.slice none 0 0) w := by
  kernel_rfl

set_option maxHeartbeats 1000000 in
set_option maxRecDepth 100000 in
/-- RANGE over a map without keys: no call. -/
theorem range_none {w0 w : World} {H : Heap} {z : Nat} {tag : Nat × ByteArray × Nat} {T : TypeId} (f : Value) (h : Rep w0 w H) (hz : H z = some (.zm tag T [])) :
    Calls Try.prog 45 #[pt z, f] w fun e w' => e = .returned (.tuple #[]) ∧ w = w' := by
  have c0 := zm_none h hz
  have hap := append_nil
  clear h hz
  go_enter Try.func45, Try.ntmps45
  go_wp2
  go_loop [14] (fun i => i = .int .i64 0) (fun _ => 0)
  case atStart => exact rfl
  case round =>
    subst hrel
    go_wp2
    go_end0
    exact ⟨rfl, rfl⟩

theorem info20 : (Try.prog.info? 20).map (fun i => (i.zero, i.size, i.bytes)) = some (some .nilIface, 1, 16) := by kernel_rfl

/-- What the function does that Range calls: at the place i of the list it turns what lies at nv, and nothing else. -/
def Body (w0 : World) (l : List (ByteArray × Nat)) (T : TypeId) (kf nv : Nat) (C : Array Value) (S : Nat → Ob → Prop) (B : Heap) : Prop :=
  ∀ i x, l[i]? = some x → ∀ w H o, Rep w0 w H → Ext B H → H nv = some o → S i o →
    Calls Try.prog kf (#[.iface 9 (.string x.1), .iface T (pt x.2)] ++ C) w fun e w' => e = .returned (.bool true) ∧ ∃ o', S (i + 1) o' ∧ Rep w0 w' (upd H nv o')

/-- The state between two rounds. -/
def Mid (w0 : World) (H : Heap) (g nv : Nat) (cp : Obj) (S : Nat → Ob → Prop) (j : Nat) (w : World) : Prop := ∃ o, S j o ∧ Rep w0 w (upd (upd H g (.raw cp)) nv o)

set_option maxHeartbeats 2000000 in
set_option maxRecDepth 100000 in
/-- RANGE over a map with keys. -/
theorem range_some {w0 w : World} {H B : Heap} {z kf nv : Nat} {tag : Nat × ByteArray × Nat} {T : TypeId} {l : List (ByteArray × Nat)} {C : Array Value} {S : Nat → Ob → Prop} {o : Ob}
    (hen : ∀ args w, (callFunc kf args).run Try.prog w = .ok (.enter kf args) w)
    (h : Rep w0 w H) (hz : H z = some (.zm tag T l)) (hn : (l.map (·.1)).Nodup) (hl0 : l ≠ []) (hl : l.length < 1000000)
    (hB : Ext B H) (hBn : B nv = none) (hnz : z ≠ nv) (hv : H nv = some o) (hS : S 0 o) (hbody : Body w0 l T kf nv C S B) :
    Calls Try.prog 45 #[pt z, .func (.func kf) #[] C] w fun e w' => e = .returned (.tuple #[]) ∧ ∃ o', S l.length o' ∧ Rep w0 w' (upd H nv o') := by
  obtain ⟨i0, hi, hz0, hz1, hz2⟩ := info_parts info20
  obtain ⟨g0, cap0, c0, ck⟩ := zm_keys h hz hl0
  have CK := hid ck
  have Hh := hid h
  have Hz := hid hz
  have Hn := hid hn
  have Hl0 := hid hl0
  have HBx := hid hB
  have HBn := hid hBn
  have Hnz := hid hnz
  have Hv := hid hv
  have HS := hid hS
  have Hbody := hid hbody
  clear ck h hz hn hl0 hB hBn hnz hv hS hbody
  go_enter Try.func45, Try.ntmps45
  go_wp2_with (at_builtin; refine wpList_append_own_at _ rfl _ _ 94 rfl w.heap.size 20 i0 .nilIface 1 16 Try.underlying94 hi hz0 hz1 hz2 rfl (by decide) _ _ _ rfl (World.ownsRow_nil _ _ _ _) ⟨g0, 0, none⟩ l.length cap0 (l.map fun x => ky x.1) rfl (by simp) ?c1 ?c2 ?c3 ?c4 ?c5 ?_)
  case c1 =>
    intro j u hj
    simp only [List.getElem?_map, Option.map_eq_some_iff] at hj
    obtain ⟨x, hx, rfl⟩ := hj
    have hcj := CK.out j x hx
    by_cases e : j = 0
    · subst e; simpa [Addr.add] using hcj
    · simpa [Addr.add, e] using hcj
  case c2 => intro u hu; simp at hu; obtain ⟨_, _, _, rfl⟩ := hu; rfl
  case c3 => unfold maxLen; omega
  case c4 => omega
  case c5 => omega
  intro v' w1 hown' hgrow hnil hat
  obtain ⟨g, cap, cur, rfl, hg, hgc, hcur⟩ : ∃ g cap cur, v' = .slice (some ⟨g, 0, none⟩) l.length cap ∧ w.heap.size ≤ g ∧ w1.heap[g]? = some (.cells cur 20 (0, 0)) ∧ cur.toList.take l.length = l.map fun x => ky x.1 := by
    rcases hown'.2 with ⟨e, _⟩ | ⟨g, cap, cur, e, hg, hh, _, _, _, hc⟩
    · exact absurd (hnil.mp e) Hl0.out
    · exact ⟨g, cap, cur, e, hg, hh, by simpa using hc⟩
  have R1 : Rep w0 w1 (upd H g (.raw (.cells cur 20 (0, 0)))) := Hh.out.grow hgrow hg hgc
  have hgH : H g = none := Hh.out.fresh hg
  have hgz : z ≠ g := fun e => by subst e; rw [Hz.out] at hgH; cases hgH
  have hgnv : nv ≠ g := fun e => by subst e; rw [Hv.out] at hgH; cases hgH
  have HGZ := hid hgz
  have HGN := hid hgnv
  have hcell : ∀ (wr : World) (x : ByteArray × Nat) (j : Nat), wr.heap[g]? = some (.cells cur 20 (0, 0)) → l[j]? = some x → wr.cell? ⟨g, j, none⟩ = some (.iface 9 (.string x.1)) := fun wr x j hh hx => by
    refine cell_of hh j ?_
    have h1 : (l.map fun x => ky x.1)[j]? = some (ky x.1) := by simp [hx]
    rw [← hcur] at h1
    have hlt : j < l.length := (List.getElem?_eq_some_iff.mp hx).1
    rw [List.getElem?_take_of_lt (by omega)] at h1
    simpa using h1
  have M0 : Mid w0 H g nv (.cells cur 20 (0, 0)) S 0 w1 := by
    refine ⟨o, HS.out, R1.less (fun b o' hb => ?_)⟩
    by_cases e : b = nv
    · subst e; rw [upd_at] at hb; rw [upd_ne hgnv, Hv.out]; exact hb
    · rw [upd_ne e] at hb; exact hb
  have HM0 := hid M0
  have HCELL := hid hcell
  have HCUR := hid hcur
  have HHG := hid hgH
  clear hown' hgrow hnil hat hgc hcur R1 hgz hgnv hcell M0 hgH
  go_wp2
  go_loopw [14] (fun i wr => ∃ j : Nat, j ≤ l.length ∧ i = .int .i64 j ∧ Mid w0 H g nv (.cells cur 20 (0, 0)) S j wr) (fun i _ => l.length - (intOf i).toNat)
  case atStart => exact ⟨0, Nat.zero_le _, rfl, HM0.out⟩
  case round =>
    obtain ⟨j, hj, rfl, oj, hoj, Rj⟩ := hrel
    by_cases hlt : j < l.length
    · obtain ⟨x, hx⟩ : ∃ x, l[j]? = some x := ⟨_, List.getElem?_eq_getElem hlt⟩
      have hgr : wr.heap[g]? = some (.cells cur 20 (0, 0)) := Rj.at (b := g) (by rw [upd_ne (fun e => HGN.out e.symm), upd_at])
      have hck := HCELL.out wr x j hgr hx
      have hzr : (upd (upd H g (.raw (.cells cur 20 (0, 0)))) nv oj) z = some (.zm tag T l) := by rw [upd_ne Hnz.out, upd_ne HGZ.out]; exact Hz.out
      obtain ⟨M, hcM, hlook⟩ := zm_look Rj hzr hx Hn.out
      have hext : Ext B (upd (upd H g (.raw (.cells cur 20 (0, 0)))) nv oj) := fun b o' hb => by
        have hbH := HBx.out b o' hb
        have hbn : b ≠ nv := fun e => by subst e; rw [HBn.out] at hb; cases hb
        have hbg : b ≠ g := fun e => by subst e; rw [HHG.out] at hbH; cases hbH
        rw [upd_ne hbn, upd_ne hbg]; exact hbH
      have call := Hbody.out j x hx wr _ oj Rj hext (upd_at _ _ _) hoj
      have HCALL := hid call
      clear call hext hzr hgr Rj hoj
      have HX := hid hx
      clear hx
      go_wp2_with fail
      refine HCALL.out.mono ?_
      rintro e w' ⟨rfl, hres⟩
      have HR := hid hres
      clear hres
      go_wp2
      go_roundw
      case rel =>
        obtain ⟨o', h1, h2⟩ := HR.out
        refine ⟨j + 1, by omega, by go_num, o', h1, h2.less (fun b ob hb => ?_)⟩
        by_cases e : b = nv
        · subst e; rw [upd_at] at hb ⊢; exact hb
        · rw [upd_ne e] at hb; rw [upd_ne e, upd_ne e]; exact hb
      case measure => simp [intOf]; omega
    · have hjl : j = l.length := by omega
      subst hjl
      have Hoj := hid hoj
      have HRj := hid Rj
      clear hoj Rj
      go_wp2
      go_end0
      refine ⟨rfl, oj, Hoj.out, HRj.out.less (fun b ob hb => ?_)⟩
      by_cases e : b = nv
      · subst e; rw [upd_at] at hb ⊢; exact hb
      · rw [upd_ne e] at hb ⊢
        rw [upd_ne (fun e2 => by subst e2; rw [HHG.out] at hb; cases hb)]; exact hb

/-- RANGE. -/
theorem range {w0 w : World} {H B : Heap} {z kf nv : Nat} {tag : Nat × ByteArray × Nat} {T : TypeId} {l : List (ByteArray × Nat)} {C : Array Value} {S : Nat → Ob → Prop} {o : Ob}
    (hen : ∀ args w, (callFunc kf args).run Try.prog w = .ok (.enter kf args) w)
    (h : Rep w0 w H) (hz : H z = some (.zm tag T l)) (hn : (l.map (·.1)).Nodup) (hl : l.length < 1000000)
    (hB : Ext B H) (hBn : B nv = none) (hnz : z ≠ nv) (hv : H nv = some o) (hS : S 0 o) (hbody : Body w0 l T kf nv C S B) :
    Calls Try.prog 45 #[pt z, .func (.func kf) #[] C] w fun e w' => e = .returned (.tuple #[]) ∧ ∃ o', S l.length o' ∧ Rep w0 w' (upd H nv o') := by
  by_cases hl0 : l = []
  · subst hl0
    refine (range_none _ h hz).mono ?_
    rintro e w' ⟨rfl, rfl⟩
    refine ⟨rfl, o, hS, h.less (fun b ob hb => ?_)⟩
    by_cases e : b = nv
    · subst e; rw [upd_at] at hb; rw [hv]; exact hb
    · rw [upd_ne e] at hb; exact hb
  · exact range_some hen h hz hn hl0 hl hB hBn hnz hv hS hbody

end Go.Proofs.Ytpdejkalcminbaa.Rg
