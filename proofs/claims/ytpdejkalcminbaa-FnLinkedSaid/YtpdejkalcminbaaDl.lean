/- The package's ordered map: Delete of the key that was stored last. -/
import Derived.Test.YtpdejkalcminbaaRg
namespace Go.Proofs.Ytpdejkalcminbaa.Dl
open Go.RowKit Go.Proofs.Ytpdejkalcminbaa.Hm Go.Proofs.Ytpdejkalcminbaa.Hp Go.Proofs.Ytpdejkalcminbaa.Zm Go.Proofs.Ytpdejkalcminbaa.Rg

/-- The keys that are kept, after j of them were looked at. -/
structure Kept (W1 : World) (ks : List Value) (j : Nat) (v : Value) (w : World) : Prop where
  row : w.ownsRow W1.heap.size 20 1 v (ks.take j).length (ks.take j)
  bel : Below W1.heap.size W1 w
  nil : ks.take j = [] → v = .slice none 0 0

/-- How a map lies behind a delete of the last key. -/
structure DelEnd (W1 : World) (z : Nat) (ks : List Value) (w' wr : World) (v : Value) : Prop where
  kept : Kept W1 ks ks.length v wr
  end_ : w' = wr.setCell ⟨z, 0, none⟩ v

set_option maxHeartbeats 2000000 in
set_option maxRecDepth 100000 in
theorem delete_raw {w : World} {z mb c p g cap : Nat} {T : TypeId} {l : List (ByteArray × Nat)} {k : ByteArray} {es : Array MapEntry} {cur : Array Value}
    (hc : w.heap[z]? = some (.cells #[.slice (some ⟨g, 0, none⟩) (l.length + 1) cap, .map (some mb)] 97 (0, 0))) (hm : w.heap[mb]? = some (.map es c)) (hes : MapIs T es (l ++ [(k, p)])) (hk : ∀ x ∈ l, x.1 ≠ k)
    (hg : w.heap[g]? = some (.cells cur 20 (0, 0))) (hcur : ∀ (i : Nat) (x : ByteArray × Nat), (l ++ [(k, p)])[i]? = some x → cur[i]? = some (ky x.1)) (hl : l.length < 1000000) :
    Calls Try.prog 83 #[pt z, .iface 9 (.string k)] w fun e w' => e = .returned (.tuple #[]) ∧ ∃ wr v, DelEnd (ChangeMaps.setBlock w mb (.map (es.eraseIdxIfInBounds l.length) c)) z (l.map fun x => ky x.1) w' wr v := by
  obtain ⟨i0, hi, hz0, hz1, hz2⟩ := info_parts Zm.info20
  have c1 : w.cell? ⟨z, 1, none⟩ = some (.map (some mb)) := cell_of hc 1 rfl
  have hlk := look_some hm hes hk
  have hzg : z ≠ g := fun e => by subst e; rw [hc] at hg; cases hg
  have hzm : z ≠ mb := fun e => by subst e; rw [hc] at hm; cases hm
  have hgm : g ≠ mb := fun e => by subst e; rw [hg] at hm; cases hm
  have hdel := fun ty => Hm.delete_last hm hes hk ty
  obtain ⟨W1, hW1⟩ : ∃ W1, W1 = ChangeMaps.setBlock w mb (.map (es.eraseIdxIfInBounds l.length) c) := ⟨_, rfl⟩
  rw [← hW1] at hdel ⊢
  have hcz : W1.heap[z]? = some (.cells #[.slice (some ⟨g, 0, none⟩) (l.length + 1) cap, .map (some mb)] 97 (0, 0)) := by rw [hW1, setBlock_ne hzm]; exact hc
  have hcg : W1.heap[g]? = some (.cells cur 20 (0, 0)) := by rw [hW1, setBlock_ne hgm]; exact hg
  have d0 : W1.cell? ⟨z, 0, none⟩ = some (.slice (some ⟨g, 0, none⟩) (l.length + 1) cap) := cell_of hcz 0 rfl
  have hzl : z < W1.heap.size := lt_of_block hcz
  have hgl : g < W1.heap.size := lt_of_block hcg
  have HZ := hid hcz
  have HG := hid hcg
  have HK := hid hk
  have HCUR := hid hcur
  clear hc hm hes hk hg hcur hzg hzm hgm hW1 hcz hcg
  go_enter Try.func83, Try.ntmps83
  go_wp2
  go_loopw [6, 30] (fun v i wr => ∃ j : Nat, j ≤ l.length + 1 ∧ i = .int .i64 j ∧ Kept W1 (l.map fun x => ky x.1) j v wr) (fun _ i _ => l.length + 1 - (intOf i).toNat)
  case atStart => exact ⟨0, Nat.zero_le _, rfl, World.ownsRow_nil _ _ _ _, Below.refl _ _, fun _ => rfl⟩
  case round =>
    obtain ⟨j, hj, rfl, K⟩ := hrel
    have hgr : wr.heap[g]? = some (.cells cur 20 (0, 0)) := (K.bel.block g hgl).trans HG.out
    have hws := K.bel.size
    by_cases hlt : j < l.length
    · obtain ⟨x, hx⟩ : ∃ x, l[j]? = some x := ⟨_, List.getElem?_eq_getElem hlt⟩
      have hck : wr.cell? ⟨g, j, none⟩ = some (.iface 9 (.string x.1)) := cell_of hgr j (HCUR.out j x (by rw [List.getElem?_append_left hlt]; exact hx))
      have hxk : (x.1 == k) = false := beq_eq_false_iff_ne.mpr (HK.out x (List.mem_of_getElem? hx))
      have hne : (Go.binOp .neq 20 (.iface 9 (.string x.1)) (.iface 9 (.string k))).run Try.prog wr = .ok (.bool true) wr := by rw [run_neq, hxk]; rfl
      have hrow := K.row
      have htk : ((l.map fun x => ky x.1).take j).length = j := by simp; omega
      have hsn : (l.map fun x => ky x.1).take (j + 1) = (l.map fun x => ky x.1).take j ++ [ky x.1] := by
        rw [List.take_add_one]; simp [hx]
      rw [htk] at hrow
      have HSN := hid hsn
      have HTK := hid htk
      have HX := hid hx
      have HKP := hid K
      clear hx hxk hsn htk hgr K
      go_wp2_with (at_builtin; refine wpList_append_own_at _ rfl _ _ 94 rfl W1.heap.size 20 i0 .nilIface 1 16 Try.underlying94 hi hz0 hz1 hz2 rfl (by decide) _ _ _ rfl (hrow.alloc _) ⟨wr.heap.size, 0, none⟩ 1 1 [.iface 9 (.string x.1)] rfl rfl ?c1 ?c2 ?c3 ?c4 ?c5 ?_)
      case c1 =>
        intro i u hi2
        match i, hi2 with
        | 0, hi2 => simp at hi2; subst hi2; simp [Addr.add]
      case c2 => intro u hu; simp at hu; subst hu; rfl
      case c3 => unfold maxLen; omega
      case c4 => omega
      case c5 => rw [size_alloc]; omega
      intro v' w1 hown' hgrow hnil hat
      have K2 : Kept W1 (l.map fun x => ky x.1) (j + 1) v' w1 := by
        refine ⟨?_, ?_, fun e => ?_⟩
        · have e1 : ((l.map fun x => ky x.1).take (j + 1)).length = j + 1 := by rw [HSN.out, List.length_append, HTK.out]; rfl
          rw [e1, HSN.out]; exact hown'
        · have b1 : Below W1.heap.size W1 (wr.alloc (.cells #[.iface 9 (.string x.1)] 20)) := HKP.out.bel.alloc hws _
          refine b1.grown hgrow (by rw [size_alloc]; omega) (fun q hq => ?_)
          rcases hrow.2 with ⟨e, _⟩ | ⟨g', cap', _, e, hg', _⟩
          · rw [e] at hq; cases hq
          · rw [e] at hq; cases hq; exact hg'
        · rw [HSN.out] at e; simp at e
      have HK2 := hid K2
      clear K2 hown' hgrow hnil hat hrow
      go_wp2
      go_roundw
      case rel => exact ⟨j + 1, by omega, by go_num, HK2.out⟩
      case measure => simp [intOf]; omega
    · by_cases hje : j = l.length
      · subst hje
        have hck : wr.cell? ⟨g, l.length, none⟩ = some (.iface 9 (.string k)) := cell_of hgr l.length (HCUR.out l.length (k, p) (by simp))
        have hne : (Go.binOp .neq 20 (.iface 9 (.string k)) (.iface 9 (.string k))).run Try.prog wr = .ok (.bool false) wr := by rw [run_neq]; simp
        have HKP := hid K
        clear K hgr
        go_wp2
        go_roundw
        case rel =>
          have K := HKP.out
          refine ⟨l.length + 1, by omega, by go_num, ?_, K.bel, fun e => K.nil ?_⟩
          · have e1 : (l.map fun x => ky x.1).take (l.length + 1) = (l.map fun x => ky x.1).take l.length := by
              rw [List.take_of_length_le (by simp), List.take_of_length_le (by simp)]
            rw [e1]; exact K.row
          · rw [List.take_of_length_le (by simp)] at e ⊢; exact e
        case measure => simp [intOf]
      · have hje2 : j = l.length + 1 := by omega
        subst hje2
        have K3 : Kept W1 (l.map fun x => ky x.1) (l.map fun x => ky x.1).length u6 wr := by
          have e1 : (l.map fun x => ky x.1).take (l.length + 1) = (l.map fun x => ky x.1).take (l.map fun x => ky x.1).length := by
            rw [List.take_of_length_le (by simp), List.take_of_length_le (by simp)]
          refine ⟨?_, K.bel, fun e => K.nil ?_⟩
          · rw [← e1]; exact K.row
          · rw [e1]; exact e
        have hzr : wr.heap[z]? = some (.cells #[.slice (some ⟨g, 0, none⟩) (l.length + 1) cap, .map (some mb)] 97 (0, 0)) := (K.bel.block z hzl).trans HZ.out
        have e0 : wr.cell? ⟨z, 0, none⟩ = some (.slice (some ⟨g, 0, none⟩) (l.length + 1) cap) := cell_of hzr 0 rfl
        have f0 : wr.frozen? ⟨z, 0, none⟩ = false := free_of hzr 0
        have HK3 := hid K3
        have hv : u6 = .slice none 0 0 ∨ ∃ g' n' cap', u6 = .slice (some ⟨g', 0, none⟩) n' cap' := by
          rcases K3.row.2 with ⟨e, _⟩ | ⟨g', cap', _, e, _⟩
          · exact .inl e
          · exact .inr ⟨g', _, cap', e⟩
        clear K K3 hzr hgr
        rcases hv with rfl | ⟨g', n', cap', rfl⟩
        · go_wp2
          go_end0
          exact ⟨rfl, wr, _, HK3.out, rfl⟩
        · go_wp2
          go_end0
          exact ⟨rfl, wr, _, HK3.out, rfl⟩

/-- DELETE of the last key. -/
theorem delete {w0 w : World} {H : Heap} {z p : Nat} {tag : Nat × ByteArray × Nat} {T : TypeId} {l : List (ByteArray × Nat)} {k : ByteArray} (h : Rep w0 w H) (hz : H z = some (.zm tag T (l ++ [(k, p)]))) (hk : ∀ x ∈ l, x.1 ≠ k) (hl : l.length < 1000000) :
    Calls Try.prog 83 #[pt z, .iface 9 (.string k)] w fun e w' => e = .returned (.tuple #[]) ∧ Rep w0 w' (upd H z (.zm tag T l)) := by
  obtain ⟨own, h⟩ := h
  obtain ⟨hoz, v, M, hv⟩ := h.rep z _ hz
  have hd := h.dom z z hoz
  have hs0 := h.bel.size
  have hlen : (l ++ [(k, p)]).length = l.length + 1 := by simp
  rcases hv.map with ⟨_, e⟩ | ⟨mb, es, c, rfl, hom, hb, hm⟩
  · simp at e
  rcases hv.row.2 with ⟨_, e⟩ | ⟨g, cap, cur, rfl, _, hg, _, _, _, hcur⟩
  · rw [hlen] at e; omega
  have hblk := hv.blk
  rw [hlen] at hblk
  have hog : own g = some z := hv.ownv g rfl
  have hcell : ∀ (i : Nat) (x : ByteArray × Nat), (l ++ [(k, p)])[i]? = some x → cur[i]? = some (ky x.1) := fun i x hx => by
    have h1 : ((l ++ [(k, p)]).map fun x => ky x.1)[i]? = some (ky x.1) := by rw [List.getElem?_map, hx]; rfl
    rw [← hcur] at h1
    have hlt : i < (l ++ [(k, p)]).length := (List.getElem?_eq_some_iff.mp hx).1
    rw [List.getElem?_take_of_lt (by omega)] at h1
    simpa using h1
  refine (delete_raw hblk hb hm hk hg hcell hl).mono ?_
  rintro e w' ⟨rfl, wr, v', E⟩
  refine ⟨rfl, ?_⟩
  have hw' := E.end_
  have hzm : z ≠ mb := fun e => by subst e; rw [hblk] at hb; cases hb
  have hbw : Below w.heap.size (ChangeMaps.setBlock w mb (.map (es.eraseIdxIfInBounds l.length) c)) wr := by
    have := E.kept.bel
    rw [setBlock_size] at this
    exact this
  have hmb := h.dom mb z hom
  have bl : Below w0.heap.size w wr := (setBlock_below _ hmb.1).trans (hbw.mono hs0)
  have blw : Below w0.heap.size w w' := by rw [hw']; exact bl.setCell hd.1 _
  have hsz := blw.size
  have hrow := E.kept.row
  rw [setBlock_size] at hrow
  have hfr : ∀ x, v'.ownBlock = some x → w.heap.size ≤ x ∧ x < wr.heap.size := fun x hx => by
    rcases hrow.2 with ⟨e, _⟩ | ⟨g', cap', cur', e, hg', hh, _⟩
    · rw [e] at hx; cases hx
    · rw [e] at hx; cases hx; exact ⟨hg', lt_of_block hh⟩
  have hwsz : w'.heap.size = wr.heap.size := by rw [hw', size_setCell]
  have hold : ∀ x, x < w.heap.size → x ≠ z → x ≠ mb → w'.heap[x]? = w.heap[x]? := fun x hx h1 h2 => by
    rw [hw', Below.heap_setCell _ _ _ _ (by exact h1), hbw.block x hx, setBlock_ne h2]
  refine ⟨fun x => if v'.ownBlock = some x then some z else own x, h.change blw (fun x y hx hy => ?_) (fun x y hx hy => ?_) (fun x y hx => ?_) ?_ ⟨v', some mb, ?_, ?_, ?_, ?_, ?_⟩⟩
  · refine hold x (h.dom x y hx).2 (fun e => ?_) (fun e => ?_)
    · subst e; rw [hoz] at hx; cases hx; exact hy rfl
    · subst e; rw [hom] at hx; cases hx; exact hy rfl
  · show (if v'.ownBlock = some x then some z else own x) = some y
    rw [if_neg]
    · exact hx
    · intro e
      have := (hfr x e).1
      have := (h.dom x y hx).2
      omega
  · rw [hwsz]
    by_cases e : v'.ownBlock = some x
    · have := hfr x e
      omega
    · simp only [if_neg e] at hx
      have := h.dom x y hx
      omega
  · show (if v'.ownBlock = some z then some z else own z) = some z
    split
    · rfl
    · exact hoz
  · rw [hw']
    have h1 : wr.heap[z]? = some (.cells #[.slice (some ⟨g, 0, none⟩) (l.length + 1) cap, .map (some mb)] 97 (0, 0)) := by
      rw [hbw.block z hd.2, setBlock_ne hzm]; exact hblk
    exact heap_setCell_at h1
  · have hr : wr.ownsRow w.heap.size 20 1 v' l.length (l.map fun x => ky x.1) := by
      have := hrow
      rw [List.take_of_length_le (Nat.le_refl _)] at this
      simpa using this
    obtain ⟨r1, r2⟩ := hr
    refine ⟨r1, ?_⟩
    rcases r2 with r2 | ⟨g', cap', cur', e, hg', hh, r⟩
    · exact .inl r2
    · refine .inr ⟨g', cap', cur', e, Nat.zero_le _, ?_, r⟩
      rw [hw', Below.heap_setCell _ _ _ _ (by show g' ≠ z; omega)]; exact hh
  · intro e
    exact E.kept.nil (by simp [e])
  · intro x hx
    show (if v'.ownBlock = some x then some z else own x) = some z
    rw [if_pos hx]
  · refine .inr ⟨mb, _, c, rfl, ?_, ?_, hm.erase⟩
    · show (if v'.ownBlock = some mb then some z else own mb) = some z
      split
      · rfl
      · exact hom
    · rw [hw', Below.heap_setCell _ _ _ _ (fun e => hzm e.symm), hbw.block mb hmb.2]
      exact setBlock_at hb

end Go.Proofs.Ytpdejkalcminbaa.Dl
