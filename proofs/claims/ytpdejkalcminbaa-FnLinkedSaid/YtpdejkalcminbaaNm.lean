/- A function that puts a name behind the others in a variable of its caller's (getUsers$1, getRoles$1). -/
import Derived.Test.YtpdejkalcminbaaMo
import Derived.Deep.RegionLaw
import Derived.Deep.AppendLies
namespace Go.Proofs.Ytpdejkalcminbaa.Nm
open Go.RowKit Go.Proofs.Ytpdejkalcminbaa.Hm Go.Proofs.Ytpdejkalcminbaa.Hp Go.Proofs.Ytpdejkalcminbaa.Zm

theorem info9 : (Try.prog.info? 9).map (fun i => (i.zero, i.size, i.bytes)) = some (some (.string ⟨#[]⟩), 1, 16) := by kernel_rfl

/-- How the variable lies behind it. -/
structure NameEnd (w : World) (nv n : Nat) (v : Value) (s : ByteArray) (xs : List Value) (w' w1 : World) (v' : Value) : Prop where
  row : w1.ownsRow 0 9 1 v' (n + 1) (xs ++ [.string s])
  grown : (w.alloc (.cells #[.string s] 9)).grownBy w1 v.ownBlock
  at_ : ∃ g, v'.ownBlock = some g ∧ (v.ownBlock = some g ∨ g = w.heap.size + 1)
  end_ : w' = w1.setCell ⟨nv, 0, none⟩ v'

set_option maxHeartbeats 1000000 in
set_option maxRecDepth 100000 in
theorem add_raw {w : World} {nv n : Nat} {v y : Value} {s : ByteArray} {xs : List Value} (hc : w.heap[nv]? = some (.cells #[v] 24 (0, 0))) (hrow : w.ownsRow 0 9 1 v n xs) (hv : v.ownBlock ≠ some nv) (hn : n < 1000000) :
    Calls Try.prog 72 #[.iface 9 (.string s), y, pt nv] w fun e w' => e = .returned (.bool true) ∧ ∃ w1 v', NameEnd w nv n v s xs w' w1 v' := by
  obtain ⟨i0, hi, hz0, hz1, hz2⟩ := info_parts info9
  have c0 : w.cell? ⟨nv, 0, none⟩ = some v := cell_of hc 0 rfl
  have hlt := lt_of_block hc
  have hta : ∀ (v : Value) (W : World), (Instr.typeAssert (.iface 9 v) 20 9 false).run Try.prog W = .ok v W := fun v W => by rfl
  have HC := hid hc
  clear hc
  go_enter Try.func72, Try.ntmps72
  go_wp2_with fail
  go_region_law
    ((refine step_append_lies _ (by rfl) _ _ _ (by rfl) 0 9 i0 _ 1 16 Try.underlying24 hi hz0 hz1 hz2 rfl (by omega) v n xs (by rfl) ((hrow.alloc _).drew)
        ⟨w.heap.size, 0, none⟩ 1 1 [.string s] (by rfl) (by rfl) (World.news_of_block (cs := #[.string s]) (t := 9) (fr := (0, 0)) (heap_alloc_new w _)) (by simp [Value.oneCell'])
        (by omega) (by unfold maxLen; omega) (by omega) (by simp) (w.heap.size + 1) (by simp) ?_; intro g cap w1 hown1 hgrow hat hlt1
      have hb1 : w1.heap[nv]? = some (.cells #[v] 24 (0, 0)) := by rw [hgrow.block nv (by simp; omega) (fun e => hv e.symm)]; exact (Below.heap_alloc _ _ _ hlt).trans HC.out
      have d1 : w1.cell? ⟨nv, 0, none⟩ = some v := cell_of hb1 0 rfl
      have f1 : w1.frozen? ⟨nv, 0, none⟩ = false := free_of hb1 0
      have E := hid (show NameEnd w nv n v s xs _ w1 (.slice (some ⟨g, 0, none⟩) (n + 1) cap) from ⟨hown1, ⟨hgrow.os, hgrow.tape, hgrow.output, hgrow.size, hgrow.block⟩, ⟨g, rfl, hat⟩, rfl⟩)
      clear hown1 hgrow hat hb1))
  all_goals
    go_wp2
    go_ret
    exact ⟨rfl, _, _, E.out⟩

/-- The name is put behind the others. -/
theorem add {w0 w : World} {H : Heap} {nv : Nat} {v y : Value} {s : ByteArray} {l : List ByteArray} (h : Rep w0 w H) (hv : H nv = some (.strs v l)) (hl : l.length < 1000000) :
    Calls Try.prog 72 #[.iface 9 (.string s), y, pt nv] w fun e w' => e = .returned (.bool true) ∧ ∃ v', Rep w0 w' (upd H nv (.strs v' (l ++ [s]))) := by
  obtain ⟨own, h⟩ := h
  obtain ⟨hon, hst⟩ := h.rep nv _ hv
  have hz : StrsAt w own nv v l := hst
  have hd := h.dom nv nv hon
  have hs0 := h.bel.size
  have hvn : v.ownBlock ≠ some nv := fun e => by
    rcases hz.row.2 with ⟨e2, _⟩ | ⟨g, cap, cur, e2, _, hh, _⟩
    · rw [e2] at e; cases e
    · rw [e2] at e; cases e; rw [hz.blk] at hh; cases hh
  refine (add_raw (y := y) (s := s) hz.blk hz.row hvn hl).mono ?_
  rintro e w' ⟨rfl, w1, v', E⟩
  refine ⟨rfl, v', ?_⟩
  have hw' := E.end_
  obtain ⟨g, hg, hgat⟩ := E.at_
  have hv0 : ∀ k, v.ownBlock = some k → w0.heap.size ≤ k ∧ k < w.heap.size := fun k hk => h.dom k nv (hz.ownv k hk)
  have bl : Below w0.heap.size w w1 := ((Below.refl _ _).alloc hs0 _).grown E.grown (by rw [size_alloc]; omega) (fun j hj => (hv0 j hj).1)
  have hblk : ∀ x, x < w.heap.size → v.ownBlock ≠ some x → w1.heap[x]? = w.heap[x]? := fun x hx hn => by
    rw [E.grown.block x (by rw [size_alloc]; omega) (fun e => hn e.symm), Below.heap_alloc _ _ _ hx]
  have b1 : w1.heap[nv]? = some (.cells #[v] 24 (0, 0)) := (hblk nv hd.2 hvn).trans hz.blk
  have blw : Below w0.heap.size w w' := by rw [hw']; exact bl.setCell hd.1 _
  have hsz : w'.heap.size = w1.heap.size := by rw [hw', size_setCell]
  obtain ⟨cur, hgc⟩ : ∃ cur, w1.heap[g]? = some (.cells cur 9 (0, 0)) := by
    rcases E.row.2 with ⟨e, _⟩ | ⟨g2, cap, cur, e, _, hh, _⟩
    · rw [e] at hg; cases hg
    · rw [e] at hg; cases hg; exact ⟨cur, hh⟩
  have hgl : g < w1.heap.size := lt_of_block hgc
  have hgn : g ≠ nv := fun e => by subst e; rw [b1] at hgc; cases hgc
  have hgo : own g = some nv ∨ w.heap.size ≤ g := by
    rcases hgat with e | e
    · exact .inl (hz.ownv g e)
    · right; omega
  have hg0 : w0.heap.size ≤ g := by rcases hgo with e | e; exact (h.dom _ _ e).1; omega
  have hsw := bl.size
  refine ⟨fun x => if x = g then some nv else own x, h.change blw (fun x y hx hy => ?_) (fun x y hx hy => ?_) (fun x y hx => ?_) ?_ ⟨?_, ?_, ?_, ?_⟩⟩
  · have hxn : x ≠ nv := fun e => by subst e; rw [hon] at hx; cases hx; exact hy rfl
    have hxv : v.ownBlock ≠ some x := fun e => by
      have := hz.ownv x e
      rw [this] at hx; cases hx; exact hy rfl
    rw [hw', Below.heap_setCell _ _ _ _ (by exact hxn), hblk x (h.dom x y hx).2 hxv]
  · show (if x = g then some nv else own x) = some y
    rw [if_neg]
    · exact hx
    · intro e
      subst e
      rcases hgo with e | e
      · rw [e] at hx; cases hx; exact hy rfl
      · have := (h.dom x y hx).2; omega
  · rw [hsz]
    by_cases e : x = g
    · subst e; exact ⟨hg0, hgl⟩
    · simp only [if_neg e] at hx
      have := h.dom x y hx
      omega
  · show (if nv = g then some nv else own nv) = some nv
    split
    · rfl
    · exact hon
  · rw [hw']; exact heap_setCell_at b1
  · have hr : w1.ownsRow 0 9 1 v' (l ++ [s]).length ((l ++ [s]).map Value.string) := by simpa using E.row
    refine ownsRow_same hr (fun x hx => ?_)
    rw [hg] at hx; cases hx
    rw [hw', Below.heap_setCell _ _ _ _ (by exact hgn)]
  · intro e; simp at e
  · intro x hx
    rw [hg] at hx; cases hx
    simp

end Go.Proofs.Ytpdejkalcminbaa.Nm
