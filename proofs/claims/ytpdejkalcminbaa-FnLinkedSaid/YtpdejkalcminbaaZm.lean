/- The methods of the package's ordered map (zzMap): what Load, Store and Delete do to a heap of objects. -/
import Derived.Test.YtpdejkalcminbaaHp
import Derived.WalkSpells
import Derived.Maps.AppendAt

namespace Go.Proofs.Ytpdejkalcminbaa.Zm
open Go.RowKit Go.Proofs.Ytpdejkalcminbaa.Hm Go.Proofs.Ytpdejkalcminbaa.Hp

abbrev pt (b : Nat) : Value := .pointer (some ⟨b, 0, none⟩)

set_option maxHeartbeats 1000000 in
set_option maxRecDepth 100000 in
theorem load_raw {w : World} {z : Nat} {M : Option Nat} {k : ByteArray} {v : Value} {b : Bool} (hc : w.cell? ⟨z, 1, none⟩ = some (.map M))
    (hl : (Instr.lookup 95 (.map M) (.iface 9 (.string k)) true).run Try.prog w = .ok (.tuple #[v, .bool b]) w) :
    Calls Try.prog 59 #[pt z, .iface 9 (.string k)] w fun e w' => e = .returned (.tuple #[v, .bool b]) ∧ w = w' := by
  go_enter Try.func59, Try.ntmps59
  go_wp2
  go_ret2
  exact ⟨rfl, rfl⟩

theorem load_none {w0 w : World} {H : Heap} {z : Nat} {tag : Nat × ByteArray × Nat} {T : TypeId} {l : List (ByteArray × Nat)} {k : ByteArray} (h : Rep w0 w H) (hz : H z = some (.zm tag T l)) (hk : ∀ x ∈ l, x.1 ≠ k) :
    Calls Try.prog 59 #[pt z, .iface 9 (.string k)] w fun e w' => e = .returned (.tuple #[.nilIface, .bool false]) ∧ w = w' := by
  obtain ⟨own, h⟩ := h
  obtain ⟨_, v, M, hv⟩ := h.rep z _ hz
  refine load_raw (cell_of hv.blk 1 rfl) ?_
  rcases hv.map with ⟨rfl, _⟩ | ⟨mb, es, c, rfl, _, hb, hm⟩
  · exact look_nil _ _
  · exact look_none hb hm hk

theorem load_some {w0 w : World} {H : Heap} {z : Nat} {tag : Nat × ByteArray × Nat} {T : TypeId} {l1 l2 : List (ByteArray × Nat)} {k : ByteArray} {p : Nat} (h : Rep w0 w H) (hz : H z = some (.zm tag T (l1 ++ (k, p) :: l2))) (hk : ∀ x ∈ l1, x.1 ≠ k) :
    Calls Try.prog 59 #[pt z, .iface 9 (.string k)] w fun e w' => e = .returned (.tuple #[.iface T (pt p), .bool true]) ∧ w = w' := by
  obtain ⟨own, h⟩ := h
  obtain ⟨_, v, M, hv⟩ := h.rep z _ hz
  refine load_raw (cell_of hv.blk 1 rfl) ?_
  rcases hv.map with ⟨rfl, e⟩ | ⟨mb, es, c, rfl, _, hb, hm⟩
  · simp at e
  · exact look_some hb hm hk

theorem info20 : (Try.prog.info? 20).map (fun i => (i.zero, i.size, i.bytes)) = some (some .nilIface, 1, 16) := by kernel_rfl

/-- How a map that has a block of entries lies behind a store under a new key. -/
structure StoreEnd (w : World) (z mb c p : Nat) (T : TypeId) (n : Nat) (ks : List Value) (k : ByteArray) (v : Value) (es : Array MapEntry) (w' v1w : World) (v' : Value) : Prop where
  row : v1w.ownsRow 0 20 1 v' (n + 1) (ks ++ [ky k])
  grown : (w.alloc (.cells #[ky k] 20)).grownBy v1w v.ownBlock
  some : v' ≠ .slice none 0 0
  at_ : v'.ownBlock = v.ownBlock ∨ v'.ownBlock = Option.some (w.heap.size + 1)
  end_ : w' = ChangeMaps.setBlock (v1w.setCell ⟨z, 0, none⟩ v') mb (.map (es.push { key := ky k, val := vl T p, born := c }) (c + 1))

set_option maxHeartbeats 1000000 in
set_option maxRecDepth 100000 in
theorem store_more {w : World} {z mb c p : Nat} {T : TypeId} {l : List (ByteArray × Nat)} {k : ByteArray} {v : Value} {es : Array MapEntry}
    (hc : w.heap[z]? = some (.cells #[v, .map (some mb)] 97 (0, 0))) (hm : w.heap[mb]? = some (.map es c)) (hes : MapIs T es l) (hk : ∀ x ∈ l, x.1 ≠ k)
    (hrow : w.ownsRow 0 20 1 v l.length (l.map fun x => ky x.1)) (hvz : ∀ g, v.ownBlock = some g → g ≠ z ∧ g ≠ mb) (hl : l.length < 1000000) :
    Calls Try.prog 44 #[pt z, .iface 9 (.string k), .iface T (pt p)] w fun e w' => e = .returned (.tuple #[]) ∧ ∃ v1w v', StoreEnd w z mb c p T l.length (l.map fun x => ky x.1) k v es w' v1w v' := by
  obtain ⟨i0, hi, hz0, hz1, hz2⟩ := info_parts info20
  have c0 : w.cell? ⟨z, 0, none⟩ = some v := cell_of hc 0 rfl
  have c1 : w.cell? ⟨z, 1, none⟩ = some (.map (some mb)) := cell_of hc 1 rfl
  have hlk := look_none hm hes hk
  have hmn := fun w => run_eql_map_nil (P := Try.prog) w 95 _ _ (some mb) Try.underlying95
  have hzl : z < w.heap.size := lt_of_block hc
  have hml : mb < w.heap.size := lt_of_block hm
  have hzm : z ≠ mb := fun e => by subst e; rw [hc] at hm; cases hm
  have HC := hid hc
  have HM := hid hm
  have HES := hid hes
  have HK := hid hk
  have HVZ := hid hvz
  clear hc hm hes hk hvz
  go_enter Try.func44, Try.ntmps44
  go_wp2_with (at_builtin; refine wpList_append_own_at _ rfl _ _ 94 rfl 0 20 i0 .nilIface 1 16 Try.underlying94 hi hz0 hz1 hz2 rfl (by decide) _ _ _ rfl (hrow.alloc _) ⟨w.heap.size, 0, none⟩ 1 1 [.iface 9 (.string k)] rfl rfl ?c1 ?c2 ?c3 ?c4 ?c5 ?_)
  case c1 =>
    intro j u hj
    match j, hj with
    | 0, hj => simp at hj; subst hj; simp [Addr.add]
  case c2 => intro u hu; simp at hu; subst hu; rfl
  case c3 => unfold maxLen; omega
  case c4 => omega
  case c5 => omega
  intro v' w1 hown' hgrow hnil hat
  obtain ⟨g, cap, rfl⟩ : ∃ g cap, v' = .slice (some ⟨g, 0, none⟩) (l.length + 1) cap := by
    rcases hown'.2 with ⟨e, _⟩ | ⟨g, cap, _, e, _⟩
    · exact absurd e hnil
    · exact ⟨g, cap, e⟩
  have hzb : w1.heap[z]? = some (.cells #[v, .map (some mb)] 97 (0, 0)) := by
    rw [hgrow.block z (by rw [size_alloc]; omega) (fun e => (HVZ.out z e.symm).1 rfl), Below.heap_alloc _ _ _ hzl]; exact HC.out
  have hm1 : (w1.setCell ⟨z, 0, none⟩ (.slice (some ⟨g, 0, none⟩) (l.length + 1) cap)).heap[mb]? = some (.map es c) := by
    rw [Below.heap_setCell _ _ _ _ (fun e => hzm e.symm), hgrow.block mb (by rw [size_alloc]; omega) (fun e => (HVZ.out mb e.symm).2 rfl), Below.heap_alloc _ _ _ hml]; exact HM.out
  have d0 : w1.cell? ⟨z, 0, none⟩ = some v := cell_of hzb 0 rfl
  have d1 : w1.cell? ⟨z, 1, none⟩ = some (.map (some mb)) := cell_of hzb 1 rfl
  have f0 : w1.frozen? ⟨z, 0, none⟩ = false := free_of hzb 0
  have hst := store_new (p := p) hm1 HES.out HK.out
  have E : StoreEnd w z mb c p T l.length (l.map fun x => ky x.1) k v es _ w1 (.slice (some ⟨g, 0, none⟩) (l.length + 1) cap) := ⟨hown', hgrow, hnil, hat, rfl⟩
  have HE := hid E
  clear E hown' hgrow hnil hat hzb hm1 hrow
  go_wp2
  go_end0
  exact ⟨rfl, w1, _, HE.out⟩

/-- The world behind 'm.vals = map[interface{}]interface{}{}'. -/
abbrev made (w : World) (z : Nat) : World := (w.setCell ⟨z, 1, none⟩ (.map (some w.heap.size))).alloc (.map #[] 0)

theorem made_at {w : World} {z : Nat} {v : Value} (hc : w.heap[z]? = some (.cells #[v, .map none] 97 (0, 0))) : (made w z).heap[z]? = some (.cells #[v, .map (some w.heap.size)] 97 (0, 0)) := by
  have h1 : (w.setCell ⟨z, 1, none⟩ (.map (some w.heap.size))).heap[z]? = some (.cells #[v, .map (some w.heap.size)] 97 (0, 0)) := heap_setCell_at hc
  rw [Below.heap_alloc _ _ _ (lt_of_block h1)]; exact h1

theorem made_map (w : World) (z : Nat) : (made w z).heap[w.heap.size]? = some (.map #[] 0) := by
  have := heap_new (w.setCell ⟨z, 1, none⟩ (.map (some w.heap.size))) (.map #[] 0)
  rw [size_setCell] at this
  exact this

set_option maxHeartbeats 1000000 in
set_option maxRecDepth 100000 in
theorem store_first {w : World} {z p : Nat} {T : TypeId} {k : ByteArray}
    (hc : w.heap[z]? = some (.cells #[.slice none 0 0, .map none] 97 (0, 0))) :
    Calls Try.prog 44 #[pt z, .iface 9 (.string k), .iface T (pt p)] w fun e w' => e = .returned (.tuple #[]) ∧ ∃ v1w v', StoreEnd (made w z) z w.heap.size 0 p T 0 [] k (.slice none 0 0) #[] w' v1w v' := by
  obtain ⟨i0, hi, hz0, hz1, hz2⟩ := info_parts info20
  have hmm := @run_makeMap Try.prog
  have c0 : w.cell? ⟨z, 0, none⟩ = some (.slice none 0 0) := cell_of hc 0 rfl
  have c1 : w.cell? ⟨z, 1, none⟩ = some (.map none) := cell_of hc 1 rfl
  have f1 : w.frozen? ⟨z, 1, none⟩ = false := free_of hc 1
  have hlk := look_none (made_map w z) (MapIs.nil T) (k := k) (by simp)
  have hmn := fun w => run_eql_map_nil (P := Try.prog) w 95 _ _ none Try.underlying95
  have hzl : z < w.heap.size := lt_of_block hc
  have hrow : ((made w z).alloc (.cells #[ky k] 20)).ownsRow 0 20 1 (.slice none 0 0) 0 [] := World.ownsRow_nil _ _ _ _
  have HC := hid hc
  clear hc
  go_enter Try.func44, Try.ntmps44
  go_wp2_with (at_builtin; refine wpList_append_own_at _ rfl _ _ 94 rfl 0 20 i0 .nilIface 1 16 Try.underlying94 hi hz0 hz1 hz2 rfl (by decide) _ _ _ rfl hrow ⟨w.heap.size + 1, 0, none⟩ 1 1 [.iface 9 (.string k)] rfl rfl ?c1 ?c2 ?c3 ?c4 ?c5 ?_)
  case c1 =>
    intro j u hj
    match j, hj with
    | 0, hj =>
      simp at hj; subst hj
      have hn := heap_new (made w z) (.cells #[ky k] 20)
      rw [show (made w z).heap.size = w.heap.size + 1 from by rw [size_alloc, size_setCell]] at hn
      exact cell_of hn 0 rfl
  case c2 => intro u hu; simp at hu; subst hu; rfl
  case c3 => unfold maxLen; omega
  case c4 => omega
  case c5 => omega
  intro v' w1 hown' hgrow hnil hat
  obtain ⟨g, cap, rfl⟩ : ∃ g cap, v' = .slice (some ⟨g, 0, none⟩) 1 cap := by
    rcases hown'.2 with ⟨e, _⟩ | ⟨g, cap, _, e, _⟩
    · exact absurd e hnil
    · exact ⟨g, cap, e⟩
  have hml : w.heap.size < (made w z).heap.size := lt_of_block (made_map w z)
  have hzb : w1.heap[z]? = some (.cells #[.slice none 0 0, .map (some w.heap.size)] 97 (0, 0)) := by
    rw [hgrow.block z (by rw [size_alloc]; omega) (fun e => by cases e), Below.heap_alloc _ _ _ (by omega)]; exact made_at HC.out
  have hm1 : (w1.setCell ⟨z, 0, none⟩ (.slice (some ⟨g, 0, none⟩) 1 cap)).heap[w.heap.size]? = some (.map #[] 0) := by
    rw [Below.heap_setCell _ _ _ _ (by show w.heap.size ≠ z; omega), hgrow.block w.heap.size (by rw [size_alloc]; omega) (fun e => by cases e), Below.heap_alloc _ _ _ (by omega)]; exact made_map w z
  have d0 : w1.cell? ⟨z, 0, none⟩ = some (.slice none 0 0) := cell_of hzb 0 rfl
  have d1 : w1.cell? ⟨z, 1, none⟩ = some (.map (some w.heap.size)) := cell_of hzb 1 rfl
  have f0 : w1.frozen? ⟨z, 0, none⟩ = false := free_of hzb 0
  have hst := store_new (p := p) hm1 (MapIs.nil T) (k := k) (by simp)
  have E : StoreEnd (made w z) z w.heap.size 0 p T 0 [] k (.slice none 0 0) #[] _ w1 (.slice (some ⟨g, 0, none⟩) 1 cap) := ⟨hown', hgrow, hnil, by rw [size_alloc, size_setCell]; exact hat, rfl⟩
  have HE := hid E
  clear E hown' hgrow hnil hat hzb hm1 hrow
  go_wp2
  go_end0
  exact ⟨rfl, w1, _, HE.out⟩

theorem setBlock_at {w : World} {b : Nat} {o o' : Obj} (h : w.heap[b]? = some o) : (ChangeMaps.setBlock w b o').heap[b]? = some o' := by
  have hb : b < w.heap.size := lt_of_block h
  simp [ChangeMaps.setBlock, hb]
theorem setBlock_ne {w : World} {b x : Nat} {o' : Obj} (h : x ≠ b) : (ChangeMaps.setBlock w b o').heap[x]? = w.heap[x]? := by
  simp [ChangeMaps.setBlock, Ne.symm h]
theorem setBlock_size (w : World) (b : Nat) (o' : Obj) : (ChangeMaps.setBlock w b o').heap.size = w.heap.size := by simp [ChangeMaps.setBlock]
theorem setBlock_below {B : Nat} {w : World} {b : Nat} (o' : Obj) (h : B ≤ b) : Below B w (ChangeMaps.setBlock w b o') :=
  ⟨rfl, rfl, rfl, by rw [setBlock_size]; exact Nat.le_refl _, fun k hk => setBlock_ne (by omega)⟩

/-- From the raw end of a store to the objects. -/
theorem store_close {w0 w wm w' v1w : World} {own : Own} {H : Heap} {z mb c p : Nat} {tag : Nat × ByteArray × Nat} {T : TypeId} {l : List (ByteArray × Nat)} {k : ByteArray} {v v' : Value} {es : Array MapEntry}
    (h : RepO w0 own w H) (hz : own z = some z) (hb : Below w0.heap.size w wm) (hsame : ∀ x y, own x = some y → y ≠ z → wm.heap[x]? = w.heap[x]?)
    (hc : wm.heap[z]? = some (.cells #[v, .map (some mb)] 97 (0, 0))) (hm : wm.heap[mb]? = some (.map es c)) (hes : MapIs T es l)
    (hv : ∀ g, v.ownBlock = some g → own g = some z ∧ g ≠ z ∧ g ≠ mb) (hmb : own mb = some z ∨ w.heap.size ≤ mb)
    (E : StoreEnd wm z mb c p T l.length (l.map fun x => ky x.1) k v es w' v1w v') :
    Rep w0 w' (upd H z (.zm tag T (l ++ [(k, p)]))) := by
  have hzl : z < wm.heap.size := lt_of_block hc
  have hml : mb < wm.heap.size := lt_of_block hm
  have hzm : z ≠ mb := fun e => by subst e; rw [hc] at hm; cases hm
  have hdz := h.dom z z hz
  have hs0 := h.bel.size
  have hmb0 : w0.heap.size ≤ mb := by rcases hmb with e | e; exact (h.dom _ _ e).1; omega
  have hv0 : ∀ g, v.ownBlock = some g → w0.heap.size ≤ g := fun g e => (h.dom _ _ (hv g e).1).1
  have bl : Below w0.heap.size wm v1w := by
    have b1 : Below w0.heap.size wm (wm.alloc (.cells #[ky k] 20)) := (Below.refl _ _).alloc (by have := hb.size; omega) _
    exact b1.grown E.grown (by rw [size_alloc]; have := hb.size; omega) (fun j hj => hv0 j hj)
  have hblk : ∀ x, x < wm.heap.size → v.ownBlock ≠ some x → v1w.heap[x]? = wm.heap[x]? := fun x hx hn => by
    rw [E.grown.block x (by rw [size_alloc]; omega) (fun e => hn e.symm), Below.heap_alloc _ _ _ hx]
  have hvz : v.ownBlock ≠ some z := fun e => (hv z e).2.1 rfl
  have hvm : v.ownBlock ≠ some mb := fun e => (hv mb e).2.2 rfl
  have z1 : v1w.heap[z]? = some (.cells #[v, .map (some mb)] 97 (0, 0)) := (hblk z hzl hvz).trans hc
  have m1 : (v1w.setCell ⟨z, 0, none⟩ v').heap[mb]? = some (.map es c) := by
    rw [Below.heap_setCell _ _ _ _ (fun e => hzm e.symm)]; exact (hblk mb hml hvm).trans hm
  have hsz : wm.heap.size ≤ v1w.heap.size := bl.size
  have hw' := E.end_
  have blw : Below w0.heap.size w w' := by
    rw [hw']
    exact (((hb.trans bl).setCell hdz.1 _).trans (setBlock_below _ hmb0))
  -- the new row's block
  obtain ⟨g, cap, cur, hvg, _, hgc, _, hcap, hcur⟩ : ∃ g cap cur, v' = .slice (some ⟨g, 0, none⟩) (l.length + 1) cap ∧ 0 ≤ g ∧ v1w.heap[g]? = some (.cells cur 20 (0, 0)) ∧ l.length + 1 ≤ cap ∧ cur.size = cap * 1 ∧ True := by
    rcases E.row.2 with ⟨e, _⟩ | ⟨g, cap, cur, e, hg, hh, hc1, _, hc3, _⟩
    · exact absurd e E.some
    · exact ⟨g, cap, cur, e, hg, hh, hc1, hc3, trivial⟩
  have hgz : g ≠ z := fun e => by subst e; rw [z1] at hgc; cases hgc
  have hgm : g ≠ mb := fun e => by
    subst e
    rw [hblk _ hml hvm, hm] at hgc; cases hgc
  have hg : v'.ownBlock = some g := by rw [hvg]; rfl
  have hgat : own g = some z ∨ wm.heap.size ≤ g := by
    rcases E.at_ with e | e
    · exact .inl (hv g (e.symm.trans hg)).1
    · right
      rw [hg] at e
      cases e; omega
  have hgl : g < v1w.heap.size := lt_of_block hgc
  have hwsz : w'.heap.size = v1w.heap.size := by rw [hw', setBlock_size, size_setCell]
  have hwm := hb.size
  have hg0 : w0.heap.size ≤ g := by rcases hgat with e | e; exact (h.dom _ _ e).1; omega
  refine ⟨fun x => if x = g ∨ x = mb then some z else own x, h.change blw (fun x y hx hy => ?_) (fun x y hx hy => ?_) (fun x y hx => ?_) ?_ ⟨v', some mb, ?_, ?_, ?_, ?_, ?_⟩⟩
  · have hxz : x ≠ z := fun e => by subst e; rw [hz] at hx; cases hx; exact hy rfl
    have hdx := h.dom x y hx
    have hxm : x ≠ mb := fun e => by
      subst e
      rcases hmb with e | e
      · rw [e] at hx; cases hx; exact hy rfl
      · omega
    have hxv : v.ownBlock ≠ some x := fun e => by
      have := (hv x e).1
      rw [this] at hx; cases hx; exact hy rfl
    rw [hw', setBlock_ne hxm, Below.heap_setCell _ _ _ _ (by exact hxz), hblk x (by omega) hxv]
    exact hsame x y hx hy
  · have hdx := h.dom x y hx
    show (if x = g ∨ x = mb then some z else own x) = some y
    rw [if_neg]
    · exact hx
    · rintro (e | e)
      · subst e
        rcases hgat with e | e
        · rw [e] at hx; cases hx; exact hy rfl
        · omega
      · subst e
        rcases hmb with e | e
        · rw [e] at hx; cases hx; exact hy rfl
        · omega
  · rw [hwsz]
    by_cases e : x = g ∨ x = mb
    · rcases e with e | e
      · subst e; exact ⟨hg0, hgl⟩
      · subst e; exact ⟨hmb0, by omega⟩
    · simp only [if_neg e] at hx
      have := h.dom x y hx
      omega
  · show (if z = g ∨ z = mb then some z else own z) = some z
    split
    · rfl
    · exact hz
  · rw [hw', setBlock_ne (fun e => hzm e)]
    exact heap_setCell_at z1
  · have hr : v1w.ownsRow 0 20 1 v' (l ++ [(k, p)]).length ((l ++ [(k, p)]).map fun x => ky x.1) := by simpa using E.row
    refine ownsRow_same hr (fun x hx => ?_)
    rw [hg] at hx; cases hx
    rw [hw', setBlock_ne hgm, Below.heap_setCell _ _ _ _ (by exact hgz)]
  · intro e; simp at e
  · intro x hx
    rw [hg] at hx; cases hx
    simp
  · refine .inr ⟨mb, _, c + 1, rfl, by simp, ?_, hes.push k p c⟩
    rw [hw']
    exact setBlock_at m1

/-- STORE under a key that is new. -/
theorem store {w0 w : World} {H : Heap} {z p : Nat} {tag : Nat × ByteArray × Nat} {T : TypeId} {l : List (ByteArray × Nat)} {k : ByteArray} (h : Rep w0 w H) (hz : H z = some (.zm tag T l)) (hk : ∀ x ∈ l, x.1 ≠ k) (hl : l.length < 1000000) :
    Calls Try.prog 44 #[pt z, .iface 9 (.string k), .iface T (pt p)] w fun e w' => e = .returned (.tuple #[]) ∧ Rep w0 w' (upd H z (.zm tag T (l ++ [(k, p)]))) := by
  obtain ⟨own, h⟩ := h
  obtain ⟨hoz, v, M, hv⟩ := h.rep z _ hz
  have hd := h.dom z z hoz
  have hs0 := h.bel.size
  rcases hv.map with ⟨rfl, rfl⟩ | ⟨mb, es, c, rfl, hom, hb, hm⟩
  · have hvn := hv.nil rfl
    subst hvn
    refine (store_first (p := p) (T := T) (k := k) hv.blk).mono ?_
    rintro e w' ⟨rfl, v1w, v', E⟩
    refine ⟨rfl, store_close (tag := tag) (es := #[]) h hoz ?_ ?_ (made_at hv.blk) (made_map w z) (MapIs.nil T) (fun g hg => by cases hg) (.inr (Nat.le_refl _)) E⟩
    · exact ((Below.refl _ _).setCell hd.1 _).alloc (by rw [size_setCell]; exact hs0) _
    · intro x y hx hy
      have hxz : x ≠ z := fun e => by subst e; rw [hoz] at hx; cases hx; exact hy rfl
      rw [Below.heap_alloc _ _ _ (by rw [size_setCell]; exact (h.dom x y hx).2), Below.heap_setCell _ _ _ _ (by exact hxz)]
  · have hvz : ∀ g, v.ownBlock = some g → own g = some z ∧ g ≠ z ∧ g ≠ mb := fun g hg => by
      obtain ⟨cur, hcur⟩ : ∃ cur, w.heap[g]? = some (.cells cur 20 (0, 0)) := by
        rcases hv.row.2 with ⟨e, _⟩ | ⟨g', cap, cur, e, _, hh, _⟩
        · rw [e] at hg; cases hg
        · rw [e] at hg; cases hg; exact ⟨cur, hh⟩
      exact ⟨hv.ownv g hg, (fun e => by subst e; rw [hv.blk] at hcur; cases hcur), (fun e => by subst e; rw [hb] at hcur; cases hcur)⟩
    refine (store_more (p := p) hv.blk hb hm hk hv.row (fun g hg => (hvz g hg).2) hl).mono ?_
    rintro e w' ⟨rfl, v1w, v', E⟩
    exact ⟨rfl, store_close h hoz (Below.refl _ _) (fun _ _ _ _ => rfl) hv.blk hb hm hvz (.inl hom) E⟩

end Go.Proofs.Ytpdejkalcminbaa.Zm
