/- A heap read as objects: blocks as they lie, ordered maps of the package (zzMap), variables that hold a slice of strings. What allocations, draws and stores do to such a reading. -/
import Derived.Test.YtpdejkalcminbaaHm
import Derived.Deep.Draws
namespace Go.Proofs.Ytpdejkalcminbaa.Hp
open Go.RowKit Go.Proofs.Ytpdejkalcminbaa.Hm

/-- A fact laid aside: no rule of the walk's. -/
structure Aside (p : Prop) : Prop where mk :: (out : p)
theorem hid {p : Prop} (h : p) : Aside p := ⟨h⟩

/-- An object: a block as it lies; a zzMap with its keys and what they lead to; a variable that holds a slice of strings. The tag is for us alone: it keeps maps apart. -/
inductive Ob where
  | raw (o : Obj)
  | zm (tag : Nat × ByteArray × Nat) (T : TypeId) (l : List (ByteArray × Nat))
  | strs (v : Value) (l : List ByteArray)

/-- The objects by their blocks. -/
abbrev Heap := Nat → Option Ob

def upd (H : Heap) (b : Nat) (o : Ob) : Heap := fun x => if x = b then some o else H x

theorem upd_at (H : Heap) (b : Nat) (o : Ob) : upd H b o b = some o := by simp [upd]
theorem upd_ne {H : Heap} {b x : Nat} {o : Ob} (h : x ≠ b) : upd H b o x = H x := by simp [upd, h]

/-- Which object a block belongs to. -/
abbrev Own := Nat → Option Nat

structure ZmAt (w : World) (own : Own) (b : Nat) (T : TypeId) (l : List (ByteArray × Nat)) (v : Value) (M : Option Nat) : Prop where
  blk : w.heap[b]? = some (.cells #[v, .map M] 97 (0, 0))
  row : w.ownsRow 0 20 1 v l.length (l.map fun x => ky x.1)
  nil : l = [] → v = .slice none 0 0
  ownv : ∀ k, v.ownBlock = some k → own k = some b
  map : (M = none ∧ l = []) ∨ ∃ mb es c, M = some mb ∧ own mb = some b ∧ w.heap[mb]? = some (.map es c) ∧ MapIs T es l

structure StrsAt (w : World) (own : Own) (b : Nat) (v : Value) (l : List ByteArray) : Prop where
  blk : w.heap[b]? = some (.cells #[v] 24 (0, 0))
  row : w.ownsRow 0 9 1 v l.length (l.map Value.string)
  nil : l = [] → v = .slice none 0 0
  ownv : ∀ k, v.ownBlock = some k → own k = some b

def ObRep (w : World) (own : Own) (b : Nat) : Ob → Prop
  | .raw o => w.heap[b]? = some o
  | .zm _ T l => ∃ v M, ZmAt w own b T l v M
  | .strs v l => StrsAt w own b v l

theorem ownsRow_same {w w' : World} {base : Nat} {e : TypeId} {size : Nat} {v : Value} {n : Nat} {xs : List Value} (h : w.ownsRow base e size v n xs) (hs : ∀ k, v.ownBlock = some k → w'.heap[k]? = w.heap[k]?) : w'.ownsRow base e size v n xs := by
  obtain ⟨h1, h2⟩ := h
  refine ⟨h1, ?_⟩
  rcases h2 with h2 | ⟨g, cap, cur, hv, hg, hh, r⟩
  · exact Or.inl h2
  · exact Or.inr ⟨g, cap, cur, hv, hg, by rw [hs g (by rw [hv]; rfl)]; exact hh, r⟩

theorem ObRep.frame {w w' : World} {own own' : Own} {b : Nat} {o : Ob} (h : ObRep w own b o) (hb : own b = some b) (hs : ∀ x, own x = some b → w'.heap[x]? = w.heap[x]?) (ho : ∀ x, own x = some b → own' x = some b) : ObRep w' own' b o := by
  cases o with
  | raw o => exact (hs b hb).trans h
  | zm t T l =>
    obtain ⟨v, M, hz⟩ := h
    refine ⟨v, M, (hs b hb).trans hz.blk, ownsRow_same hz.row (fun k hk => hs k (hz.ownv k hk)), hz.nil, fun k hk => ho k (hz.ownv k hk), ?_⟩
    rcases hz.map with h1 | ⟨mb, es, c, h1, h2, h3, h4⟩
    · exact .inl h1
    · exact .inr ⟨mb, es, c, h1, ho mb h2, (hs mb h2).trans h3, h4⟩
  | strs v l =>
    have hz : StrsAt w own b v l := h
    exact ⟨(hs b hb).trans hz.blk, ownsRow_same hz.row (fun k hk => hs k (hz.ownv k hk)), hz.nil, fun k hk => ho k (hz.ownv k hk)⟩

structure RepO (w0 : World) (own : Own) (w : World) (H : Heap) : Prop where
  bel : Below w0.heap.size w0 w
  rep : ∀ b o, H b = some o → own b = some b ∧ ObRep w own b o
  dom : ∀ x y, own x = some y → w0.heap.size ≤ x ∧ x < w.heap.size

/-- The world w, in which what lay in w0 lies as it did, holds the objects H. -/
def Rep (w0 w : World) (H : Heap) : Prop := ∃ own, RepO w0 own w H

theorem RepO.change {w0 w w3 : World} {own own' : Own} {H : Heap} {z : Nat} {o' : Ob} (h : RepO w0 own w H) (hb : Below w0.heap.size w w3)
    (hsame : ∀ x y, own x = some y → y ≠ z → w3.heap[x]? = w.heap[x]?)
    (hown : ∀ x y, own x = some y → y ≠ z → own' x = some y)
    (hdom : ∀ x y, own' x = some y → w0.heap.size ≤ x ∧ x < w3.heap.size)
    (hz : own' z = some z) (ho : ObRep w3 own' z o') : RepO w0 own' w3 (upd H z o') := by
  refine ⟨h.bel.trans hb, fun b o hH => ?_, hdom⟩
  by_cases e : b = z
  · subst e
    rw [upd_at] at hH
    cases hH
    exact ⟨hz, ho⟩
  · rw [upd_ne e] at hH
    obtain ⟨h1, h2⟩ := h.rep b o hH
    exact ⟨hown b b h1 e, h2.frame h1 (fun x hx => hsame x b hx e) (fun x hx => hown x b hx e)⟩

theorem RepO.same {w0 w w3 : World} {own : Own} {H : Heap} (h : RepO w0 own w H) (hb : Below w0.heap.size w w3) (hsame : ∀ x y, own x = some y → w3.heap[x]? = w.heap[x]?) : RepO w0 own w3 H :=
  ⟨h.bel.trans hb, fun b o hH => ⟨(h.rep b o hH).1, (h.rep b o hH).2.frame (h.rep b o hH).1 (fun x hx => hsame x b hx) (fun _ hx => hx)⟩,
    fun x y hx => ⟨(h.dom x y hx).1, Nat.lt_of_lt_of_le (h.dom x y hx).2 hb.size⟩⟩

theorem Rep.bel {w0 w : World} {H : Heap} (h : Rep w0 w H) : Below w0.heap.size w0 w := h.choose_spec.bel

theorem Rep.drew {w0 w : World} {H : Heap} (h : Rep w0 w H) : Rep w0 w.drew H := by
  obtain ⟨own, h⟩ := h
  exact ⟨own, h.same (Below.refl _ _).drew (fun _ _ _ => rfl)⟩

theorem Rep.drewN {w0 w : World} {H : Heap} (h : Rep w0 w H) (n : Nat) : Rep w0 (w.drewN n) H := by
  obtain ⟨own, h⟩ := h
  exact ⟨own, h.same ⟨rfl, rfl, rfl, Nat.le_refl _, fun _ _ => rfl⟩ (fun _ _ _ => rfl)⟩

/-- A new block that nobody looks at. -/
theorem Rep.alloc {w0 w : World} {H : Heap} (h : Rep w0 w H) (o : Obj) : Rep w0 (w.alloc o) H := by
  obtain ⟨own, h⟩ := h
  exact ⟨own, h.same ((Below.refl _ _).alloc h.bel.size _) (fun x y hx => Below.heap_alloc _ _ _ (h.dom x y hx).2)⟩

theorem heap_new (w : World) (o : Obj) : (w.alloc o).heap[w.heap.size]? = some o := by
  show (w.heap.push o)[w.heap.size]? = _
  rw [Array.getElem?_push, if_pos rfl]

theorem size_alloc (w : World) (o : Obj) : (w.alloc o).heap.size = w.heap.size + 1 := by
  show (w.heap.push o).size = _
  rw [Array.size_push]

/-- A new block that is an object. -/
theorem Rep.new {w0 w : World} {H : Heap} (h : Rep w0 w H) (o : Obj) (ob : Ob) (ho : ∀ own w', w'.heap[w.heap.size]? = some o → ObRep w' own w.heap.size ob) {n : Nat} (hn : n = w.heap.size) : Rep w0 (w.alloc o) (upd H n ob) := by
  subst hn
  obtain ⟨own, h⟩ := h
  refine ⟨fun x => if x = w.heap.size then some w.heap.size else own x, h.change ((Below.refl _ _).alloc h.bel.size _) (fun x y hx _ => Below.heap_alloc _ _ _ (h.dom x y hx).2) (fun x y hx _ => ?_) (fun x y hx => ?_) (by simp) (ho _ _ (heap_new w o))⟩
  · have := (h.dom x y hx).2
    show (if x = w.heap.size then some w.heap.size else own x) = some y
    rw [if_neg (by omega)]; exact hx
  · rw [size_alloc]
    have hs := h.bel.size
    by_cases e : x = w.heap.size
    · subst e; omega
    · simp only [if_neg e] at hx
      have := h.dom x y hx
      omega

theorem Rep.raw {w0 w : World} {H : Heap} (h : Rep w0 w H) (o : Obj) {n : Nat} (hn : n = w.heap.size) : Rep w0 (w.alloc o) (upd H n (.raw o)) :=
  h.new o (.raw o) (fun _ _ hw => hw) hn

theorem Rep.zmNew {w0 w : World} {H : Heap} (h : Rep w0 w H) (tag : Nat × ByteArray × Nat) (T : TypeId) {n : Nat} (hn : n = w.heap.size) :
    Rep w0 (w.alloc (.cells #[.slice none 0 0, .map none] 97)) (upd H n (.zm tag T [])) :=
  h.new _ (.zm tag T []) (fun _ _ hw => ⟨_, _, hw, World.ownsRow_nil _ _ _ _, fun _ => rfl, (fun k hk => by cases hk), .inl ⟨rfl, rfl⟩⟩) hn

theorem Rep.strsNew {w0 w : World} {H : Heap} (h : Rep w0 w H) {n : Nat} (hn : n = w.heap.size) :
    Rep w0 (w.alloc (.cells #[.slice none 0 0] 24)) (upd H n (.strs (.slice none 0 0) [])) :=
  h.new _ (.strs (.slice none 0 0) []) (fun _ _ hw => ⟨hw, World.ownsRow_nil _ _ _ _, fun _ => rfl, fun k hk => by cases hk⟩) hn

theorem Rep.lt {w0 w : World} {H : Heap} (h : Rep w0 w H) {b : Nat} {o : Ob} (hb : H b = some o) : w0.heap.size ≤ b ∧ b < w.heap.size := by
  obtain ⟨own, h⟩ := h
  exact h.dom b b (h.rep b o hb).1

theorem Rep.fresh {w0 w : World} {H : Heap} (h : Rep w0 w H) {b : Nat} (hb : w.heap.size ≤ b) : H b = none := by
  cases e : H b with
  | none => rfl
  | some o => have := (h.lt e).2; omega

theorem Rep.at {w0 w : World} {H : Heap} (h : Rep w0 w H) {b : Nat} {o : Obj} (hb : H b = some (.raw o)) : w.heap[b]? = some o := by
  obtain ⟨own, h⟩ := h
  exact (h.rep b _ hb).2

theorem cell_of {w : World} {b : Nat} {cs : Array Value} {T : TypeId} {fr : Nat × Nat} (h : w.heap[b]? = some (.cells cs T fr)) (o : Nat) {v : Value} (hv : cs[o]? = some v) : w.cell? ⟨b, o, none⟩ = some v := by
  simp [World.cell?, h, hv]

theorem free_of {w : World} {b : Nat} {cs : Array Value} {T : TypeId} (h : w.heap[b]? = some (.cells cs T (0, 0))) (o : Nat) : w.frozen? ⟨b, o, none⟩ = false := by
  simp [World.frozen?, h]

theorem heap_setCell_at {w : World} {b o : Nat} {cs : Array Value} {T : TypeId} {fr : Nat × Nat} {v : Value} (h : w.heap[b]? = some (.cells cs T fr)) : (w.setCell ⟨b, o, none⟩ v).heap[b]? = some (.cells (cs.setIfInBounds o v) T fr) := by
  simp [World.setCell, Array.getElem?_modify, h]

theorem size_setCell (w : World) (a : Addr) (v : Value) : (w.setCell a v).heap.size = w.heap.size := by simp [World.setCell]

/-- A store into a block that lies as it is. -/
theorem Rep.set {w0 w : World} {H : Heap} (h : Rep w0 w H) {b o : Nat} {cs : Array Value} {T : TypeId} {fr : Nat × Nat} (hb : H b = some (.raw (.cells cs T fr))) (v : Value) :
    Rep w0 (w.setCell ⟨b, o, none⟩ v) (upd H b (.raw (.cells (cs.setIfInBounds o v) T fr))) := by
  have hw := h.at hb
  obtain ⟨own, h⟩ := h
  have hob := (h.rep b _ hb).1
  have hdb := h.dom b b hob
  refine ⟨own, h.change ((Below.refl _ _).setCell hdb.1 _) (fun x y hx hy => Below.heap_setCell _ _ _ _ (fun e => ?_)) (fun _ _ hx _ => hx) (fun x y hx => ?_) hob (heap_setCell_at hw)⟩
  · simp only at e
    subst e
    rw [hob] at hx
    exact hy (by cases hx; rfl)
  · rw [size_setCell]; exact h.dom x y hx

/-- The world behind a call of the law's end: nothing that was there has turned. -/
theorem Rep.start (w0 : World) : Rep w0 w0 (fun _ => none) :=
  ⟨fun _ => none, ⟨Below.refl _ _, (fun _ _ h => by cases h), (fun _ _ h => by cases h)⟩⟩

/-- H' holds all that H holds. -/
def Ext (H H' : Heap) : Prop := ∀ b o, H b = some o → H' b = some o
theorem Ext.refl (H : Heap) : Ext H H := fun _ _ h => h
theorem Ext.trans {A B C : Heap} (h : Ext A B) (k : Ext B C) : Ext A C := fun b o hb => k b o (h b o hb)
theorem Ext.upd {A B : Heap} (h : Ext A B) {b : Nat} (hb : A b = none) (o : Ob) : Ext A (upd B b o) := fun x o' hx => by
  have : x ≠ b := fun e => by subst e; rw [hb] at hx; cases hx
  rw [upd_ne this]; exact h x o' hx

/-- H' holds all that H holds but for the maps whose tag begins with r. -/
def Keep (r : Nat) (H H' : Heap) : Prop := ∀ b o, H b = some o → (∀ n i T l, o ≠ .zm (r, n, i) T l) → H' b = some o
theorem Keep.refl (r : Nat) (H : Heap) : Keep r H H := fun _ _ h _ => h
theorem Keep.trans {r : Nat} {A B C : Heap} (h : Keep r A B) (k : Keep r B C) : Keep r A C := fun b o hb ho => k b o (h b o hb ho) ho
theorem Ext.keep {A B : Heap} (h : Ext A B) (r : Nat) : Keep r A B := fun b o hb _ => h b o hb
theorem Keep.updZm {r : Nat} {A B : Heap} (h : Keep r A B) {z i : Nat} {n : ByteArray} {T : TypeId} {l l' : List (ByteArray × Nat)} (hz : B z = some (.zm (r, n, i) T l)) : Keep r A (Hp.upd B z (.zm (r, n, i) T l')) := fun b o hb ho => by
  have hB := h b o hb ho
  have : b ≠ z := fun e => by subst e; rw [hz] at hB; cases hB; exact ho n i T l rfl
  rw [upd_ne this]; exact hB
/-- What any heap keeps that turned at one map alone. -/
theorem Keep.one {r : Nat} {A : Heap} {z i : Nat} {n : ByteArray} {T : TypeId} {l l' : List (ByteArray × Nat)} (hz : A z = some (.zm (r, n, i) T l)) : Keep r A (upd A z (.zm (r, n, i) T l')) := (Keep.refl r A).updZm hz

/-- Objects that nobody asks for any more. -/
theorem Rep.less {w0 w : World} {H H' : Heap} (h : Rep w0 w H') (hs : Ext H H') : Rep w0 w H := by
  obtain ⟨own, h⟩ := h
  exact ⟨own, h.bel, fun b o hb => h.rep b o (hs b o hb), h.dom⟩

/-- New blocks, one of which becomes an object. -/
theorem Rep.grow {w0 w w1 : World} {H : Heap} (h : Rep w0 w H) (hg : w.grownBy w1 none) {g : Nat} {o : Obj} (hgs : w.heap.size ≤ g) (ho : w1.heap[g]? = some o) : Rep w0 w1 (upd H g (.raw o)) := by
  obtain ⟨own, h⟩ := h
  have hs := h.bel.size
  have hgl : g < w1.heap.size := lt_of_block ho
  refine ⟨fun x => if x = g then some g else own x, h.change ((Below.refl _ _).grown hg hs (fun k hk => by cases hk)) (fun x y hx _ => hg.block x (h.dom x y hx).2 (fun e => by cases e)) (fun x y hx _ => ?_) (fun x y hx => ?_) (by simp) ho⟩
  · have := (h.dom x y hx).2
    show (if x = g then some g else own x) = some y
    rw [if_neg (by omega)]; exact hx
  · by_cases e : x = g
    · subst e; omega
    · simp only [if_neg e] at hx
      have := h.dom x y hx
      have := hg.size
      omega

end Go.Proofs.Ytpdejkalcminbaa.Hp
