/- A manager of roles as objects: its names, its links; getRole and AddLink. -/
import Derived.Test.YtpdejkalcminbaaRo
namespace Go.Proofs.Ytpdejkalcminbaa.Rm
open Go.RowKit Go.Proofs.Ytpdejkalcminbaa.Hm Go.Proofs.Ytpdejkalcminbaa.Hp Go.Proofs.Ytpdejkalcminbaa.Zm Go.Proofs.Ytpdejkalcminbaa.Mk Go.Proofs.Ytpdejkalcminbaa.Ro

/-- The roles that a name has, and the names that have a role, by one link, in the order of the links. -/
def up (L : List (ByteArray × ByteArray)) (n : ByteArray) : List ByteArray := (L.filter (fun x => x.1 == n)).map (·.2)
def down (L : List (ByteArray × ByteArray)) (n : ByteArray) : List ByteArray := (L.filter (fun x => x.2 == n)).map (·.1)

theorem mem_up {L : List (ByteArray × ByteArray)} {n m : ByteArray} : m ∈ up L n ↔ (n, m) ∈ L := by
  unfold up
  simp only [List.mem_map, List.mem_filter, beq_iff_eq]
  constructor
  · rintro ⟨⟨a, b⟩, ⟨h, rfl⟩, rfl⟩; exact h
  · intro h; exact ⟨(n, m), ⟨h, rfl⟩, rfl⟩
theorem mem_down {L : List (ByteArray × ByteArray)} {n m : ByteArray} : m ∈ down L n ↔ (m, n) ∈ L := by
  unfold down
  simp only [List.mem_map, List.mem_filter, beq_iff_eq]
  constructor
  · rintro ⟨⟨a, b⟩, ⟨h, rfl⟩, rfl⟩; exact h
  · intro h; exact ⟨(m, n), ⟨h, rfl⟩, rfl⟩

/-- Where the parts of a manager of roles lie. -/
structure Ptr where
  all : Nat
  lg : Value
  ca : Value
  ro : ByteArray → Nat
  za : ByteArray → Nat
  zb : ByteArray → Nat
  zc : ByteArray → Nat
  zd : ByteArray → Nat
  rx : ByteArray → Value
  ry : ByteArray → Value

structure RMp (P : Ptr) (H : Heap) (r : Nat) (names : List ByteArray) (L : List (ByteArray × ByteArray)) : Prop where
  r_ : H r = some (rmO P.all P.lg P.ca)
  all_ : H P.all = some (.zm (r, none', 0) 78 (names.map fun n => (n, P.ro n)))
  ro_ : ∀ n ∈ names, H (P.ro n) = some (roO n (P.za n) (P.zb n) (P.zc n) (P.zd n) (P.rx n) (P.ry n))
  a_ : ∀ n ∈ names, H (P.za n) = some (.zm (r, n, 1) 78 ((up L n).map fun m => (m, P.ro m)))
  b_ : ∀ n ∈ names, H (P.zb n) = some (.zm (r, n, 2) 78 ((down L n).map fun m => (m, P.ro m)))
  c_ : ∀ n ∈ names, H (P.zc n) = some (.zm (r, n, 3) 78 [])
  d_ : ∀ n ∈ names, H (P.zd n) = some (.zm (r, n, 4) 78 [])
  nd : names.Nodup
  ndL : L.Nodup
  lk : ∀ x ∈ L, x.1 ∈ names ∧ x.2 ∈ names

theorem RMp.up_none {P : Ptr} {H : Heap} {r : Nat} {names : List ByteArray} {L : List (ByteArray × ByteArray)} (R : RMp P H r names L) {n : ByteArray} (hn : n ∉ names) : up L n = [] := by
  cases h : up L n with
  | nil => rfl
  | cons m l => exact absurd (R.lk _ (mem_up.mp (by rw [h]; exact List.mem_cons_self))).1 hn
theorem RMp.down_none {P : Ptr} {H : Heap} {r : Nat} {names : List ByteArray} {L : List (ByteArray × ByteArray)} (R : RMp P H r names L) {n : ByteArray} (hn : n ∉ names) : down L n = [] := by
  cases h : down L n with
  | nil => rfl
  | cons m l => exact absurd (R.lk _ (mem_down.mp (by rw [h]; exact List.mem_cons_self))).2 hn

/-- The same manager in a heap that keeps what was there. -/
theorem RMp.ext {P : Ptr} {H H' : Heap} {r : Nat} {names : List ByteArray} {L : List (ByteArray × ByteArray)} (R : RMp P H r names L) (h : Ext H H') : RMp P H' r names L :=
  ⟨h _ _ R.r_, h _ _ R.all_, fun n hn => h _ _ (R.ro_ n hn), fun n hn => h _ _ (R.a_ n hn), fun n hn => h _ _ (R.b_ n hn), fun n hn => h _ _ (R.c_ n hn), fun n hn => h _ _ (R.d_ n hn), R.nd, R.ndL, R.lk⟩

theorem zm_ne {r r' i : Nat} {T : TypeId} {l : List (ByteArray × Nat)} {n : ByteArray} (h : r' ≠ r) : ∀ n' i' T' l', Ob.zm (r', n, i) T l ≠ .zm (r, n', i') T' l' := fun n' i' T' l' e => by
  cases e; exact h rfl

/-- Another manager's links are not touched. -/
theorem RMp.keep {P : Ptr} {H H' : Heap} {r r' : Nat} {names : List ByteArray} {L : List (ByteArray × ByteArray)} (R : RMp P H r' names L) (h : Keep r H H') (hr : r' ≠ r) : RMp P H' r' names L :=
  ⟨h _ _ R.r_ (fun _ _ _ _ e => by cases e), h _ _ R.all_ (zm_ne hr), fun n hn => h _ _ (R.ro_ n hn) (fun _ _ _ _ e => by cases e), fun n hn => h _ _ (R.a_ n hn) (zm_ne hr), fun n hn => h _ _ (R.b_ n hn) (zm_ne hr), fun n hn => h _ _ (R.c_ n hn) (zm_ne hr), fun n hn => h _ _ (R.d_ n hn) (zm_ne hr), R.nd, R.ndL, R.lk⟩

def Ptr.ins (P : Ptr) (n : ByteArray) (p a b c d : Nat) (x y : Value) : Ptr :=
  { P with ro := fun m => if m = n then p else P.ro m, za := fun m => if m = n then a else P.za m, zb := fun m => if m = n then b else P.zb m, zc := fun m => if m = n then c else P.zc m, zd := fun m => if m = n then d else P.zd m, rx := fun m => if m = n then x else P.rx m, ry := fun m => if m = n then y else P.ry m }

structure GotRole (w0 : World) (P : Ptr) (H : Heap) (r : Nat) (names : List ByteArray) (L : List (ByteArray × ByteArray)) (n : ByteArray) (w' : World) (P' : Ptr) (H' : Heap) : Prop where
  rep : Rep w0 w' H'
  rm : RMp P' H' r (names ++ [n]) L
  keep : Keep r H H'
  same : ∀ m ∈ names, P'.ro m = P.ro m
  fresh : H (P'.ro n) = none

theorem map_same {names : List ByteArray} {f g : ByteArray → Nat} (h : ∀ m ∈ names, g m = f m) : (names.map fun m => (m, g m)) = names.map fun m => (m, f m) :=
  List.map_congr_left fun m hm => by rw [h m hm]

/-- The heap behind getRole of a new name. -/
theorem got_new {w0 w' : World} {P : Ptr} {H H1 : Heap} {r N : Nat} {names : List ByteArray} {L : List (ByteArray × ByteArray)} {n : ByteArray} {p a b c d : Nat} {x y : Value} {w1 : World} {bx bx' : Obj} (R : RMp P H r names L) (hn : n ∉ names)
    (hN : H N = none) (NR : NewRo w0 (upd H N (.raw bx)) w1 r n p a b c d x y H1)
    (hrep : Rep w0 w' (upd (upd H1 N (.raw bx')) P.all (.zm (r, none', 0) 78 ((names.map fun n => (n, P.ro n)) ++ [(n, p)])))) :
    GotRole w0 P H r names L n w' (P.ins n p a b c d x y) (upd (upd H1 N (.raw bx')) P.all (.zm (r, none', 0) 78 ((names.map fun n => (n, P.ro n)) ++ [(n, p)]))) := by
  have e1 : Ext H H1 := ((Ext.refl H).upd hN _).trans NR.ext
  have hH1N : H1 N = some (.raw bx) := NR.ext _ _ (upd_at _ _ _)
  have e2 : Ext H (upd H1 N (.raw bx')) := e1.upd hN _
  have hall2 : upd H1 N (.raw bx') P.all = some (.zm (r, none', 0) 78 (names.map fun n => (n, P.ro n))) := e2 _ _ R.all_
  have k3 : Keep r H (upd (upd H1 N (.raw bx')) P.all (.zm (r, none', 0) 78 ((names.map fun n => (n, P.ro n)) ++ [(n, p)]))) := (e2.keep r).updZm hall2
  have hsame : ∀ m ∈ names, (P.ins n p a b c d x y).ro m = P.ro m := fun m hm => by
    have : m ≠ n := fun e => hn (e ▸ hm)
    simp [Ptr.ins, this]
  have hpN : p ≠ N := fun e => by have := NR.new; rw [e, upd_at] at this; cases this
  have hall1 : H1 P.all = some (.zm (r, none', 0) 78 (names.map fun n => (n, P.ro n))) := e1 _ _ R.all_
  have new1 : ∀ q o, H1 q = some o → (∀ o', o ≠ .raw o') → (∀ T l, o ≠ .zm (r, none', 0) T l) → upd (upd H1 N (.raw bx')) P.all (.zm (r, none', 0) 78 ((names.map fun n => (n, P.ro n)) ++ [(n, p)])) q = some o := fun q o hq h1 h2 => by
    have q1 : q ≠ P.all := fun e => by rw [e, hall1] at hq; cases hq; exact h2 _ _ rfl
    have q2 : q ≠ N := fun e => by rw [e, hH1N] at hq; cases hq; exact h1 _ rfl
    rw [upd_ne q1, upd_ne q2]; exact hq
  have old : ∀ q m i l, m ∈ names → H q = some (.zm (r, m, i + 1) 78 l) → upd (upd H1 N (.raw bx')) P.all (.zm (r, none', 0) 78 ((names.map fun n => (n, P.ro n)) ++ [(n, p)])) q = some (.zm (r, m, i + 1) 78 l) := fun q m i l _ hq =>
    new1 q _ (e1 _ _ hq) (fun _ e => by cases e) (fun _ _ e => by cases e)
  have ins_n : (P.ins n p a b c d x y).ro n = p ∧ (P.ins n p a b c d x y).za n = a ∧ (P.ins n p a b c d x y).zb n = b ∧ (P.ins n p a b c d x y).zc n = c ∧ (P.ins n p a b c d x y).zd n = d ∧ (P.ins n p a b c d x y).rx n = x ∧ (P.ins n p a b c d x y).ry n = y := by simp [Ptr.ins]
  have ins_m : ∀ m, m ≠ n → (P.ins n p a b c d x y).ro m = P.ro m ∧ (P.ins n p a b c d x y).za m = P.za m ∧ (P.ins n p a b c d x y).zb m = P.zb m ∧ (P.ins n p a b c d x y).zc m = P.zc m ∧ (P.ins n p a b c d x y).zd m = P.zd m ∧ (P.ins n p a b c d x y).rx m = P.rx m ∧ (P.ins n p a b c d x y).ry m = P.ry m := fun m hm => by simp [Ptr.ins, hm]
  have hrn : ∀ m ∈ names, m ≠ n := fun m hm e => hn (e ▸ hm)
  have upS : ∀ m, ((up L m).map fun k => (k, (P.ins n p a b c d x y).ro k)) = (up L m).map fun k => (k, P.ro k) := fun m => map_same fun k hk => hsame k (R.lk _ (mem_up.mp hk)).2
  have downS : ∀ m, ((down L m).map fun k => (k, (P.ins n p a b c d x y).ro k)) = (down L m).map fun k => (k, P.ro k) := fun m => map_same fun k hk => hsame k (R.lk _ (mem_down.mp hk)).1
  refine ⟨hrep, ⟨?_, ?_, ?_, ?_, ?_, ?_, ?_, ?_, R.ndL, ?_⟩, k3, hsame, ?_⟩
  · exact k3 _ _ R.r_ (fun _ _ _ _ e => by cases e)
  · show upd _ P.all _ P.all = _
    rw [upd_at, List.map_append, map_same hsame]
    simp [ins_n.1]
  · intro m hm
    rcases List.mem_append.mp hm with hm | hm
    · obtain ⟨i1, i2, i3, i4, i5, i6, i7⟩ := ins_m m (hrn m hm)
      rw [i1, i2, i3, i4, i5, i6, i7]
      exact k3 _ _ (R.ro_ m hm) (fun _ _ _ _ e => by cases e)
    · obtain rfl : m = n := by simpa using hm
      obtain ⟨i1, i2, i3, i4, i5, i6, i7⟩ := ins_n
      rw [i1, i2, i3, i4, i5, i6, i7]
      have q1 : p ≠ P.all := fun e => by have := NR.p_; rw [e, hall1] at this; cases this
      rw [upd_ne q1, upd_ne hpN]; exact NR.p_
  · intro m hm
    rw [upS]
    rcases List.mem_append.mp hm with hm | hm
    · rw [(ins_m m (hrn m hm)).2.1]; exact old _ _ _ _ hm (R.a_ m hm)
    · obtain rfl : m = n := by simpa using hm
      rw [ins_n.2.1, R.up_none hn]
      exact new1 _ _ NR.a_ (fun _ e => by cases e) (fun _ _ e => by cases e)
  · intro m hm
    rw [downS]
    rcases List.mem_append.mp hm with hm | hm
    · rw [(ins_m m (hrn m hm)).2.2.1]; exact old _ _ _ _ hm (R.b_ m hm)
    · obtain rfl : m = n := by simpa using hm
      rw [ins_n.2.2.1, R.down_none hn]
      exact new1 _ _ NR.b_ (fun _ e => by cases e) (fun _ _ e => by cases e)
  · intro m hm
    rcases List.mem_append.mp hm with hm | hm
    · rw [(ins_m m (hrn m hm)).2.2.2.1]; exact old _ _ _ _ hm (R.c_ m hm)
    · obtain rfl : m = n := by simpa using hm
      rw [ins_n.2.2.2.1]
      exact new1 _ _ NR.c_ (fun _ e => by cases e) (fun _ _ e => by cases e)
  · intro m hm
    rcases List.mem_append.mp hm with hm | hm
    · rw [(ins_m m (hrn m hm)).2.2.2.2.1]; exact old _ _ _ _ hm (R.d_ m hm)
    · obtain rfl : m = n := by simpa using hm
      rw [ins_n.2.2.2.2.1]
      exact new1 _ _ NR.d_ (fun _ e => by cases e) (fun _ _ e => by cases e)
  · rw [List.nodup_append]
    exact ⟨R.nd, by simp, fun a ha b hb e => by simp at hb; subst hb; subst e; exact hn ha⟩
  · intro z hz
    exact ⟨List.mem_append_left _ (R.lk z hz).1, List.mem_append_left _ (R.lk z hz).2⟩
  · rw [ins_n.1]
    have := NR.new
    rwa [upd_ne hpN] at this

end Go.Proofs.Ytpdejkalcminbaa.Rm
