/- What the reference's search for all that is linked keeps, and appends to slices of its own in whatever order. -/
import Derived.Test.YtpdejkalcminbaaHk
import Derived.Test.YtpdejkalcminbaaLw
import Derived.Deep.AppendLies
namespace Go.Proofs.Ytpdejkalcminbaa.Cl0
open Go.RowKit Go.Proofs.Ytpdejkalcminbaa.Hm Go.Proofs.Ytpdejkalcminbaa.Hp Go.Proofs.Ytpdejkalcminbaa.Rm Go.Proofs.Ytpdejkalcminbaa.Hk
open Go.Proofs.YtpdejkalcminbaaW.PrintWords (Kd Drawn0)

theorem reach_snoc {L : List (ByteArray × ByteArray)} {n m : ByteArray} (hm : m ∈ up L n) : ∀ (j : Nat) (a : ByteArray), Hl.Reach L j a n → Hl.Reach L (j + 1) a m
  | 0, a, h => by
    have e : a = n := h
    subst e
    exact ⟨m, hm, rfl⟩
  | j + 1, a, h => by
    obtain ⟨x, hx, h⟩ := h
    exact ⟨x, hx, reach_snoc hm j x h⟩

/-- What is closed under links holds all that one comes to. -/
theorem reach_in {L : List (ByteArray × ByteArray)} {l : List ByteArray} (hc : ∀ n ∈ l, ∀ m ∈ up L n, m ∈ l) : ∀ (j : Nat) (a b : ByteArray), a ∈ l → Hl.Reach L j a b → b ∈ l
  | 0, a, b, ha, h => by
    have e : a = b := h
    exact e ▸ ha
  | j + 1, a, b, ha, h => by
    obtain ⟨x, hx, h⟩ := h
    exact reach_in hc j x b (hc a ha x hx) h

theorem le_of_subset : ∀ (l m : List ByteArray), l.Nodup → (∀ x ∈ l, x ∈ m) → l.length ≤ m.length
  | [], _, _, _ => Nat.zero_le _
  | x :: l, m, hn, hs => by
    obtain ⟨h1, h2⟩ := List.nodup_cons.mp hn
    have hx : x ∈ m := hs x List.mem_cons_self
    have := le_of_subset l (m.erase x) h2 (fun y hy => (List.mem_erase_of_ne (by intro e; subst e; exact h1 hy)).mpr (hs y (List.mem_cons_of_mem _ hy)))
    rw [List.length_erase_of_mem hx] at this
    have : 0 < m.length := List.length_pos_of_mem hx
    simp only [List.length_cons]
    omega

/-- The names found so far, and how far each is. -/
structure Inv (L : List (ByteArray × ByteArray)) (a : ByteArray) (l : List ByteArray) (f : List Int) : Prop where
  len : f.length = l.length
  fst : a ∈ l
  nd : l.Nodup
  src : ∀ x ∈ l, x = a ∨ ∃ y, (y, x) ∈ L
  far : ∀ i n, l[i]? = some n → ∃ j : Nat, f[i]? = some (j : Int) ∧ j ≤ i ∧ Hl.Reach L j a n

theorem Inv.start (L : List (ByteArray × ByteArray)) (a : ByteArray) : Inv L a [a] [0] := by
  refine ⟨rfl, by simp, by simp, fun x hx => .inl (by simpa using hx), fun i n h => ?_⟩
  cases i with
  | zero =>
    simp at h
    subst h
    exact ⟨0, by simp, Nat.le_refl _, rfl⟩
  | succ i => simp at h

theorem Inv.le {L : List (ByteArray × ByteArray)} {a : ByteArray} {l : List ByteArray} {f : List Int} (I : Inv L a l f) : l.length ≤ L.length + 1 := by
  have := le_of_subset l (a :: L.map (·.2)) I.nd (fun x hx => by
    rcases I.src x hx with rfl | ⟨y, hy⟩
    · exact List.mem_cons_self
    · exact List.mem_cons_of_mem _ (List.mem_map.mpr ⟨_, hy, rfl⟩))
  simpa using this

theorem Inv.push {L : List (ByteArray × ByteArray)} {a : ByteArray} {l : List ByteArray} {f : List Int} (I : Inv L a l f) {i j : Nat} {n m : ByteArray} (hi : l[i]? = some n) (hj : f[i]? = some (j : Int)) (hm : m ∈ up L n) (hn : m ∉ l) : Inv L a (l ++ [m]) (f ++ [(j : Int) + 1]) := by
  have hlt : i < l.length := (List.getElem?_eq_some_iff.mp hi).1
  refine ⟨by simp [I.len], List.mem_append_left _ I.fst, ?_, fun x hx => ?_, fun k x hk => ?_⟩
  · rw [List.nodup_append]
    exact ⟨I.nd, by simp, fun x hx y hy e => by simp at hy; subst hy; subst e; exact hn hx⟩
  · rcases List.mem_append.mp hx with hx | hx
    · exact I.src x hx
    · simp at hx; subst hx; exact .inr ⟨n, mem_up.mp hm⟩
  · by_cases hkl : k < l.length
    · rw [List.getElem?_append_left hkl] at hk
      obtain ⟨j', e1, e2, e3⟩ := I.far k x hk
      exact ⟨j', by rw [List.getElem?_append_left (by rw [I.len]; exact hkl)]; exact e1, e2, e3⟩
    · have hk2 : k < (l ++ [m]).length := (List.getElem?_eq_some_iff.mp hk).1
      simp only [List.length_append, List.length_singleton] at hk2
      obtain rfl : k = l.length := by omega
      simp at hk
      subst hk
      obtain ⟨j', e1, e2, e3⟩ := I.far i n hi
      rw [hj] at e1
      have : j = j' := by
        have := Option.some.inj e1
        omega
      subst this
      exact ⟨j + 1, by rw [← I.len]; simp, by omega, reach_snoc hm j a e3⟩

/-- What was found is all, once each name's links were followed. -/
theorem Inv.near {L : List (ByteArray × ByteArray)} {a : ByteArray} {l : List ByteArray} {f : List Int} (I : Inv L a l f) (hc : ∀ n ∈ l, ∀ m ∈ up L n, m ∈ l) (b : ByteArray) :
    (b ∉ l → ¬ Near L a b) ∧ ∀ (i : Nat) (j : Int), l[i]? = some b → f[i]? = some j → j ≤ 10 → Near L a b := by
  refine ⟨fun hb ⟨j, _, hr⟩ => hb (reach_in hc j a b I.fst hr), fun i j hi hj hle => ?_⟩
  obtain ⟨j', e1, _, e3⟩ := I.far i b hi
  rw [hj] at e1
  have : j = (j' : Int) := Option.some.inj e1
  exact ⟨j', by omega, e3⟩

/-- A world behind another: a block g is as it was, and all that lay in a first world. -/
structure Fr (w0 W : World) (g : Nat) (c : World) : Prop where
  bel : Below w0.heap.size w0 c
  same : c.heap[g]? = W.heap[g]?
  size : W.heap.size ≤ c.heap.size

/-- A slice of the call's own beside a block of one cell that is to be put behind it. -/
structure St (w0 W : World) (g : Nat) (e : TypeId) (v : Value) (n : Nat) (xs : List Value) (b : Nat) (y : Value) (c : World) : Prop where
  own : c.ownsRow w0.heap.size e 1 v n xs
  fr : Fr w0 W g c
  blk : c.heap[b]? = some (.cells #[y] e (0, 0))

/-- Behind the append. -/
structure Appd (w0 W : World) (g : Nat) (e : TypeId) (n : Nat) (xs : List Value) (y : Value) (c c' : World) (g' cap : Nat) : Prop where
  own : c'.ownsRow w0.heap.size e 1 (.slice (some ⟨g', 0, none⟩) (n + 1) cap) (n + 1) (xs ++ [y])
  fr : Fr w0 W g c'
  ne : g' ≠ g
  row : ∀ (e' : TypeId) (u : Value) (k : Nat) (ys : List Value), e' ≠ e → c.ownsRow w0.heap.size e' 1 u k ys → c'.ownsRow w0.heap.size e' 1 u k ys
  blk : ∀ (e' : TypeId) (b' : Nat) (y' : Value), e' ≠ e → c.heap[b']? = some (Obj.cells #[y'] e' (0, 0)) → c'.heap[b']? = some (Obj.cells #[y'] e' (0, 0))

theorem Fr.alloc {w0 W : World} {g : Nat} {c : World} (h : Fr w0 W g c) (hg : g < W.heap.size) (o : Obj) : Fr w0 W g (c.alloc o) :=
  ⟨h.bel.alloc h.bel.size o, by rw [Below.heap_alloc _ _ _ (by have := h.size; omega)]; exact h.same, by have := h.size; simp; omega⟩
theorem Fr.drew {w0 W : World} {g : Nat} {c : World} (h : Fr w0 W g c) : Fr w0 W g c.drew := ⟨h.bel.drew, h.same, h.size⟩
theorem St.new {w0 W : World} {g : Nat} {e : TypeId} {v : Value} {n : Nat} {xs : List Value} {c : World} (y : Value) (h : c.ownsRow w0.heap.size e 1 v n xs) (f : Fr w0 W g c) (hg : g < W.heap.size) : St w0 W g e v n xs c.heap.size y (c.alloc (.cells #[y] e)) :=
  ⟨h.alloc _, f.alloc hg _, heap_alloc_new _ _⟩
theorem St.alloc {w0 W : World} {g : Nat} {e : TypeId} {v : Value} {n : Nat} {xs : List Value} {b : Nat} {y : Value} {c : World} (h : St w0 W g e v n xs b y c) (hg : g < W.heap.size) (o : Obj) : St w0 W g e v n xs b y (c.alloc o) :=
  ⟨h.own.alloc _, h.fr.alloc hg _, by rw [Below.heap_alloc _ _ _ (lt_of_block h.blk)]; exact h.blk⟩
theorem St.drew {w0 W : World} {g : Nat} {e : TypeId} {v : Value} {n : Nat} {xs : List Value} {b : Nat} {y : Value} {c : World} (h : St w0 W g e v n xs b y c) : St w0 W g e v n xs b y c.drew := ⟨h.own, h.fr.drew, h.blk⟩
theorem St.next {w0 W : World} {g : Nat} {e e2 : TypeId} {v : Value} {n : Nat} {xs : List Value} {b : Nat} {y : Value} {c c' : World} {n2 g2 cap2 : Nat} {xs2 : List Value} {y2 : Value} (h : St w0 W g e v n xs b y c) (k : Appd w0 W g e2 n2 xs2 y2 c c' g2 cap2) (he : e ≠ e2) : St w0 W g e v n xs b y c' :=
  ⟨k.row _ _ _ _ he h.own, k.fr, k.blk _ _ _ he h.blk⟩

theorem own_block_type {w : World} {B : Nat} {e : TypeId} {v : Value} {n : Nat} {xs : List Value} (h : w.ownsRow B e 1 v n xs) {k : Nat} (hk : v.ownBlock = some k) : ∃ cur, w.heap[k]? = some (.cells cur e (0, 0)) := by
  rcases h.2 with ⟨e1, _⟩ | ⟨g, c, cur, e1, _, hh, _⟩
  · rw [e1] at hk; cases hk
  · rw [e1] at hk; cases hk; exact ⟨cur, hh⟩

/-- One append, as a step of a region that draws its order. -/
theorem step_st {w0 W c : World} {ops : Array Oper} {o : Oper} {a : Act} {K : Act → World → Prop} {Q : Exit → Act → World → Prop} {E : Prop} {g : Nat}
    (hgd : o.guard = none) (s x : Operand) (t : TypeId) (hop : o.op = .call { callee := .builtin .append, args := #[s, x], argTypes := #[t, t] })
    (e : TypeId) (i : TypeInfo) (z : Value) (bytes : Nat) (ht : Try.prog.underlying t = some (.slice e)) (hi : Try.prog.info? e = some i) (hz : i.zero = some z) (hsize : i.size = 1) (hby : i.bytes = bytes) (hzs : z.cells.size = 1)
    (v : Value) (n : Nat) (xs : List Value) (hs : a.eval s = v) (b : Nat) (y : Value) (hx : a.eval x = .slice (some ⟨b, 0, none⟩) 1 1) (hS : St w0 W g e v n xs b y c) (hvg : v.ownBlock ≠ some g) (hg : g < W.heap.size) (hy : y.oneCell' = true) (hn : n < 1000000) (hb2 : bytes ≤ 16)
    (h : ∀ g' cap c', Appd w0 W g e n xs y c c' g' cap → K (a.put o.dst (.slice (some ⟨g', 0, none⟩) (n + 1) cap)) c') :
    if Region.wanted o (yielded ops a.tmps) = true then Oper.wp Try.prog o a c K Q else E := by
  refine step_append_lies c hgd s x t hop w0.heap.size e i z 1 bytes ht hi hz hsize hby hzs (by omega) v n xs hs hS.own ⟨b, 0, none⟩ 1 1 [y] hx (by simp) (World.news_of_block (cs := #[y]) (t := e) (fr := (0, 0)) hS.blk) (by simpa using hy)
    (by omega) (by unfold maxLen; omega) (by have := Nat.mul_le_mul_left (n + 1) hb2; omega) hS.fr.bel.size c.heap.size rfl (fun g' cap c' hown hgrow hat hlt => h g' cap c' ?_)
  have hge : ∀ k, v.ownBlock = some k → w0.heap.size ≤ k := fun k hk => by
    rcases hS.own.2 with ⟨e1, _⟩ | ⟨g1, c1, cur, e1, hb1, _⟩
    · rw [e1] at hk; cases hk
    · rw [e1] at hk; cases hk; exact hb1
  have hgc : g < c.heap.size := by have := hS.fr.size; omega
  have other : ∀ (e' : TypeId) (q : Nat) (cur : Array Value), e' ≠ e → c.heap[q]? = some (.cells cur e' (0, 0)) → c'.heap[q]? = some (.cells cur e' (0, 0)) := fun e' q cur he hq => by
    rw [hgrow.block q (lt_of_block hq) (fun e1 => ?_)]
    · exact hq
    · obtain ⟨cur2, h2⟩ := own_block_type hS.own e1.symm
      rw [hq] at h2
      cases h2
      exact he rfl
  refine ⟨hown, ⟨hS.fr.bel.grown hgrow hS.fr.bel.size (fun k hk => hge k hk), ?_, ?_⟩, ?_, fun e' u k ys he hr => ownsRow_same hr (fun q hq => ?_), fun e' b' y' he hq => other e' b' _ he hq⟩
  · rw [hgrow.block g hgc (fun e1 => hvg e1.symm)]; exact hS.fr.same
  · have := hgrow.size; have := hS.fr.size; omega
  · rcases hat with e1 | e1
    · exact fun e2 => hvg (by rw [e1, e2])
    · omega
  · obtain ⟨cur, hc⟩ := own_block_type hr hq
    rw [other e' q cur he hc, hc]

/-- A slice of the call's own, read. -/
theorem row_cell {w : World} {B : Nat} {e : TypeId} {g n cap : Nat} {xs : List Value} (h : w.ownsRow B e 1 (.slice (some ⟨g, 0, none⟩) n cap) n xs) {i : Nat} {x : Value} (hi : xs[i]? = some x) : w.cell? ⟨g, i, none⟩ = some x := by
  have := h.cells (g := g) rfl i x hi
  rw [Addr.add_lit, Nat.zero_add] at this
  exact this

/-- A slice of texts of the call's own, as the reference's functions read it. -/
theorem own_C {w : World} {B : Nat} {v : Value} {l : List ByteArray} (h : w.ownsRow B 9 1 v l.length (l.map Value.string)) (hl : l.length < 1000000) :
    ∃ A c, v = .slice A l.length c ∧ l.length ≤ c ∧ Kd.C Kd.string w A l.length l := by
  rcases h.2 with ⟨e, e0⟩ | ⟨g, c, cur, e, _, hh, hc, _, _, hcur⟩
  · refine ⟨none, 0, by rw [e, e0], by omega, rfl, by omega, fun h0 => by omega⟩
  · refine ⟨some ⟨g, 0, none⟩, c, e, hc, rfl, by omega, fun _ => ⟨_, rfl, fun j p hj => ⟨[.string p], rfl, rfl, fun i u hu => ?_⟩⟩⟩
    match i, hu with
    | 0, hu =>
      simp at hu
      subst hu
      have hsz : Kd.string.sz = 1 := rfl
      rw [hsz, Nat.mul_one, Nat.add_zero, Addr.add_lit, Nat.zero_add]
      subst e
      exact row_cell h (by simp [hj])

end Go.Proofs.Ytpdejkalcminbaa.Cl0
