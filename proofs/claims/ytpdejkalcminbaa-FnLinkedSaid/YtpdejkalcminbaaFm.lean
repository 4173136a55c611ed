/- Maps from names to roles: what a store does to one, what a loop over one meets. -/
import Derived.Test.YtpdejkalcminbaaGw
import Derived.Maps.RangeRun
namespace Go.Proofs.Ytpdejkalcminbaa.Fm
open Go.RowKit Go.ChangeMaps Go.Proofs.Ytpdejkalcminbaa.Hm Go.Proofs.Ytpdejkalcminbaa.Hp Go.Proofs.Ytpdejkalcminbaa.Zm Go.Proofs.Ytpdejkalcminbaa.Rm

/-- The names, with what each leads to. -/
structure FM (R : ByteArray → Nat) (es : Array MapEntry) (c : Nat) (S : List ByteArray) : Prop where
  kv : es.toList.map (fun e => (e.key, e.val)) = S.map fun n => (Value.string n, pt (R n))
  st : MapKept.Stamped es c

theorem FM.empty (R : ByteArray → Nat) : FM R #[] 0 [] := ⟨by simp, MapKept.stamped_empty 0⟩

theorem FM.mem {R : ByteArray → Nat} {es : Array MapEntry} {c : Nat} {S : List ByteArray} (F : FM R es c S) {e : MapEntry} (he : e ∈ es.toList) : ∃ n ∈ S, e.key = .string n ∧ e.val = pt (R n) := by
  have h : (e.key, e.val) ∈ es.toList.map (fun e => (e.key, e.val)) := List.mem_map.mpr ⟨e, he, rfl⟩
  rw [F.kv] at h
  obtain ⟨n, hn, e1⟩ := List.mem_map.mp h
  simp only [Prod.mk.injEq] at e1
  exact ⟨n, hn, e1.1.symm, e1.2.symm⟩
theorem FM.of {R : ByteArray → Nat} {es : Array MapEntry} {c : Nat} {S : List ByteArray} (F : FM R es c S) {n : ByteArray} (hn : n ∈ S) : ∃ e ∈ es.toList, e.key = .string n ∧ e.val = pt (R n) := by
  have h : (Value.string n, pt (R n)) ∈ S.map fun n => (Value.string n, pt (R n)) := List.mem_map.mpr ⟨n, hn, rfl⟩
  rw [← F.kv] at h
  obtain ⟨e, he, e1⟩ := List.mem_map.mp h
  simp only [Prod.mk.injEq] at e1
  exact ⟨e, he, e1.1, e1.2⟩
theorem FM.size {R : ByteArray → Nat} {es : Array MapEntry} {c : Nat} {S : List ByteArray} (F : FM R es c S) : es.size = S.length := by
  have := congrArg List.length F.kv
  simpa using this

/-- A store. -/
theorem put {w : World} {mb c : Nat} {es : Array MapEntry} {R : ByteArray → Nat} {S : List ByteArray} (hb : w.heap[mb]? = some (.map es c)) (F : FM R es c S) (k : ByteArray) :
    ∃ es' c' S', (Instr.mapUpdate 88 (.map (some mb)) (.string k) (pt (R k))).run Try.prog w = .ok () (setBlock w mb (.map es' c')) ∧ FM R es' c' S' ∧ ∀ x, x ∈ S' ↔ x ∈ S ∨ x = k := by
  have hks : ∀ x ∈ es.toList, MapKept.IsKey .string x.key := fun x hx => by
    obtain ⟨n, _, e, _⟩ := F.mem hx
    rw [e]; simp [MapKept.IsKey]
  have hk : MapKept.IsKey .string (.string k) := by simp [MapKept.IsKey]
  have hck := fun e n => MapKept.run_checkKey (P := Try.prog) (w := w) (k := .string k) Try.underlying9 hk e n
  rcases MapKept.findNow_spec hk es.toList 0 hks with ⟨h1, h2⟩ | ⟨j, e, h1, h2, h3⟩
  · have hf := MapKept.run_findKey (P := Try.prog) (w := w) Try.underlying9 h1
    refine ⟨es.push { key := .string k, val := pt (R k), born := c }, c + 1, S ++ [k], ?_, ⟨?_, MapKept.stamped_push F.st h2⟩, fun x => by simp⟩
    · simp [Instr.mapUpdate, run_underlying Try.underlying88, MapKept.run_getObj_map hb, hf, hck, MapKept.run_setObj_map _ hb, setBlock]
    · simp [F.kv]
  · have hf := MapKept.run_findKey (P := Try.prog) (w := w) Try.underlying9 h1
    have hj : es[j]? = some e := by simpa using h2
    obtain ⟨n, hn, e1, e2⟩ := F.mem (List.mem_of_getElem? h2)
    rw [h3] at e1
    cases e1
    refine ⟨es.modify j fun e => { e with key := .string k, val := pt (R k) }, c, S, ?_, ⟨?_, ?_⟩, fun x => ⟨.inl, fun h => by rcases h with h | rfl; exact h; exact hn⟩⟩
    · simp [Instr.mapUpdate, run_underlying Try.underlying88, MapKept.run_getObj_map hb, hf, hck, hj, h3, MapKept.run_keyThatStays hk, MapKept.run_setObj_map _ hb, setBlock]
    · rw [← F.kv]
      apply List.ext_getElem?
      intro i
      simp only [List.getElem?_map, Array.getElem?_toList, Array.getElem?_modify]
      by_cases e : j = i
      · subst e
        simp [hj, h3, e2]
      · simp [e]
    · exact MapKept.stamped_modify F.st _ _ (fun _ _ => rfl) (fun e' _ he' => by rw [hj] at he'; cases he'; exact h3.symm)

theorem len88 {w : World} {b c : Nat} {es : Array MapEntry} (hb : w.heap[b]? = some (.map es c)) (ty : TypeId) : (Builtin.len_ #[88] ty #[.map (some b)]).run Try.prog w = .ok (.int .i64 es.size) w := by
  simp [Builtin.len_, run_underlying Try.underlying88, MapKept.run_getObj_map hb, goInt, Result.andThen]

theorem rep_setBlock {w0 w : World} {H : Heap} {b : Nat} {o : Obj} (h : Rep w0 w H) (hb : H b = some (.raw o)) (o' : Obj) : Rep w0 (setBlock w b o') (upd H b (.raw o')) := by
  obtain ⟨own, h⟩ := h
  obtain ⟨h1, h2⟩ := h.rep b _ hb
  have hd := h.dom b b h1
  have hbl : w.heap[b]? = some o := h2
  refine ⟨own, h.change ⟨rfl, rfl, rfl, by rw [setBlock_size]; exact Nat.le_refl _, fun x hx => setBlock_ne (by omega)⟩ (fun x y hx hy => ?_) (fun _ _ hx _ => hx) (fun x y hx => ?_) h1 (setBlock_at hbl)⟩
  · exact setBlock_ne (fun e => hy (by subst e; rw [h1] at hx; cases hx; rfl))
  · rw [setBlock_size]; exact h.dom x y hx

/-- What a step of a loop over a map leaves. -/
structure Step (w0 : World) (H : Heap) (R : ByteArray → Nat) (r bm since : Nat) (seen : Array Nat) (es : Array MapEntry) (clock : Nat) (S : List ByteArray) (n : ByteArray) (e : MapEntry) (w2 : World) : Prop where
  rep : Rep w0 w2 (upd H r (.raw (.mapIter (some bm) since (seen.push e.born) clock)))
  mem : e ∈ (leftOf es seen).toList
  name : n ∈ S
  key : e.key = .string n

/-- A step of a loop over a map. -/
theorem wpList_next_fm {w0 w : World} {H : Heap} {ops : Array Oper} {rest : List Oper} {o : Oper} {a : Act} {Q : Exit → Act → World → Prop} {R : ByteArray → Nat} {S : List ByteArray} {es : Array MapEntry} {clock r bm since c0 : Nat} {seen : Array Nat}
    (hg : o.guard = none) (it : Operand) (hop : o.op = Op.next it false) (hit : a.eval it = .pointer (some ⟨r, 0, none⟩)) (h : Rep w0 w H)
    (hr : H r = some (.raw (.mapIter (some bm) since seen c0))) (hb : H bm = some (.raw (.map es clock))) (F : FM R es clock S) (hold : clock ≤ since) (hsc : since ≤ c0)
    (hDone : (leftOf es seen).size = 0 → wpList Try.prog ops Q rest (a.put o.dst (.tuple #[.bool false])) w)
    (hMore : ∀ (n : ByteArray) (e : MapEntry) (w2 : World), Step w0 H R r bm since seen es clock S n e w2 → (Instr.entry (.pointer (some ⟨r, 0, none⟩))).run Try.prog w2 = .ok (.tuple #[.string n, pt (R n)]) w2 →
      wpList Try.prog ops Q rest (a.put o.dst (.tuple #[.bool true, .string n, pt (R n)])) w2) : wpList Try.prog ops Q (o :: rest) a w := by
  have hrb : r ≠ bm := fun e => by rw [e, hb] at hr; cases hr
  have hbr := h.at hb
  rcases run_next_at (P := Try.prog) w o.type r bm since c0 seen es clock (h.at hr) hbr (fun x hx => Nat.lt_of_lt_of_le (F.st.1 x hx) hold) hsc with ⟨h0, hrun⟩ | ⟨e, he, w1, hw1, hrun⟩
  · refine wpList_plain hg fun K hK => ?_
    unfold Oper.wp
    simp [execOp, hop, hit, hrun, Result.andThen]
    exact hK _ _ (hDone h0)
  · have hel : e ∈ es.toList := by
      simp only [leftOf, Array.toList_filter, List.mem_filter] at he
      exact he.1
    obtain ⟨n, hn, e1, e2⟩ := F.mem hel
    have h1 : Rep w0 w1 H := by rcases hw1 with rfl | rfl; exact h; exact h.drew
    have h2 := rep_setBlock h1 hr (.mapIter (some bm) since (seen.push e.born) clock)
    refine wpList_plain hg fun K hK => ?_
    unfold Oper.wp
    simp [execOp, hop, hit, hrun, Result.andThen, e1, e2]
    refine hK _ _ (hMore n e _ ⟨h2, he, hn, e1⟩ ?_)
    have := run_entry_at (P := Try.prog) (setBlock w1 r (.mapIter (some bm) since (seen.push e.born) clock)) r bm since seen es clock e (h2.at (upd_at _ _ _)) (h2.at (by rw [upd_ne (Ne.symm hrb)]; exact hb)) hel F.st.2.1
    rw [e1, e2] at this
    exact this

theorem left_less {es : Array MapEntry} {seen : Array Nat} {e : MapEntry} (he : e ∈ (leftOf es seen).toList) : (leftOf es (seen.push e.born)).size < (leftOf es seen).size := by
  have hs : ∀ seen : Array Nat, (leftOf es seen).size = (es.toList.filter fun x => !seen.contains x.born).length := fun seen => by
    have e := congrArg List.length (Array.toList_filter (xs := es) (p := fun e => !seen.contains e.born))
    rw [Array.length_toList] at e
    exact e
  have he2 : e ∈ es.toList.filter fun x => !seen.contains x.born := by simpa [leftOf] using he
  have h1 : es.toList.filter (fun x => !(seen.push e.born).contains x.born) = (es.toList.filter fun x => !seen.contains x.born).filter fun x => x.born != e.born := by
    rw [List.filter_filter]
    apply List.filter_congr
    intro x _
    simp only [Array.contains_push]
    cases seen.contains x.born <;> simp [bne]
  rw [hs, hs, h1]
  exact List.length_filter_lt_length_iff_exists.mpr ⟨e, he2, by simp⟩

end Go.Proofs.Ytpdejkalcminbaa.Fm
