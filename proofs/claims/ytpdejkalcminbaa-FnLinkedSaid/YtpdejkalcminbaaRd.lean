/- RemoveDuplicateElement at texts that are all different: the same texts, in a new slice. -/
import Derived.Test.YtpdejkalcminbaaGu
namespace Go.Proofs.Ytpdejkalcminbaa.Rd
open Go.RowKit Go.Proofs.Ytpdejkalcminbaa.Hm Go.Proofs.Ytpdejkalcminbaa.Hp Go.Proofs.Ytpdejkalcminbaa.Zm

/-- A set of texts. -/
def SetIs (es : Array MapEntry) (l : List ByteArray) : Prop := es.toList.map (·.key) = l.map Value.string

theorem find_none {k : ByteArray} : ∀ (es : List MapEntry) (l : List ByteArray), es.map (·.key) = l.map Value.string → k ∉ l → Instr.findNow .string (.string k) es 0 = some none := by
  have h : ∀ (es : List MapEntry) (l : List ByteArray) (i : Nat), es.map (·.key) = l.map Value.string → k ∉ l → Instr.findNow .string (.string k) es i = some none := by
    intro es
    induction es with
    | nil => intro l i _ _; rfl
    | cons e es ih =>
      intro l i he hk
      cases l with
      | nil => simp at he
      | cons s l =>
        simp only [List.map_cons, List.cons.injEq] at he
        have hks : (k == s) = false := beq_eq_false_iff_ne.mpr (fun e => hk (e ▸ List.mem_cons_self))
        simp only [Instr.findNow, he.1, Instr.sameNow, hks]
        exact ih l (i + 1) he.2 (fun hm => hk (List.mem_cons_of_mem _ hm))
  exact fun es l he hk => h es l 0 he hk

theorem set_look {w : World} {mb c : Nat} {es : Array MapEntry} {l : List ByteArray} {k : ByteArray} (hb : w.heap[mb]? = some (.map es c)) (h : SetIs es l) (hk : k ∉ l) :
    (Instr.lookup 113 (.map (some mb)) (.string k) true).run Try.prog w = .ok (.tuple #[.agg #[], .bool false]) w := by
  have hf := MapKept.run_findKey (P := Try.prog) (w := w) Try.underlying9 (find_none es.toList l h hk)
  have hck := fun e n => MapKept.run_checkKey (P := Try.prog) (w := w) (k := .string k) Try.underlying9 (by simp [MapKept.IsKey]) e n
  simp [Instr.lookup, run_underlying Try.underlying113, MapKept.run_getObj_map hb, hf, hck]

theorem set_put {w : World} {mb c : Nat} {es : Array MapEntry} {l : List ByteArray} {k : ByteArray} (hb : w.heap[mb]? = some (.map es c)) (h : SetIs es l) (hk : k ∉ l) :
    (Instr.mapUpdate 113 (.map (some mb)) (.string k) (.agg #[])).run Try.prog w = .ok () (ChangeMaps.setBlock w mb (.map (es.push { key := .string k, val := .agg #[], born := c }) (c + 1))) := by
  have hf := MapKept.run_findKey (P := Try.prog) (w := w) Try.underlying9 (find_none es.toList l h hk)
  have hck := fun e n => MapKept.run_checkKey (P := Try.prog) (w := w) (k := .string k) Try.underlying9 (by simp [MapKept.IsKey]) e n
  simp [Instr.mapUpdate, run_underlying Try.underlying113, MapKept.run_getObj_map hb, hf, hck, MapKept.run_setObj_map _ hb, ChangeMaps.setBlock]

theorem SetIs.push {es : Array MapEntry} {l : List ByteArray} (h : SetIs es l) (k : ByteArray) (c : Nat) : SetIs (es.push { key := .string k, val := .agg #[], born := c }) (l ++ [k]) := by
  unfold SetIs at *
  simp [h]

/-- In the middle: the first j texts are in the new slice and in the set. -/
structure Mid (w : World) (l : List ByteArray) (mb j : Nat) (wr : World) : Prop where
  row : wr.ownsRow w.heap.size 9 1 (.slice (some ⟨w.heap.size, 0, none⟩) j l.length) j ((l.take j).map Value.string)
  set : ∃ es c, wr.heap[mb]? = some (.map es c) ∧ SetIs es (l.take j)
  bel : Below w.heap.size w wr
  lt : w.heap.size < mb

theorem setBlock_at {w : World} {b : Nat} {o o' : Obj} (h : w.heap[b]? = some o) : (ChangeMaps.setBlock w b o').heap[b]? = some o' := by
  have := lt_of_block h
  simp [ChangeMaps.setBlock, this]
theorem setBlock_ne {w : World} {b x : Nat} {o' : Obj} (h : x ≠ b) : (ChangeMaps.setBlock w b o').heap[x]? = w.heap[x]? := by
  simp [ChangeMaps.setBlock, Ne.symm h]
theorem setBlock_size (w : World) (b : Nat) (o' : Obj) : (ChangeMaps.setBlock w b o').heap.size = w.heap.size := by simp [ChangeMaps.setBlock]

theorem Mid.step {w wr w2 : World} {l : List ByteArray} {mb j : Nat} {k : ByteArray} {es : Array MapEntry} {c : Nat} (M : Mid w l mb j wr) (hk : l[j]? = some k) (he : wr.heap[mb]? = some (.map es c)) (hs : SetIs es (l.take j))
    (hown : w2.ownsRow w.heap.size 9 1 (.slice (some ⟨w.heap.size, 0, none⟩) (j + 1) l.length) (j + 1) ((l.take j).map Value.string ++ [.string k]))
    (hg : (((ChangeMaps.setBlock (wr.alloc (.cells #[] 109)) mb (.map (es.push { key := .string k, val := .agg #[], born := c }) (c + 1)))).alloc (.cells #[.string k] 9)).grownBy w2 (some w.heap.size)) : Mid w l mb (j + 1) w2 := by
  have hm := lt_of_block he
  have hsz := M.bel.size
  have hlt := M.lt
  refine ⟨?_, ⟨es.push { key := .string k, val := .agg #[], born := c }, c + 1, ?_, ?_⟩, ?_, M.lt⟩
  · rw [List.take_add_one, hk]; simpa using hown
  · rw [hg.block mb (by simp [setBlock_size]; omega) (by simp; omega), Below.heap_alloc _ _ _ (by simp [setBlock_size]; omega)]
    refine setBlock_at (o := .map es c) ?_
    rw [Below.heap_alloc _ _ _ hm]; exact he
  · rw [List.take_add_one, hk]; exact hs.push k c
  · refine ⟨hg.os.trans M.bel.os, hg.tape.trans M.bel.tape, hg.output.trans M.bel.output, ?_, fun x hx => ?_⟩
    · have := hg.size; simp [setBlock_size] at this; omega
    · rw [hg.block x (by simp [setBlock_size]; omega) (by simp; omega), Below.heap_alloc _ _ _ (by simp [setBlock_size]; omega), setBlock_ne (by omega), Below.heap_alloc _ _ _ (by omega)]
      exact M.bel.block x hx

set_option maxHeartbeats 1000000 in
set_option maxRecDepth 100000 in
theorem rde {w : World} {A : Option Addr} {c : Nat} {l : List ByteArray} (hn : l.Nodup) (hl : l.length < 1000000)
    (hc : ∀ (i : Nat) (s : ByteArray), l[i]? = some s → ∃ g, A = some ⟨g, 0, none⟩ ∧ w.cell? ⟨g, i, none⟩ = some (.string s)) :
    Calls Try.prog 75 #[.slice A l.length c] w fun e w' => e = .returned (.slice (some ⟨w.heap.size, 0, none⟩) l.length l.length) ∧ ∃ mb, Mid w l mb l.length w' := by
  obtain ⟨i0, hi, hz0, hz1, hz2⟩ := info_parts Nm.info9
  have hmm := @run_makeMap Try.prog
  have HN := hid hn
  have HC := hid hc
  clear hn hc
  go_enter Try.func75, Try.ntmps75
  go_wp2_with (at_make; refine wpList_make_own _ rfl _ _ 24 rfl w.heap.size 9 i0 (.string ⟨#[]⟩) 1 Try.underlying24 hi hz0 hz1 .i64 .i64 _ l.length rfl rfl rfl (by rw [hz2]; omega) (by unfold maxLen; omega) (Nat.le_refl _) ?_; intro w1 hown hgrow)
  have HM : Mid w l w1.heap.size 0 (w1.alloc (.map #[] 0)) := by
    have h1 : w1.heap.size > w.heap.size := lt_of_block (o := (w1.heap[w.heap.size]?).getD (.map #[] 0)) (by
      rcases hown.2 with ⟨e, _⟩ | ⟨g, _, _, e, _, hh, _⟩
      · cases e
      · simp only [Value.slice.injEq, Option.some.injEq, Addr.mk.injEq] at e
        rw [e.1.1, hh]; rfl)
    refine ⟨by simpa using hown.alloc _, ⟨#[], 0, heap_alloc_new _ _, by simp [SetIs]⟩, ?_, h1⟩
    refine Below.alloc ⟨hgrow.os, hgrow.tape, hgrow.output, by omega, fun x hx => hgrow.block x hx (by simp)⟩ (by omega) _
  have HM0 := hid HM
  clear hown hgrow HM
  go_loopw [3, 15] (fun v i wr => ∃ j : Nat, j ≤ l.length ∧ i = .int .i64 j ∧ v = .slice (some ⟨w.heap.size, 0, none⟩) j l.length ∧ Mid w l w1.heap.size j wr) (fun _ i _ => l.length - (intOf i).toNat)
  case atStart => exact ⟨0, Nat.zero_le _, rfl, rfl, HM0.out⟩
  case round =>
    obtain ⟨j, hj, rfl, rfl, M⟩ := hrel
    have HM := hid M
    obtain ⟨es, cc, he, hs⟩ := M.set
    by_cases hlt : j < l.length
    · obtain ⟨k, hk⟩ : ∃ k, l[j]? = some k := ⟨_, List.getElem?_eq_getElem hlt⟩
      obtain ⟨g, rfl, hcell⟩ := HC.out j k hk
      have hnk : k ∉ l.take j := by
        have h1 := HN.out
        rw [← List.take_append_drop j l, List.nodup_append] at h1
        intro hm
        refine h1.2.2 k hm k ?_ rfl
        rw [List.mem_iff_getElem?]
        exact ⟨0, by simpa using hk⟩
      have hb := M.bel
      have g0 : wr.cell? ⟨g, j, none⟩ = some (.string k) := (hb.cell (World.block_lt_of_cell? _ _ hcell)).trans hcell
      have L1 := set_look he hs hnk
      have he2 : (wr.alloc (.cells #[] 109)).heap[w1.heap.size]? = some (.map es cc) := by rw [Below.heap_alloc _ _ _ (lt_of_block he)]; exact he
      have L2 := set_put he2 hs hnk
      have hrow2 : (ChangeMaps.setBlock (wr.alloc (.cells #[] 109)) w1.heap.size (.map (es.push { key := .string k, val := .agg #[], born := cc }) (cc + 1))).ownsRow w.heap.size 9 1 (.slice (some ⟨w.heap.size, 0, none⟩) j l.length) j ((l.take j).map Value.string) :=
        ownsRow_same (M.row.alloc (.cells #[] 109)) (fun x hx => by
          have hlt2 := M.lt
          simp only [Value.ownBlock, Option.some.injEq] at hx
          subst hx
          exact setBlock_ne (by omega))
      have hsz2 : w.heap.size ≤ (ChangeMaps.setBlock (wr.alloc (.cells #[] 109)) w1.heap.size (.map (es.push { key := .string k, val := .agg #[], born := cc }) (cc + 1))).heap.size := by
        have := hb.size; simp [setBlock_size]; omega
      have K := hid (fun w2 => M.step (w2 := w2) hk he hs)
      generalize ChangeMaps.setBlock (wr.alloc (.cells #[] 109)) w1.heap.size (.map (es.push { key := .string k, val := .agg #[], born := cc }) (cc + 1)) = W at L2 K hrow2 hsz2
      clear M hb he he2 hs hnk hk hcell HC HN HM HM0
      go_wp2_with (at_builtin; refine wpList_append_fits _ rfl _ _ 24 rfl w.heap.size 9 i0 1 Try.underlying24 hi hz1 w.heap.size j l.length ((l.take j).map Value.string) (by rfl) (hrow2.alloc _) ⟨W.heap.size, 0, none⟩ 1 1 [.string k] (by rfl) rfl (cell_one_new _ _ _) (by simp [Value.oneCell']) (by omega) ?_; intro w2 hown2 hgrow2; have HM2 := hid (K.out w2 hown2 hgrow2); clear hown2 hgrow2)
      all_goals
        go_roundw
        case rel => exact ⟨j + 1, by omega, by go_num, rfl, HM2.out⟩
        case measure => simp [intOf]; omega
    · obtain rfl : j = l.length := by omega
      clear M he hs
      go_wp2
      go_ret
      exact ⟨rfl, _, HM.out⟩

end Go.Proofs.Ytpdejkalcminbaa.Rd
