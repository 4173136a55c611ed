/- What all three laws share: rows of texts that come in, names that go out. -/
import Derived.Test.YtpdejkalcminbaaUo
import Derived.Test.YtpdejkalcminbaaPl
import Derived.Deep.Slices
import Derived.Deep.Strs
namespace Go.Proofs.Ytpdejkalcminbaa.Lw
open Go.RowKit Go.ChangeShapes Go.WideShapes
open Go.Proofs.YtpdejkalcminbaaW.PrintWords (Kd ReadsRow)
open Go.Proofs.Ytpdejkalcminbaa.Hp

/-- The names in a variable, as the reference's functions read them. -/
theorem strs_C {w0 w : World} {H : Heap} {nv : Nat} {v : Value} {l : List ByteArray} (h : Rep w0 w H) (hv : H nv = some (.strs v l)) (hl : l.length < 1000000) :
    ∃ A c, v = .slice A l.length c ∧ l.length ≤ c ∧ Kd.C Kd.string w A l.length l := by
  obtain ⟨own, h⟩ := h
  have hs : StrsAt w own nv v l := (h.rep nv _ hv).2
  rcases hs.row.2 with ⟨e, e0⟩ | ⟨g, c, cur, e, _, hh, hc, _, _, hcur⟩
  · refine ⟨none, 0, by rw [e, e0], by omega, rfl, by omega, fun h0 => by omega⟩
  · refine ⟨some ⟨g, 0, none⟩, c, e, hc, rfl, by omega, fun _ => ⟨_, rfl, fun j p hj => ⟨[.string p], rfl, rfl, fun i u hu => ?_⟩⟩⟩
    match i, hu with
    | 0, hu =>
      simp at hu
      subst hu
      have hsz : Kd.string.sz = 1 := rfl
      rw [hsz, Nat.mul_one, Nat.add_zero, Addr.add_lit, Nat.zero_add]
      refine cell_of hh j ?_
      have h1 : (l.map Value.string)[j]? = some (.string p) := by simp [hj]
      rw [← hcur] at h1
      have hlt : j < l.length := (List.getElem?_eq_some_iff.mp hj).1
      rw [List.getElem?_take_of_lt (by omega)] at h1
      simpa using h1

section
variable {H : Type} {enc : TypeId × Value → H} {w : World} {base : Nat} {held : Bool}

/-- Rows of texts that come in. -/
theorem open_rows {fuel : Nat} {A : Option Addr} {len cap : Nat} {x : DataW H × List MemPlace} (h : DataW.trod enc Try.prog w base (fun _ => true) held fuel 22 [.slice A len cap] = some x) :
    ∃ rows : List (List ByteArray), rows.length = len ∧ len ≤ cap ∧ Kd.C (Kd.slice 9 Kd.string) w A len rows := by
  rcases Deep.open_slice1 Try.underlying22 (by kernel_rfl) h with ⟨hcs, _⟩ | ⟨a, len', cap', m, n, V, D, Pl, hcs, _, hl, hm, hmm, _, hx⟩
  · simp only [List.cons.injEq, Value.slice.injEq, and_true] at hcs
    obtain ⟨rfl, rfl, rfl⟩ := hcs
    exact ⟨[], rfl, Nat.le_refl _, rfl, by omega, fun h0 => by omega⟩
  · simp only [List.cons.injEq, Value.slice.injEq, and_true] at hcs
    obtain ⟨rfl, rfl, rfl⟩ := hcs
    simp only [if_true] at hmm
    subst hmm
    have each : ∀ i, i < len → ∃ y : List ByteArray × Option Addr × Nat, V i = .slice y.2.1 y.1.length y.2.2 ∧ y.1.length ≤ y.2.2 ∧ Kd.C Kd.string w y.2.1 y.1.length y.1 := fun i hi => by
      rcases Deep.open_strs Try.underlying24 Try.underlying9 (by kernel_rfl) (hx i (by omega)).2 with ⟨hcs, _⟩ | ⟨a', len', cap', m', Sx, hcs, _, hl', hm', hmm', _, hcell⟩
      · refine ⟨([], none, 0), by simpa using hcs, Nat.le_refl _, rfl, by simp, fun h0 => absurd h0 (by simp)⟩
      · simp only [if_true] at hmm'
        subst hmm'
        refine ⟨((List.range len').map Sx, some a', m'), by simpa using hcs, by simpa using hl', rfl, ?_, fun _ => ⟨a', rfl, fun j p hj => ⟨[.string p], rfl, rfl, fun k u hu => ?_⟩⟩⟩
        · simp only [List.length_map, List.length_range]
          unfold maxLen at hm'
          omega
        · match k, hu with
          | 0, hu =>
            simp at hu
            subst hu
            have hsz : Kd.string.sz = 1 := rfl
            rw [hsz, Nat.mul_one, Nat.add_zero]
            simp only [List.getElem?_map, Option.map_eq_some_iff] at hj
            obtain ⟨q, hq, rfl⟩ := hj
            obtain ⟨hq1, rfl⟩ := List.getElem?_eq_some_iff.mp hq
            simp only [List.length_range] at hq1
            simp only [List.getElem_range]
            exact (hcell j (by omega)).1
    obtain ⟨y, hy⟩ := Deep.choose_lt each
    refine ⟨(List.range len).map fun i => (y i).1, by simp, hl, by simp, by unfold maxLen at hm; omega, fun _ => ⟨a, rfl, fun j p hj => ?_⟩⟩
    simp only [List.getElem?_map, Option.map_eq_some_iff] at hj
    obtain ⟨q, hq, rfl⟩ := hj
    obtain ⟨hq1, rfl⟩ := List.getElem?_eq_some_iff.mp hq
    simp only [List.length_range] at hq1
    simp only [List.getElem_range]
    obtain ⟨y1, y2, y3⟩ := hy j hq1
    refine ⟨[V j], rfl, ⟨(y j).2.1, (y j).2.2, by rw [y1], y2, y3⟩, fun k u hu => ?_⟩
    match k, hu with
    | 0, hu =>
      simp at hu
      subst hu
      have hsz : (Kd.slice 9 Kd.string).sz = 1 := rfl
      rw [hsz, Nat.mul_one, Nat.add_zero]
      exact (hx j (by omega)).1
end

/-- The links of a domain are different. -/
theorem links_nodup {rows : List (List ByteArray)} {sz : Nat} (S : Mo.Shaped rows sz) (d : ByteArray) : (Mo.LdOf rows d).Nodup := by
  have h : ∀ j, j ≤ rows.length → (Mo.LdOf (rows.take j) d).Nodup := by
    intro j
    induction j with
    | zero => intro _; simp [Mo.LdOf]
    | succ j ih =>
      intro hj
      have hlt : j < rows.length := hj
      have hrow : rows[j]? = some rows[j] := List.getElem?_eq_getElem hlt
      have hnew := Mo.link_new S hrow
      have hput := Mo.link_put hrow
      rw [← hput]
      by_cases e : d = Mo.r2 rows[j]
      · rw [e, Da.put_at, List.nodup_append]
        rw [e] at ih
        exact ⟨ih (by omega), by simp, fun a ha b hb e2 => by simp at hb; subst hb; subst e2; exact hnew ha⟩
      · rw [Da.put_ne e]; exact ih (by omega)
  have := h rows.length (Nat.le_refl _)
  rwa [List.take_of_length_le (Nat.le_refl _)] at this

end Go.Proofs.Ytpdejkalcminbaa.Lw
