/- impl.managerOf: a manager that has the links of the rows, each in its domain. -/
import Derived.Test.YtpdejkalcminbaaDa
import Derived.Test.YtpdejkalcminbaaWWords
namespace Go.Proofs.Ytpdejkalcminbaa.Mo
open Go.RowKit Go.Proofs.Ytpdejkalcminbaa.Hm Go.Proofs.Ytpdejkalcminbaa.Hp Go.Proofs.Ytpdejkalcminbaa.Zm Go.Proofs.Ytpdejkalcminbaa.Mk Go.Proofs.Ytpdejkalcminbaa.Ro Go.Proofs.Ytpdejkalcminbaa.Rm Go.Proofs.Ytpdejkalcminbaa.Gr Go.Proofs.Ytpdejkalcminbaa.Dm Go.Proofs.Ytpdejkalcminbaa.Da
open Go.Proofs.YtpdejkalcminbaaW.PrintWords (Kd)

theorem spot_none {w : World} {a : Addr} {v : Value} (h : w.cell? a = some v) : a.spot = none := by
  unfold World.cell? at h
  split at h
  · split at h
    · cases h
    · rename_i hs; simpa using hs
  · cases h

theorem addr_lit {a : Addr} (h : a.spot = none) : a = ⟨a.block, a.off, none⟩ := by cases a; simp at h; subst h; rfl

/-- The cells of a row of strings. -/
theorem strs_open {w : World} {A : Option Addr} {row : List ByteArray} (h : Kd.C Kd.string w A row.length row) (h0 : 0 < row.length) :
    ∃ b o, A = some ⟨b, o, none⟩ ∧ ∀ (i : Nat) (s : ByteArray), row[i]? = some s → w.cell? ⟨b, o + i, none⟩ = some (.string s) := by
  have get : ∀ i, i < row.length → ∃ ad, A = some ad ∧ w.cell? (ad.add i) = some (.string (row.getD i ByteArray.empty)) := fun i hi => by
    obtain ⟨ad, c, e, _, hK, hc⟩ := Kd.C_get h ByteArray.empty (i : Int) (by omega) (by omega)
    rw [Int.toNat_natCast] at hK
    have hK' : c = [.string (row.getD i ByteArray.empty)] := hK
    subst hK'
    have := hc 0 _ rfl
    refine ⟨ad, e, ?_⟩
    have hsz : Kd.string.sz = 1 := rfl
    rw [hsz, Nat.mul_one, Nat.add_zero, Int.toNat_natCast] at this
    exact this
  obtain ⟨ad, rfl, h1⟩ := get 0 h0
  have hs : ad.spot = none := by
    have := spot_none h1
    simpa [Addr.add] using this
  refine ⟨ad.block, ad.off, by rw [← addr_lit hs], fun i s hi => ?_⟩
  obtain ⟨hlt, hg⟩ := List.getElem?_eq_some_iff.mp hi
  obtain ⟨ad2, e2, h2⟩ := get i hlt
  cases e2
  rw [addr_lit hs, Addr.add_lit] at h2
  rw [h2]
  simp [hlt, hg]

/-- The cells of a row of rows of strings. -/
theorem rows_open {w : World} {A : Option Addr} {rows : List (List ByteArray)} (h : Kd.C (Kd.slice 9 Kd.string) w A rows.length rows) (h0 : 0 < rows.length) :
    ∃ b o, A = some ⟨b, o, none⟩ ∧ ∀ (i : Nat) (row : List ByteArray), rows[i]? = some row → ∃ A1 c1, w.cell? ⟨b, o + i, none⟩ = some (.slice A1 row.length c1) ∧ row.length ≤ c1 ∧ Kd.C Kd.string w A1 row.length row := by
  have get : ∀ (i : Nat) row, rows[i]? = some row → ∃ ad A1 c1, A = some ad ∧ w.cell? (ad.add i) = some (.slice A1 row.length c1) ∧ row.length ≤ c1 ∧ Kd.C Kd.string w A1 row.length row := fun i row hi => by
    obtain ⟨hlt, hg⟩ := List.getElem?_eq_some_iff.mp hi
    obtain ⟨ad, c, e, _, hK, hc⟩ := Kd.C_get h [] (i : Int) (by omega) (by omega)
    obtain ⟨A1, c1, rfl, hl, hC⟩ := hK
    have e1 : rows.getD (i : Int).toNat [] = row := by simp [hlt, hg]
    rw [e1] at hl hC hc
    have := hc 0 _ rfl
    have hsz : (Kd.slice 9 Kd.string).sz = 1 := rfl
    rw [hsz, Nat.mul_one, Nat.add_zero, Int.toNat_natCast] at this
    exact ⟨ad, A1, c1, e, this, hl, hC⟩
  obtain ⟨r0, hr0⟩ : ∃ r0, rows[0]? = some r0 := ⟨_, List.getElem?_eq_getElem h0⟩
  obtain ⟨ad, _, _, rfl, h1, _⟩ := get 0 r0 hr0
  have hs : ad.spot = none := by
    have := spot_none h1
    simpa [Addr.add] using this
  refine ⟨ad.block, ad.off, by rw [← addr_lit hs], fun i row hi => ?_⟩
  obtain ⟨ad2, A1, c1, e2, h2, h3, h4⟩ := get i row hi
  cases e2
  rw [addr_lit hs, Addr.add_lit] at h2
  exact ⟨A1, c1, h2, h3, h4⟩

/-- The parts of a row. -/
def r0 (row : List ByteArray) : ByteArray := row.getD 0 none'
def r1 (row : List ByteArray) : ByteArray := row.getD 1 none'
def r2 (row : List ByteArray) : ByteArray := row.getD 2 none'
/-- The links of a domain. -/
def LdOf (rows : List (List ByteArray)) (d : ByteArray) : List (ByteArray × ByteArray) := (rows.filter (fun r => r2 r == d)).map fun r => (r0 r, r1 r)

/-- Rows of two names, or of two names and a domain. -/
structure Shaped (rows : List (List ByteArray)) (sz : Nat) : Prop where
  len : ∀ r ∈ rows, r.length = sz
  sz : sz = 2 ∨ sz = 3
  nd : rows.Nodup
  few : rows.length ≤ 60

theorem row_eq {r r' : List ByteArray} {sz : Nat} (h : r.length = sz) (h' : r'.length = sz) (hs : sz = 2 ∨ sz = 3) (e0 : r0 r = r0 r') (e1 : r1 r = r1 r') (e2 : r2 r = r2 r') : r = r' := by
  unfold r0 at e0; unfold r1 at e1; unfold r2 at e2
  rcases hs with rfl | rfl
  · match r, r', h, h' with
    | [a, b], [c, d], _, _ => simp at e0 e1; rw [e0, e1]
  · match r, r', h, h' with
    | [a, b, c], [d, e, f], _, _ => simp at e0 e1 e2; rw [e0, e1, e2]

theorem link_new {rows : List (List ByteArray)} {sz j : Nat} {row : List ByteArray} (S : Shaped rows sz) (hj : rows[j]? = some row) : (r0 row, r1 row) ∉ LdOf (rows.take j) (r2 row) := by
  intro h
  unfold LdOf at h
  simp only [List.mem_map, List.mem_filter, beq_iff_eq, Prod.mk.injEq] at h
  obtain ⟨r, ⟨hr, h2⟩, h0, h1⟩ := h
  obtain ⟨hlt, hg⟩ := List.getElem?_eq_some_iff.mp hj
  have hrm : r ∈ rows := List.mem_of_mem_take hr
  have hre : r = row := row_eq (S.len r hrm) (S.len row (List.mem_of_getElem? hj)) S.sz h0 h1 h2
  subst hre
  obtain ⟨i, hi, hgi⟩ := List.mem_iff_getElem.mp hr
  simp only [List.length_take] at hi
  rw [List.getElem_take] at hgi
  have := (List.getElem_inj S.nd).mp (hgi.trans hg.symm)
  omega

theorem link_put {rows : List (List ByteArray)} {j : Nat} {row : List ByteArray} (hj : rows[j]? = some row) : put (LdOf (rows.take j)) (r2 row) (r0 row) (r1 row) = LdOf (rows.take (j + 1)) := by
  funext d
  have e : rows.take (j + 1) = rows.take j ++ [row] := by rw [List.take_add_one, hj]; rfl
  unfold put
  rw [e]
  by_cases h : d = r2 row
  · subst h; simp [LdOf]
  · have : (r2 row == d) = false := beq_eq_false_iff_ne.mpr (fun e => h e.symm)
    simp [LdOf, h, this]

theorem Ld_le (rows : List (List ByteArray)) (d : ByteArray) : (LdOf rows d).length ≤ rows.length := by
  unfold LdOf; rw [List.length_map]; exact List.length_filter_le _ _

/-- The state of the manager after j rows. -/
structure Man (w0 w : World) (rows : List (List ByteArray)) (q dm m : Nat) (ca : Value) (j : Nat) (H : Heap) (ds : List ByteArray) (rp : ByteArray → Nat) : Prop where
  rep : Rep w0 w H
  q_ : H q = some (drO dm)
  dmp : DMp H dm m ca ds rp (LdOf (rows.take j))
  few : ds.length ≤ j

def ManAt (w0 : World) (rows : List (List ByteArray)) (q dm m : Nat) (ca : Value) (j : Nat) (w : World) : Prop := ∃ H ds rp, Man w0 w rows q dm m ca j H ds rp

set_option maxHeartbeats 2000000 in
set_option maxRecDepth 100000 in
theorem managerOf {w : World} {A0 : Option Addr} {c0 sz : Nat} {rows : List (List ByteArray)} (hr : Kd.C (Kd.slice 9 Kd.string) w A0 rows.length rows) (S : Shaped rows sz) :
    Calls Try.prog 18 #[.slice A0 rows.length c0] w fun e w' => ∃ q dm m ca, e = .returned (pt q) ∧ ManAt w rows q dm m ca rows.length w' := by
  have CN := hid (newDm (Rep.start w))
  have HR := hid hr
  have HS := hid S
  have hfew := S.few
  clear hr S
  go_enter Try.func18, Try.ntmps18
  go_wp2_with (go_at_call 27; (with_reducible refine CN.out.mono ?_); rintro e w1 ⟨q, dm, m, ca, H1, rfl, hN⟩; have N := hid hN; clear hN)
  clear CN
  go_loopw [9] (fun i wr => ∃ j : Nat, j ≤ rows.length ∧ i = .int .i64 j ∧ ManAt w rows q dm m ca j wr) (fun i _ => rows.length - (intOf i).toNat)
  case atStart =>
    refine ⟨0, Nat.zero_le _, rfl, H1, [], fun _ => 0, N.out.rep, N.out.q_, ⟨N.out.dm_, N.out.m_, (fun _ h => by cases h), fun d _ => ?_, List.nodup_nil, (fun _ h => by cases h)⟩, Nat.le_refl _⟩
    simp [LdOf]
  case round =>
    obtain ⟨j, hj, rfl, H, ds, rp, M⟩ := hrel
    have HM := hid M
    clear M
    by_cases hlt : j < rows.length
    · obtain ⟨b, o, rfl, hcell⟩ := rows_open HR.out (by omega)
      obtain ⟨row, hrow⟩ : ∃ row, rows[j]? = some row := ⟨_, List.getElem?_eq_getElem hlt⟩
      obtain ⟨A1, c1, k1, k2, k3⟩ := hcell j row hrow
      have hlen : row.length = sz := HS.out.len row (List.mem_of_getElem? hrow)
      have hszb := HS.out.sz
      obtain ⟨b1, o1, rfl, hc1⟩ := strs_open k3 (by omega)
      have hbel := HM.out.rep.bel
      have up : ∀ {a : Addr} {v : Value}, w.cell? a = some v → wr.cell? a = some v := fun {a v} h => (hbel.cell (World.block_lt_of_cell? _ _ h)).trans h
      have g0 : wr.cell? ⟨b, o + j, none⟩ = some (.slice (some ⟨b1, o1, none⟩) row.length c1) := up k1
      have s0 : wr.cell? ⟨b1, o1, none⟩ = some (.string (r0 row)) := up (hc1 0 _ (by unfold r0; rw [List.getD_eq_getElem?_getD, List.getElem?_eq_getElem (by omega)]; rfl))
      have s1 : wr.cell? ⟨b1, o1 + 1, none⟩ = some (.string (r1 row)) := up (hc1 1 _ (by unfold r1; rw [List.getD_eq_getElem?_getD, List.getElem?_eq_getElem (by omega)]; rfl))
      have q0 : wr.cell? ⟨q, 0, none⟩ = some (pt dm) := cell_of (HM.out.rep.at HM.out.q_) 0 rfl
      have hc2 : row.length = 3 → ∀ w2 : World, Below w.heap.size w w2 → w2.cell? ⟨b1, o1 + 2, none⟩ = some (.string (r2 row)) := fun h3 w2 hb2 =>
        have hc := hc1 2 _ (by unfold r2; rw [List.getD_eq_getElem?_getD, List.getElem?_eq_getElem (by omega)]; rfl)
        (hb2.cell (World.block_lt_of_cell? _ _ hc)).trans hc
      have h2n : row.length = 2 → r2 row = none' := fun h2 => by unfold r2; rw [List.getD_eq_getElem?_getD, List.getElem?_eq_none (by omega)]; rfl
      have hnew := link_new HS.out hrow
      have hput := link_put hrow
      rcases hszb with rfl | rfl
      · rw [hlen] at g0 k2
        have HX := hid (And.intro hnew hput)
        have H2n := hid (h2n hlen)
        clear hbel hcell k1 k3 hc1 up hc2 h2n hnew hput hrow hlen
        go_wp2
        go_still_tail 12, (by kernel_rfl)
        have CA := hid (fun A sc => dmAddLink (A := A) (sn := 0) (sc := sc) (r0 row) (r1 row) (r2 row) HM.out.rep.drew HM.out.dmp (fun _ _ => .inl ⟨A, _, rfl, H2n.out⟩) HX.out.1 (by have := HM.out.few; omega) (by have := Ld_le (rows.take j) (r2 row); simp only [List.length_take] at this; omega))
        change wpList _ _ _ _ _ wr.drew
        go_wp2_with fail
        all_goals
          refine (CA.out _ _).mono ?_
          rintro e w2 ⟨rfl, ds2, rp2, H2, hA⟩
          have HA := hid hA
          clear hA CA
          go_wp2
          go_roundw
          case rel =>
            refine ⟨j + 1, by omega, by go_num, H2, ds2, rp2, HA.out.rep, HA.out.raws _ _ HM.out.q_, ?_, ?_⟩
            · rw [← HX.out.2]; exact HA.out.dmp
            · have := HA.out.few; have := HM.out.few; omega
          case measure => simp [intOf]; omega
      · rw [hlen] at g0 k2
        have HX := hid (And.intro hnew hput)
        have hc12 : ¬ c1 = 2 := by omega
        have HD := hid (hc2 hlen)
        clear hbel hcell k1 k3 hc1 up hc2 h2n hnew hput hrow hlen
        go_wp2
        go_still_tail 12, (by kernel_rfl)
        have CA := hid (dmAddLink (A := some ⟨b1, o1 + 2, none⟩) (sn := 1) (sc := c1 - 2) (r0 row) (r1 row) (r2 row) HM.out.rep.drew HM.out.dmp (fun w1 hw1 => .inr ⟨b1, o1 + 2, 0, c1 - 2, rfl, HD.out w1 hw1.bel, by omega⟩) HX.out.1 (by have := HM.out.few; omega) (by have := Ld_le (rows.take j) (r2 row); simp only [List.length_take] at this; omega))
        change wpList _ _ _ _ _ wr.drew
        go_wp2_with fail
        refine CA.out.mono ?_
        rintro e w2 ⟨rfl, ds2, rp2, H2, hA⟩
        have HA := hid hA
        clear hA CA
        go_wp2
        go_roundw
        case rel =>
          refine ⟨j + 1, by omega, by go_num, H2, ds2, rp2, HA.out.rep, HA.out.raws _ _ HM.out.q_, ?_, ?_⟩
          · rw [← HX.out.2]; exact HA.out.dmp
          · have := HA.out.few; have := HM.out.few; omega
        case measure => simp [intOf]; omega
    · have hjl : j = rows.length := by omega
      subst hjl
      go_wp2
      go_ret
      exact ⟨q, dm, m, ca, rfl, H, ds, rp, HM.out⟩

end Go.Proofs.Ytpdejkalcminbaa.Mo
