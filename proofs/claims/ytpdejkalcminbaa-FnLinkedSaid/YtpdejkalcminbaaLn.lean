/- spec.Linked: what is told of a name and a role. -/
import Derived.Test.YtpdejkalcminbaaCl
import Derived.BigQuiet
namespace Go.Proofs.Ytpdejkalcminbaa.Ln
open Go.RowKit Go.Proofs.Ytpdejkalcminbaa.Hm Go.Proofs.Ytpdejkalcminbaa.Hp Go.Proofs.Ytpdejkalcminbaa.Rm Go.Proofs.Ytpdejkalcminbaa.Hk Go.Proofs.Ytpdejkalcminbaa.Cl0 Go.Proofs.Ytpdejkalcminbaa.Cl Go.Proofs.Ytpdejkalcminbaa.Mo Go.Proofs.Ytpdejkalcminbaa.Pl Go.Proofs.Ytpdejkalcminbaa.PFnUsers
open Go.Proofs.YtpdejkalcminbaaW.PrintWords (Kd Drawn0 Ev)

/-- What the reference answers. -/
def Told (w0 : World) (L : List (ByteArray × ByteArray)) (a b : ByteArray) (may : Bool) (e : Ending) (w' : World) : Prop := ∃ ans told, e = .returned (.tuple #[.bool ans, .bool told]) ∧ (told = true → may = true ∧ (ans = true ↔ Near L a b)) ∧ Below w0.heap.size w0 w'

theorem Mid.near {w0 : World} {L : List (ByteArray × ByteArray)} {a : ByteArray} {l : List ByteArray} {f : List Int} {v8 v9 : Value} {wr : World} (M : Cl.Mid w0 L a l.length l f v8 v9 wr) (b : ByteArray) :
    (b ∉ l → ¬ Near L a b) ∧ ∀ (i : Nat) (j : Int), l[i]? = some b → f[i]? = some j → j ≤ 10 → Near L a b :=
  M.inv.near (fun n hn m hm => by
    obtain ⟨i, hi⟩ := List.mem_iff_getElem?.mp hn
    exact M.done i n (List.getElem?_eq_some_iff.mp hi).1 hi m hm) b

set_option maxHeartbeats 2000000 in
set_option maxRecDepth 100000 in
/-- spec.Linked. -/
theorem linked {rows : List (List ByteArray)} (d a b : ByteArray) (F : Fits rows) (hd : d.size ≤ big) (ha : a.size ≤ big) (hb : b.size ≤ big) :
    ∃ may, (may = true → Shaped rows (sizeOf' d)) ∧ ∀ (A0 : Option Addr) (c0 : Nat) (w : World), Kd.C (Kd.slice 9 Kd.string) w A0 rows.length rows → rows.length ≤ c0 →
      Calls Try.prog 12 #[.slice A0 rows.length c0, .string d, .string a, .string b] w (Told w (LdOf rows d) a b may) := by
  obtain ⟨b1, e1, hs1⟩ := areLinks_ev rows d a F hd ha
  obtain ⟨k1, hk1⟩ := e1.rounds
  obtain ⟨b2, e2⟩ := simple_ev b hb
  obtain ⟨k2, hk2⟩ := e2.rounds
  refine ⟨b1, hs1, fun A0 c0 w hr hc => ?_⟩
  have CA := hid (spec_areLinks.calls k1 A0 c0 rows d a b1 w hr hc hk1)
  have CB := hid (fun w1 => spec_isSimple.calls k2 b b2 w1 hk2)
  cases b1 with
  | false =>
    clear hr hc hk1 hk2 e1 e2 hs1 F hd ha hb CB
    go_enter Try.func12, Try.ntmps12
    go_wp2_with (go_at_call 15; (with_reducible refine CA.out.mono ?_); rintro e w1 ⟨rfl, hd⟩; have HD := hid hd; clear hd)
    go_ret2
    exact ⟨false, false, rfl, by simp, HD.out.below⟩
  | true =>
    cases b2 with
    | false =>
      clear hr hc hk1 hk2 e1 e2 hs1 F hd ha hb
      go_enter Try.func12, Try.ntmps12
      go_wp2_with (first
        | (go_at_call 15; (with_reducible refine CA.out.mono ?_); rintro e w1 ⟨rfl, hd⟩; have HD := hid hd; clear hd)
        | (go_at_call 22; (with_reducible refine (CB.out _).mono ?_); rintro e w2 ⟨rfl, hd2⟩; have HD2 := hid hd2; clear hd2))
      go_ret2
      exact ⟨false, false, rfl, by simp, HD.out.below.trans (HD2.out.below.mono HD.out.below.size)⟩
    | true =>
      have CC := hid (fun w1 (hw : Below w.heap.size w w1) => closure d a F (hs1 rfl) (Kd.C_below hr hw) hc (w := w1))
      have hL : (LdOf rows d).length ≤ 60 := by have := Ld_le rows d; have := (hs1 rfl).few; omega
      clear hr hc hk1 hk2 e1 e2 hs1 F hd ha hb
      generalize LdOf rows d = L at CC hL ⊢
      go_enter Try.func12, Try.ntmps12
      go_wp2_with (first
        | (go_at_call 15; (with_reducible refine CA.out.mono ?_); rintro e w1 ⟨rfl, hd⟩; have HD := hid hd.below; clear hd)
        | (go_at_call 22; (with_reducible refine (CB.out _).mono ?_); rintro e w2 ⟨rfl, hd2⟩; have HD2 := hid (HD.out.trans (hd2.below.mono HD.out.size)); clear hd2)
        | (go_at_call 23; (with_reducible refine (CC.out _ (by exact HD2.out)).mono ?_); rintro e w3 ⟨l, f, v8, v9, rfl, hM⟩
           have hle := hM.inv.le
           obtain ⟨g8, c8, rfl, _, _⟩ := hM.r8.form hM.pos
           obtain ⟨g9, c9, rfl, _, _⟩ := hM.r9.form hM.pos
           have HB3 := hid (HD2.out.trans (hM.bel.mono HD2.out.size))
           have HM := hid hM
           clear hM))
      go_loopw [33] (fun v33 wr => ∃ i : Nat, v33 = .int .i64 i ∧ i ≤ l.length ∧ wr = w3 ∧ ∀ i' n, i' < i → l[i']? = some n → n ≠ b) (fun v33 _ => l.length - (intOf v33).toNat)
      case atStart => exact ⟨0, rfl, Nat.zero_le _, rfl, fun _ _ h => by omega⟩
      case round =>
        obtain ⟨i, rfl, hi, rfl, hno⟩ := hrel
        have HNO := hid hno
        clear hno
        by_cases hlt : i < l.length
        · obtain ⟨n, hn⟩ : ∃ n, l[i]? = some n := ⟨_, List.getElem?_eq_getElem hlt⟩
          have n0 : wr.cell? ⟨g8, i, none⟩ = some (.string n) := row_cell HM.out.r8 (by simp [hn])
          have HNN := hid hn
          clear hn
          by_cases hnb : n = b
          · subst hnb
            obtain ⟨jf, hjf, _, _⟩ := HM.out.inv.far i n HNN.out
            have f0 : wr.cell? ⟨g9, i, none⟩ = some (.int .i64 jf) := row_cell HM.out.r9 (by simp [hjf])
            have b0 : (0 : Int) ≤ (i : Int) := Int.natCast_nonneg _
            have b1 : (i : Int) < (l.length : Int) := by omega
            have TL := hid (show ∀ w', Below wr.heap.size wr w' → Told w L a n true (.returned (.tuple #[.bool true, .bool (decide ((jf : Int) ≤ 10))])) w' from fun w' hb' =>
              ⟨true, _, rfl, fun h => ⟨rfl, by simp only [true_iff]; exact (Mid.near HM.out n).2 i jf HNN.out hjf (of_decide_eq_true h)⟩, HB3.out.trans (hb'.mono HB3.out.size)⟩)
            clear hjf
            go_wp2
            go_quiet (fail)
            all_goals
              go_wp2
              go_ret2
              exact TL.out _ (Drawn0.mk ⟨_, rfl⟩).below
          · have hnq : (n.toList == b.toList) = false := beq_eq_false_iff_ne.mpr (fun e => hnb (Hl.str_inj e))
            have HNB := hid hnb
            clear hnb
            go_wp2
            go_roundw
            case rel =>
              refine ⟨i + 1, by go_num, by omega, trivial, fun i' x h hx => ?_⟩
              by_cases e : i' = i
              · subst e
                rw [HNN.out] at hx
                cases hx
                exact HNB.out
              · exact HNO.out i' x (by omega) hx
            case measure => simp [intOf]; omega
        · obtain rfl : i = l.length := by omega
          have hnb : b ∉ l := fun hm => by
            obtain ⟨i', hi'⟩ := List.mem_iff_getElem?.mp hm
            exact HNO.out i' b (List.getElem?_eq_some_iff.mp hi').1 hi' rfl
          have TL := hid (show Told w L a b true (.returned (.tuple #[.bool false, .bool true])) wr from
            ⟨false, true, rfl, fun _ => ⟨rfl, by simpa using (Mid.near HM.out b).1 hnb⟩, HB3.out⟩)
          clear hlt hnb
          go_wp2
          go_ret2
          exact TL.out

end Go.Proofs.Ytpdejkalcminbaa.Ln
