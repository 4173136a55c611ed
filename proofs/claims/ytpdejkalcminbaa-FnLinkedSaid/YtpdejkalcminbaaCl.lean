/- spec.closure: all that one comes to from a name. -/
import Derived.Test.YtpdejkalcminbaaCl0
import Derived.Deep.RegionLaw
import Derived.IntWalk
namespace Go.Proofs.Ytpdejkalcminbaa.Cl
open Go.RowKit Go.Proofs.Ytpdejkalcminbaa.Hm Go.Proofs.Ytpdejkalcminbaa.Hp Go.Proofs.Ytpdejkalcminbaa.Rm Go.Proofs.Ytpdejkalcminbaa.Hk Go.Proofs.Ytpdejkalcminbaa.Cl0 Go.Proofs.Ytpdejkalcminbaa.Mo Go.Proofs.Ytpdejkalcminbaa.Pl Go.Proofs.Ytpdejkalcminbaa.PFnUsers
open Go.Proofs.YtpdejkalcminbaaW.PrintWords (Kd Drawn0 Ev)

theorem info3 : (Try.prog.info? 3).map (fun i => (i.zero, i.size, i.bytes)) = some (some (.int .i64 0), 1, 8) := by kernel_rfl

/-- Between two rounds of the outer loop. -/
structure Mid (w0 : World) (L : List (ByteArray × ByteArray)) (a : ByteArray) (at_ : Nat) (l : List ByteArray) (f : List Int) (v8 v9 : Value) (wr : World) : Prop where
  bel : Below w0.heap.size w0 wr
  inv : Inv L a l f
  r8 : wr.ownsRow w0.heap.size 9 1 v8 l.length (l.map Value.string)
  r9 : wr.ownsRow w0.heap.size 3 1 v9 l.length (f.map (Value.int .i64))
  le : at_ ≤ l.length
  done : ∀ i n, i < at_ → l[i]? = some n → ∀ m ∈ up L n, m ∈ l

/-- Between two rounds of the inner loop. -/
structure In (w0 : World) (L : List (ByteArray × ByteArray)) (a : ByteArray) (at_ : Nat) (n : ByteArray) (g j : Nat) (l : List ByteArray) (f : List Int) (v8 v9 : Value) (wr : World) : Prop extends Mid w0 L a at_ l f v8 v9 wr where
  cur : l[at_]? = some n
  us : up L n ≠ [] → g < wr.heap.size ∧ v8.ownBlock ≠ some g ∧ v9.ownBlock ≠ some g ∧ ∀ (i : Nat) (s : ByteArray), (up L n)[i]? = some s → wr.cell? ⟨g, i, none⟩ = some (.string s)
  part : ∀ m ∈ (up L n).take j, m ∈ l

theorem Mid.pos {w0 : World} {L : List (ByteArray × ByteArray)} {a : ByteArray} {at_ : Nat} {l : List ByteArray} {f : List Int} {v8 v9 : Value} {wr : World} (M : Mid w0 L a at_ l f v8 v9 wr) : 0 < l.length := List.length_pos_of_mem M.inv.fst

theorem Mid.start (w : World) (L : List (ByteArray × ByteArray)) (a : ByteArray) : Mid w L a 0 [a] [0] (.slice (some ⟨w.heap.size, 0, none⟩) 1 1) (.slice (some ⟨w.heap.size + 1, 0, none⟩) 1 1) ((w.alloc (.cells #[.string a] 9)).alloc (.cells #[.int .i64 0] 3)) := by
  refine ⟨(((Below.refl _ _).alloc (Nat.le_refl _) _).alloc (by simp) _), Inv.start L a, ?_, ?_, Nat.zero_le _, fun i n h => by omega⟩
  · refine ⟨by simp, .inr ⟨w.heap.size, 1, _, rfl, Nat.le_refl _, (Below.heap_alloc _ _ _ (by simp)).trans (heap_alloc_new _ _), Nat.le_refl _, by unfold maxLen; omega, by simp, by simp⟩⟩
  · refine ⟨by simp, .inr ⟨w.heap.size + 1, 1, #[.int .i64 0], rfl, by omega, ?_, Nat.le_refl _, by unfold maxLen; omega, ?_, ?_⟩⟩
    · have := heap_alloc_new (w.alloc (.cells #[.string a] 9)) (.cells #[.int .i64 0] 3)
      simpa using this
    · simp
    · simp

theorem row_below {w w' : World} {B : Nat} {e : TypeId} {v : Value} {n : Nat} {xs : List Value} (h : w.ownsRow B e 1 v n xs) (hb : Below w.heap.size w w') : w'.ownsRow B e 1 v n xs :=
  ownsRow_same h (fun k hk => by obtain ⟨cur, hc⟩ := own_block_type h hk; exact hb.block k (lt_of_block hc))

/-- The names that one link leads to, in a slice of their own. -/
theorem Mid.enter {w0 : World} {L : List (ByteArray × ByteArray)} {a : ByteArray} {at_ : Nat} {l : List ByteArray} {f : List Int} {v8 v9 v : Value} {wr w' : World} {n : ByteArray} (M : Mid w0 L a at_ l f v8 v9 wr) (hn : l[at_]? = some n)
    (hv : Kd.R Kd.string 9 w' wr.heap.size (fun _ => True) v (up L n)) (hb : Below wr.heap.size wr w') :
    ∃ A c g, v = .slice A (up L n).length c ∧ (up L n ≠ [] → A = some ⟨g, 0, none⟩) ∧ In w0 L a at_ n g 0 l f v8 v9 w' := by
  obtain ⟨A, c, rfl, hl, hC⟩ := Kd.R_reads hv
  obtain ⟨inner, hown⟩ := Kd.R_own hv
  have hM : Mid w0 L a at_ l f v8 v9 w' := ⟨M.bel.trans (hb.mono M.bel.size), M.inv, row_below M.r8 hb, row_below M.r9 hb, M.le, M.done⟩
  by_cases h0 : up L n = []
  · exact ⟨A, c, 0, rfl, fun h => absurd h0 h, hM, hn, fun h => absurd h0 h, by simp⟩
  · have hp : 0 < (up L n).length := List.length_pos_iff.mpr h0
    obtain ⟨g, cap, e, hg, hlt⟩ := hown.form hp
    simp only [Value.slice.injEq, true_and] at e
    obtain ⟨rfl, rfl⟩ := e
    obtain ⟨b, o, e2, hcell⟩ := strs_open hC hp
    simp only [Option.some.injEq, Addr.mk.injEq, and_true] at e2
    obtain ⟨rfl, rfl⟩ := e2
    refine ⟨_, _, g, rfl, fun _ => rfl, hM, hn, fun _ => ⟨hlt, ?_, ?_, fun i s hi => ?_⟩, by simp⟩
    · intro e
      obtain ⟨cur, hc⟩ := own_block_type M.r8 e
      have := lt_of_block hc
      omega
    · intro e
      obtain ⟨cur, hc⟩ := own_block_type M.r9 e
      have := lt_of_block hc
      omega
    · have := hcell i s hi
      rwa [Nat.zero_add] at this

/-- What the search leaves. -/
def Post (w0 : World) (L : List (ByteArray × ByteArray)) (a : ByteArray) (e : Ending) (w' : World) : Prop := ∃ l f v8 v9, e = .returned (.tuple #[v8, v9]) ∧ Mid w0 L a l.length l f v8 v9 w'

theorem Mid.drawn {w0 : World} {L : List (ByteArray × ByteArray)} {a : ByteArray} {at_ : Nat} {l : List ByteArray} {f : List Int} {v8 v9 : Value} {wr w' : World} (M : Mid w0 L a at_ l f v8 v9 wr) (hd : Drawn0 wr w') : Mid w0 L a at_ l f v8 v9 w' := by
  have hb : Below wr.heap.size wr w' := hd.below
  exact ⟨M.bel.trans (hb.mono M.bel.size), M.inv, row_below M.r8 hb, row_below M.r9 hb, M.le, M.done⟩
theorem In.drawn {w0 : World} {L : List (ByteArray × ByteArray)} {a : ByteArray} {at_ : Nat} {n : ByteArray} {g j : Nat} {l : List ByteArray} {f : List Int} {v8 v9 : Value} {wr w' : World} (M : In w0 L a at_ n g j l f v8 v9 wr) (hd : Drawn0 wr w') : In w0 L a at_ n g j l f v8 v9 w' := by
  have hb : Below wr.heap.size wr w' := hd.below
  refine ⟨M.toMid.drawn hd, M.cur, fun h => ?_, M.part⟩
  obtain ⟨h1, h2, h3, h4⟩ := M.us h
  exact ⟨Nat.lt_of_lt_of_le h1 hb.size, h2, h3, fun i s hi => (hb.cell (World.block_lt_of_cell? _ _ (h4 i s hi))).trans (h4 i s hi)⟩

/-- Behind one more name. -/
theorem In.push {w0 : World} {L : List (ByteArray × ByteArray)} {a : ByteArray} {at_ : Nat} {n : ByteArray} {g j jf : Nat} {l : List ByteArray} {f : List Int} {v8 v9 : Value} {w2 : World} {m : ByteArray} {g8 c8 g9 c9 : Nat} {wf : World}
    (I : In w0 L a at_ n g j l f v8 v9 w2) (hm : (up L n)[j]? = some m) (hmem : m ∉ l) (hjf : f[at_]? = some (jf : Int))
    (h8 : wf.ownsRow w0.heap.size 9 1 (.slice (some ⟨g8, 0, none⟩) (l.length + 1) c8) (l.length + 1) (l.map Value.string ++ [.string m]))
    (h9 : wf.ownsRow w0.heap.size 3 1 (.slice (some ⟨g9, 0, none⟩) (l.length + 1) c9) (l.length + 1) (f.map (Value.int .i64) ++ [.int .i64 ((jf : Int) + 1)]))
    (hf : Fr w0 w2 g wf) (n8 : g8 ≠ g) (n9 : g9 ≠ g) : In w0 L a at_ n g (j + 1) (l ++ [m]) (f ++ [(jf : Int) + 1]) (.slice (some ⟨g8, 0, none⟩) (l.length + 1) c8) (.slice (some ⟨g9, 0, none⟩) (l.length + 1) c9) wf := by
  have hmu : m ∈ up L n := List.mem_of_getElem? hm
  have hlt : at_ < l.length := (List.getElem?_eq_some_iff.mp I.cur).1
  refine ⟨⟨hf.bel, I.inv.push I.cur hjf hmu hmem, by simpa using h8, by simpa using h9, by have := I.le; simp; omega, fun i x hi hx y hy => ?_⟩, by rw [List.getElem?_append_left hlt]; exact I.cur, fun h => ?_, fun x hx => ?_⟩
  · rw [List.getElem?_append_left (by omega)] at hx
    exact List.mem_append_left _ (I.done i x hi hx y hy)
  · obtain ⟨h1, _, _, h4⟩ := I.us h
    refine ⟨Nat.lt_of_lt_of_le h1 hf.size, ?_, ?_, fun i s hi => ?_⟩
    · intro e; cases e; exact n8 rfl
    · intro e; cases e; exact n9 rfl
    · have := h4 i s hi
      rw [← this]
      unfold World.cell?
      simp only [hf.same]
  · rw [List.take_add_one, hm] at hx
    rcases List.mem_append.mp hx with hx | hx
    · exact List.mem_append_left _ (I.part x hx)
    · simp at hx; subst hx; simp

theorem hasName {w1 : World} {B g c : Nat} {l : List ByteArray} (m : ByteArray) (h : w1.ownsRow B 9 1 (.slice (some ⟨g, 0, none⟩) l.length c) l.length (l.map Value.string)) (hl : l.length < 1000000) :
    Calls Try.prog 17 #[.slice (some ⟨g, 0, none⟩) l.length c, .string m] w1 fun e w' => e = .returned (.bool (decide (m ∈ l))) ∧ Drawn0 w1 w' := by
  obtain ⟨A, c', e, hlc, hC⟩ := own_C h hl
  simp only [Value.slice.injEq, true_and] at e
  obtain ⟨rfl, rfl⟩ := e
  obtain ⟨k, hk⟩ := (hasName_ev l m (by have : big = 2147483647 := rfl; omega)).rounds
  exact spec_hasName.calls k _ c l m _ w1 hC hlc hk

set_option maxHeartbeats 4000000 in
set_option maxRecDepth 100000 in
/-- spec.closure. -/
theorem closure {w : World} {A0 : Option Addr} {c0 : Nat} {rows : List (List ByteArray)} (d a : ByteArray) (F : Fits rows) (S : Shaped rows (sizeOf' d)) (hr : Kd.C (Kd.slice 9 Kd.string) w A0 rows.length rows) (hc : rows.length ≤ c0) :
    Calls Try.prog 23 #[.slice A0 rows.length c0, .string d, .string a] w (Post w (LdOf rows d) a) := by
  obtain ⟨i9, hi9, hz90, hz91, hz92⟩ := info_parts Nm.info9
  obtain ⟨i3, hi3, hz30, hz31, hz32⟩ := info_parts info3
  have CD := hid (show ∀ n w1, Below w.heap.size w w1 → Calls Try.prog 16 #[.slice A0 rows.length c0, .string d, .string n, .bool true] w1 fun e w' => ∃ v0 : Value, e = .returned v0 ∧ Kd.R Kd.string 9 w' w1.heap.size (fun _ => True) v0 (up (LdOf rows d) n) ∧ Below w1.heap.size w1 w' from
    fun n w1 hw => (direct_ev rows d n true F S).rounds.elim fun k hk => spec_direct.calls k A0 c0 rows d n true (up (LdOf rows d) n) w1 (Kd.C_below hr hw) hc hk)
  have hL : (LdOf rows d).length ≤ 60 := by have := Ld_le rows d; have := S.few; omega
  have HS := hid (Mid.start w (LdOf rows d) a)
  clear hr hc F S
  generalize LdOf rows d = L at CD hL HS ⊢
  go_enter Try.func23, Try.ntmps23
  go_wp2
  generalize (w.alloc (.cells #[.string a] 9)).alloc (.cells #[.int .i64 0] 3) = W1 at HS ⊢
  go_loopw [8, 9, 10] (fun v8 v9 v10 wr => ∃ at_ l f, v10 = .int .i64 (at_ : Nat) ∧ Mid w L a at_ l f v8 v9 wr) (fun _ _ v10 _ => 100 - (intOf v10).toNat)
  case atStart => exact ⟨0, [a], [0], rfl, HS.out⟩
  case round =>
    obtain ⟨at_, l, f, rfl, M⟩ := hrel
    have hle := M.inv.le
    have hale := M.le
    obtain ⟨g8, c8, rfl, hb8, hlt8⟩ := M.r8.form M.pos
    have HM := hid M
    clear M HS
    by_cases hlt : at_ < l.length
    · obtain ⟨n, hn⟩ : ∃ n, l[at_]? = some n := ⟨_, List.getElem?_eq_getElem hlt⟩
      have n0 : wr.cell? ⟨g8, at_, none⟩ = some (.string n) := row_cell HM.out.r8 (by simp [hn])
      have C1 := hid (CD.out n wr HM.out.bel)
      have HN := hid hn
      clear hn
      go_wp2_with fail
      refine C1.out.mono ?_
      rintro e w1 ⟨v, rfl, hv, hb⟩
      obtain ⟨A, c, g, rfl, hA, hin⟩ := HM.out.enter HN.out hv hb
      have IN0 := hid hin
      have HA := hid hA
      have hus : (up L n).length ≤ 60 := Nat.le_trans (Gr.up_le L n) hL
      clear hv hb hA hin C1
      go_wp2
      go_loopw [8, 9, 30] (fun v8 v9 v30 wr => ∃ j l f, v30 = .int .i64 (j : Nat) ∧ j ≤ (up L n).length ∧ In w L a at_ n g j l f v8 v9 wr) (fun _ _ v30 _ => 100 - (intOf v30).toNat)
      case atStart => exact ⟨0, l, f, rfl, Nat.zero_le _, IN0.out⟩
      case round =>
        obtain ⟨j, l2, f2, rfl, hj, I⟩ := hrel
        have hle2 := I.inv.le
        obtain ⟨g8', c8', rfl, _, _⟩ := I.r8.form I.pos
        obtain ⟨g9', c9', rfl, _, _⟩ := I.r9.form I.pos
        have HI := hid I
        clear I IN0
        by_cases hlt2 : j < (up L n).length
        · have hne : up L n ≠ [] := fun e => by rw [e] at hlt2; cases hlt2
          obtain rfl := HA.out hne
          obtain ⟨hgl, hn8, hn9, hcell⟩ := HI.out.us hne
          obtain ⟨m, hm⟩ : ∃ m, (up L n)[j]? = some m := ⟨_, List.getElem?_eq_getElem hlt2⟩
          have m0 : wr.cell? ⟨g, j, none⟩ = some (.string m) := hcell j m hm
          have CN := hasName m HI.out.r8 (by omega)
          have HM' := hid hm
          clear hgl hn8 hn9 hcell hm
          by_cases hmem : m ∈ l2
          · rw [decide_eq_true hmem] at CN
            have CN' := hid CN
            have HMEM := hid hmem
            clear CN hmem
            go_wp2_with (go_at_call 17; (with_reducible refine CN'.out.mono ?_); rintro e w2 ⟨rfl, hd⟩; have HD := hid hd; clear hd)
            go_roundw
            case rel =>
              refine ⟨j + 1, l2, f2, by go_num, by omega, ?_⟩
              have I2 := HI.out.drawn HD.out
              exact ⟨I2.toMid, I2.cur, I2.us, fun x hx => by
                rw [List.take_add_one, HM'.out] at hx
                rcases List.mem_append.mp hx with hx | hx
                · exact I2.part x hx
                · simp at hx; subst hx; exact HMEM.out⟩
            case measure => simp [intOf]; omega
          · rw [decide_eq_false hmem] at CN
            have CN' := hid CN
            have HMEM := hid hmem
            clear CN hmem
            go_wp2_with (go_at_call 17; (with_reducible refine CN'.out.mono ?_); rintro e w2 ⟨rfl, hd⟩; have HD := hid hd; clear hd)
            have I2 := hid (HI.out.drawn HD.out)
            obtain ⟨jf, hjf, hjle, _⟩ := I2.out.inv.far at_ n I2.out.cur
            obtain ⟨hgl, hn8, hn9, _⟩ := I2.out.us hne
            have l0 : w2.cell? ⟨g9', at_, none⟩ = some (.int .i64 jf) := row_cell I2.out.r9 (by simp [hjf])
            have l1 : (w2.alloc (.cells #[.string m] 9)).cell? ⟨g9', at_, none⟩ = some (.int .i64 jf) := row_cell (I2.out.r9.alloc _) (by simp [hjf])
            have hw1 : IntKind.i64.wrap ((jf : Int) + 1) = (jf : Int) + 1 := IntWalk.i64_in _ (by omega)
            have hat : at_ < l2.length := (List.getElem?_eq_some_iff.mp I2.out.cur).1
            have b0 : (0 : Int) ≤ (at_ : Int) := Int.natCast_nonneg _
            have b1 : (at_ : Int) < (l2.length : Int) := by omega
            have FR0 := hid (show Fr w w2 g w2 from ⟨I2.out.bel, rfl, Nat.le_refl _⟩)
            have SA1 := hid (St.new (.string m) I2.out.r8 FR0.out hgl)
            have SB1 := hid (St.new (.int .i64 ((jf : Int) + 1)) I2.out.r9 FR0.out hgl)
            have SA2 := hid (SA1.out.alloc hgl (.cells #[.int .i64 ((jf : Int) + 1)] 3))
            have SB2 := hid (SB1.out.alloc hgl (.cells #[.string m] 9))
            have SA3 : Hp.Aside (St w w2 g 9 (.slice (some ⟨g8', 0, none⟩) l2.length c8') l2.length (l2.map Value.string) (w2.heap.size + 1) (.string m) ((w2.alloc (.cells #[.int .i64 ((jf : Int) + 1)] 3)).alloc (.cells #[.string m] 9))) := hid (by
              have := St.new (.string m) (I2.out.r8.alloc (.cells #[.int .i64 ((jf : Int) + 1)] 3)) (FR0.out.alloc hgl (.cells #[.int .i64 ((jf : Int) + 1)] 3)) hgl
              rwa [size_alloc] at this)
            have SB3 : Hp.Aside (St w w2 g 3 (.slice (some ⟨g9', 0, none⟩) l2.length c9') l2.length (f2.map (Value.int .i64)) (w2.heap.size + 1) (.int .i64 ((jf : Int) + 1)) ((w2.alloc (.cells #[.string m] 9)).alloc (.cells #[.int .i64 ((jf : Int) + 1)] 3))) := hid (by
              have := St.new (.int .i64 ((jf : Int) + 1)) (I2.out.r9.alloc (.cells #[.string m] 9)) (FR0.out.alloc hgl (.cells #[.string m] 9)) hgl
              rwa [size_alloc] at this)
            have HJF' := hid (show (f2.map (Value.int .i64))[at_]? = some (.int .i64 jf) by simp [hjf])
            have PU := hid (fun g3 c3 g4 c4 wf h1 h2 h3 h4 h5 => I2.out.push (g8 := g3) (c8 := c3) (g9 := g4) (c9 := c4) (wf := wf) HM'.out HMEM.out hjf h1 h2 h3 h4 h5)
            have HGL := hid hgl
            have HN8 := hid hn8
            have HN9 := hid hn9
            clear hjf hgl hn8 hn9 hne hat
            go_region_law (first
              | (refine step_st (by rfl) _ _ 24 (by rfl) 9 i9 _ 16 Try.underlying24 hi9 hz90 hz91 hz92 rfl (.slice (some ⟨g8', 0, none⟩) l2.length c8') l2.length (l2.map Value.string) (by rfl) w2.heap.size (.string m) (by rfl) SA1.out.drew HN8.out HGL.out rfl (by omega) (by omega) ?_; intro g3 c3 w3 N3
                 have HA8 := hid N3; have lw : w3.cell? ⟨g9', at_, none⟩ = some (.int .i64 jf) := row_cell (N3.row 3 _ _ _ (by decide) (I2.out.r9.alloc _)) HJF'.out
                 clear N3)
              | (refine step_st (by rfl) _ _ 24 (by rfl) 9 i9 _ 16 Try.underlying24 hi9 hz90 hz91 hz92 rfl (.slice (some ⟨g8', 0, none⟩) l2.length c8') l2.length (l2.map Value.string) (by rfl) w2.heap.size (.string m) (by rfl) SA2.out.drew HN8.out HGL.out rfl (by omega) (by omega) ?_; intro g3 c3 w3 N3
                 have HA8 := hid N3
                 clear N3)
              | (refine step_st (by rfl) _ _ 24 (by rfl) 9 i9 _ 16 Try.underlying24 hi9 hz90 hz91 hz92 rfl (.slice (some ⟨g8', 0, none⟩) l2.length c8') l2.length (l2.map Value.string) (by rfl) (w2.heap.size + 1) (.string m) (by rfl) SA3.out.drew HN8.out HGL.out rfl (by omega) (by omega) ?_; intro g3 c3 w3 N3
                 have HA8 := hid N3
                 clear N3)
              | (refine step_st (by rfl) _ _ 24 (by rfl) 9 i9 _ 16 Try.underlying24 hi9 hz90 hz91 hz92 rfl (.slice (some ⟨g8', 0, none⟩) l2.length c8') l2.length (l2.map Value.string) (by rfl) w2.heap.size (.string m) (by rfl) (SA2.out.drew.next HB9.out (by decide)) HN8.out HGL.out rfl (by omega) (by omega) ?_; intro g3 c3 w3 N3
                 have FIN := hid (PU.out _ _ _ _ _ N3.own (N3.row 3 _ _ _ (by decide) HB9.out.own) N3.fr N3.ne HB9.out.ne)
                 clear N3)
              | (refine step_st (by rfl) _ _ 24 (by rfl) 9 i9 _ 16 Try.underlying24 hi9 hz90 hz91 hz92 rfl (.slice (some ⟨g8', 0, none⟩) l2.length c8') l2.length (l2.map Value.string) (by rfl) (w2.heap.size + 1) (.string m) (by rfl) (SA3.out.drew.next HB9.out (by decide)) HN8.out HGL.out rfl (by omega) (by omega) ?_; intro g3 c3 w3 N3
                 have FIN := hid (PU.out _ _ _ _ _ N3.own (N3.row 3 _ _ _ (by decide) HB9.out.own) N3.fr N3.ne HB9.out.ne)
                 clear N3)
              | (refine step_st (by rfl) _ _ 24 (by rfl) 9 i9 _ 16 Try.underlying24 hi9 hz90 hz91 hz92 rfl (.slice (some ⟨g8', 0, none⟩) l2.length c8') l2.length (l2.map Value.string) (by rfl) w4.heap.size (.string m) (by rfl) (St.new _ (HB9.out.row 9 _ _ _ (by decide) (I2.out.r8.alloc _)) HB9.out.fr HGL.out) HN8.out HGL.out rfl (by omega) (by omega) ?_; intro g3 c3 w3 N3
                 have FIN := hid (PU.out _ _ _ _ _ N3.own (N3.row 3 _ _ _ (by decide) (HB9.out.own.alloc _)) N3.fr N3.ne HB9.out.ne)
                 clear N3)
              | (refine step_st (by rfl) _ _ 47 (by rfl) 3 i3 _ 8 Try.underlying47 hi3 hz30 hz31 hz32 rfl (.slice (some ⟨g9', 0, none⟩) l2.length c9') l2.length (f2.map (Value.int .i64)) (by rfl) w2.heap.size (.int .i64 ((jf : Int) + 1)) (by rfl) SB1.out.drew HN9.out HGL.out rfl (by omega) (by omega) ?_; intro g4 c4 w4 N4
                 have HB9 := hid N4
                 clear N4)
              | (refine step_st (by rfl) _ _ 47 (by rfl) 3 i3 _ 8 Try.underlying47 hi3 hz30 hz31 hz32 rfl (.slice (some ⟨g9', 0, none⟩) l2.length c9') l2.length (f2.map (Value.int .i64)) (by rfl) w2.heap.size (.int .i64 ((jf : Int) + 1)) (by rfl) SB2.out.drew HN9.out HGL.out rfl (by omega) (by omega) ?_; intro g4 c4 w4 N4
                 have HB9 := hid N4
                 clear N4)
              | (refine step_st (by rfl) _ _ 47 (by rfl) 3 i3 _ 8 Try.underlying47 hi3 hz30 hz31 hz32 rfl (.slice (some ⟨g9', 0, none⟩) l2.length c9') l2.length (f2.map (Value.int .i64)) (by rfl) (w2.heap.size + 1) (.int .i64 ((jf : Int) + 1)) (by rfl) SB3.out.drew HN9.out HGL.out rfl (by omega) (by omega) ?_; intro g4 c4 w4 N4
                 have HB9 := hid N4
                 clear N4)
              | (refine step_st (by rfl) _ _ 47 (by rfl) 3 i3 _ 8 Try.underlying47 hi3 hz30 hz31 hz32 rfl (.slice (some ⟨g9', 0, none⟩) l2.length c9') l2.length (f2.map (Value.int .i64)) (by rfl) w2.heap.size (.int .i64 ((jf : Int) + 1)) (by rfl) (SB2.out.drew.next HA8.out (by decide)) HN9.out HGL.out rfl (by omega) (by omega) ?_; intro g4 c4 w4 N4
                 have FIN := hid (PU.out _ _ _ _ _ (N4.row 9 _ _ _ (by decide) HA8.out.own) N4.own N4.fr HA8.out.ne N4.ne)
                 clear N4)
              | (refine step_st (by rfl) _ _ 47 (by rfl) 3 i3 _ 8 Try.underlying47 hi3 hz30 hz31 hz32 rfl (.slice (some ⟨g9', 0, none⟩) l2.length c9') l2.length (f2.map (Value.int .i64)) (by rfl) (w2.heap.size + 1) (.int .i64 ((jf : Int) + 1)) (by rfl) (SB3.out.drew.next HA8.out (by decide)) HN9.out HGL.out rfl (by omega) (by omega) ?_; intro g4 c4 w4 N4
                 have FIN := hid (PU.out _ _ _ _ _ (N4.row 9 _ _ _ (by decide) HA8.out.own) N4.own N4.fr HA8.out.ne N4.ne)
                 clear N4)
              | (refine step_st (by rfl) _ _ 47 (by rfl) 3 i3 _ 8 Try.underlying47 hi3 hz30 hz31 hz32 rfl (.slice (some ⟨g9', 0, none⟩) l2.length c9') l2.length (f2.map (Value.int .i64)) (by rfl) w3.heap.size (.int .i64 ((jf : Int) + 1)) (by rfl) (St.new _ (HA8.out.row 3 _ _ _ (by decide) (I2.out.r9.alloc _)) HA8.out.fr HGL.out) HN9.out HGL.out rfl (by omega) (by omega) ?_; intro g4 c4 w4 N4
                 have FIN := hid (PU.out _ _ _ _ _ (N4.row 9 _ _ _ (by decide) (HA8.out.own.alloc _)) N4.own N4.fr HA8.out.ne N4.ne)
                 clear N4))
            all_goals
              go_wp2
              go_roundw
              case rel => exact ⟨j + 1, _, _, by go_num, by omega, FIN.out⟩
              case measure => simp [intOf]; omega
        · obtain rfl : j = (up L n).length := by omega
          clear hlt2
          go_wp2
          go_roundw
          case rel =>
            have I := HI.out
            refine ⟨at_ + 1, l2, f2, by go_num, I.bel, I.inv, I.r8, I.r9, (List.getElem?_eq_some_iff.mp I.cur).1, fun i x hi hx y hy => ?_⟩
            by_cases e : i = at_
            · subst e
              rw [I.cur] at hx
              cases hx
              exact I.part y (by rw [List.take_of_length_le (Nat.le_refl _)]; exact hy)
            · exact I.done i x (by omega) hx y hy
          case measure => simp [intOf]; omega
    · obtain rfl : at_ = l.length := by omega
      have FIN := hid (show Post w L a (.returned (.tuple #[.slice (some ⟨g8, 0, none⟩) l.length c8, u9])) wr from ⟨l, f, _, _, rfl, HM.out⟩)
      clear hlt
      go_wp2
      go_ret2
      exact FIN.out

end Go.Proofs.Ytpdejkalcminbaa.Cl
