/- The plain side of the rows: what the reference's tests of names and rows answer. -/
import Derived.Test.YtpdejkalcminbaaPFnUsersx
import Derived.Test.YtpdejkalcminbaaMo
namespace Go.Proofs.Ytpdejkalcminbaa.Pl
open Go.RowKit Go.Proofs.YtpdejkalcminbaaW.PrintWords Go.Proofs.Ytpdejkalcminbaa.PFnUsers
open Go.Proofs.Ytpdejkalcminbaa.Hm Go.Proofs.Ytpdejkalcminbaa.Rm Go.Proofs.Ytpdejkalcminbaa.Mo Go.Proofs.Ytpdejkalcminbaa.Mk

abbrev big : Nat := 2147483647

theorem wrap_up {i : Int} {n : Nat} (h0 : 0 ≤ i) (h : i < (n : Int)) (hn : n ≤ big) : wrap64 (i + 1) = i + 1 := by
  have hb : big = 2147483647 := rfl
  unfold wrap64
  omega

theorem toList_inj {a b : ByteArray} : a.toList = b.toList ↔ a = b := by
  rw [Go.ByteArray.toList_eq, Go.ByteArray.toList_eq]
  constructor
  · intro h; cases a with | mk x => cases b with | mk y => congr 1; exact Array.toList_inj.mp h
  · rintro rfl; rfl

theorem toList_nil (d : ByteArray) : d.toList = ([] : List UInt8) ↔ d = none' := by
  rw [Go.ByteArray.toList_eq]
  constructor
  · intro h; cases d with | mk a => congr 1; exact Array.toList_inj.mp h
  · rintro rfl; rfl

theorem letter_some (c : Int) : ∃ b, spec_isLetter.f c = some b := by
  unfold spec_isLetter.f
  repeat' split
  all_goals exact ⟨_, rfl⟩
theorem digit_some (c : Int) : ∃ b, spec_isDigit.f c = some b := by
  unfold spec_isDigit.f
  split <;> exact ⟨_, rfl⟩

theorem simple_loop (s : ByteArray) (hn : s.size ≤ big) (d : Nat) : ∀ (i : Int), 0 ≤ i → i ≤ s.size → (s.size : Int) - i = d →
    ∃ r, Ev (fun k => spec_isSimple.l0 k s (s.size : Int) i) r := by
  induction d with
  | zero =>
    intro i h0 h1 hd
    by_cases h : (s.size : Int) ≥ 1
    · exact ⟨_, Ev.step (f := fun _ => _) (fun k => by simp only [spec_isSimple.l0]; rw [if_neg (by omega), if_pos h]) (Ev.now _)⟩
    · exact ⟨_, Ev.step (f := fun _ => _) (fun k => by simp only [spec_isSimple.l0]; rw [if_neg (by omega), if_neg h]) (Ev.now _)⟩
  | succ d ih =>
    intro i h0 h1 hd
    have hlt : i < (s.size : Int) := by omega
    obtain ⟨r, hr⟩ := ih (i + 1) (by omega) (by omega) (by omega)
    obtain ⟨b1, e1⟩ := letter_some (bt s i)
    obtain ⟨b2, e2⟩ := digit_some (bt s i)
    have hw := wrap_up h0 hlt hn
    cases b1 with
    | true => exact ⟨r, Ev.step (f := fun k => spec_isSimple.l0 k s (s.size : Int) (i + 1)) (fun k => by simp only [spec_isSimple.l0]; rw [if_pos hlt, if_pos h0, if_pos hlt, e1]; simp only [Option.bind_some, if_true]; rw [hw]) hr⟩
    | false =>
      cases b2 with
      | true => exact ⟨r, Ev.step (f := fun k => spec_isSimple.l0 k s (s.size : Int) (i + 1)) (fun k => by simp only [spec_isSimple.l0]; rw [if_pos hlt, if_pos h0, if_pos hlt, e1]; simp only [Option.bind_some, Bool.false_eq_true, if_false, e2, if_true]; rw [hw]) hr⟩
      | false =>
        by_cases h : bt s i = 95
        · exact ⟨r, Ev.step (f := fun k => spec_isSimple.l0 k s (s.size : Int) (i + 1)) (fun k => by simp only [spec_isSimple.l0]; rw [if_pos hlt, if_pos h0, if_pos hlt, e1]; simp only [Option.bind_some, Bool.false_eq_true, if_false, e2, if_pos h]; rw [hw]) hr⟩
        · exact ⟨false, Ev.step (f := fun _ => some false) (fun k => by simp only [spec_isSimple.l0]; rw [if_pos hlt, if_pos h0, if_pos hlt, e1]; simp only [Option.bind_some, Bool.false_eq_true, if_false, e2, if_neg h]) (Ev.now _)⟩

theorem simple_ev (s : ByteArray) (hn : s.size ≤ big) : ∃ r, Ev (fun k => spec_isSimple.f k s) r := by
  obtain ⟨r, hr⟩ := simple_loop s hn s.size 0 (by omega) (by omega) (by omega)
  exact ⟨r, hr⟩

theorem rd_get {xs : List ByteArray} {i : Int} (h0 : 0 ≤ i) (h1 : i < (xs.length : Int)) : xs[i.toNat]? = some (rdOf ByteArray.empty xs i) := by
  have hlt : i.toNat < xs.length := by omega
  unfold rdOf
  rw [List.getD_eq_getElem?_getD, List.getElem?_eq_getElem hlt]; rfl
theorem rd_get1 {xs : List (List ByteArray)} {i : Int} (h0 : 0 ≤ i) (h1 : i < (xs.length : Int)) : xs[i.toNat]? = some (rd_L1 xs i) := by
  have hlt : i.toNat < xs.length := by omega
  unfold rd_L1
  rw [List.getD_eq_getElem?_getD, List.getElem?_eq_getElem hlt]; rfl

theorem areSimple_loop (xs : List ByteArray) (hn : xs.length ≤ big) (hs : ∀ s ∈ xs, s.size ≤ big) (d : Nat) : ∀ (i : Int), 0 ≤ i → i ≤ xs.length → (xs.length : Int) - i = d →
    ∃ r, Ev (fun k => spec_areSimple.l0 k xs (xs.length : Int) i) r := by
  induction d with
  | zero =>
    intro i h0 h1 hd
    exact ⟨_, Ev.step (f := fun _ => some true) (fun k => by simp only [spec_areSimple.l0]; rw [if_neg (by omega)]) (Ev.now _)⟩
  | succ d ih =>
    intro i h0 h1 hd
    have hlt : i < (xs.length : Int) := by omega
    obtain ⟨r, hr⟩ := ih (i + 1) (by omega) (by omega) (by omega)
    obtain ⟨b, hb⟩ := simple_ev (rdOf ByteArray.empty xs i) (hs _ (List.mem_of_getElem? (rd_get h0 hlt)))
    have hw := wrap_up h0 hlt hn
    cases b with
    | true => exact ⟨r, Ev.step (f := fun k => (spec_isSimple.f k (rdOf ByteArray.empty xs i)).bind fun t => if t = true then spec_areSimple.l0 k xs (xs.length : Int) (i + 1) else some false) (fun k => by simp only [spec_areSimple.l0]; rw [if_pos hlt, if_pos h0, if_pos hlt, hw]) (Ev.bind hb (by simpa using hr))⟩
    | false => exact ⟨false, Ev.step (f := fun k => (spec_isSimple.f k (rdOf ByteArray.empty xs i)).bind fun t => if t = true then spec_areSimple.l0 k xs (xs.length : Int) (i + 1) else some false) (fun k => by simp only [spec_areSimple.l0]; rw [if_pos hlt, if_pos h0, if_pos hlt, hw]) (Ev.bind hb (by simpa using Ev.now false))⟩

theorem areSimple_ev (xs : List ByteArray) (hn : xs.length ≤ big) (hs : ∀ s ∈ xs, s.size ≤ big) : ∃ r, Ev (fun k => spec_areSimple.f k xs) r :=
  areSimple_loop xs hn hs xs.length 0 (by omega) (by omega) (by omega)

theorem sameRow_loop (a b : List ByteArray) (hn : a.length ≤ big) (d : Nat) : ∀ (i : Int), 0 ≤ i → i ≤ a.length → (a.length : Int) - i = d → (a.take i.toNat = b.take i.toNat) → i.toNat ≤ b.length →
    Ev (fun k => spec_sameRow.l0 k a b (a.length : Int) i) (decide (a = b)) := by
  induction d with
  | zero =>
    intro i h0 h1 hd he hb
    have hi : i.toNat = a.length := by omega
    rw [hi, List.take_of_length_le (Nat.le_refl _)] at he
    refine Ev.step (f := fun _ => some ((a.length : Int) == (b.length : Int))) (fun k => by simp only [spec_sameRow.l0]; rw [if_neg (by omega)]) ?_
    have : ((a.length : Int) == (b.length : Int)) = decide (a = b) := by
      rw [Bool.eq_iff_iff, beq_iff_eq, decide_eq_true_eq]
      constructor
      · intro h; rw [he, List.take_of_length_le (by omega)]
      · intro h; rw [h]
    rw [this]; exact Ev.now _
  | succ d ih =>
    intro i h0 h1 hd he hb
    have hlt : i < (a.length : Int) := by omega
    have hw := wrap_up h0 hlt hn
    by_cases hbl : i ≥ (b.length : Int)
    · have : decide (a = b) = false := decide_eq_false (fun h => by rw [h] at hlt; omega)
      rw [this]
      exact Ev.step (f := fun _ => some false) (fun k => by simp only [spec_sameRow.l0]; rw [if_pos hlt, if_pos hbl]) (Ev.now _)
    · have hlb : i < (b.length : Int) := by omega
      have ga := rd_get h0 hlt
      have gb := rd_get h0 hlb
      by_cases heq : (rdOf ByteArray.empty a i).toList = (rdOf ByteArray.empty b i).toList
      · have heq2 := toList_inj.mp heq
        refine Ev.step (f := fun k => spec_sameRow.l0 k a b (a.length : Int) (i + 1)) (fun k => by simp only [spec_sameRow.l0]; rw [if_pos hlt, if_neg hbl, if_pos h0, if_pos hlt, if_pos hlb, if_pos heq, hw]) (ih (i + 1) (by omega) (by omega) (by omega) ?_ (by omega))
        have e : (i + 1).toNat = i.toNat + 1 := by omega
        rw [e, List.take_add_one, List.take_add_one, he, ga, gb, heq2]
      · have : decide (a = b) = false := decide_eq_false (fun h => heq (by rw [h]))
        rw [this]
        exact Ev.step (f := fun _ => some false) (fun k => by simp only [spec_sameRow.l0]; rw [if_pos hlt, if_neg hbl, if_pos h0, if_pos hlt, if_pos hlb, if_neg heq]) (Ev.now _)

theorem sameRow_ev (a b : List ByteArray) (hn : a.length ≤ big) : Ev (fun k => spec_sameRow.f k a b) (decide (a = b)) :=
  sameRow_loop a b hn a.length 0 (by omega) (by omega) (by omega) (by simp) (by simp)

theorem hasRow_loop (xs : List (List ByteArray)) (r : List ByteArray) (hn : xs.length ≤ big) (hs : ∀ x ∈ xs, x.length ≤ big) (d : Nat) : ∀ (i : Int), 0 ≤ i → i ≤ xs.length → (xs.length : Int) - i = d →
    Ev (fun k => spec_hasRow.l0 k r xs (xs.length : Int) i) (decide (r ∈ xs.drop i.toNat)) := by
  induction d with
  | zero =>
    intro i h0 h1 hd
    have : xs.drop i.toNat = [] := List.drop_of_length_le (by omega)
    rw [this]
    exact Ev.step (f := fun _ => some false) (fun k => by simp only [spec_hasRow.l0]; rw [if_neg (by omega)]) (by simpa using Ev.now false)
  | succ d ih =>
    intro i h0 h1 hd
    have hlt : i < (xs.length : Int) := by omega
    have hw := wrap_up h0 hlt hn
    have g := rd_get1 h0 hlt
    have hl : i.toNat < xs.length := by omega
    have hdrop : xs.drop i.toNat = rd_L1 xs i :: xs.drop (i + 1).toNat := by
      rw [List.drop_eq_getElem_cons hl, show (i + 1).toNat = i.toNat + 1 by omega]
      congr 1
      rw [List.getElem?_eq_getElem hl] at g
      exact Option.some.inj g
    have ih' := ih (i + 1) (by omega) (by omega) (by omega)
    have hr := sameRow_ev (rd_L1 xs i) r (hs _ (List.mem_of_getElem? g))
    refine Ev.step (f := fun k => (spec_sameRow.f k (rd_L1 xs i) r).bind fun t => if t = true then some true else spec_hasRow.l0 k r xs (xs.length : Int) (i + 1)) (fun k => by simp only [spec_hasRow.l0]; rw [if_pos hlt, if_pos h0, if_pos hlt, hw]) (Ev.bind hr ?_)
    rw [hdrop]
    by_cases e : rd_L1 xs i = r
    · simpa [e] using Ev.now true
    · have e' : ¬ r = rd_L1 xs i := fun h => e h.symm
      simpa [e, e'] using ih'

theorem hasRow_ev (xs : List (List ByteArray)) (r : List ByteArray) (hn : xs.length ≤ big) (hs : ∀ x ∈ xs, x.length ≤ big) : Ev (fun k => spec_hasRow.f k xs r) (decide (r ∈ xs)) := by
  have := hasRow_loop xs r hn hs xs.length 0 (by omega) (by omega) (by omega)
  show Ev (fun k => spec_hasRow.l0 k r xs (xs.length : Int) 0) _
  simpa using this

theorem hasName_loop (xs : List ByteArray) (n : ByteArray) (hn : xs.length ≤ big) (d : Nat) : ∀ (i : Int), 0 ≤ i → i ≤ xs.length → (xs.length : Int) - i = d →
    Ev (fun k => spec_hasName.l0 k n xs (xs.length : Int) i) (decide (n ∈ xs.drop i.toNat)) := by
  induction d with
  | zero =>
    intro i h0 h1 hd
    have : xs.drop i.toNat = [] := List.drop_of_length_le (by omega)
    rw [this]
    exact Ev.step (f := fun _ => some false) (fun k => by simp only [spec_hasName.l0]; rw [if_neg (by omega)]) (by simpa using Ev.now false)
  | succ d ih =>
    intro i h0 h1 hd
    have hlt : i < (xs.length : Int) := by omega
    have hw := wrap_up h0 hlt hn
    have g := rd_get h0 hlt
    have hl : i.toNat < xs.length := by omega
    have hdrop : xs.drop i.toNat = rdOf ByteArray.empty xs i :: xs.drop (i + 1).toNat := by
      rw [List.drop_eq_getElem_cons hl, show (i + 1).toNat = i.toNat + 1 by omega]
      congr 1
      rw [List.getElem?_eq_getElem hl] at g
      exact Option.some.inj g
    have ih' := ih (i + 1) (by omega) (by omega) (by omega)
    rw [hdrop]
    by_cases e : (rdOf ByteArray.empty xs i).toList = n.toList
    · refine Ev.step (f := fun _ => some true) (fun k => by simp only [spec_hasName.l0]; rw [if_pos hlt, if_pos h0, if_pos hlt, if_pos e]) ?_
      simpa [toList_inj.mp e] using Ev.now true
    · have e' : ¬ n = rdOf ByteArray.empty xs i := fun h => e (by rw [h])
      refine Ev.step (f := fun k => spec_hasName.l0 k n xs (xs.length : Int) (i + 1)) (fun k => by simp only [spec_hasName.l0]; rw [if_pos hlt, if_pos h0, if_pos hlt, if_neg e, hw]) ?_
      simpa [e'] using ih'

theorem hasName_ev (xs : List ByteArray) (n : ByteArray) (hn : xs.length ≤ big) : Ev (fun k => spec_hasName.f k xs n) (decide (n ∈ xs)) := by
  have := hasName_loop xs n hn xs.length 0 (by omega) (by omega) (by omega)
  show Ev (fun k => spec_hasName.l0 k n xs (xs.length : Int) 0) _
  simpa using this

/-- What fits: no text, no row, no list longer than 2^31 - 1. -/
structure Fits (rows : List (List ByteArray)) : Prop where
  len : rows.length ≤ big
  row : ∀ r ∈ rows, r.length ≤ big ∧ ∀ s ∈ r, s.size ≤ big

theorem areRows_loop (xs : List (List ByteArray)) (sz : Nat) (F : Fits xs) (d : Nat) : ∀ (i : Int), 0 ≤ i → i ≤ xs.length → (xs.length : Int) - i = d → (∀ r ∈ xs.take i.toNat, r.length = sz) → (xs.take i.toNat).Nodup →
    ∃ b, Ev (fun k => spec_AreRows.l0 k xs (sz : Int) xs (xs.length : Int) i) b ∧ (b = true → (∀ r ∈ xs, r.length = sz) ∧ xs.Nodup ∧ xs.length ≤ 60) := by
  induction d with
  | zero =>
    intro i h0 h1 hd hlen hnd
    have hi : i.toNat = xs.length := by omega
    rw [hi, List.take_of_length_le (Nat.le_refl _)] at hlen hnd
    refine ⟨_, Ev.step (f := fun _ => some (decide ((xs.length : Int) ≤ 60))) (fun k => by simp only [spec_AreRows.l0]; rw [if_neg (by omega)]) (Ev.now _), fun hb => ⟨hlen, hnd, ?_⟩⟩
    have := of_decide_eq_true hb
    omega
  | succ d ih =>
    intro i h0 h1 hd hlen hnd
    have hlt : i < (xs.length : Int) := by omega
    have hw := wrap_up h0 hlt F.len
    have g := rd_get1 h0 hlt
    have hmem := List.mem_of_getElem? g
    have htk : xs.take (i + 1).toNat = xs.take i.toNat ++ [rd_L1 xs i] := by
      rw [show (i + 1).toNat = i.toNat + 1 by omega, List.take_add_one, g]; rfl
    by_cases hl : ((rd_L1 xs i).length : Int) = (sz : Int)
    · obtain ⟨b1, e1⟩ := areSimple_ev (rd_L1 xs i) (F.row _ hmem).1 (F.row _ hmem).2
      have e2 := hasRow_ev (xs.take i.toNat) (rd_L1 xs i) (by rw [List.length_take]; have := F.len; omega) (fun x hx => (F.row x (List.mem_of_mem_take hx)).1)
      have stp : ∀ k, spec_AreRows.l0 (k + 1) xs (sz : Int) xs (xs.length : Int) i = (spec_areSimple.f k (rd_L1 xs i)).bind fun t => if t = true then ((spec_hasRow.f k (xs.take i.toNat) (rd_L1 xs i)).bind fun u => if u = true then some false else spec_AreRows.l0 k xs (sz : Int) xs (xs.length : Int) (i + 1)) else some false := fun k => by
        simp only [spec_AreRows.l0]; rw [if_pos hlt, if_pos h0, if_pos hlt, if_pos hl, if_pos h1, hw]
      cases b1 with
      | false => exact ⟨false, Ev.step stp (Ev.bind e1 (by simpa using Ev.now false)), by simp⟩
      | true =>
        by_cases hm : rd_L1 xs i ∈ xs.take i.toNat
        · rw [decide_eq_true hm] at e2
          exact ⟨false, Ev.step stp (Ev.bind e1 (by simpa using Ev.bind e2 (by simpa using Ev.now false))), by simp⟩
        · rw [decide_eq_false hm] at e2
          obtain ⟨b, hb, ht⟩ := ih (i + 1) (by omega) (by omega) (by omega)
            (by rw [htk]; intro r hr; rcases List.mem_append.mp hr with hr | hr
                · exact hlen r hr
                · obtain rfl : r = rd_L1 xs i := by simpa using hr
                  omega)
            (by rw [htk, List.nodup_append]; exact ⟨hnd, by simp, fun a ha b hb e => by simp at hb; subst hb; subst e; exact hm ha⟩)
          exact ⟨b, Ev.step stp (Ev.bind e1 (by simpa using Ev.bind e2 (by simpa using hb))), ht⟩
    · exact ⟨false, Ev.step (f := fun _ => some false) (fun k => by simp only [spec_AreRows.l0]; rw [if_pos hlt, if_pos h0, if_pos hlt, if_neg hl]) (Ev.now _), by simp⟩

theorem areRows_ev (xs : List (List ByteArray)) (sz : Nat) (F : Fits xs) : ∃ b, Ev (fun k => spec_AreRows.f k xs (sz : Int)) b ∧ (b = true → (∀ r ∈ xs, r.length = sz) ∧ xs.Nodup ∧ xs.length ≤ 60) :=
  areRows_loop xs sz F xs.length 0 (by omega) (by omega) (by omega) (by simp) (by simp)

/-- How many texts a row of a domain has. -/
def sizeOf' (d : ByteArray) : Nat := if d = none' then 2 else 3

theorem areLinks_ev (xs : List (List ByteArray)) (d n : ByteArray) (F : Fits xs) (hd : d.size ≤ big) (hn : n.size ≤ big) : ∃ b, Ev (fun k => spec_areLinks.f k xs d n) b ∧ (b = true → Shaped xs (sizeOf' d)) := by
  have nil := toList_nil d
  obtain ⟨bn, en⟩ := simple_ev n hn
  obtain ⟨bd, ed⟩ := simple_ev d hd
  by_cases h : d = none'
  · have h2 : d.toList = ([] : List UInt8) := nil.mpr h
    have hsz : sizeOf' d = 2 := by simp [sizeOf', h]
    obtain ⟨b, eb, ht⟩ := areRows_ev xs 2 F
    have stp : ∀ k, spec_areLinks.f k xs d n = (spec_AreRows.f k xs ((2 : Nat) : Int)).bind fun t => if t = true then ((spec_isSimple.f k n).bind fun t120 => some t120) else some false := fun k => by
      unfold spec_areLinks.f; rw [if_pos h2]; rfl
    cases b with
    | false => exact ⟨false, Ev.congr stp (Ev.bind eb (by simpa using Ev.now false)), by simp⟩
    | true =>
      refine ⟨bn, Ev.congr stp (Ev.bind eb ?_), fun _ => by rw [hsz]; exact ⟨(ht rfl).1, .inl rfl, (ht rfl).2.1, (ht rfl).2.2⟩⟩
      simp only [if_true]
      exact Ev.bind en (Ev.now _)
  · have h2 : ¬ d.toList = ([] : List UInt8) := fun e => h (nil.mp e)
    have hsz : sizeOf' d = 3 := by simp [sizeOf', h]
    obtain ⟨b, eb, ht⟩ := areRows_ev xs 3 F
    have stp : ∀ k, spec_areLinks.f k xs d n = (spec_AreRows.f k xs ((3 : Nat) : Int)).bind fun t => if t = true then ((spec_isSimple.f k d).bind fun u => if u = true then ((spec_isSimple.f k n).bind fun t123 => some t123) else some false) else some false := fun k => by
      unfold spec_areLinks.f; rw [if_neg h2]; rfl
    cases b with
    | false => exact ⟨false, Ev.congr stp (Ev.bind eb (by simpa using Ev.now false)), by simp⟩
    | true =>
      have sh : Shaped xs (sizeOf' d) := by rw [hsz]; exact ⟨(ht rfl).1, .inr rfl, (ht rfl).2.1, (ht rfl).2.2⟩
      cases bd with
      | false => exact ⟨false, Ev.congr stp (Ev.bind eb (by simpa using Ev.bind ed (by simpa using Ev.now false))), by simp⟩
      | true =>
        refine ⟨bn, Ev.congr stp (Ev.bind eb ?_), fun _ => sh⟩
        simp only [if_true]
        refine Ev.bind ed ?_
        simp only [if_true]
        exact Ev.bind en (Ev.now _)

/-- The names of a list that one asks for, in the order of the rows. -/
def asked (rows : List (List ByteArray)) (d n : ByteArray) (b : Bool) : List ByteArray := if b = true then up (LdOf rows d) n else down (LdOf rows d) n

theorem row_of {xs : List (List ByteArray)} {sz : Nat} {i : Int} (S : Shaped xs sz) (h0 : 0 ≤ i) (h1 : i < (xs.length : Int)) : (rd_L1 xs i).length = sz ∧ 2 ≤ sz := by
  refine ⟨S.len _ (List.mem_of_getElem? (rd_get1 h0 h1)), ?_⟩
  rcases S.sz with e | e <;> omega

theorem rdOf0 (r : List ByteArray) : rdOf ByteArray.empty r 0 = r0 r := rfl
theorem rdOf1 (r : List ByteArray) : rdOf ByteArray.empty r 1 = r1 r := rfl
theorem rdOf2 (r : List ByteArray) : rdOf ByteArray.empty r 2 = r2 r := rfl

theorem inDomain_eq {xs : List (List ByteArray)} {d : ByteArray} {r : List ByteArray} (S : Shaped xs (sizeOf' d)) (hr : r ∈ xs) : spec_inDomain.f r d = some (decide (r2 r = d)) := by
  have hl := S.len r hr
  unfold spec_inDomain.f
  have nil := toList_nil d
  by_cases h : d = none'
  · rw [if_pos (nil.mpr h)]
    rw [sizeOf', if_pos h] at hl
    have : r2 r = none' := by unfold r2; rw [List.getD_eq_getElem?_getD, List.getElem?_eq_none (by omega)]; rfl
    rw [this, h]; simp
  · rw [if_neg (fun e => h (nil.mp e))]
    rw [sizeOf', if_neg h] at hl
    rw [if_pos (by omega), rdOf2]
    congr 1
    rw [Bool.eq_iff_iff, beq_iff_eq, decide_eq_true_eq]
    exact toList_inj

theorem direct_loop (xs : List (List ByteArray)) (d n : ByteArray) (b : Bool) (F : Fits xs) (S : Shaped xs (sizeOf' d)) (q : Nat) : ∀ (i : Int), 0 ≤ i → i ≤ xs.length → (xs.length : Int) - i = q →
    Ev (fun k => spec_direct.l0 k d n b (asked (xs.take i.toNat) d n b) xs (xs.length : Int) i) (asked xs d n b) := by
  induction q with
  | zero =>
    intro i h0 h1 hd
    have hi : i.toNat = xs.length := by omega
    rw [hi, List.take_of_length_le (Nat.le_refl _)]
    exact Ev.step (f := fun _ => some (asked xs d n b)) (fun k => by simp only [spec_direct.l0]; rw [if_neg (by omega)]) (Ev.now _)
  | succ q ih =>
    intro i h0 h1 hd
    have hlt : i < (xs.length : Int) := by omega
    have hw := wrap_up h0 hlt F.len
    have g := rd_get1 h0 hlt
    have hmem := List.mem_of_getElem? g
    obtain ⟨hlen, hsz⟩ := row_of S h0 hlt
    have hdom := inDomain_eq S hmem
    have ih' := ih (i + 1) (by omega) (by omega) (by omega)
    have e1 : (i + 1).toNat = i.toNat + 1 := by omega
    rw [e1] at ih'
    have hput := link_put g
    have hnew := link_new S g
    have hle : (asked (xs.take i.toNat) d n b).length ≤ 60 := by
      unfold asked
      have := Ld_le (xs.take i.toNat) d
      have := S.few
      simp only [List.length_take] at *
      split
      · have := Gr.up_le (LdOf (xs.take i.toNat) d) n; omega
      · have := Gr.down_le (LdOf (xs.take i.toNat) d) n; omega
    generalize hrow : rd_L1 xs i = row at *
    -- the two names, as the walk takes them
    have key : ∀ (from_ to_ : ByteArray), (from_ = if b = true then r0 row else r1 row) → (to_ = if b = true then r1 row else r0 row) →
        Ev (fun k => spec_direct.j1 k d n b (asked (xs.take i.toNat) d n b) row from_ to_ xs (xs.length : Int) i) (asked xs d n b) := by
      intro from_ to_ hf ht
      by_cases hd2 : r2 row = d
      · rw [decide_eq_true hd2] at hdom
        by_cases hfn : from_ = n
        · have hfn2 : from_.toList = n.toList := by rw [hfn]
          have hnot : to_ ∉ asked (xs.take i.toNat) d n b := by
            intro hm
            unfold asked at hm
            cases b with
            | true =>
              simp only [if_true] at hm hf ht
              have := mem_up.mp hm
              rw [← hfn, hf, ht, ← hd2] at this
              exact hnew this
            | false =>
              simp only [Bool.false_eq_true, if_false] at hm hf ht
              have := mem_down.mp hm
              rw [← hfn, hf, ht, ← hd2] at this
              exact hnew this
          have hh := hasName_ev (asked (xs.take i.toNat) d n b) to_ (by have : big = 2147483647 := rfl; omega)
          rw [decide_eq_false hnot] at hh
          have hnext : asked (xs.take (i.toNat + 1)) d n b = asked (xs.take i.toNat) d n b ++ [to_] := by
            unfold asked
            rw [← hput, hd2, Da.put_at]
            cases b with
            | true =>
              simp only [if_true] at hf ht ⊢
              rw [Gr.up_snoc, if_pos (by rw [← hf, hfn]), ← ht]
            | false =>
              simp only [Bool.false_eq_true, if_false] at hf ht ⊢
              rw [Gr.down_snoc, if_pos (by rw [← hf, hfn]), ← ht]
          rw [hnext] at ih'
          refine Ev.step (f := fun k => (spec_hasName.f k (asked (xs.take i.toNat) d n b) to_).bind fun t => if t = true then spec_direct.l0 k d n b (asked (xs.take i.toNat) d n b) xs (xs.length : Int) (i + 1) else spec_direct.l0 k d n b (asked (xs.take i.toNat) d n b ++ [to_]) xs (xs.length : Int) (i + 1)) (fun k => by
            simp only [spec_direct.j1, hdom, Option.bind_some, if_true]
            rw [if_pos hfn2, if_pos (by omega), hw]) (Ev.bind hh (by simpa using ih'))
        · have hfn2 : ¬ from_.toList = n.toList := fun e => hfn (toList_inj.mp e)
          have hnext : asked (xs.take (i.toNat + 1)) d n b = asked (xs.take i.toNat) d n b := by
            unfold asked
            rw [← hput, hd2, Da.put_at]
            cases b with
            | true =>
              simp only [if_true] at hf ht ⊢
              rw [Gr.up_snoc, if_neg (by rw [← hf]; exact hfn)]
            | false =>
              simp only [Bool.false_eq_true, if_false] at hf ht ⊢
              rw [Gr.down_snoc, if_neg (by rw [← hf]; exact hfn)]
          rw [hnext] at ih'
          exact Ev.step (f := fun k => spec_direct.l0 k d n b (asked (xs.take i.toNat) d n b) xs (xs.length : Int) (i + 1)) (fun k => by
            simp only [spec_direct.j1, hdom, Option.bind_some, if_true]
            rw [if_neg hfn2, hw]) ih'
      · rw [decide_eq_false hd2] at hdom
        have hnext : asked (xs.take (i.toNat + 1)) d n b = asked (xs.take i.toNat) d n b := by
          unfold asked
          rw [← hput, Da.put_ne (fun e => hd2 e.symm)]
        rw [hnext] at ih'
        exact Ev.step (f := fun k => spec_direct.l0 k d n b (asked (xs.take i.toNat) d n b) xs (xs.length : Int) (i + 1)) (fun k => by
          simp only [spec_direct.j1, hdom, Option.bind_some, Bool.false_eq_true, if_false]
          rw [hw]) ih'
    cases b with
    | true =>
      exact Ev.step (f := fun k => spec_direct.j1 k d n true (asked (xs.take i.toNat) d n true) row (r0 row) (r1 row) xs (xs.length : Int) i) (fun k => by
        simp only [spec_direct.l0]
        rw [if_pos hlt, if_pos h0, if_pos hlt, hrow, if_pos (by omega), if_pos (by omega), if_pos trivial, rdOf0, rdOf1]) (key _ _ rfl rfl)
    | false =>
      exact Ev.step (f := fun k => spec_direct.j1 k d n false (asked (xs.take i.toNat) d n false) row (r1 row) (r0 row) xs (xs.length : Int) i) (fun k => by
        simp only [spec_direct.l0]
        rw [if_pos hlt, if_pos h0, if_pos hlt, hrow, if_pos (by omega), if_pos (by omega), if_neg (by simp), rdOf0, rdOf1]) (key _ _ rfl rfl)

theorem direct_ev (xs : List (List ByteArray)) (d n : ByteArray) (b : Bool) (F : Fits xs) (S : Shaped xs (sizeOf' d)) : Ev (fun k => spec_direct.f k xs d n b) (asked xs d n b) := by
  have := direct_loop xs d n b F S xs.length 0 (by omega) (by omega) (by omega)
  have e : asked (xs.take (0 : Int).toNat) d n b = [] := by unfold asked; simp [LdOf, up, down]
  rw [e] at this
  exact this

theorem sameNames_loop (xs : List ByteArray) (hn : xs.length ≤ big) (hnd : xs.Nodup) (d : Nat) : ∀ (i : Int), 0 ≤ i → i ≤ xs.length → (xs.length : Int) - i = d →
    Ev (fun k => spec_SameNames.l0 k xs xs xs (xs.length : Int) i) true := by
  induction d with
  | zero =>
    intro i h0 h1 hd
    exact Ev.step (f := fun _ => some true) (fun k => by simp only [spec_SameNames.l0]; rw [if_neg (by omega)]; simp) (Ev.now _)
  | succ d ih =>
    intro i h0 h1 hd
    have hlt : i < (xs.length : Int) := by omega
    have hw := wrap_up h0 hlt hn
    have g := rd_get h0 hlt
    have hl : i.toNat < xs.length := by omega
    have hmem := List.mem_of_getElem? g
    have hnot : rdOf ByteArray.empty xs i ∉ xs.take i.toNat := by
      intro hm
      obtain ⟨j, hj, hg⟩ := List.mem_iff_getElem.mp hm
      simp only [List.length_take] at hj
      rw [List.getElem_take] at hg
      rw [List.getElem?_eq_getElem hl] at g
      have := (List.getElem_inj hnd).mp (hg.trans (Option.some.inj g).symm)
      omega
    have e1 := hasName_ev (xs.take i.toNat) (rdOf ByteArray.empty xs i) (by rw [List.length_take]; omega)
    rw [decide_eq_false hnot] at e1
    have e2 := hasName_ev xs (rdOf ByteArray.empty xs i) hn
    rw [decide_eq_true hmem] at e2
    have ih' := ih (i + 1) (by omega) (by omega) (by omega)
    refine Ev.step (f := fun k => (spec_hasName.f k (xs.take i.toNat) (rdOf ByteArray.empty xs i)).bind fun t => if t = true then some false else ((spec_hasName.f k xs (rdOf ByteArray.empty xs i)).bind fun u => if u = true then spec_SameNames.l0 k xs xs xs (xs.length : Int) (i + 1) else some false)) (fun k => by
      simp only [spec_SameNames.l0]; rw [if_pos hlt, if_pos h0, if_pos hlt, if_pos h1, hw]) (Ev.bind e1 ?_)
    simp only [Bool.false_eq_true, if_false]
    refine Ev.bind e2 ?_
    simpa using ih'

/-- A list of different names is the same as itself. -/
theorem sameNames_ev (xs : List ByteArray) (hn : xs.length ≤ big) (hnd : xs.Nodup) : Ev (fun k => spec_SameNames.f k xs xs) true :=
  sameNames_loop xs hn hnd xs.length 0 (by omega) (by omega) (by omega)

theorem fits2_loop (xs : List ByteArray) (hn : xs.length ≤ big) (d : Nat) : ∀ (i : Int), 0 ≤ i → i ≤ xs.length → (xs.length : Int) - i = d →
    ∃ b, Ev (fun k => laws_zzFits2.l0 k xs (xs.length : Int) i) b ∧ (b = true → ∀ s ∈ xs.drop i.toNat, s.size ≤ big) := by
  induction d with
  | zero =>
    intro i h0 h1 hd
    have : xs.drop i.toNat = [] := List.drop_of_length_le (by omega)
    exact ⟨true, Ev.step (f := fun _ => some true) (fun k => by simp only [laws_zzFits2.l0]; rw [if_neg (by omega)]) (Ev.now _), fun _ s hs => by rw [this] at hs; cases hs⟩
  | succ d ih =>
    intro i h0 h1 hd
    have hlt : i < (xs.length : Int) := by omega
    have hw := wrap_up h0 hlt hn
    have g := rd_get h0 hlt
    have hl : i.toNat < xs.length := by omega
    have hdrop : xs.drop i.toNat = rdOf ByteArray.empty xs i :: xs.drop (i + 1).toNat := by
      rw [List.drop_eq_getElem_cons hl, show (i + 1).toNat = i.toNat + 1 by omega]
      congr 1
      rw [List.getElem?_eq_getElem hl] at g
      exact Option.some.inj g
    by_cases h : ((rdOf ByteArray.empty xs i).size : Int) > 2147483647
    · exact ⟨false, Ev.step (f := fun _ => some false) (fun k => by simp only [laws_zzFits2.l0]; rw [if_pos hlt, if_pos h0, if_pos hlt, if_pos h]) (Ev.now _), by simp⟩
    · obtain ⟨b, eb, hb⟩ := ih (i + 1) (by omega) (by omega) (by omega)
      refine ⟨b, Ev.step (f := fun k => laws_zzFits2.l0 k xs (xs.length : Int) (i + 1)) (fun k => by simp only [laws_zzFits2.l0]; rw [if_pos hlt, if_pos h0, if_pos hlt, if_neg h, hw]) eb, fun hbt s hs => ?_⟩
      rw [hdrop] at hs
      rcases List.mem_cons.mp hs with rfl | hs
      · have : big = 2147483647 := rfl
        omega
      · exact hb hbt s hs

theorem fits2_ev (xs : List ByteArray) : ∃ b, Ev (fun k => laws_zzFits2.f k xs) b ∧ (b = true → xs.length ≤ big ∧ ∀ s ∈ xs, s.size ≤ big) := by
  have hb : big = 2147483647 := rfl
  by_cases h : (xs.length : Int) > 2147483647
  · exact ⟨false, Ev.congr (f := fun _ => some false) (fun k => by unfold laws_zzFits2.f; rw [if_pos h]) (Ev.now _), by simp⟩
  · obtain ⟨b, eb, ht⟩ := fits2_loop xs (by omega) xs.length 0 (by omega) (by omega) (by omega)
    exact ⟨b, Ev.congr (f := fun k => laws_zzFits2.l0 k xs (xs.length : Int) 0) (fun k => by unfold laws_zzFits2.f; rw [if_neg h]) eb, fun hbt => ⟨by omega, by simpa using ht hbt⟩⟩

theorem fits3_loop (xs : List (List ByteArray)) (hn : xs.length ≤ big) (d : Nat) : ∀ (i : Int), 0 ≤ i → i ≤ xs.length → (xs.length : Int) - i = d →
    ∃ b, Ev (fun k => laws_zzFits3.l0 k xs (xs.length : Int) i) b ∧ (b = true → ∀ r ∈ xs.drop i.toNat, r.length ≤ big ∧ ∀ s ∈ r, s.size ≤ big) := by
  induction d with
  | zero =>
    intro i h0 h1 hd
    have : xs.drop i.toNat = [] := List.drop_of_length_le (by omega)
    exact ⟨true, Ev.step (f := fun _ => some true) (fun k => by simp only [laws_zzFits3.l0]; rw [if_neg (by omega)]) (Ev.now _), fun _ s hs => by rw [this] at hs; cases hs⟩
  | succ d ih =>
    intro i h0 h1 hd
    have hlt : i < (xs.length : Int) := by omega
    have hw := wrap_up h0 hlt hn
    have g := rd_get1 h0 hlt
    have hl : i.toNat < xs.length := by omega
    have hdrop : xs.drop i.toNat = rd_L1 xs i :: xs.drop (i + 1).toNat := by
      rw [List.drop_eq_getElem_cons hl, show (i + 1).toNat = i.toNat + 1 by omega]
      congr 1
      rw [List.getElem?_eq_getElem hl] at g
      exact Option.some.inj g
    obtain ⟨b1, e1, h1'⟩ := fits2_ev (rd_L1 xs i)
    have stp : ∀ k, laws_zzFits3.l0 (k + 1) xs (xs.length : Int) i = (laws_zzFits2.f k (rd_L1 xs i)).bind fun t => if t = true then laws_zzFits3.l0 k xs (xs.length : Int) (i + 1) else some false := fun k => by
      simp only [laws_zzFits3.l0]; rw [if_pos hlt, if_pos h0, if_pos hlt, hw]
    cases b1 with
    | false => exact ⟨false, Ev.step stp (Ev.bind e1 (by simpa using Ev.now false)), by simp⟩
    | true =>
      obtain ⟨b, eb, hb⟩ := ih (i + 1) (by omega) (by omega) (by omega)
      refine ⟨b, Ev.step stp (Ev.bind e1 (by simpa using eb)), fun hbt s hs => ?_⟩
      rw [hdrop] at hs
      rcases List.mem_cons.mp hs with rfl | hs
      · exact h1' rfl
      · exact hb hbt s hs

theorem fits3_ev (xs : List (List ByteArray)) : ∃ b, Ev (fun k => laws_zzFits3.f k xs) b ∧ (b = true → Fits xs) := by
  have hb : big = 2147483647 := rfl
  by_cases h : (xs.length : Int) > 2147483647
  · exact ⟨false, Ev.congr (f := fun _ => some false) (fun k => by unfold laws_zzFits3.f; rw [if_pos h]) (Ev.now _), by simp⟩
  · obtain ⟨b, eb, ht⟩ := fits3_loop xs (by omega) xs.length 0 (by omega) (by omega) (by omega)
    exact ⟨b, Ev.congr (f := fun k => laws_zzFits3.l0 k xs (xs.length : Int) 0) (fun k => by unfold laws_zzFits3.f; rw [if_neg h]) eb, fun hbt => ⟨by omega, by simpa using ht hbt⟩⟩

theorem users_ev (xs : List (List ByteArray)) (d n : ByteArray) (F : Fits xs) (hd : d.size ≤ big) (hn : n.size ≤ big) :
    ∃ l b, Ev (fun k => spec_Users.f k xs d n) (l, b) ∧ (b = true → Shaped xs (sizeOf' d) ∧ l = down (LdOf xs d) n) := by
  obtain ⟨b, eb, hb⟩ := areLinks_ev xs d n F hd hn
  cases b with
  | false => exact ⟨[], false, Ev.congr (f := fun k => (spec_areLinks.f k xs d n).bind fun t => if t = true then ((spec_direct.f k xs d n false).bind fun u => some (u, true)) else some ([], false)) (fun k => rfl) (Ev.bind eb (by simpa using Ev.now _)), by simp⟩
  | true =>
    have S := hb rfl
    refine ⟨down (LdOf xs d) n, true, Ev.congr (f := fun k => (spec_areLinks.f k xs d n).bind fun t => if t = true then ((spec_direct.f k xs d n false).bind fun u => some (u, true)) else some ([], false)) (fun k => rfl) (Ev.bind eb ?_), fun _ => ⟨S, rfl⟩⟩
    simp only [if_true]
    have := direct_ev xs d n false F S
    unfold asked at this
    simp only [Bool.false_eq_true, if_false] at this
    exact Ev.bind this (Ev.now _)

end Go.Proofs.Ytpdejkalcminbaa.Pl
