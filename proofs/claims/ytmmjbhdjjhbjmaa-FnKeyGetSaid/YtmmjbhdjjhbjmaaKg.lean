/- The plain side of 'laws.FnKeyGet': where the reference tells whether a path matches a pattern, the package's KeyGet gives what stands for the star; for texts of at most 2^31 - 1 bytes. -/
import Derived.Test.YtmmjbhdjjhbjmaaPFnKeyGetx
import Derived.Lib.Strings
namespace Go.Proofs.Ytmmjbhdjjhbjmaa.Kg
open Go.RowKit Go.Proofs.YtmmjbhdjjhbjmaaW.PrintWords Go.Proofs.YtmmjbhdjjhbjmaaW.PrintLast Go.Proofs.Ytmmjbhdjjhbjmaa.PFnKeyGet

theorem star_list : (⟨#[42]⟩ : ByteArray).toList = [42] := by rw [Lib.toList_data]

theorem star_size : (⟨#[42]⟩ : ByteArray).size = 1 := rfl

theorem wrap_up {i : Int} {n : Nat} (h0 : 0 ≤ i) (h : i < (n : Int)) (hn : n ≤ 2147483647) : wrap64 (i + 1) = i + 1 := by
  unfold wrap64
  omega

theorem wrap_end {n : Nat} (hn : n ≤ 2147483647) : wrap64 ((n : Int) + 1) = n + 1 := by
  unfold wrap64
  omega

theorem one_byte (s : ByteArray) (i : Int) (h0 : 0 ≤ i) (h1 : i < (s.size : Int)) :
    (s.extract i.toNat (i + 1).toNat).toList = [42] ↔ bt s i = 42 := by
  have hlt : i.toNat < s.size := by omega
  have hl : i.toNat < s.data.toList.length := by rw [Array.length_toList]; exact hlt
  have e : (i + 1).toNat - i.toNat = 1 := by omega
  rw [Lib.toList_data, Lib.extract_data, e, List.drop_eq_getElem_cons hl]
  simp only [List.take_succ_cons, List.take_zero, List.cons.injEq, and_true]
  have hb : bt s i = ((s[i.toNat]'hlt).toNat : Int) := by simp [bt, hlt]
  have hg : s.data.toList[i.toNat] = s[i.toNat]'hlt := by simp [ByteArray.getElem_eq_getElem_data]
  rw [hb, hg]
  constructor
  · intro h; rw [h]; rfl
  · intro h
    apply UInt8.toNat_inj.mp
    have : (42 : UInt8).toNat = 42 := rfl
    omega

/-- A byte that may stand in a part of a path is no star. -/
theorem keyByte_some (c : Int) : ∃ b, spec_isKeyByte.f c = some b ∧ (b = true → c ≠ 42) := by
  unfold spec_isKeyByte.f spec_isLetter.f spec_isDigit.f
  by_cases e : c = 42
  · subst e; exact ⟨false, by decide, by simp⟩
  · repeat' split
    all_goals (first | exact ⟨_, rfl, fun _ => e⟩ | (simp only [Option.bind_some]; repeat' split); all_goals exact ⟨_, rfl, fun _ => e⟩)

/-- isKey answers; where it says true, no byte is a star. -/
theorem isKey_tells (s : ByteArray) (hn : s.size ≤ 2147483647) (d : Nat) : ∀ (k : Nat) (i : Int), 0 ≤ i → i ≤ s.size → (s.size : Int) - i = d → d < k →
    ∃ r, spec_isKey.l0 k s (s.size : Int) i = some r ∧ (r = true → ∀ j, i ≤ j → j < s.size → bt s j ≠ 42) := by
  induction d with
  | zero =>
    intro k i h0 h1 hd hk
    obtain ⟨k, rfl⟩ : ∃ m, k = m + 1 := ⟨k - 1, by omega⟩
    exact ⟨_, by simp only [spec_isKey.l0]; rw [if_neg (by omega)], fun _ j hj hj2 => by omega⟩
  | succ d ih =>
    intro k i h0 h1 hd hk
    obtain ⟨k, rfl⟩ : ∃ m, k = m + 1 := ⟨k - 1, by omega⟩
    have hlt : i < (s.size : Int) := by omega
    obtain ⟨r, hr, ht⟩ := ih k (i + 1) (by omega) (by omega) (by omega) (by omega)
    have step : bt s i ≠ 42 → r = true → ∀ j, i ≤ j → j < s.size → bt s j ≠ 42 := fun hb hrt j hj hj2 => by
      by_cases e : j = i
      · subst e; exact hb
      · exact ht hrt j (by omega) hj2
    by_cases hs : bt s i = 47
    · refine ⟨r, ?_, step (by omega)⟩
      simp only [spec_isKey.l0]; rw [if_pos hlt, if_pos h0, if_pos hlt, if_pos hs, wrap_up h0 hlt hn]; exact hr
    · obtain ⟨b, hb, hb2⟩ := keyByte_some (bt s i)
      cases b with
      | true =>
        refine ⟨r, ?_, step (hb2 rfl)⟩
        simp only [spec_isKey.l0]; rw [if_pos hlt, if_pos h0, if_pos hlt, if_neg hs, hb]; simp only [Option.bind_some, if_true]; rw [wrap_up h0 hlt hn]; exact hr
      | false =>
        refine ⟨false, ?_, by simp⟩
        simp only [spec_isKey.l0]; rw [if_pos hlt, if_pos h0, if_pos hlt, if_neg hs, hb]; simp

theorem isKey_some (s : ByteArray) (hn : s.size ≤ 2147483647) (k : Nat) (hk : s.size < k) :
    ∃ r, spec_isKey.f k s = some r ∧ (r = true → ∀ j : Int, 0 ≤ j → j < s.size → bt s j ≠ 42) := by
  obtain ⟨r, hr, ht⟩ := isKey_tells s hn s.size k 0 (by omega) (by omega) (by omega) hk
  exact ⟨r, hr, ht⟩

/-- No star from i on. -/
theorem index_none (s : ByteArray) (hn : s.size ≤ 2147483647) (d : Nat) : ∀ (k : Nat) (i : Int), 0 ≤ i → i ≤ s.size → (s.size : Int) - i = d → d < k →
    (∀ j, i ≤ j → j < s.size → bt s j ≠ 42) → casbin_zzIndex.l0 k s (⟨#[42]⟩ : ByteArray) i = some (-1) := by
  induction d with
  | zero =>
    intro k i h0 h1 hd hk hb
    obtain ⟨k, rfl⟩ : ∃ m, k = m + 1 := ⟨k - 1, by omega⟩
    have e : i = (s.size : Int) := by omega
    simp only [casbin_zzIndex.l0, star_size]
    rw [if_neg]
    subst e
    show ¬ wrap64 ((s.size : Int) + 1) ≤ _
    rw [wrap_end hn]; omega
  | succ d ih =>
    intro k i h0 h1 hd hk hb
    obtain ⟨k, rfl⟩ : ∃ m, k = m + 1 := ⟨k - 1, by omega⟩
    have hlt : i < (s.size : Int) := by omega
    have hw : wrap64 (i + ((1 : Nat) : Int)) = i + 1 := wrap_up h0 hlt hn
    simp only [casbin_zzIndex.l0, star_size, star_list]
    rw [hw, if_pos (by omega), if_pos h0, if_pos (by omega), if_neg (fun h => hb i (by omega) hlt ((one_byte s i h0 hlt).mp h)), wrap_up h0 hlt hn]
    exact ih k (i + 1) (by omega) (by omega) (by omega) (by omega) (fun j hj hj2 => hb j (by omega) hj2)

/-- The first star from i on stands at n. -/
theorem index_at (s : ByteArray) (n : Int) (hn : s.size ≤ 2147483647) (hn1 : n < s.size) (hn2 : bt s n = 42) (d : Nat) : ∀ (k : Nat) (i : Int), 0 ≤ i → i ≤ n → n - i = d → d < k →
    (∀ j, i ≤ j → j < n → bt s j ≠ 42) → casbin_zzIndex.l0 k s (⟨#[42]⟩ : ByteArray) i = some n := by
  induction d with
  | zero =>
    intro k i h0 h1 hd hk hb
    obtain ⟨k, rfl⟩ : ∃ m, k = m + 1 := ⟨k - 1, by omega⟩
    have e : i = n := by omega
    subst e
    have hw : wrap64 (i + ((1 : Nat) : Int)) = i + 1 := wrap_up h0 hn1 hn
    simp only [casbin_zzIndex.l0, star_size, star_list]
    rw [hw, if_pos (by omega), if_pos h0, if_pos (by omega), if_pos ((one_byte s i h0 hn1).mpr hn2)]
  | succ d ih =>
    intro k i h0 h1 hd hk hb
    obtain ⟨k, rfl⟩ : ∃ m, k = m + 1 := ⟨k - 1, by omega⟩
    have hlt : i < (s.size : Int) := by omega
    have hw : wrap64 (i + ((1 : Nat) : Int)) = i + 1 := wrap_up h0 hlt hn
    simp only [casbin_zzIndex.l0, star_size, star_list]
    rw [hw, if_pos (by omega), if_pos h0, if_pos (by omega), if_neg (fun h => hb i (by omega) (by omega) ((one_byte s i h0 hlt).mp h)), wrap_up h0 hlt hn]
    exact ih k (i + 1) (by omega) (by omega) (by omega) (by omega) (fun j hj hj2 => hb j (by omega) hj2)

theorem bt_extract (s : ByteArray) (n : Nat) (hn : n ≤ s.size) (j : Int) (h0 : 0 ≤ j) (h1 : j < n) : bt (s.extract 0 n) j = bt s j := by
  have hz : (s.extract 0 n).size = n := by simp [ByteArray.size_extract]; omega
  have a : j.toNat < (s.extract 0 n).size := by omega
  have b : j.toNat < s.size := by omega
  simp only [bt, a, b, dif_pos]
  simp [ByteArray.getElem_extract]

theorem size_extract0 (s : ByteArray) (n : Nat) (hn : n ≤ s.size) : (s.extract 0 n).size = n := by simp [ByteArray.size_extract]; omega

/-- What Starred tells: the three ways. -/
structure Told (path pat : ByteArray) (r1 : Bool) (r2 : ByteArray) (i : Int) : Prop where
  find : ∀ k, pat.size < k → casbin_zzIndex.f k pat (⟨#[42]⟩ : ByteArray) = some i
  ways : (i = -1 ∧ r1 = (path.toList == pat.toList) ∧ r2 = ⟨#[]⟩) ∨
    (0 ≤ i ∧ i < pat.size ∧ (path.size : Int) < i ∧ r1 = false ∧ r2 = ⟨#[]⟩) ∨
    (0 ≤ i ∧ i < pat.size ∧ i ≤ (path.size : Int) ∧ (path.extract 0 i.toNat).toList = (pat.extract 0 i.toNat).toList ∧ r1 = true ∧ r2 = path.extract i.toNat path.size) ∨
    (0 ≤ i ∧ i < pat.size ∧ i ≤ (path.size : Int) ∧ (path.extract 0 i.toNat).toList ≠ (pat.extract 0 i.toNat).toList ∧ r1 = false ∧ r2 = ⟨#[]⟩)

theorem extract_whole (s : ByteArray) (n : Nat) (h : s.size ≤ n) : s.extract 0 n = s := by
  have e : (s.extract 0 n).data.toList = s.data.toList := by
    rw [Lib.extract_data]
    simp only [List.drop_zero, Nat.sub_zero]
    exact List.take_of_length_le (by rw [Array.length_toList]; exact h)
  cases hs : s.extract 0 n with | mk d => cases s with | mk d2 => rw [hs] at e; congr 1; exact Array.toList_inj.mp e

theorem starred_tells (path pat : ByteArray) (hp : path.size ≤ 2147483647) (hq : pat.size ≤ 2147483647) :
    ∃ k r1 r2 r3, spec_Starred.f k path pat = some (r1, r2, r3) ∧ (r3 = true → ∃ i, Told path pat r1 r2 i) := by
  -- j1 with n, star
  have core : ∀ (n : Nat) (star : Bool), n ≤ pat.size → (star = true → n + 1 = pat.size ∧ bt pat n = 42) → (star = false → n = pat.size) →
      ∃ k r1 r2 r3, spec_Starred.j1 (k + 1) path pat (n : Int) star = some (r1, r2, r3) ∧ (r3 = true → ∃ i, Told path pat r1 r2 i) := by
    intro n star hn hst hsf
    obtain ⟨a, ha, _⟩ := isKey_some path hp (path.size + pat.size + 1) (by omega)
    obtain ⟨b, hb, hb2⟩ := isKey_some (pat.extract 0 n) (by rw [size_extract0 pat n hn]; omega) (path.size + pat.size + 1) (by rw [size_extract0 pat n hn]; omega)
    have hkey : b = true → ∀ j : Int, 0 ≤ j → j < n → bt pat j ≠ 42 := fun h j h0 h1 => by
      have := hb2 h j h0 (by rw [size_extract0 pat n hn]; exact h1)
      rwa [bt_extract pat n hn j h0 h1] at this
    have e1 : ((n : Int)).toNat = n := Int.toNat_natCast n
    refine ⟨path.size + pat.size + 1, ?_⟩
    simp only [spec_Starred.j1, ha, Option.bind_some, e1, hb]
    rw [if_pos (show (0 : Int) ≤ (n : Int) by omega), if_pos (show (n : Int) ≤ (pat.size : Int) by omega)]
    cases a with
    | false => exact ⟨false, ⟨#[]⟩, false, by simp [spec_Starred.j2], by simp⟩
    | true =>
      simp only [if_true]
      cases b with
      | false => exact ⟨false, ⟨#[]⟩, false, by simp [spec_Starred.j2], by simp⟩
      | true =>
        have hk := hkey rfl
        simp only [spec_Starred.j2, Bool.not_true, Bool.false_eq_true, if_false]
        cases star with
        | false =>
          have hnn := hsf rfl
          refine ⟨_, _, _, rfl, fun _ => ⟨-1, ?_, .inl ⟨rfl, rfl, rfl⟩⟩⟩
          intro k hk2
          exact index_none pat hq pat.size k 0 (by omega) (by omega) (by omega) hk2 (fun j h0 h1 => hk j h0 (by omega))
        | true =>
          obtain ⟨hn1, hn2⟩ := hst rfl
          have hfind : ∀ k, pat.size < k → casbin_zzIndex.f k pat (⟨#[42]⟩ : ByteArray) = some (n : Int) := fun k hk2 =>
            index_at pat n hq (by omega) hn2 n k 0 (by omega) (by omega) (by omega) (by omega) (fun j h0 h1 => hk j h0 h1)
          simp only [if_true]
          by_cases hl : (path.size : Int) < (n : Int)
          · rw [if_pos hl]
            exact ⟨_, _, _, rfl, fun _ => ⟨n, hfind, .inr (.inl ⟨by omega, by omega, hl, rfl, rfl⟩)⟩⟩
          · rw [if_neg hl, if_pos (show (0 : Int) ≤ (n : Int) by omega), if_pos (show (n : Int) ≤ (path.size : Int) by omega), if_pos (show (n : Int) ≤ (pat.size : Int) by omega)]
            simp only [e1]
            by_cases hc : (path.extract 0 n).toList = (pat.extract 0 n).toList
            · rw [if_pos hc]
              exact ⟨_, _, _, rfl, fun _ => ⟨n, hfind, .inr (.inr (.inl ⟨by omega, by omega, by omega, by rw [e1]; exact hc, rfl, by rw [e1]⟩))⟩⟩
            · rw [if_neg hc]
              exact ⟨_, _, _, rfl, fun _ => ⟨n, hfind, .inr (.inr (.inr ⟨by omega, by omega, by omega, by rw [e1]; exact hc, rfl, rfl⟩))⟩⟩
  by_cases hz : (pat.size : Int) > 0
  · have hw : wrap64 ((pat.size : Int) - 1) = ((pat.size - 1 : Nat) : Int) := by unfold wrap64; omega
    by_cases hb : bt pat ((pat.size - 1 : Nat) : Int) = 42
    · obtain ⟨k, r1, r2, r3, h, ht⟩ := core (pat.size - 1) true (by omega) (fun _ => ⟨by omega, hb⟩) (by simp)
      refine ⟨k + 2, r1, r2, r3, ?_, ht⟩
      unfold spec_Starred.f
      rw [if_pos hz, hw, if_pos (by omega), if_pos (by omega)]
      simp only [spec_Starred.j0, hb, beq_self_eq_true, if_true]
      rw [hw]; exact h
    · obtain ⟨k, r1, r2, r3, h, ht⟩ := core pat.size false (by omega) (by simp) (fun _ => rfl)
      refine ⟨k + 2, r1, r2, r3, ?_, ht⟩
      unfold spec_Starred.f
      rw [if_pos hz, hw, if_pos (by omega), if_pos (by omega)]
      have hb' : (bt pat ((pat.size - 1 : Nat) : Int) == 42) = false := beq_eq_false_iff_ne.mpr hb
      simp only [spec_Starred.j0, hb', Bool.false_eq_true, if_false]
      exact h
  · obtain ⟨k, r1, r2, r3, h, ht⟩ := core pat.size false (by omega) (by simp) (fun _ => rfl)
    refine ⟨k + 2, r1, r2, r3, ?_, ht⟩
    unfold spec_Starred.f
    rw [if_neg hz]
    simp only [spec_Starred.j0, Bool.false_eq_true, if_false]
    exact h

theorem extract_none (s : ByteArray) (i : Nat) (h : s.size ≤ i) : s.extract i s.size = ⟨#[]⟩ := by
  have e : (s.extract i s.size).data.toList = [] := by
    rw [Lib.extract_data, show s.size - i = 0 by omega, List.take_zero]
  cases hs : s.extract i s.size with | mk d => rw [hs] at e; congr 1; exact Array.toList_inj.mp e

/-- What is gotten where the path matches; nothing otherwise. -/
theorem gotten_empty {path pat : ByteArray} {r2 : ByteArray} {i : Int} (h : Told path pat false r2 i) : r2 = ⟨#[]⟩ := by
  rcases h.ways with ⟨_, _, e⟩ | ⟨_, _, _, _, e⟩ | ⟨_, _, _, _, e, _⟩ | ⟨_, _, _, _, _, e⟩
  · exact e
  · exact e
  · cases e
  · exact e

theorem keyGet_same {path pat : ByteArray} {r1 : Bool} {r2 : ByteArray} {i : Int} (h : Told path pat r1 r2 i) : ∃ k, impl_KeyGet.f k path pat = some r2 := by
  refine ⟨pat.size + 1, ?_⟩
  unfold impl_KeyGet.f casbin_KeyGet.f
  rw [h.find _ (by omega)]
  simp only [Option.bind_some]
  rcases h.ways with ⟨rfl, _, rfl⟩ | ⟨h0, h1, h2, _, rfl⟩ | ⟨h0, h1, h2, h3, _, rfl⟩ | ⟨h0, h1, h2, h3, _, rfl⟩
  · simp
  · rw [if_neg (by omega), if_neg (by omega)]
    rfl
  · rw [if_neg (by omega)]
    by_cases hl : (path.size : Int) > i
    · rw [if_pos hl, if_pos h0, if_pos h2, if_pos (by omega), if_pos h3]
      rfl
    · rw [if_neg hl, extract_none path i.toNat (by omega)]
      rfl
  · rw [if_neg (by omega)]
    by_cases hl : (path.size : Int) > i
    · rw [if_pos hl, if_pos h0, if_pos h2, if_pos (by omega), if_neg h3]
      rfl
    · rw [if_neg hl]
      rfl

end Go.Proofs.Ytmmjbhdjjhbjmaa.Kg
