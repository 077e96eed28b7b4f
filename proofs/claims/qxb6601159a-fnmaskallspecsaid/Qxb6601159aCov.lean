import Derived.Test.Qxb6601159aForm
namespace Go.Proofs.Qxb6601159a
open Go.RowKit Go.PlainAid

/-- The ten bytes of s from i on have the form. -/
def winB (s : ByteArray) (i : Nat) : Bool := decide (i + 10 ≤ s.size) && formUpto s i 10

theorem winB_iff (s : ByteArray) (i : Nat) : winB s i = true ↔ i + 10 ≤ s.size ∧ ∀ k : Nat, k < 10 → fitsB k (bt s (i + k)) = true := by
  unfold winB
  rw [Bool.and_eq_true, decide_eq_true_iff, formUpto_iff]

theorem size_extract (s : ByteArray) (a b : Nat) (h : b ≤ s.size) : (s.extract a b).size = b - a := by
  rw [ByteArray.size_extract]; omega

theorem bt_extract (s : ByteArray) (a b k : Nat) (h : b ≤ s.size) (hk : k < b - a) : bt (s.extract a b) k = bt s (a + k) := by
  have h1 : k < (s.extract a b).size := by rw [size_extract s a b h]; exact hk
  have h2 : a + k < s.size := by omega
  unfold bt
  rw [dif_pos h1, dif_pos h2]
  rw [ByteArray.getElem_extract]

theorem formUpto_extract (s : ByteArray) (i : Nat) (h : i + 10 ≤ s.size) : ∀ n, n ≤ 10 → formUpto (s.extract i (i + 10)) 0 n = formUpto s i n
  | 0, _ => rfl
  | n + 1, hn => by
    simp only [formUpto]
    rw [formUpto_extract s i h n (by omega), Nat.zero_add, bt_extract s i (i + 10) n h (by omega)]

theorem formB_extract (s : ByteArray) (i : Nat) (h : i + 10 ≤ s.size) : formB (s.extract i (i + 10)) = winB s i := by
  unfold formB winB
  rw [formUpto_extract s i h 10 (by omega), size_extract s i (i + 10) h]
  simp [h]

/-- Place j lies among the first five bytes of a window that has the form and begins before n. -/
def covN (s : ByteArray) (n j : Nat) : Bool := (List.range 5).any fun d => decide (d ≤ j ∧ j - d < n ∧ winB s (j - d) = true)

theorem covN_iff (s : ByteArray) (n j : Nat) : covN s n j = true ↔ ∃ i, i ≤ j ∧ j < i + 5 ∧ i < n ∧ winB s i = true := by
  unfold covN
  simp only [List.any_eq_true, List.mem_range, decide_eq_true_iff]
  constructor
  · rintro ⟨d, h1, h2, h3, h4⟩
    exact ⟨j - d, by omega, by omega, h3, h4⟩
  · rintro ⟨i, h1, h2, h3, h4⟩
    exact ⟨j - i, by omega, by omega, by omega, by rw [show j - (j - i) = i by omega]; exact h4⟩

theorem covN_zero (s : ByteArray) (j : Nat) : covN s 0 j = false := by
  rw [Bool.eq_false_iff]; intro h
  obtain ⟨i, _, _, h3, _⟩ := (covN_iff s 0 j).1 h
  omega

theorem covN_miss {s : ByteArray} {k : Nat} (hk : winB s k = false) (j : Nat) : covN s (k + 1) j = covN s k j := by
  rw [Bool.eq_iff_iff, covN_iff, covN_iff]
  constructor
  · rintro ⟨i, h1, h2, h3, h4⟩
    by_cases e : i = k
    · subst e; rw [hk] at h4; cases h4
    · exact ⟨i, h1, h2, by omega, h4⟩
  · rintro ⟨i, h1, h2, h3, h4⟩
    exact ⟨i, h1, h2, by omega, h4⟩

theorem covN_in {s : ByteArray} {k j : Nat} (hk : winB s k = true) (h1 : k ≤ j) (h2 : j < k + 5) : covN s (k + 1) j = true :=
  (covN_iff _ _ _).2 ⟨k, h1, h2, by omega, hk⟩

theorem covN_out {s : ByteArray} {k j : Nat} (h : j < k ∨ k + 5 ≤ j) : covN s (k + 1) j = covN s k j := by
  rw [Bool.eq_iff_iff, covN_iff, covN_iff]
  constructor
  · rintro ⟨i, h1, h2, h3, h4⟩
    exact ⟨i, h1, h2, by omega, h4⟩
  · rintro ⟨i, h1, h2, h3, h4⟩
    exact ⟨i, h1, h2, by omega, h4⟩

theorem covN_end {s : ByteArray} {k : Nat} (h : s.size < k + 10) (j : Nat) : covN s k j = covN s s.size j := by
  rw [Bool.eq_iff_iff, covN_iff, covN_iff]
  constructor
  · rintro ⟨i, h1, h2, h3, h4⟩
    have := ((winB_iff s i).1 h4).1
    exact ⟨i, h1, h2, by omega, h4⟩
  · rintro ⟨i, h1, h2, h3, h4⟩
    have := ((winB_iff s i).1 h4).1
    exact ⟨i, h1, h2, by omega, h4⟩

/-- The masked byte j, of windows that begin before n. -/
def mkB (s : ByteArray) (n j : Nat) : Int := if covN s n j = true then 88 else bt s j

theorem mkB_bd (s : ByteArray) (n j : Nat) : 0 ≤ mkB s n j ∧ mkB s n j ≤ 255 := by
  unfold mkB; split
  · omega
  · exact ⟨bt_nonneg s j, bt_le s j⟩
theorem mkB_zero (s : ByteArray) (j : Nat) : mkB s 0 j = bt s j := by simp [mkB, covN_zero]
theorem mkB_miss {s : ByteArray} {k : Nat} (hk : winB s k = false) (j : Nat) : mkB s (k + 1) j = mkB s k j := by simp [mkB, covN_miss hk]
theorem mkB_in {s : ByteArray} {k j : Nat} (hk : winB s k = true) (h1 : k ≤ j) (h2 : j < k + 5) : mkB s (k + 1) j = 88 := by simp [mkB, covN_in hk h1 h2]
theorem mkB_out {s : ByteArray} {k j : Nat} (h : j < k ∨ k + 5 ≤ j) : mkB s (k + 1) j = mkB s k j := by simp [mkB, covN_out h]
theorem mkB_end {s : ByteArray} {k : Nat} (h : s.size < k + 10) (j : Nat) : mkB s k j = mkB s s.size j := by simp [mkB, covN_end h]

/-- The masked text. -/
def masked (s : ByteArray) : ByteArray := ⟨((List.range s.size).map fun j => UInt8.ofNat (mkB s s.size j).toNat).toArray⟩

theorem size_masked (s : ByteArray) : (masked s).size = s.size := by
  show ((List.range s.size).map _).toArray.size = _
  simp

theorem toNat_mkB (s : ByteArray) (n j : Nat) : ((UInt8.ofNat (mkB s n j).toNat).toNat : Int) = mkB s n j := by
  have := mkB_bd s n j
  rw [UInt8.toNat_ofNat']
  omega

theorem bt_masked (s : ByteArray) (j : Nat) (h : j < s.size) : bt (masked s) j = mkB s s.size j := by
  have h1 : j < (masked s).size := by rw [size_masked]; exact h
  unfold bt
  rw [dif_pos h1]
  have e : (masked s)[j] = UInt8.ofNat (mkB s s.size j).toNat := by
    show (masked s).data[j] = _
    simp [masked]
  rw [e, toNat_mkB]
end Go.Proofs.Qxb6601159a
