import Derived.PlainAid
import Derived.Lib.Strings
import Derived.Lib.Bytealg
namespace Go.Proofs.Qxb6001537a
open Go.RowKit Go.PlainAid

/-- How many bytes the two share at their beginning. -/
def lcp : List UInt8 → List UInt8 → Nat
  | a :: as, b :: bs => if a = b then lcp as bs + 1 else 0
  | _, _ => 0

theorem lcp_le : ∀ (A B : List UInt8), lcp A B ≤ A.length ∧ lcp A B ≤ B.length
  | [], _ => by simp [lcp]
  | _ :: _, [] => by simp [lcp]
  | a :: as, b :: bs => by
    have := lcp_le as bs
    simp only [lcp, List.length_cons]
    split <;> omega

theorem take_of_le_lcp : ∀ (n : Nat) (A B : List UInt8), n ≤ lcp A B → A.take n = B.take n
  | 0, _, _, _ => by simp
  | n + 1, a :: as, b :: bs, h => by
    simp only [lcp] at h
    split at h
    · rename_i e
      rw [e, List.take_succ_cons, List.take_succ_cons, take_of_le_lcp n as bs (by omega)]
    · omega
  | n + 1, [], _, h => by simp [lcp] at h
  | n + 1, _ :: _, [], h => by simp [lcp] at h

theorem le_lcp_of_take : ∀ (n : Nat) (A B : List UInt8), n ≤ A.length → n ≤ B.length → A.take n = B.take n → n ≤ lcp A B
  | 0, _, _, _, _, _ => by omega
  | n + 1, a :: as, b :: bs, h1, h2, h => by
    rw [List.take_succ_cons, List.take_succ_cons] at h
    injection h with e1 e2
    have := le_lcp_of_take n as bs (by simpa using h1) (by simpa using h2) e2
    simp only [lcp, e1, if_true]
    omega
  | n + 1, [], _, h1, _, _ => by simp at h1
  | n + 1, _ :: _, [], _, h2, _ => by simp at h2

theorem cmp_drop : ∀ (n : Nat) (A B : List UInt8), n ≤ lcp A B → Lib.compareBytes (A.drop n) (B.drop n) = Lib.compareBytes A B
  | 0, _, _, _ => by simp
  | n + 1, a :: as, b :: bs, h => by
    simp only [lcp] at h
    split at h
    · rename_i e
      subst e
      rw [List.drop_succ_cons, List.drop_succ_cons, cmp_drop n as bs (by omega)]
      have hn : ¬ a < a := by simp
      simp [Lib.compareBytes, hn]
    · omega
  | n + 1, [], _, h => by simp [lcp] at h
  | n + 1, _ :: _, [], h => by simp [lcp] at h

/-- Bytes of a string as numbers and as list elements. -/
theorem bt_get (s : ByteArray) (k : Nat) (h : k < s.size) : ∃ hl : k < s.data.toList.length, bt s k = ((s.data.toList[k]'hl).toNat : Int) := by
  have hl : k < s.data.toList.length := by rw [← Lib.size_eq]; exact h
  refine ⟨hl, ?_⟩
  unfold bt
  rw [dif_pos h]
  rfl

/-- 'lcp' of two strings. -/
def lcpS (a b : ByteArray) : Nat := lcp a.data.toList b.data.toList
/-- Their order. -/
def cmpS (a b : ByteArray) : Int := Lib.compareBytes a.data.toList b.data.toList

theorem lcpS_le (a b : ByteArray) : lcpS a b ≤ a.size ∧ lcpS a b ≤ b.size := by
  have := lcp_le a.data.toList b.data.toList
  rw [Lib.size_eq a, Lib.size_eq b]; exact this

theorem lcpS_step {a b : ByteArray} {k : Nat} (h : k ≤ lcpS a b) (ha : k < a.size) (hb : k < b.size) (he : bt a k = bt b k) : k + 1 ≤ lcpS a b := by
  obtain ⟨h1, e1⟩ := bt_get a k ha
  obtain ⟨h2, e2⟩ := bt_get b k hb
  have ht := take_of_le_lcp k _ _ h
  have e : a.data.toList[k] = b.data.toList[k] := by
    apply UInt8.toNat_inj.1
    omega
  refine le_lcp_of_take (k + 1) _ _ (by omega) (by omega) ?_
  rw [List.take_succ_eq_append_getElem h1, List.take_succ_eq_append_getElem h2, ht, e]

theorem lcpS_stop {a b : ByteArray} {k : Nat} (h : k ≤ lcpS a b) (hs : ¬ (k < a.size ∧ k < b.size ∧ bt a k = bt b k)) : lcpS a b = k := by
  by_cases e : lcpS a b = k
  · exact e
  · exfalso
    have hl := lcpS_le a b
    have ht := take_of_le_lcp (k + 1) _ _ (show k + 1 ≤ lcpS a b by omega)
    have ha : k < a.size := by omega
    have hb : k < b.size := by omega
    obtain ⟨h1, e1⟩ := bt_get a k ha
    obtain ⟨h2, e2⟩ := bt_get b k hb
    rw [List.take_succ_eq_append_getElem h1, List.take_succ_eq_append_getElem h2] at ht
    have := List.append_inj_right ht (by simp; omega)
    injection this with e3 _
    exact hs ⟨ha, hb, by rw [e1, e2, e3]⟩

theorem drop_cons (a : ByteArray) (k : Nat) (h : k < a.data.toList.length) : a.data.toList.drop k = a.data.toList[k] :: a.data.toList.drop (k + 1) := List.drop_eq_getElem_cons h

theorem cmpS_lt {a b : ByteArray} {k : Nat} (h : k ≤ lcpS a b) (ha : k < a.size) (hb : k < b.size) (hl : bt a k < bt b k) : cmpS a b = -1 := by
  obtain ⟨h1, e1⟩ := bt_get a k ha
  obtain ⟨h2, e2⟩ := bt_get b k hb
  unfold cmpS
  rw [← cmp_drop k _ _ h, drop_cons a k h1, drop_cons b k h2]
  have : a.data.toList[k] < b.data.toList[k] := by rw [UInt8.lt_iff_toNat_lt]; omega
  simp only [Lib.compareBytes, this, if_true]
theorem cmpS_gt {a b : ByteArray} {k : Nat} (h : k ≤ lcpS a b) (ha : k < a.size) (hb : k < b.size) (hl : bt b k < bt a k) : cmpS a b = 1 := by
  obtain ⟨h1, e1⟩ := bt_get a k ha
  obtain ⟨h2, e2⟩ := bt_get b k hb
  unfold cmpS
  rw [← cmp_drop k _ _ h, drop_cons a k h1, drop_cons b k h2]
  have h3 : b.data.toList[k] < a.data.toList[k] := by rw [UInt8.lt_iff_toNat_lt]; omega
  have h4 : ¬ a.data.toList[k] < b.data.toList[k] := by rw [UInt8.lt_iff_toNat_lt]; omega
  simp only [Lib.compareBytes, h3, h4, if_true, if_false]
theorem cmpS_short {a b : ByteArray} (h : a.size ≤ lcpS a b) (hl : a.size < b.size) : cmpS a b = -1 := by
  have h2 : a.size < b.data.toList.length := by rw [← Lib.size_eq]; exact hl
  unfold cmpS
  rw [← cmp_drop a.size _ _ h, drop_cons b a.size h2, List.drop_of_length_le (by rw [← Lib.size_eq]; omega)]
  rfl
theorem cmpS_long {a b : ByteArray} (h : b.size ≤ lcpS a b) (hl : b.size < a.size) : cmpS a b = 1 := by
  have h2 : b.size < a.data.toList.length := by rw [← Lib.size_eq]; exact hl
  unfold cmpS
  rw [← cmp_drop b.size _ _ h, drop_cons a b.size h2, List.drop_of_length_le (l := b.data.toList) (by rw [← Lib.size_eq]; omega)]
  rfl
theorem cmpS_same {a b : ByteArray} (h : a.size ≤ lcpS a b) (hl : a.size = b.size) : cmpS a b = 0 := by
  unfold cmpS
  rw [← cmp_drop a.size _ _ h, List.drop_of_length_le (by rw [← Lib.size_eq]; omega), List.drop_of_length_le (l := b.data.toList) (by rw [← Lib.size_eq]; omega)]
  rfl

theorem cmpS_extract {a b : ByteArray} {k : Nat} (h : k ≤ lcpS a b) : Lib.compareBytes (a.extract k a.size).data.toList (b.extract k b.size).data.toList = cmpS a b := by
  unfold cmpS
  rw [← cmp_drop k _ _ h, Lib.extract_data, Lib.extract_data]
  rw [List.take_of_length_le (by rw [List.length_drop, ← Lib.size_eq]; omega), List.take_of_length_le (by rw [List.length_drop, ← Lib.size_eq]; omega)]

/-- A block of 64 bytes that is the same in both. -/
theorem lcpS_block {a b : ByteArray} {k m : Nat} (h : k ≤ lcpS a b) (ha : k + m ≤ a.size) (hb : k + m ≤ b.size) (he : ((a.extract k (k + m)).toList == (b.extract k (k + m)).toList) = true) : k + m ≤ lcpS a b := by
  rw [beq_iff_eq, Lib.extract_toList, Lib.extract_toList, show k + m - k = m by omega] at he
  refine le_lcp_of_take (k + m) _ _ (by rw [← Lib.size_eq]; omega) (by rw [← Lib.size_eq]; omega) ?_
  rw [List.take_add, List.take_add, take_of_le_lcp k _ _ h, he]
theorem lcpS_block_not {a b : ByteArray} {k m : Nat} (he : ((a.extract k (k + m)).toList == (b.extract k (k + m)).toList) = false) : lcpS a b < k + m := by
  apply Nat.lt_of_not_le
  intro h
  rw [beq_eq_false_iff_ne, Lib.extract_toList, Lib.extract_toList, show k + m - k = m by omega] at he
  apply he
  have := take_of_le_lcp (k + m) _ _ h
  have h2 := congrArg (List.drop k) this
  rw [List.drop_take, List.drop_take, show k + m - k = m by omega] at h2
  exact h2
end Go.Proofs.Qxb6001537a
