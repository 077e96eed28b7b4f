import Derived.PlainAid
import Derived.Lib.Strings
namespace Go.Proofs.Qxb6000519a
open Go.RowKit Go.PlainAid

/-- What one byte does to (begun, count). -/
def stepD (st : Bool × Nat) (c : Int) : Bool × Nat :=
  (st.1 || decide (49 ≤ c ∧ c ≤ 57), if (st.1 || decide (49 ≤ c ∧ c ≤ 57)) && decide (48 ≤ c ∧ c ≤ 57) then st.2 + 1 else st.2)

def scanL (xs : List Int) : Bool × Nat := xs.foldl stepD (false, 0)

theorem stepD_other {st : Bool × Nat} {c : Int} (h : ¬ (48 ≤ c ∧ c ≤ 57)) : stepD st c = st := by
  have h2 : ¬ (49 ≤ c ∧ c ≤ 57) := by omega
  simp [stepD, h, h2]
theorem stepD_zero {n : Nat} : stepD (false, n) 48 = (false, n) := by simp [stepD]
theorem stepD_first {n : Nat} {c : Int} (h : 49 ≤ c ∧ c ≤ 57) : stepD (false, n) c = (true, n + 1) := by
  have h2 : 48 ≤ c ∧ c ≤ 57 := by omega
  simp [stepD, h, h2]
theorem stepD_on {n : Nat} {c : Int} (h : 48 ≤ c ∧ c ≤ 57) : stepD (true, n) c = (true, n + 1) := by simp [stepD, h]

def isD (c : Int) : Bool := decide (48 ≤ c ∧ c ≤ 57)

theorem fold_filter : ∀ (xs : List Int) (st : Bool × Nat), xs.foldl stepD st = (xs.filter isD).foldl stepD st
  | [], _ => rfl
  | c :: xs, st => by
    by_cases h : 48 ≤ c ∧ c ≤ 57
    · have e : isD c = true := decide_eq_true h
      rw [List.filter_cons_of_pos e, List.foldl_cons, List.foldl_cons, fold_filter xs]
    · have e : ¬ isD c = true := by simp only [isD, decide_eq_true_iff]; exact h
      rw [List.filter_cons_of_neg e, List.foldl_cons, stepD_other h, fold_filter xs]

theorem fold_zeros (n : Nat) : ∀ z, (List.replicate z (48 : Int)).foldl stepD (false, n) = (false, n)
  | 0 => rfl
  | z + 1 => by rw [List.replicate_succ, List.foldl_cons, stepD_zero, fold_zeros n z]

theorem fold_on : ∀ (xs : List Int) (n : Nat), (∀ c ∈ xs, 48 ≤ c ∧ c ≤ 57) → xs.foldl stepD (true, n) = (true, n + xs.length)
  | [], n, _ => rfl
  | c :: xs, n, h => by
    rw [List.foldl_cons, stepD_on (h c (by simp)), fold_on xs (n + 1) (fun d hd => h d (by simp [hd]))]
    simp
    omega

/-- The zeros and the digits. -/
def bodyL (z : Nat) (D : List Int) : List Int := List.replicate z 48 ++ D

theorem scan_body (z : Nat) (D : List Int) (hD : ∀ c ∈ D, 48 ≤ c ∧ c ≤ 57) (h0 : ∀ c, D.head? = some c → c ≠ 48) : (scanL (bodyL z D)).2 = D.length := by
  unfold scanL bodyL
  rw [List.foldl_append, fold_zeros]
  match D, hD, h0 with
  | [], _, _ => rfl
  | d :: ds, hD, h0 =>
    have hd := hD d (by simp)
    have h1 := h0 d rfl
    rw [List.foldl_cons, stepD_first (by omega), fold_on ds 1 (fun c hc => hD c (by simp [hc]))]
    simp
    omega

theorem filter_body (z : Nat) (D : List Int) (hD : ∀ c ∈ D, 48 ≤ c ∧ c ≤ 57) : (bodyL z D).filter isD = bodyL z D := by
  rw [List.filter_eq_self]
  intro c hc
  unfold bodyL at hc
  rw [List.mem_append, List.mem_replicate] at hc
  rcases hc with ⟨_, rfl⟩ | hc
  · rfl
  · exact decide_eq_true (hD c hc)

/-- The sign. -/
def signL (neg : Bool) : List Int := if neg then [45] else []
theorem filter_sign (neg : Bool) : (signL neg).filter isD = [] := by cases neg <;> rfl

theorem scan_plain (neg : Bool) (z : Nat) (D : List Int) (hD : ∀ c ∈ D, 48 ≤ c ∧ c ≤ 57) (h0 : ∀ c, D.head? = some c → c ≠ 48) : (scanL (signL neg ++ bodyL z D)).2 = D.length := by
  rw [← scan_body z D hD h0]
  unfold scanL
  rw [fold_filter, List.filter_append, filter_sign, List.nil_append, filter_body z D hD]

theorem scan_point (neg : Bool) (z p : Nat) (D : List Int) (hD : ∀ c ∈ D, 48 ≤ c ∧ c ≤ 57) (h0 : ∀ c, D.head? = some c → c ≠ 48) : (scanL (signL neg ++ (bodyL z D).take p ++ [46] ++ (bodyL z D).drop p)).2 = D.length := by
  rw [← scan_body z D hD h0]
  unfold scanL
  rw [fold_filter]
  have e : List.filter isD (signL neg ++ (bodyL z D).take p ++ [46] ++ (bodyL z D).drop p) = bodyL z D := by
    have e1 : List.filter isD [(46 : Int)] = [] := rfl
    rw [List.filter_append, List.filter_append, List.filter_append, filter_sign, e1, List.nil_append, List.append_nil, ← List.filter_append, List.take_append_drop, filter_body z D hD]
  rw [e]

/-- The bytes of a string as numbers. -/
def intsOf (s : ByteArray) : List Int := (List.range s.size).map fun k => bt s k

theorem length_intsOf (s : ByteArray) : (intsOf s).length = s.size := by simp [intsOf]
theorem intsOf_at (s : ByteArray) (k : Nat) (h : k < (intsOf s).length) : (intsOf s)[k] = bt s k := by simp [intsOf]

/-- Scanning a string's first k bytes. -/
def scanS (s : ByteArray) : Nat → Bool × Nat
  | 0 => (false, 0)
  | k + 1 => stepD (scanS s k) (bt s k)
theorem scanS_eq (s : ByteArray) : ∀ k, scanS s k = ((List.range k).map fun j => bt s j).foldl stepD (false, 0)
  | 0 => rfl
  | k + 1 => by rw [List.range_succ, List.map_append, List.foldl_append, ← scanS_eq s k]; rfl
theorem scanS_all (s : ByteArray) : scanS s s.size = scanL (intsOf s) := scanS_eq s s.size
theorem scanS_le (s : ByteArray) : ∀ k, (scanS s k).2 ≤ k
  | 0 => Nat.le_refl _
  | k + 1 => by
    have := scanS_le s k
    simp only [scanS, stepD]
    split <;> omega

/-- The string whose bytes are the numbers xs. -/
def strOf (xs : List Int) : ByteArray := ⟨(xs.map fun c => UInt8.ofNat c.toNat).toArray⟩
theorem size_strOf (xs : List Int) : (strOf xs).size = xs.length := by
  show ((xs.map _).toArray).size = _
  simp
theorem bt_strOf (xs : List Int) (hx : ∀ c ∈ xs, 0 ≤ c ∧ c ≤ 255) (k : Nat) (h : k < xs.length) : bt (strOf xs) k = xs[k] := by
  have h1 : k < (strOf xs).size := by rw [size_strOf]; exact h
  have h2 := hx xs[k] (List.getElem_mem h)
  unfold bt
  rw [dif_pos h1]
  have e : (strOf xs)[k] = UInt8.ofNat xs[k].toNat := by
    show (strOf xs).data[k] = _
    simp [strOf]
  rw [e, UInt8.toNat_ofNat']
  omega
theorem intsOf_strOf (xs : List Int) (hx : ∀ c ∈ xs, 0 ≤ c ∧ c ≤ 255) : intsOf (strOf xs) = xs := by
  apply List.ext_getElem
  · rw [length_intsOf, size_strOf]
  · intro k h1 h2
    rw [intsOf_at, bt_strOf xs hx k h2]
end Go.Proofs.Qxb6000519a
