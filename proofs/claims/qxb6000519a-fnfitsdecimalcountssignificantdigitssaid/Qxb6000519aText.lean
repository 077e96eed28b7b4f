import Derived.Test.Qxb6000519aEarly
namespace Go.Proofs.Qxb6000519a
open Go.RowKit Go.PlainAid

theorem Buf.srcTake {w : World} {g cap : Nat} {xs : List Int} (h : Buf w g cap xs) (n c : Nat) (hn : n ≤ xs.length) : Src Try.prog 1 25 (.slice (some ⟨g, 0, none⟩) n c) n (u8s (xs.take n)) w := by
  have := h.src 0 n c (by omega)
  rwa [List.drop_zero] at this
theorem Buf.srcAll {w : World} {g cap : Nat} {xs : List Int} (h : Buf w g cap xs) (n c : Nat) (hn : xs.length = n) : Src Try.prog 1 25 (.slice (some ⟨g, 0, none⟩) n c) n (u8s xs) w := by
  have := h.srcTake n c (by omega)
  rwa [List.take_of_length_le (by omega)] at this
theorem Buf.srcDrop {w : World} {g cap : Nat} {xs : List Int} (h : Buf w g cap xs) (off n c : Nat) (hn : off + n = xs.length) : Src Try.prog 1 25 (.slice (some ⟨g, off, none⟩) n c) n (u8s (xs.drop off)) w := by
  have := h.src off n c (by omega)
  rwa [List.take_of_length_le (by simp; omega)] at this
/-- Nothing is appended, whatever the address. -/
theorem src_empty (w : World) (ad : Addr) (c : Nat) : Src Try.prog 1 25 (.slice (some ad) 0 c) 0 (u8s []) w :=
  Src.ofSlice w (e' := 5) Try.underlying25 ad 0 c _ rfl (fun j u hj => by simp [u8s] at hj) (fun u hu => by simp [u8s] at hu)

theorem src_none (w : World) (ad : Addr) (c : Nat) {xs : List Int} (h : xs = []) : Src Try.prog 1 25 (.slice (some ad) 0 c) 0 (u8s xs) w := by
  rw [h]; exact src_empty w ad c

theorem length_body (z : Nat) (d : ByteArray) : (bodyL z (intsOf d)).length = z + d.size := by simp [bodyL, length_intsOf]

theorem zzfits_val (s : ByteArray) (w : World) {b : Bool} (hs : s.size ≤ 2000000) (ha : ∀ k, k < s.size → bt s k < 128) (hb : decide ((scanL (intsOf s)).2 ≤ 15) = b) :
    Calls Try.prog 15 #[.string s] w fun e w' => e = .returned (.bool b) ∧ Below w.heap.size w w' := by
  rw [← hb]; exact zzfits_any s w hs ha

theorem digits_of {d : ByteArray} (h : DigUpto d d.size) : ∀ c ∈ intsOf d, 48 ≤ c ∧ c ≤ 57 := by
  intro c hc
  unfold intsOf at hc
  obtain ⟨k, hk, rfl⟩ := List.mem_map.1 hc
  exact h k (List.mem_range.1 hk)
theorem head_of {d : ByteArray} (h : 0 < d.size → bt d 0 ≠ 48) : ∀ c, (intsOf d).head? = some c → c ≠ 48 := by
  intro c hc
  by_cases h0 : 0 < d.size
  · have hl : 0 < (intsOf d).length := by rw [length_intsOf]; exact h0
    rw [List.head?_eq_getElem?, List.getElem?_eq_getElem hl, intsOf_at] at hc
    injection hc with e
    rw [← e]; exact h h0
  · have : intsOf d = [] := by unfold intsOf; rw [show d.size = 0 by omega]; rfl
    rw [this] at hc; cases hc

/-- Every byte of the text is a small one. -/
def Low (xs : List Int) : Prop := ∀ c ∈ xs, 0 ≤ c ∧ c ≤ 127
theorem low_body {z : Nat} {d : ByteArray} (h : DigUpto d d.size) : Low (bodyL z (intsOf d)) := by
  intro c hc
  unfold bodyL at hc
  rcases List.mem_append.1 hc with hc | hc
  · have := (List.mem_replicate.1 hc).2; omega
  · have := digits_of h c hc; omega
theorem low_sign (neg : Bool) : Low (signL neg) := by
  intro c hc
  cases neg
  · cases hc
  · have : c = 45 := by simpa [signL] using hc
    omega
theorem Low.append {xs ys : List Int} (h1 : Low xs) (h2 : Low ys) : Low (xs ++ ys) := fun c hc => (List.mem_append.1 hc).elim (h1 c) (h2 c)
theorem low_plain (neg : Bool) {z : Nat} {d : ByteArray} (h : DigUpto d d.size) : Low (signL neg ++ bodyL z (intsOf d)) := (low_sign neg).append (low_body h)
theorem low_dot : Low [46] := fun c hc => by
  have : c = 46 := by simpa using hc
  omega
theorem low_point (neg : Bool) {z : Nat} {d : ByteArray} (p : Nat) (h : DigUpto d d.size) : Low (signL neg ++ (bodyL z (intsOf d)).take p ++ [46] ++ (bodyL z (intsOf d)).drop p) :=
  (((low_sign neg).append (fun c hc => low_body h c (List.mem_of_mem_take hc))).append low_dot).append (fun c hc => low_body h c (List.mem_of_mem_drop hc))

/-- The two texts, each behind a name. -/
def textN (neg : Bool) (z : Nat) (d : ByteArray) : List Int := signL neg ++ bodyL z (intsOf d)
def textP (neg : Bool) (z p : Nat) (d : ByteArray) : List Int := signL neg ++ (bodyL z (intsOf d)).take p ++ [46] ++ (bodyL z (intsOf d)).drop p
theorem low_textN (neg : Bool) {z : Nat} {d : ByteArray} (h : DigUpto d d.size) : Low (textN neg z d) := low_plain neg h
theorem low_textP (neg : Bool) {z : Nat} {d : ByteArray} (p : Nat) (h : DigUpto d d.size) : Low (textP neg z p d) := low_point neg p h
theorem length_sign (neg : Bool) : (signL neg).length = if neg then 1 else 0 := by cases neg <;> rfl
theorem length_textN (neg : Bool) (z : Nat) (d : ByteArray) : (textN neg z d).length = (if neg then 1 else 0) + (z + d.size) := by
  unfold textN; rw [List.length_append, length_sign, length_body]
theorem length_textP (neg : Bool) (z p : Nat) (d : ByteArray) (hp : p ≤ z + d.size) : (textP neg z p d).length = (if neg then 1 else 0) + p + 1 + (z + d.size - p) := by
  unfold textP
  rw [List.length_append, List.length_append, List.length_append, length_sign, List.length_take, List.length_drop, length_body, Nat.min_eq_left hp]
  rfl
theorem scan_textN (neg : Bool) {z : Nat} {d : ByteArray} (h : DigUpto d d.size) (hf : 0 < d.size → bt d 0 ≠ 48) : (scanL (textN neg z d)).2 = d.size :=
  (scan_plain neg z (intsOf d) (digits_of h) (head_of hf)).trans (length_intsOf d)
theorem scan_textP (neg : Bool) {z : Nat} {d : ByteArray} (p : Nat) (h : DigUpto d d.size) (hf : 0 < d.size → bt d 0 ≠ 48) : (scanL (textP neg z p d)).2 = d.size :=
  (scan_point neg z p (intsOf d) (digits_of h) (head_of hf)).trans (length_intsOf d)

/-- What the call of ZZFits answers at such a text. -/
theorem text_fits {xs : List Int} {d : ByteArray} (w : World) (hl : Low xs) (hlen : xs.length ≤ 2000000) (hsc : (scanL xs).2 = d.size) {b : Bool} (hb : decide ((d.size : Int) ≤ 15) = b) :
    Calls Try.prog 15 #[.string (strOf xs)] w fun e w' => e = .returned (.bool b) ∧ Below w.heap.size w w' := by
  have h255 : ∀ c ∈ xs, 0 ≤ c ∧ c ≤ 255 := fun c hc => by have := hl c hc; omega
  refine zzfits_val (strOf xs) w (by rw [size_strOf]; exact hlen) (fun k hk => ?_) ?_
  · rw [size_strOf] at hk
    rw [bt_strOf xs h255 k hk]
    have := hl xs[k] (List.getElem_mem hk)
    omega
  · rw [intsOf_strOf xs h255, hsc, ← hb]
    exact decide_eq_decide.2 (by omega)

theorem text_back {w : World} {g cap : Nat} {xs : List Int} (h : Buf w g cap xs) (hl : Low xs) (k : Nat) (hk : xs.length = k) :
    (convert 25 9 (.slice (some ⟨g, 0, none⟩) k cap)).run Try.prog w = .ok (.string (strOf xs)) w :=
  string_back h (fun c hc => by have := hl c hc; omega) k hk
end Go.Proofs.Qxb6000519a
