import Derived.Test.Qxb6000519aFits
import Derived.Deep.AppendSrc
import Derived.Deep.OwnRows
import Derived.Laws.IdiomStrings
import Derived.Laws.IdiomCopy
import Derived.Laws.MakeOwn
import Derived.Laws.OwnMore
namespace Go.Proofs.Qxb6000519a
open Go.RowKit Go.PlainAid

theorem info5 : (Try.prog.info? 5).map (fun i => (i.zero, i.size, i.bytes)) = some (some (.int .u8 0), 1, 1) := by kernel_rfl

theorem addr_add (B o j : Nat) : (⟨B, o, none⟩ : Addr).add j = ⟨B, o + j, none⟩ := by unfold Addr.add; split <;> simp_all

theorem below_setCells {B b : Nat} {w0 : World} (hb : B ≤ b) : ∀ (vs : List Value) (o : Nat) (w : World), Below B w0 w → Below B w0 (w.setCells b o vs)
  | [], _, _, h => h
  | v :: r, o, w, h => below_setCells hb r (o + 1) (w.setCell ⟨b, o, none⟩ v) (h.setCell hb v)

theorem size_setCells (b : Nat) : ∀ (vs : List Value) (o : Nat) (w : World), (w.setCells b o vs).heap.size = w.heap.size
  | [], _, _ => rfl
  | v :: r, o, w => by rw [World.setCells, size_setCells b r]; simp

/-- Numbers as cells. -/
def u8s (xs : List Int) : List Value := xs.map (Value.int .u8)

/-- Block g holds 'cap' cells of which none is frozen; the first are the bytes xs. -/
structure Buf (w : World) (g cap : Nat) (xs : List Int) : Prop where
  le : xs.length ≤ cap
  got : ∀ i (h : i < xs.length), w.cell? ⟨g, i, none⟩ = some (.int .u8 xs[i])
  there : ∀ i, i < cap → (w.cell? ⟨g, i, none⟩).isSome = true
  free : ∀ i, i < cap → w.frozen? ⟨g, i, none⟩ = false
  lt : g < w.heap.size

theorem Buf.later {w w' : World} {g cap B : Nat} {xs : List Int} (h : Buf w g cap xs) (hb : Below B w w') (hg : g < B) : Buf w' g cap xs :=
  ⟨h.le, fun i hi => (hb.cell (p := ⟨g, i, none⟩) hg).trans (h.got i hi), fun i hi => by rw [hb.cell (p := ⟨g, i, none⟩) hg]; exact h.there i hi,
    fun i hi => (hb.frozen (p := ⟨g, i, none⟩) hg).trans (h.free i hi), Nat.lt_of_lt_of_le h.lt hb.size⟩

theorem Buf.alloc {w : World} {g cap : Nat} {xs : List Int} (h : Buf w g cap xs) (o : Obj) : Buf (w.alloc o) g cap xs :=
  h.later ((Below.refl w.heap.size w).alloc (Nat.le_refl _) o) h.lt

/-- Behind an append with room. -/
theorem Buf.put {w : World} {g cap : Nat} {xs ns : List Int} (h : Buf w g cap xs) (hr : xs.length + ns.length ≤ cap) : Buf (w.setCells g xs.length (u8s ns)) g cap (xs ++ ns) := by
  have hl : (u8s ns).length = ns.length := by simp [u8s]
  have hin : ∀ j (hj : j < (u8s ns).length), (w.setCells g xs.length (u8s ns)).cell? ⟨g, xs.length + j, none⟩ = some (u8s ns)[j] :=
    World.cell?_setCells_in g (u8s ns) xs.length w (fun j hj => h.there _ (by omega))
  have hout : ∀ i, (i < xs.length ∨ xs.length + ns.length ≤ i) → (w.setCells g xs.length (u8s ns)).cell? ⟨g, i, none⟩ = w.cell? ⟨g, i, none⟩ := fun i hi =>
    World.cell?_setCells_out g (u8s ns) xs.length w _ (fun _ _ => by rw [hl]; exact hi)
  refine ⟨by simp; omega, fun i hi => ?_, fun i hi => ?_, fun i hi => by rw [World.frozen?_setCells]; exact h.free i hi, by rw [size_setCells]; exact h.lt⟩
  · by_cases e : i < xs.length
    · rw [hout i (.inl e), h.got i e, List.getElem_append_left e]
    · have hi2 : i < xs.length + ns.length := by simpa using hi
      have := hin (i - xs.length) (by rw [hl]; omega)
      rw [show xs.length + (i - xs.length) = i by omega] at this
      rw [this, List.getElem_append_right (by omega)]
      simp [u8s]
  · by_cases e : i < xs.length ∨ xs.length + ns.length ≤ i
    · rw [hout i e]; exact h.there i hi
    · have := hin (i - xs.length) (by rw [hl]; omega)
      rw [show xs.length + (i - xs.length) = i by omega] at this
      rw [this]; rfl

theorem Buf.other {w : World} {g g2 cap : Nat} {xs : List Int} (h : Buf w g2 cap xs) (hne : g2 ≠ g) (o : Nat) (vs : List Value) : Buf (w.setCells g o vs) g2 cap xs := by
  have hout : ∀ i, (w.setCells g o vs).cell? ⟨g2, i, none⟩ = w.cell? ⟨g2, i, none⟩ := fun i => World.cell?_setCells_out g vs o w _ (fun e _ => absurd e hne)
  exact ⟨h.le, fun i hi => by rw [hout]; exact h.got i hi, fun i hi => by rw [hout]; exact h.there i hi, fun i hi => by rw [World.frozen?_setCells]; exact h.free i hi, by rw [size_setCells]; exact h.lt⟩

/-- A source that lies in a buffer. -/
theorem Buf.src {w : World} {g cap : Nat} {xs : List Int} (h : Buf w g cap xs) (off n c : Nat) (hn : off + n ≤ xs.length) :
    Src Try.prog 1 25 (.slice (some ⟨g, off, none⟩) n c) n (u8s ((xs.drop off).take n)) w := by
  refine Src.ofSlice w (e' := 5) Try.underlying25 ⟨g, off, none⟩ n c _ (by simp [u8s]; omega) (fun j u hj => ?_) (fun u hu => ?_)
  · rw [addr_add]
    have hj2 := (List.getElem?_eq_some_iff.1 hj).1
    have hj3 : j < n ∧ off + j < xs.length := by simp [u8s] at hj2; omega
    rw [h.got (off + j) hj3.2, ← hj]
    simp [u8s, hj3.1, hj3.2]
  · unfold u8s at hu
    obtain ⟨_, _, rfl⟩ := List.mem_map.1 hu
    rfl

/-- Only block g has turned. -/
structure Keep (g : Nat) (w w' : World) : Prop where
  buf : ∀ g2 c2 ys, g2 ≠ g → Buf w g2 c2 ys → Buf w' g2 c2 ys
  below : ∀ B w0, B ≤ g → Below B w0 w → Below B w0 w'

/-- An append with room, as a law of the walk. -/
theorem app_room {w : World} {ops : Array Oper} {rest : List Oper} {o : Oper} {a : Act} {Q : Exit → Act → World → Prop} (hgd : o.guard = none) (s x : Operand) (tx : TypeId)
    (ho : o.op = .call { callee := .builtin .append, args := #[s, x], argTypes := #[25, tx] }) (g cap k n : Nat) (xs ns : List Int) (hk : xs.length = k) (hn : ns.length = n) (hs : a.eval s = .slice (some ⟨g, 0, none⟩) k cap)
    (xv : Value) (hx : a.eval x = xv) (hsrc : Src Try.prog 1 tx xv n (u8s ns) w) (hroom : k + n ≤ cap) (hb : Buf w g cap xs)
    (h : ∀ w', Buf w' g cap (xs ++ ns) → Keep g w w' → wpList Try.prog ops Q rest (a.put o.dst (.slice (some ⟨g, 0, none⟩) (k + n) cap)) w') :
    wpList Try.prog ops Q (o :: rest) a w := by
  obtain ⟨i5, hi, hz0, hz1, hz2⟩ := info_parts info5
  have hl : (u8s ns).length = n := by simp [u8s, hn]
  refine wpList_plain hgd fun K hK => ?_
  have hrun := run_append_room_src (P := Try.prog) w 25 tx o.type 5 i5 Try.underlying25 hi g 0 k cap xv n (u8s ns) (by rw [hz1]; exact hsrc) hroom
    (fun j hj => by rw [hz1, Nat.mul_one, Nat.zero_add]; exact hb.there _ (by omega)) (fun j hj => by rw [hz1, Nat.mul_one, Nat.zero_add]; exact hb.free _ (by omega))
  rw [hz1, Nat.mul_one, Nat.zero_add] at hrun
  unfold Oper.wp
  simp [execOp, ho, resolve, invoke, builtin, hs, hx, hrun, Result.andThen]
  refine hK _ _ (h _ ?_ ⟨fun g2 c2 ys hne hb2 => hb2.other hne _ _, fun B w0 hB hb2 => below_setCells hB _ _ _ hb2⟩)
  rw [← hk]
  exact hb.put (by omega)

/-- 'make([]byte, 0, n)'. -/
theorem make_room {w : World} {ops : Array Oper} {rest : List Oper} {o : Oper} {a : Act} {Q : Exit → Act → World → Prop} (hgd : o.guard = none) (l c : Operand)
    (ho : o.op = Op.makeSlice 25 l c) (C : Int) (n : Nat) (hl : a.eval l = .int .i64 0) (hc : a.eval c = .int .i64 C) (hC : C = (n : Int)) (hn : n ≤ 2000000)
    (h : ∀ w', Buf w' w.heap.size n [] → Below w.heap.size w w' → wpList Try.prog ops Q rest (a.put o.dst (.slice (some ⟨w.heap.size, 0, none⟩) 0 n)) w') :
    wpList Try.prog ops Q (o :: rest) a w := by
  obtain ⟨i5, hi, hz0, hz1, hz2⟩ := info_parts info5
  subst hC
  refine wpList_plain hgd fun K hK => ?_
  have hrun := run_make (P := Try.prog) w 25 5 i5 (.int .u8 0) Try.underlying25 hi hz0 .i64 .i64 0 n (by omega) (by omega) (by rw [hz2]; omega) (by omega)
  have hcells : (Value.int IntKind.u8 0).cells = #[.int .u8 0] := rfl
  rw [hz1, Nat.mul_one, Int.toNat_natCast, hcells] at hrun
  have hbuf : Buf (w.alloc (.cells (madeCells #[.int .u8 0] n) 5)) w.heap.size n [] := by
    refine ⟨Nat.zero_le _, fun i hi => absurd hi (by simp), fun i hi => ?_, fun i hi => ?_, by simp⟩
    · have e := World.cell?_alloc_mark w (madeCells #[.int .u8 0] n) 5 (0, 0) i
      rw [e, ← Array.getElem?_toList, toList_madeCells_one]
      simp [hi]
    · have e := World.frozen?_alloc_mark w (madeCells #[.int .u8 0] n) 5 0 0 i
      rw [e]; simp
  unfold Oper.wp
  simp [execOp, ho, hl, hc, hrun, Result.andThen]
  exact hK _ _ (h _ hbuf ((Below.refl _ _).alloc (Nat.le_refl _) _))

/-- 'string(b)'. -/
theorem string_back {w : World} {g cap : Nat} {xs : List Int} (h : Buf w g cap xs) (hx : ∀ c ∈ xs, 0 ≤ c ∧ c ≤ 255) (k : Nat) (hk : xs.length = k) :
    (convert 25 9 (.slice (some ⟨g, 0, none⟩) k cap)).run Try.prog w = .ok (.string (strOf xs)) w := by
  subst hk
  have := run_convert_bytes_back (P := Try.prog) w 25 9 5 ⟨g, 0, none⟩ cap (xs.map fun c => UInt8.ofNat c.toNat) Try.underlying25 Try.underlying5 Try.underlying9 (fun j hj => by
    have hj' : j < xs.length := by simpa using hj
    have hb := hx xs[j] (List.getElem_mem hj')
    rw [addr_add, Nat.zero_add, h.got j hj']
    simp
    omega)
  simpa [strOf] using this

/-- One byte that was laid ahead of an append. -/
theorem src_one (w : World) (c : Int) : Src Try.prog 1 25 (.slice (some ⟨w.heap.size, 0, none⟩) 1 1) 1 (u8s [c]) (w.alloc (.cells #[.int .u8 c] 5)) :=
  Src.ofSlice _ (e' := 5) Try.underlying25 ⟨w.heap.size, 0, none⟩ 1 1 _ rfl (cell_one_new _ _ _) (by simp [u8s, Value.oneCell'])

theorem src_str (w : World) (s : ByteArray) : Src Try.prog 1 9 (.string s) s.size (u8s (intsOf s)) w := by
  have h := Src.ofString (P := Try.prog) w (tx := 9) Try.underlying9 s
  have e : byteCells s = u8s (intsOf s) := by
    unfold byteCells u8s
    apply List.ext_getElem
    · simp [intsOf]
    · intro k h1 h2
      have hk : k < s.size := by simpa [intsOf] using h2
      simp [intsOf, bt, hk]
      rfl
  rw [← e]; exact h
end Go.Proofs.Qxb6000519a
