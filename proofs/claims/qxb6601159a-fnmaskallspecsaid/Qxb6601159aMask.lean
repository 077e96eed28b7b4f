import Derived.Test.Qxb6601159aCov
import Derived.Laws.IdiomStrings
import Derived.Laws.IdiomCopy
namespace Go.Proofs.Qxb6601159a
open Go.RowKit Go.PlainAid

theorem below_setCells {B b : Nat} {w0 : World} (hb : B ≤ b) : ∀ (vs : List Value) (o : Nat) (w : World), Below B w0 w → Below B w0 (w.setCells b o vs)
  | [], _, _, h => h
  | v :: r, o, w, h => below_setCells hb r (o + 1) (w.setCell ⟨b, o, none⟩ v) (h.setCell hb v)

theorem size_setCells (b : Nat) : ∀ (vs : List Value) (o : Nat) (w : World), (w.setCells b o vs).heap.size = w.heap.size
  | [], _, _ => rfl
  | v :: r, o, w => by rw [World.setCells, size_setCells b r]; simp


/-- '[]byte(s)': a new block whose first cells are the bytes, none of them frozen. -/
theorem bytes_new (w : World) (s : ByteArray) : ∃ cap W1, s.size ≤ cap ∧ (convert 9 23 (.string s)).run Try.prog w = .ok (.slice (some ⟨w.heap.size, 0, none⟩) s.size cap) W1 ∧
    (∀ j, j < s.size → W1.cell? ⟨w.heap.size, j, none⟩ = some (.int .u8 (bt s j))) ∧ (∀ j, j < s.size → W1.frozen? ⟨w.heap.size, j, none⟩ = false) ∧ Below w.heap.size w W1 ∧ w.heap.size < W1.heap.size := by
  have hrun := run_bytes_of_string (P := Try.prog) w 9 23 5 s Try.underlying9 Try.underlying23 Try.underlying5
  have hcap : s.size ≤ grownCap w s.size 0 5 := grownCap_ge w s.size 0 5
  refine ⟨_, _, hcap, hrun, ?_, ?_, ?_, ?_⟩
  · intro j hj
    have hj' : j < s.data.size := hj
    have e := World.cell?_alloc_mark w.drew (bytesRow s (grownCap w s.size 0 5)) 5 ((bytesRow s (grownCap w s.size 0 5)).size, (bytesRow s (grownCap w s.size 0 5)).size + 1) j
    rw [show w.drew.heap.size = w.heap.size from rfl] at e
    rw [e, bytesRow_at s _ j hj']
    unfold bt
    rw [dif_pos hj]
    rfl
  · intro j hj
    have e := World.frozen?_alloc_mark w.drew (bytesRow s (grownCap w s.size 0 5)) 5 (bytesRow s (grownCap w s.size 0 5)).size ((bytesRow s (grownCap w s.size 0 5)).size + 1) j
    rw [show w.drew.heap.size = w.heap.size from rfl] at e
    rw [e]
    have : s.size ≤ (bytesRow s (grownCap w s.size 0 5)).size := by
      have h2 : s.data.size = s.size := rfl
      simp [bytesRow, h2]
    have hn : ¬ (bytesRow s (grownCap w s.size 0 5)).size ≤ j := by omega
    simp [hn]
  · exact (Below.refl _ _).drew.alloc (Nat.le_refl _) _
  · simp

/-- The five bytes laid. -/
def five : List Value := List.replicate 5 (.int .u8 88)

theorem run_copy_five (w : World) (ty : TypeId) (b o dLen dCap : Nat) (h5 : 5 ≤ dLen) (hc : ∀ j, j < 5 → (w.cell? ⟨b, o + j, none⟩).isSome = true) (hf : ∀ j, j < 5 → w.frozen? ⟨b, o + j, none⟩ = false) :
    (Builtin.copy_ #[23, 9] ty #[.slice (some ⟨b, o, none⟩) dLen dCap, .string ⟨#[88, 88, 88, 88, 88]⟩]).run Try.prog w = .ok (goInt 5) (w.setCells b o five) := by
  have hst := run_storeCells_cells (P := Try.prog) b o five 0 w (by simpa [five] using hc) (by simpa [five] using hf) (by simp [five, Value.oneCell'])
  have hs : (Try.prog.info? 5).map (·.size) = some 1 := by kernel_rfl
  have hmin : Nat.min (⟨#[88, 88, 88, 88, 88]⟩ : ByteArray).size dLen = 5 := Nat.min_eq_left h5
  cases hq : Try.prog.info? 5 with
  | none => simp [hq] at hs
  | some i =>
    simp [Builtin.copy_, run_underlying Try.underlying23, Builtin.lenOf, Builtin.firstCells, sizeOf, typeInfo, hq, hmin]
    have e : [Value.int IntKind.u8 88, Value.int IntKind.u8 88, Value.int IntKind.u8 88, Value.int IntKind.u8 88, Value.int IntKind.u8 88] = five := rfl
    rw [e, hst]
    simp [Result.andThen]

/-- 'string(b)'. -/
theorem string_back (w : World) (a : Addr) (s : ByteArray) (cap : Nat) (hc : ∀ j, j < s.size → w.cell? (a.add j) = some (.int .u8 (mkB s s.size j))) :
    (convert 23 9 (.slice (some a) s.size cap)).run Try.prog w = .ok (.string (masked s)) w := by
  have := run_convert_bytes_back (P := Try.prog) w 23 9 5 a cap ((List.range s.size).map fun j => UInt8.ofNat (mkB s s.size j).toNat) Try.underlying23 Try.underlying5 Try.underlying9 (fun j hj => by
    have hj' : j < s.size := by simpa using hj
    rw [hc j hj']
    have := mkB_bd s s.size j
    simp
    omega)
  simpa [masked] using this

theorem addr_add (B o j : Nat) : (⟨B, o, none⟩ : Addr).add j = ⟨B, o + j, none⟩ := by unfold Addr.add; split <;> simp_all

/-- What is known of the row b at the head of round k. -/
def RowAt (B : Nat) (s : ByteArray) (w wr : World) (k : Nat) : Prop :=
  (∀ j, j < s.size → wr.cell? ⟨B, j, none⟩ = some (.int .u8 (mkB s k j))) ∧ (∀ j, j < s.size → wr.frozen? ⟨B, j, none⟩ = false) ∧ Below B w wr

theorem RowAt.miss {B : Nat} {s : ByteArray} {w wr : World} {k : Nat} (h : RowAt B s w wr k) (hk : winB s k = false) : RowAt B s w wr (k + 1) :=
  ⟨fun j hj => by rw [mkB_miss hk]; exact h.1 j hj, h.2.1, h.2.2⟩

theorem RowAt.hit {B : Nat} {s : ByteArray} {w wr : World} {k : Nat} (h : RowAt B s w wr k) (hk : winB s k = true) : RowAt B s w (wr.setCells B k five) (k + 1) := by
  have hsz := ((winB_iff s k).1 hk).1
  refine ⟨fun j hj => ?_, fun j hj => ?_, below_setCells (Nat.le_refl _) _ _ _ h.2.2⟩
  · by_cases hin : k ≤ j ∧ j < k + 5
    · rw [mkB_in hk hin.1 hin.2]
      have := World.cell?_setCells_in B five k wr (fun i hi => by
        have hi' : i < 5 := by simpa [five] using hi
        rw [h.1 (k + i) (by omega)]; rfl) (j - k) (by simp [five]; omega)
      rw [show k + (j - k) = j by omega] at this
      rw [this]
      exact congrArg some (List.getElem_replicate _)
    · rw [World.cell?_setCells_out B five k wr _ (fun _ _ => by simp [five]; omega), mkB_out (by omega)]
      exact h.1 j hj
  · rw [World.frozen?_setCells]
    exact h.2.1 j hj

theorem RowAt.copied {B : Nat} {s : ByteArray} {w wr : World} {k : Nat} (h : RowAt B s w wr k) (hk : winB s k = true) (ty : TypeId) (dLen dCap : Nat) (h5 : 5 ≤ dLen) :
    (Builtin.copy_ #[23, 9] ty #[.slice (some ⟨B, k, none⟩) dLen dCap, .string ⟨#[88, 88, 88, 88, 88]⟩]).run Try.prog wr = .ok (goInt 5) (wr.setCells B k five) := by
  have hsz := ((winB_iff s k).1 hk).1
  exact run_copy_five wr ty B k dLen dCap h5 (fun j hj => by rw [h.1 (k + j) (by omega)]; rfl) (fun j hj => h.2.1 (k + j) (by omega))

theorem RowAt.back {B : Nat} {s : ByteArray} {w wr : World} {k : Nat} (h : RowAt B s w wr k) (hk : s.size < k + 10) (cap : Nat) :
    (convert 23 9 (.slice (some ⟨B, 0, none⟩) s.size cap)).run Try.prog wr = .ok (.string (masked s)) wr :=
  string_back wr ⟨B, 0, none⟩ s cap (fun j hj => by
    have := h.1 j hj
    rw [mkB_end hk] at this
    rw [addr_add, Nat.zero_add]; exact this)

theorem mask_any (s : ByteArray) (w : World) (hs : s.size ≤ 1048576) :
    Calls Try.prog 10 #[.string s] w fun e w' => e = .returned (.string (masked s)) ∧ Below w.heap.size w w' := by
  obtain ⟨cap, W1, hcap, hconv, hcell, hfroz, hbel, hsize⟩ := bytes_new w s
  have hR : Hid (RowAt w.heap.size s w W1 0) := ⟨fun j hj => by rw [mkB_zero]; exact hcell j hj, hfroz, hbel⟩
  clear hcell hfroz hbel
  go_enter Try.func10, Try.ntmps10
  go_wp2
  go_loopw [4] (fun i wr => ∃ k : Nat, k ≤ s.size ∧ i = .int .i64 k ∧ Hid (RowAt w.heap.size s w wr k)) (fun i _ => s.size - (intOf i).toNat)
  case atStart => exact ⟨0, by omega, rfl, hR⟩
  case round =>
    obtain ⟨k, hk, rfl, hr⟩ := hrel
    by_cases hlt : k + 10 ≤ s.size
    · have hfe := formB_extract s k hlt
      cases hwin : winB s k
      · have hr2 : Hid (RowAt w.heap.size s w wr (k + 1)) := RowAt.miss hr.out hwin
        rw [hwin] at hfe
        go_wp2_with (go_at_call 17; refine (hasForm_any _ _).mono ?_; rintro e w' ⟨rfl, rfl⟩)
        go_roundw
        case rel => exact ⟨k + 1, by omega, by go_num, hr2⟩
        case measure => simp [intOf]; omega
      · have hr2 : Hid (RowAt w.heap.size s w (wr.setCells w.heap.size k five) (k + 1)) := RowAt.hit hr.out hwin
        have hcp := RowAt.copied hr.out hwin 3 (s.size - k) (cap - k) (by omega)
        rw [hwin] at hfe
        go_wp2_with (go_at_call 17; refine (hasForm_any _ _).mono ?_; rintro e w' ⟨rfl, rfl⟩)
        go_roundw
        case rel => exact ⟨k + 1, by omega, by go_num, hr2⟩
        case measure => simp [intOf]; omega
    · have hbk := RowAt.back hr.out (by omega) cap
      go_wp2
      go_ret
      exact ⟨rfl, hr.out.2.2⟩
end Go.Proofs.Qxb6601159a
