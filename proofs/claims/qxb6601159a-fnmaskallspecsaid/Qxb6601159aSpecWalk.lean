import Derived.Test.Qxb6601159aMask
import Derived.Test.Qxb6601159aClass
import Derived.Deep.OwnRows
import Derived.Deep.RegionWith
namespace Go.Proofs.Qxb6601159a
open Go.RowKit Go.PlainAid

theorem bytes8_small (s : ByteArray) (w : World) (hs : s.size ≤ 1048576) :
    Calls Try.prog 8 #[.string s] w fun e w' => e = .returned (.bool true) ∧ w = w' := by
  go_enter Try.func8, Try.ntmps8
  go_wp2
  go_ret
  exact ⟨rfl, rfl⟩
theorem bytes8_big (s : ByteArray) (w : World) (hs : 1048576 < s.size) :
    Calls Try.prog 8 #[.string s] w fun e w' => e = .returned (.bool false) ∧ w = w' := by
  go_enter Try.func8, Try.ntmps8
  go_wp2
  go_ret
  exact ⟨rfl, rfl⟩

theorem window_int (s : ByteArray) (x : Int) (i : Nat) (w : World) (hx : x = (i : Int)) (hi : i ≤ s.size) (hs : s.size ≤ 1048576) :
    Calls Try.prog 9 #[.string s, .int .i64 x] w fun e w' => e = .returned (.bool (winB s i)) ∧ ∃ n, w' = w.drewN n := by
  subst hx
  exact window_any s i w hi hs

/-- Does one of the windows j, j - 1, .. j - (d - 1) have the form? -/
def covD (s : ByteArray) (j : Nat) : Nat → Bool
  | 0 => false
  | d + 1 => covD s j d || (decide (d ≤ j) && winB s (j - d))

theorem covD_iff (s : ByteArray) (j d : Nat) : covD s j d = true ↔ ∃ x, x < d ∧ x ≤ j ∧ winB s (j - x) = true := by
  induction d with
  | zero => simp [covD]
  | succ d ih =>
    simp only [covD, Bool.or_eq_true, Bool.and_eq_true, decide_eq_true_iff, ih]
    constructor
    · rintro (⟨x, h1, h2, h3⟩ | ⟨h1, h2⟩)
      · exact ⟨x, by omega, h2, h3⟩
      · exact ⟨d, by omega, h1, h2⟩
    · rintro ⟨x, h1, h2, h3⟩
      by_cases e : x = d
      · subst e; exact .inr ⟨h2, h3⟩
      · exact .inl ⟨x, by omega, h2, h3⟩

theorem covD_five (s : ByteArray) (j : Nat) : covD s j 5 = covN s s.size j := by
  rw [Bool.eq_iff_iff, covD_iff, covN_iff]
  constructor
  · rintro ⟨x, h1, h2, h3⟩
    have := ((winB_iff s (j - x)).1 h3).1
    exact ⟨j - x, by omega, by omega, by omega, h3⟩
  · rintro ⟨i, h1, h2, _, h4⟩
    exact ⟨j - i, by omega, by omega, by rw [show j - (j - i) = i by omega]; exact h4⟩

def inD (s : ByteArray) (j d : Nat) : Int := if covD s j d = true then 88 else bt s j
theorem inD_zero (s : ByteArray) (j : Nat) : inD s j 0 = bt s j := by simp [inD, covD]
theorem inD_five (s : ByteArray) (j : Nat) : inD s j 5 = mkB s s.size j := by unfold inD mkB; rw [covD_five]
theorem inD_hit {s : ByteArray} {j d : Nat} (h : d ≤ j) (hw : winB s (j - d) = true) : inD s j (d + 1) = 88 := by simp [inD, covD, h, hw]
theorem inD_miss {s : ByteArray} {j d : Nat} (hw : winB s (j - d) = false) : inD s j (d + 1) = inD s j d := by simp [inD, covD, hw]
theorem inD_past {s : ByteArray} {j d : Nat} (h : j < d) : inD s j (d + 1) = inD s j d := by
  have : ¬ d ≤ j := by omega
  simp [inD, covD, this]

structure WantAt (B : Nat) (s : ByteArray) (w wr : World) (k : Nat) : Prop where
  done : ∀ i, i < k → wr.cell? ⟨B, i, none⟩ = some (.int .u8 (mkB s s.size i))
  there : ∀ i, i < s.size → ∃ c, wr.cell? ⟨B, i, none⟩ = some (.int .u8 c)
  free : ∀ i, i < s.size → wr.frozen? ⟨B, i, none⟩ = false
  old : Below B w wr
  size : B < wr.heap.size

theorem want_new (w : World) (s : ByteArray) (hs : s.size ≤ 1048576) : ∃ W1, (Instr.makeSlice 23 (.int .i64 (s.size : Int)) (.int .i64 (s.size : Int))).run Try.prog w = .ok (.slice (some ⟨w.heap.size, 0, none⟩) s.size s.size) W1 ∧
    WantAt w.heap.size s w W1 0 := by
  have hrun := run_make_row' (P := Try.prog) 23 5 (.int .u8 0) 1 Try.underlying23 (by kernel_rfl) rfl .i64 .i64 s.size (by omega) (by omega) w
  refine ⟨_, hrun, fun i hi => absurd hi (by omega), fun i hi => ⟨0, ?_⟩, fun i hi => ?_, (Below.refl _ _).alloc (Nat.le_refl _) _, by simp⟩
  · have e := World.cell?_alloc_mark w (madeCells #[.int .u8 0] s.size) 5 (0, 0) i
    rw [e, ← Array.getElem?_toList, toList_madeCells_one]
    simp [hi]
  · have e := World.frozen?_alloc_mark w (madeCells #[.int .u8 0] s.size) 5 0 0 i
    rw [e]; simp

/-- Inside round j, before the inner round d. -/
structure WantIn (B : Nat) (s : ByteArray) (w wr : World) (j d : Nat) : Prop where
  at_ : WantAt B s w wr j
  here : wr.cell? ⟨B, j, none⟩ = some (.int .u8 (inD s j d))

theorem WantAt.set {B : Nat} {s : ByteArray} {w wr : World} {k : Nat} (h : WantAt B s w wr k) (hk : k < s.size) (c : Int) :
    WantAt B s w (wr.setCell ⟨B, k, none⟩ (.int .u8 c)) k ∧ (wr.setCell ⟨B, k, none⟩ (.int .u8 c)).cell? ⟨B, k, none⟩ = some (.int .u8 c) := by
  obtain ⟨c0, hc0⟩ := h.there k hk
  have hsame : (wr.setCell ⟨B, k, none⟩ (.int .u8 c)).cell? ⟨B, k, none⟩ = some (.int .u8 c) := World.cell?_setCell_same _ _ _ hc0
  have hother : ∀ i, i ≠ k → (wr.setCell ⟨B, k, none⟩ (.int .u8 c)).cell? ⟨B, i, none⟩ = wr.cell? ⟨B, i, none⟩ := fun i hi => World.cell?_setCell_other _ _ _ _ (fun e => hi (by injection e with _ e2; exact e2.symm))
  refine ⟨⟨fun i hi => by rw [hother i (by omega)]; exact h.done i hi, fun i hi => ?_, fun i hi => by rw [World.frozen?_setCell]; exact h.free i hi, h.old.setCell (Nat.le_refl _) _, by simpa using h.size⟩, hsame⟩
  by_cases e : i = k
  · subst e; exact ⟨c, hsame⟩
  · rw [hother i e]; exact h.there i hi

theorem WantAt.first {B : Nat} {s : ByteArray} {w wr : World} {k : Nat} (h : WantAt B s w wr k) (hk : k < s.size) : WantIn B s w (wr.setCell ⟨B, k, none⟩ (.int .u8 (bt s k))) k 0 := by
  have := h.set hk (bt s k)
  exact ⟨this.1, by rw [inD_zero]; exact this.2⟩

theorem WantIn.hit {B : Nat} {s : ByteArray} {w wr : World} {j d : Nat} (h : WantIn B s w wr j d) (hj : j < s.size) (hd : d ≤ j) (hw : winB s (j - d) = true) :
    WantIn B s w (wr.setCell ⟨B, j, none⟩ (.int .u8 88)) j (d + 1) := by
  have := h.at_.set hj 88
  exact ⟨this.1, by rw [inD_hit hd hw]; exact this.2⟩

theorem WantIn.stay {B : Nat} {s : ByteArray} {w wr : World} {j d : Nat} (h : WantIn B s w wr j d) (he : inD s j (d + 1) = inD s j d) : WantIn B s w wr j (d + 1) :=
  ⟨h.at_, by rw [he]; exact h.here⟩

theorem WantAt.drewN {B : Nat} {s : ByteArray} {w wr : World} {k : Nat} (h : WantAt B s w wr k) (n : Nat) : WantAt B s w (wr.drewN n) k :=
  ⟨h.done, h.there, h.free, below_drewN h.old n, h.size⟩
theorem WantIn.drewN {B : Nat} {s : ByteArray} {w wr : World} {j d : Nat} (h : WantIn B s w wr j d) (n : Nat) : WantIn B s w (wr.drewN n) j d :=
  ⟨h.at_.drewN n, h.here⟩

theorem WantIn.last {B : Nat} {s : ByteArray} {w wr : World} {j : Nat} (h : WantIn B s w wr j 5) : WantAt B s w wr (j + 1) := by
  refine ⟨fun i hi => ?_, h.at_.there, h.at_.free, h.at_.old, h.at_.size⟩
  by_cases e : i = j
  · subst e; rw [← inD_five]; exact h.here
  · exact h.at_.done i (by omega)

set_option maxHeartbeats 400000 in
theorem spec_small (s : ByteArray) (w : World) (hs : s.size ≤ 1048576) :
    Calls Try.prog 3 #[.string s] w fun e w' => e = .returned (.bool true) ∧ Below w.heap.size w w' := by
  obtain ⟨W1, hmk, hW1⟩ := want_new w s hs
  have HW1 : Hid (WantAt w.heap.size s w W1 0) := hW1
  clear hW1
  have hb := get_bt s
  go_enter Try.func3, Try.ntmps3
  go_wp2_with (go_at_call 8; refine (bytes8_small _ _ hs).mono ?_; rintro e w' ⟨rfl, rfl⟩)
  go_loopw [4] (fun i wr => ∃ k : Nat, k ≤ s.size ∧ i = .int .i64 k ∧ Hid (WantAt w.heap.size s w wr k)) (fun i _ => s.size - (intOf i).toNat)
  case atStart => exact ⟨0, by omega, rfl, HW1⟩
  case round =>
    obtain ⟨j, hj, rfl, hr⟩ := hrel
    by_cases hlt : j < s.size
    · obtain ⟨c, hc⟩ := hr.out.there j hlt
      have hfz := hr.out.free j hlt
      have h0 : Hid (WantIn w.heap.size s w (wr.setCell ⟨w.heap.size, j, none⟩ (.int .u8 (bt s j))) j 0) := hr.out.first hlt
      clear HW1 hr
      go_wp2
      clear hc hfz
      go_loopw [5] (fun v wx => ∃ d : Nat, d ≤ 5 ∧ v = .int .i64 d ∧ Hid (WantIn w.heap.size s w wx j d)) (fun v _ => 5 - (intOf v).toNat)
      case atStart => exact ⟨0, by omega, rfl, h0⟩
      case round =>
        obtain ⟨d, hd, rfl, hin⟩ := hrel
        by_cases hd5 : d < 5
        · by_cases hdj : d ≤ j
          · have hgd : decide ((0 : Int) ≤ (j : Int) - (d : Int)) = true := decide_eq_true (by omega)
            have hcell := hin.out.here
            have hfree := hin.out.at_.free j hlt
            cases hwin : winB s (j - d)
            · have hst : Hid (∀ n, WantIn w.heap.size s w (wr.drewN n) j (d + 1)) := fun n => (hin.out.stay (inD_miss hwin)).drewN n
              go_wp2_with (go_at_call 9; refine (window_int _ _ (j - d) _ (by omega) (by omega) hs).mono ?_; rintro e w' ⟨rfl, n, rfl⟩)
              go_roundw
              case rel => exact ⟨d + 1, by omega, by go_num, hst.out _⟩
              case measure => simp [intOf]; omega
            · have hst : Hid (∀ n, WantIn w.heap.size s w ((wr.drewN n).setCell ⟨w.heap.size, j, none⟩ (.int .u8 88)) j (d + 1)) := fun n => (hin.out.drewN n).hit hlt hdj hwin
              go_wp2_with (go_at_call 9; refine (window_int _ _ (j - d) _ (by omega) (by omega) hs).mono ?_; rintro e w' ⟨rfl, n, rfl⟩)
              go_roundw
              case rel => exact ⟨d + 1, by omega, by go_num, hst.out _⟩
              case measure => simp [intOf]; omega
          · have hgd : decide ((0 : Int) ≤ (j : Int) - (d : Int)) = false := decide_eq_false (by omega)
            have hst : Hid (WantIn w.heap.size s w wr j (d + 1)) := hin.out.stay (inD_past (by omega))
            go_wp2
            go_roundw
            case rel => exact ⟨d + 1, by omega, by go_num, hst⟩
            case measure => simp [intOf]; omega
        · obtain rfl : d = 5 := by omega
          have hst : Hid (WantAt w.heap.size s w wr (j + 1)) := hin.out.last
          go_wp2
          go_roundw
          case rel => exact ⟨j + 1, by omega, by go_num, hst⟩
          case measure => simp [intOf]; omega
    · obtain rfl : j = s.size := by omega
      have hbk : ∀ wx : World, (∀ i, i < s.size → wx.cell? ⟨w.heap.size, i, none⟩ = wr.cell? ⟨w.heap.size, i, none⟩) → (convert 23 9 (.slice (some ⟨w.heap.size, 0, none⟩) s.size s.size)).run Try.prog wx = .ok (.string (masked s)) wx := fun wx hwx =>
        string_back wx ⟨w.heap.size, 0, none⟩ s s.size (fun i hi => by rw [addr_add, Nat.zero_add, hwx i hi]; exact hr.out.done i hi)
      have hbk1 := hbk wr.drew (fun _ _ => rfl)
      have Hbk : Hid (∀ wx : World, (∀ i, i < s.size → wx.cell? ⟨w.heap.size, i, none⟩ = wr.cell? ⟨w.heap.size, i, none⟩) → (convert 23 9 (.slice (some ⟨w.heap.size, 0, none⟩) s.size s.size)).run Try.prog wx = .ok (.string (masked s)) wx) := hbk
      have hsz := hr.out.size
      clear hbk
      go_wp2
      go_region_with (go_at_call 10; refine (mask_any _ _ hs).mono ?_; rintro e w1 ⟨rfl, hb1⟩; have hbk2 := Hbk.out w1 (fun i _ => hb1.cell (p := ⟨w.heap.size, i, none⟩) hsz))
      all_goals
        go_wp2
        go_ret
        exact ⟨rfl, hr.out.old.drew.trans (hb1.mono (by have := hr.out.old.size; exact this))⟩

theorem spec_any (s : ByteArray) (w : World) :
    Calls Try.prog 3 #[.string s] w fun e w' => e = .returned (.bool true) ∧ Below w.heap.size w w' := by
  by_cases hs : s.size ≤ 1048576
  · exact spec_small s w hs
  · have hs' : 1048576 < s.size := by omega
    go_enter Try.func3, Try.ntmps3
    go_wp2_with (go_at_call 8; refine (bytes8_big _ _ hs').mono ?_; rintro e w' ⟨rfl, rfl⟩)
    go_ret
    exact ⟨rfl, Below.refl _ _⟩
end Go.Proofs.Qxb6601159a
