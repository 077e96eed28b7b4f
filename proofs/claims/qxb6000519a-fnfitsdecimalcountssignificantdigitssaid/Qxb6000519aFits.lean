import Derived.Test.Qxb6000519aRows
import Derived.Test.Qxb6000519aPlain
import Derived.WalkKit
import Derived.ProofKit
import Derived.OpenShut
import Derived.WalkSpells
import Derived.WalkLawsBesides
import Derived.Laws.RangeString
import Derived.Laws.RangeAny
namespace Go.Proofs.Qxb6000519a
open Go.RowKit Go.PlainAid

theorem ret_bool {a b : Bool} (h : a = b) : Ending.returned (.bool a) = .returned (.bool b) := by rw [h]

/-- At the head of a round: the iterator's place, the count, whether it has begun. -/
def FitRel (s : ByteArray) (w : World) (nv bv : Value) (wr : World) : Prop :=
  ∃ (pos : Nat) (b : Bool) (n : Nat), pos ≤ s.size ∧ wr = w.iter s pos ∧ nv = .int .i64 (n : Int) ∧ bv = .bool b ∧ scanS s pos = (b, n)

set_option maxRecDepth 100000 in
theorem fits_any (s : ByteArray) (w : World) (hs : s.size ≤ 2000000) (ha : ∀ k, k < s.size → bt s k < 128) :
    Calls Try.prog 25 #[.string s] w fun e w' => e = .returned (.bool (decide ((scanL (intsOf s)).2 ≤ 15))) ∧ Below w.heap.size w w' := by
  have Ha : Hid (∀ k, k < s.size → bt s k < 128) := ha
  clear ha
  go_enter Try.func25, Try.ntmps25
  go_wp2
  go_loopw [3, 4] (fun n b wr => FitRel s w n b wr) (fun _ _ wr => s.size - wr.iterPos w.heap.size)
  case atStart => exact ⟨0, false, 0, by omega, rfl, rfl, rfl, rfl⟩
  case round =>
    obtain ⟨pos, b, n, hps, rfl, rfl, rfl, hbn⟩ := hrel
    have hle := scanS_le s pos
    rw [hbn] at hle
    have hle2 : n ≤ pos := hle
    have Hbn : Hid (scanS s pos = (b, n)) := hbn
    clear hle hbn
    by_cases hp : pos < s.size
    · have hnx : ∀ ty, (Instr.next (.pointer (some ⟨w.heap.size, 0, none⟩)) true ty).run Try.prog (w.iter s pos) = .ok (.tuple #[.bool true, .int .i64 pos, .int .i32 (bt s pos)]) (w.iter s (pos + 1)) := fun ty => by
        have h1 := Ha.out pos hp
        unfold bt at h1 ⊢
        rw [dif_pos hp] at h1 ⊢
        exact run_next_ascii w s pos ty hp (by omega)
      have Hst : Hid (scanS s (pos + 1) = stepD (b, n) (bt s pos)) := by rw [← Hbn.out]; rfl
      rcases (show bt s pos < 48 ∨ bt s pos = 48 ∨ (49 ≤ bt s pos ∧ bt s pos ≤ 57) ∨ 57 < bt s pos by omega) with hc | hc | hc | hc
      · have He : Hid (scanS s (pos + 1) = (b, n)) := Hst.out.trans (stepD_other (by omega))
        cases b
        all_goals
          go_wp2
          go_roundw
          case rel => exact ⟨pos + 1, _, _, by omega, rfl, rfl, rfl, He.out⟩
          case measure => simp; omega
      · cases b
        · have He : Hid (scanS s (pos + 1) = (false, n)) := Hst.out.trans (by rw [hc, stepD_zero])
          have hc1 : 48 ≤ bt s pos := by omega
          have hc2 : bt s pos < 49 := by omega
          clear hc
          go_wp2
          go_roundw
          case rel => exact ⟨pos + 1, _, _, by omega, rfl, rfl, rfl, He.out⟩
          case measure => simp; omega
        · have He : Hid (scanS s (pos + 1) = (true, n + 1)) := Hst.out.trans (stepD_on (by omega))
          have hc1 : 48 ≤ bt s pos := by omega
          have hc2 : bt s pos < 49 := by omega
          clear hc
          go_wp2
          go_roundw
          case rel => exact ⟨pos + 1, _, _, by omega, rfl, by go_num, rfl, He.out⟩
          case measure => simp; omega
      · obtain ⟨hc1, hc2⟩ := hc
        have He : Hid (scanS s (pos + 1) = (true, n + 1)) := by
          cases b
          · exact Hst.out.trans (stepD_first ⟨hc1, hc2⟩)
          · exact Hst.out.trans (stepD_on (by omega))
        cases b
        all_goals
          go_wp2
          go_roundw
          case rel => exact ⟨pos + 1, _, _, by omega, rfl, by go_num, rfl, He.out⟩
          case measure => simp; omega
      · have He : Hid (scanS s (pos + 1) = (b, n)) := Hst.out.trans (stepD_other (by omega))
        cases b
        all_goals
          go_wp2
          go_roundw
          case rel => exact ⟨pos + 1, _, _, by omega, rfl, rfl, rfl, He.out⟩
          case measure => simp; omega
    · have hnx : ∀ ty, (Instr.next (.pointer (some ⟨w.heap.size, 0, none⟩)) true ty).run Try.prog (w.iter s pos) = _ := fun ty => run_next_end w s pos ty hp
      have He : Hid (decide ((n : Int) ≤ 15) = decide ((scanL (intsOf s)).2 ≤ 15)) := by
        have hps2 : pos = s.size := by omega
        have h2 := Hbn.out
        rw [hps2, scanS_all] at h2
        show _ = _
        rw [h2]
        exact decide_eq_decide.2 (by omega)
      go_wp2
      go_ret
      refine ⟨ret_bool ?_, (Below.refl _ _).alloc (Nat.le_refl _) _⟩
      exact He.out

theorem zzfits_any (s : ByteArray) (w : World) (hs : s.size ≤ 2000000) (ha : ∀ k, k < s.size → bt s k < 128) :
    Calls Try.prog 15 #[.string s] w fun e w' => e = .returned (.bool (decide ((scanL (intsOf s)).2 ≤ 15))) ∧ Below w.heap.size w w' := by
  have Ha : Hid (∀ k, k < s.size → bt s k < 128) := ha
  clear ha
  go_enter Try.func15, Try.ntmps15
  go_wp2_with (go_at_call 25; refine (fits_any _ _ hs Ha.out).mono ?_; rintro e w' ⟨rfl, hb⟩)
  go_ret
  exact ⟨rfl, hb⟩

theorem bytes_small (n : Bool) (z p : Int) (s : ByteArray) (w : World) (h : s.size ≤ 1048576) :
    Calls Try.prog 17 #[.bool n, .int .i64 z, .string s, .int .i64 p] w fun e w' => e = .returned (.bool true) ∧ w = w' := by
  go_enter Try.func17, Try.ntmps17
  go_wp2
  go_ret
  exact ⟨rfl, rfl⟩
theorem bytes_big (n : Bool) (z p : Int) (s : ByteArray) (w : World) (h : 1048576 < s.size) :
    Calls Try.prog 17 #[.bool n, .int .i64 z, .string s, .int .i64 p] w fun e w' => e = .returned (.bool false) ∧ w = w' := by
  go_enter Try.func17, Try.ntmps17
  go_wp2
  go_ret
  exact ⟨rfl, rfl⟩
end Go.Proofs.Qxb6000519a
