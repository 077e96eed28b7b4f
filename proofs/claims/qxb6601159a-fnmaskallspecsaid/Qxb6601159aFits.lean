import Derived.Test.Qxb6601159aRows
import Derived.WalkKit
import Derived.ProofKit
import Derived.OpenShut
import Derived.ShutString
import Derived.WalkSpells
import Derived.WalkLawsBesides
namespace Go.Proofs.Qxb6601159a
open Go.RowKit

/-- May the byte c stand at place i? -/
def fitsB (i c : Int) : Bool := if 5 ≤ i ∧ i ≤ 8 then decide (48 ≤ c ∧ c ≤ 57) else decide (65 ≤ c ∧ c ≤ 90)

theorem ret_bool {a b : Bool} (h : a = b) : Ending.returned (.bool a) = .returned (.bool b) := by rw [h]

theorem fitsB_yes {i c : Int} (h : 5 ≤ i ∧ i ≤ 8) : fitsB i c = decide (48 ≤ c ∧ c ≤ 57) := by unfold fitsB; rw [if_pos h]
theorem fitsB_no {i c : Int} (h : ¬ (5 ≤ i ∧ i ≤ 8)) : fitsB i c = decide (65 ≤ c ∧ c ≤ 90) := by unfold fitsB; rw [if_neg h]
theorem dec_hi {lo hi c : Int} (h : lo ≤ c) : decide (c ≤ hi) = decide (lo ≤ c ∧ c ≤ hi) := by simp [h]
theorem dec_lo {lo hi c : Int} (h : c < lo) : false = decide (lo ≤ c ∧ c ≤ hi) := by
  symm; rw [decide_eq_false_iff_not]; omega

theorem fits_any (i c : Int) (w : World) :
    Calls Try.prog 18 #[.int .i64 i, .int .u8 c] w fun e w' => e = .returned (.bool (fitsB i c)) ∧ w = w' := by
  by_cases h5 : 5 ≤ i
  · by_cases h8 : i ≤ 8
    · go_enter Try.func18, Try.ntmps18
      go_wp2
      all_goals
        go_ret
        exact ⟨ret_bool (by rw [fitsB_yes ⟨h5, h8⟩]; first | exact dec_hi ‹_› | exact dec_lo ‹_›), rfl⟩
    · go_enter Try.func18, Try.ntmps18
      go_wp2
      all_goals
        go_ret
        exact ⟨ret_bool (by rw [fitsB_no (by omega)]; first | exact dec_hi ‹_› | exact dec_lo ‹_›), rfl⟩
  · go_enter Try.func18, Try.ntmps18
    go_wp2
    all_goals
      go_ret
      exact ⟨ret_bool (by rw [fitsB_no (by omega)]; first | exact dec_hi ‹_› | exact dec_lo ‹_›), rfl⟩

theorem zzfits_any (i c : Int) (w : World) :
    Calls Try.prog 15 #[.int .i64 i, .int .u8 c] w fun e w' => e = .returned (.bool (fitsB i c)) ∧ w = w' := by
  go_enter Try.func15, Try.ntmps15
  go_wp2_with (go_at_call 18; refine (fits_any _ _ _).mono ?_; rintro e w' ⟨rfl, rfl⟩)
  go_ret
  exact ⟨rfl, rfl⟩
end Go.Proofs.Qxb6601159a
