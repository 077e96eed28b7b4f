import Derived.Test.Qxb6601159aFits
namespace Go.Proofs.Qxb6601159a
open Go.RowKit

/-- How many of the bytes 0 .. k - 1 lie from lo on, at most m of them counted. -/
def cnt (lo m k : Int) : Int := if k ≤ lo then 0 else if k - lo ≤ m then k - lo else m

theorem cnt_bd (lo m k : Int) (hm : 0 ≤ m) : 0 ≤ cnt lo m k ∧ cnt lo m k ≤ m := by
  unfold cnt; split
  · omega
  · split <;> omega

theorem cnt_in {lo m k : Int} (h1 : lo ≤ k) (h2 : k ≤ lo + m - 1) : cnt lo m (k + 1) = cnt lo m k + 1 := by
  unfold cnt; repeat (first | omega | split)
theorem cnt_out {lo m k : Int} (hm : 0 ≤ m) (h : ¬ (lo ≤ k ∧ k ≤ lo + m - 1)) : cnt lo m (k + 1) = cnt lo m k := by
  unfold cnt; repeat (first | omega | split)

set_option maxRecDepth 100000 in
theorem walk_dig (a0 : Int) (w : World) (h5 : 5 ≤ a0) (h8 : a0 ≤ 8) :
    Calls Try.prog 7 #[.int .i64 a0] w fun e w' => e = .returned (.bool true) ∧ w = w' := by
  go_enter Try.func7, Try.ntmps7
  go_wp2
  go_loop [3, 4] (fun n v => ∃ k : Nat, k ≤ 256 ∧ v = .int .i64 k ∧ n = .int .i64 (cnt 48 10 k)) (fun _ v => 256 - (intOf v).toNat)
  case atStart => exact ⟨0, by omega, rfl, rfl⟩
  case round =>
    obtain ⟨k, hk, rfl, rfl⟩ := hrel
    have hb := cnt_bd 48 10 k (by omega)
    by_cases hlt : k < 256
    · by_cases hin : (48 : Int) ≤ k ∧ (k : Int) ≤ 57
      · have hf : fitsB a0 k = true := by rw [fitsB_yes ⟨h5, h8⟩]; exact decide_eq_true hin
        go_wp2_with (go_at_call 15; refine (zzfits_any _ _ _).mono ?_; rintro e w' ⟨rfl, rfl⟩)
        go_round
        case rel => exact ⟨k + 1, by omega, by go_num, by have := cnt_in (lo := 48) (m := 10) (k := k) hin.1 (by omega); go_num⟩
        case measure => simp [intOf]; omega
      · have hf : fitsB a0 k = false := by rw [fitsB_yes ⟨h5, h8⟩]; exact decide_eq_false hin
        go_wp2_with (go_at_call 15; refine (zzfits_any _ _ _).mono ?_; rintro e w' ⟨rfl, rfl⟩)
        go_round
        case rel => exact ⟨k + 1, by omega, by go_num, by have := cnt_out (lo := 48) (m := 10) (k := k) (by omega) (by omega); go_num⟩
        case measure => simp [intOf]; omega
    · obtain rfl : k = 256 := by omega
      have hc : cnt 48 10 ((256 : Nat) : Int) = 10 := by decide
      rcases (show a0 = 5 ∨ a0 = 6 ∨ a0 = 7 ∨ a0 = 8 by omega) with rfl | rfl | rfl | rfl
      all_goals
        go_wp2
        go_ret
        exact ⟨rfl, rfl⟩

set_option maxRecDepth 100000 in
theorem walk_let (a0 : Int) (w : World) (hn : ¬ (5 ≤ a0 ∧ a0 ≤ 8)) :
    Calls Try.prog 7 #[.int .i64 a0] w fun e w' => e = .returned (.bool true) ∧ w = w' := by
  go_enter Try.func7, Try.ntmps7
  go_wp2
  go_loop [3, 4] (fun n v => ∃ k : Nat, k ≤ 256 ∧ v = .int .i64 k ∧ n = .int .i64 (cnt 65 26 k)) (fun _ v => 256 - (intOf v).toNat)
  case atStart => exact ⟨0, by omega, rfl, rfl⟩
  case round =>
    obtain ⟨k, hk, rfl, rfl⟩ := hrel
    have hb := cnt_bd 65 26 k (by omega)
    by_cases hlt : k < 256
    · by_cases hin : (65 : Int) ≤ k ∧ (k : Int) ≤ 90
      · have hf : fitsB a0 k = true := by rw [fitsB_no hn]; exact decide_eq_true hin
        go_wp2_with (go_at_call 15; refine (zzfits_any _ _ _).mono ?_; rintro e w' ⟨rfl, rfl⟩)
        go_round
        case rel => exact ⟨k + 1, by omega, by go_num, by have := cnt_in (lo := 65) (m := 26) (k := k) hin.1 (by omega); go_num⟩
        case measure => simp [intOf]; omega
      · have hf : fitsB a0 k = false := by rw [fitsB_no hn]; exact decide_eq_false hin
        go_wp2_with (go_at_call 15; refine (zzfits_any _ _ _).mono ?_; rintro e w' ⟨rfl, rfl⟩)
        go_round
        case rel => exact ⟨k + 1, by omega, by go_num, by have := cnt_out (lo := 65) (m := 26) (k := k) (by omega) (by omega); go_num⟩
        case measure => simp [intOf]; omega
    · obtain rfl : k = 256 := by omega
      have hc : cnt 65 26 ((256 : Nat) : Int) = 26 := by decide
      rcases (show a0 < 0 ∨ 10 ≤ a0 ∨ a0 = 0 ∨ a0 = 1 ∨ a0 = 2 ∨ a0 = 3 ∨ a0 = 4 ∨ a0 = 9 by omega) with h | h | rfl | rfl | rfl | rfl | rfl | rfl
      all_goals
        go_wp2
        go_ret
        exact ⟨rfl, rfl⟩

theorem count_any (a0 : Int) (w : World) :
    Calls Try.prog 7 #[.int .i64 a0] w fun e w' => e = .returned (.bool true) ∧ w = w' := by
  by_cases h : 5 ≤ a0 ∧ a0 ≤ 8
  · exact walk_dig a0 w h.1 h.2
  · exact walk_let a0 w h
end Go.Proofs.Qxb6601159a
