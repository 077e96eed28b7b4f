import Derived.Test.Qxb6601159aFits
import Derived.PlainAid
namespace Go.Proofs.Qxb6601159a
open Go.RowKit Go.PlainAid

/-- The ten bytes of s from i on have the form of a PAN, place by place (of the first n places). -/
def formUpto (s : ByteArray) (i : Nat) : Nat → Bool
  | 0 => true
  | n + 1 => formUpto s i n && fitsB n (bt s (i + n))

theorem formUpto_iff (s : ByteArray) (i n : Nat) : formUpto s i n = true ↔ ∀ k : Nat, k < n → fitsB k (bt s (i + k)) = true := by
  induction n with
  | zero => simp [formUpto]
  | succ n ih =>
    simp only [formUpto, Bool.and_eq_true, ih]
    constructor
    · rintro ⟨h1, h2⟩ k hk
      by_cases e : k = n
      · subst e; exact h2
      · exact h1 k (by omega)
    · intro h
      exact ⟨fun k hk => h k (by omega), h n (by omega)⟩

/-- s itself has the form. -/
def formB (s : ByteArray) : Bool := decide (s.size = 10) && formUpto s 0 10

theorem formB_short {s : ByteArray} (h : s.size ≠ 10) : formB s = false := by simp [formB, h]
theorem formB_hit {s : ByteArray} (h : s.size = 10) (hk : formUpto s 0 10 = true) : formB s = true := by simp [formB, h, hk]
theorem formB_miss {s : ByteArray} {k : Nat} (hk : k < 10) (hf : fitsB k (bt s k) = false) : formB s = false := by
  have : formUpto s 0 10 = false := by
    rw [Bool.eq_false_iff]
    intro h
    have := (formUpto_iff s 0 10).1 h k hk
    rw [Nat.zero_add, hf] at this
    cases this
  simp [formB, this]
theorem formUpto_step {s : ByteArray} {k : Nat} (h : formUpto s 0 k = true) (hf : fitsB k (bt s k) = true) : formUpto s 0 (k + 1) = true := by
  simp [formUpto, h, hf]

set_option maxRecDepth 100000 in
theorem hasForm_any (s : ByteArray) (w : World) :
    Calls Try.prog 17 #[.string s] w fun e w' => e = .returned (.bool (formB s)) ∧ w = w' := by
  by_cases h10 : s.size = 10
  · have hb := get_bt s
    have h10i : (s.size : Int) = 10 := by omega
    have H10 : Hid (s.size = 10) := h10
    have hle : 10 ≤ s.size := by omega
    have hge : s.size ≤ 10 := by omega
    clear h10
    go_enter Try.func17, Try.ntmps17
    go_wp2
    go_loop [7] (fun i => ∃ k : Nat, k ≤ 10 ∧ i = .int .i64 k ∧ Hid (formUpto s 0 k = true)) (fun i => 10 - (intOf i).toNat)
    case atStart => exact ⟨0, by omega, rfl, rfl⟩
    case round =>
      obtain ⟨k, hk, rfl, hf⟩ := hrel
      by_cases hlt : k < 10
      · cases hfit : fitsB k (bt s k)
        · go_wp2_with (go_at_call 18; refine (fits_any _ _ _).mono ?_; rintro e w' ⟨rfl, rfl⟩)
          go_ret
          exact ⟨ret_bool (formB_miss hlt hfit).symm, rfl⟩
        · go_wp2_with (go_at_call 18; refine (fits_any _ _ _).mono ?_; rintro e w' ⟨rfl, rfl⟩)
          go_round
          case rel => exact ⟨k + 1, by omega, by go_num, formUpto_step hf.out hfit⟩
          case measure => simp [intOf]; omega
      · obtain rfl : k = 10 := by omega
        go_wp2
        go_ret
        exact ⟨ret_bool (formB_hit H10.out hf.out).symm, rfl⟩
  · have h10i : ((s.size : Int) == 10) = false := by simp; omega
    go_enter Try.func17, Try.ntmps17
    go_wp2
    go_ret
    exact ⟨ret_bool (formB_short h10).symm, rfl⟩

theorem zzform_any (s : ByteArray) (w : World) :
    Calls Try.prog 13 #[.string s] w fun e w' => e = .returned (.bool (formB s)) ∧ w = w' := by
  go_enter Try.func13, Try.ntmps13
  go_wp2_with (go_at_call 17; refine (hasForm_any _ _).mono ?_; rintro e w' ⟨rfl, rfl⟩)
  go_ret
  exact ⟨rfl, rfl⟩
end Go.Proofs.Qxb6601159a
