import Derived.Test.Qxb6000519aBuf
namespace Go.Proofs.Qxb6000519a
open Go.RowKit Go.PlainAid

theorem early_big (neg : Bool) (z p : Int) (d : ByteArray) (w : World) (h : 1048576 < d.size) :
    Calls Try.prog 7 #[.bool neg, .int .i64 z, .string d, .int .i64 p] w fun e w' => e = .returned (.bool true) ∧ w = w' := by
  go_enter Try.func7, Try.ntmps7
  go_wp2_with (go_at_call 17; refine (bytes_big _ _ _ _ _ h).mono ?_; rintro e w' ⟨rfl, rfl⟩)
  go_ret
  exact ⟨rfl, rfl⟩

theorem early_zeros (neg : Bool) (z p : Int) (d : ByteArray) (w : World) (h : d.size ≤ 1048576) (hz : z < 0 ∨ 65536 < z) :
    Calls Try.prog 7 #[.bool neg, .int .i64 z, .string d, .int .i64 p] w fun e w' => e = .returned (.bool true) ∧ w = w' := by
  rcases hz with hz | hz
  · have hd : decide (z < 0) = true := decide_eq_true hz
    go_enter Try.func7, Try.ntmps7
    go_wp2_with (go_at_call 17; refine (bytes_small _ _ _ _ _ h).mono ?_; rintro e w' ⟨rfl, rfl⟩)
    go_ret
    exact ⟨rfl, rfl⟩
  · have hd : decide (z < 0) = false := decide_eq_false (by omega)
    go_enter Try.func7, Try.ntmps7
    go_wp2_with (go_at_call 17; refine (bytes_small _ _ _ _ _ h).mono ?_; rintro e w' ⟨rfl, rfl⟩)
    go_ret
    exact ⟨rfl, rfl⟩

theorem early_point (neg : Bool) (z p : Int) (d : ByteArray) (w : World) (h : d.size ≤ 1048576) (hz0 : 0 ≤ z) (hz1 : z ≤ 65536) (hp : p < -1 ∨ z + d.size < p) :
    Calls Try.prog 7 #[.bool neg, .int .i64 z, .string d, .int .i64 p] w fun e w' => e = .returned (.bool true) ∧ w = w' := by
  have hd : decide (z < 0) = false := decide_eq_false (by omega)
  rcases hp with hp | hp
  · have hd2 : decide (p < -1) = true := decide_eq_true hp
    go_enter Try.func7, Try.ntmps7
    go_wp2_with (go_at_call 17; refine (bytes_small _ _ _ _ _ h).mono ?_; rintro e w' ⟨rfl, rfl⟩)
    go_ret
    exact ⟨rfl, rfl⟩
  · have hd2 : decide (p < -1) = false := decide_eq_false (by omega)
    go_enter Try.func7, Try.ntmps7
    go_wp2_with (go_at_call 17; refine (bytes_small _ _ _ _ _ h).mono ?_; rintro e w' ⟨rfl, rfl⟩)
    go_ret
    exact ⟨rfl, rfl⟩

/-- The bytes of d before k are digits. -/
def DigUpto (d : ByteArray) (k : Nat) : Prop := ∀ j, j < k → 48 ≤ bt d j ∧ bt d j ≤ 57

theorem early_digits (neg : Bool) (z p : Int) (d : ByteArray) (w : World) (h : d.size ≤ 1048576) (hz0 : 0 ≤ z) (hz1 : z ≤ 65536) (hp0 : -1 ≤ p) (hp1 : p ≤ z + d.size) (hbad : ¬ DigUpto d d.size) :
    Calls Try.prog 7 #[.bool neg, .int .i64 z, .string d, .int .i64 p] w fun e w' => e = .returned (.bool true) ∧ w = w' := by
  have hd : decide (z < 0) = false := decide_eq_false (by omega)
  have hd2 : decide (p < -1) = false := decide_eq_false (by omega)
  have hb := get_bt d
  have Hbad : Hid (¬ DigUpto d d.size) := hbad
  clear hbad
  go_enter Try.func7, Try.ntmps7
  go_wp2_with (go_at_call 17; refine (bytes_small _ _ _ _ _ h).mono ?_; rintro e w' ⟨rfl, rfl⟩)
  go_loop [9] (fun i => ∃ k : Nat, k ≤ d.size ∧ i = .int .i64 k ∧ DigUpto d k) (fun i => d.size - (intOf i).toNat)
  case atStart => exact ⟨0, by omega, rfl, fun j hj => absurd hj (by omega)⟩
  case round =>
    obtain ⟨k, hk, rfl, hdig⟩ := hrel
    have Hdig : Hid (DigUpto d k) := hdig
    clear hdig
    by_cases hlt : k < d.size
    · cases h1 : decide (bt d k < 48)
      · by_cases h2 : 57 < bt d k
        · go_wp2
          go_ret
          exact ⟨rfl, rfl⟩
        · have Hn : Hid (DigUpto d (k + 1)) := fun j hj => by
            by_cases e : j = k
            · subst e; simp at h1; omega
            · exact Hdig.out j (by omega)
          go_wp2
          go_round
          case rel => exact ⟨k + 1, by omega, by go_num, Hn.out⟩
          case measure => simp [intOf]; omega
      · go_wp2
        go_ret
        exact ⟨rfl, rfl⟩
    · exfalso
      apply Hbad.out
      intro j hj
      exact Hdig.out j (by omega)

theorem early_first (neg : Bool) (z p : Int) (d : ByteArray) (w : World) (h : d.size ≤ 1048576) (hz0 : 0 ≤ z) (hz1 : z ≤ 65536) (hp0 : -1 ≤ p) (hp1 : p ≤ z + d.size) (hdg : DigUpto d d.size) (h0 : 0 < d.size) (hf : bt d 0 = 48) :
    Calls Try.prog 7 #[.bool neg, .int .i64 z, .string d, .int .i64 p] w fun e w' => e = .returned (.bool true) ∧ w = w' := by
  have hd : decide (z < 0) = false := decide_eq_false (by omega)
  have hd2 : decide (p < -1) = false := decide_eq_false (by omega)
  have hb := get_bt d
  have HD : Hid (DigUpto d d.size) := hdg
  clear hdg
  go_enter Try.func7, Try.ntmps7
  go_wp2_with (go_at_call 17; refine (bytes_small _ _ _ _ _ h).mono ?_; rintro e w' ⟨rfl, rfl⟩)
  go_loop [9] (fun i => ∃ k : Nat, k ≤ d.size ∧ i = .int .i64 k) (fun i => d.size - (intOf i).toNat)
  case atStart => exact ⟨0, by omega, rfl⟩
  case round =>
    obtain ⟨k, hk, rfl⟩ := hrel
    by_cases hlt : k < d.size
    · have h12 := HD.out k hlt
      have h1 : decide (bt d k < 48) = false := decide_eq_false (by omega)
      have h2 : bt d k ≤ 57 := by omega
      go_wp2
      go_round
      case rel => exact ⟨k + 1, by omega, by go_num⟩
      case measure => simp [intOf]; omega
    · have hg : decide ((0 : Int) < (d.size : Int)) = true := decide_eq_true (by omega)
      go_wp2
      go_ret
      exact ⟨rfl, rfl⟩
end Go.Proofs.Qxb6000519a
