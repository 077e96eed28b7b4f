import Derived.Test.Qxb6601159aMask
import Derived.Lib.Strings
namespace Go.Proofs.Qxb6601159a
open Go.RowKit Go.PlainAid

/-- A masked byte fits where the byte itself did. -/
theorem fitsB_masked (s : ByteArray) (k : Int) (j : Nat) (hj : j < s.size) : fitsB k (bt (masked s) j) = fitsB k (bt s j) := by
  rw [bt_masked s j hj]
  unfold mkB
  split
  · rename_i hc
    obtain ⟨i, h1, h2, _, h4⟩ := (covN_iff _ _ _).1 hc
    have hw := ((winB_iff s i).1 h4).2 (j - i) (by omega)
    rw [show i + (j - i) = j by omega, fitsB_no (by omega), decide_eq_true_iff] at hw
    by_cases h5 : 5 ≤ k ∧ k ≤ 8
    · rw [fitsB_yes h5, fitsB_yes h5, decide_eq_false (by omega), decide_eq_false (by omega)]
    · rw [fitsB_no h5, fitsB_no h5, decide_eq_true (by omega), decide_eq_true (by omega)]
  · rfl

theorem winB_masked (s : ByteArray) (i : Nat) : winB (masked s) i = winB s i := by
  rw [Bool.eq_iff_iff, winB_iff, winB_iff, size_masked]
  constructor
  · rintro ⟨h1, h2⟩
    exact ⟨h1, fun k hk => by rw [← fitsB_masked s k (i + k) (by omega)]; exact h2 k hk⟩
  · rintro ⟨h1, h2⟩
    exact ⟨h1, fun k hk => by rw [fitsB_masked s k (i + k) (by omega)]; exact h2 k hk⟩

theorem bt_head {s : ByteArray} {i : Nat} (h : winB s i = true) (d : Nat) (hd : d < 5) : bt (masked s) (i + d) = 88 := by
  have hs := ((winB_iff s i).1 h).1
  rw [bt_masked s (i + d) (by omega)]
  unfold mkB
  rw [if_pos ((covN_iff _ _ _).2 ⟨i, by omega, by omega, by omega, h⟩)]

theorem toList_bt (e : ByteArray) : e.toList = (List.range e.size).map fun d => UInt8.ofNat (bt e d).toNat := by
  rw [Lib.toList_data]
  apply List.ext_getElem
  · simp
  · intro d h1 h2
    have h3 : d < e.size := h1
    simp only [List.getElem_map, List.getElem_range]
    unfold bt
    rw [dif_pos h3, Int.toNat_natCast, UInt8.ofNat_toNat]
    rfl

theorem head_list {s : ByteArray} {i : Nat} (h : winB s i = true) : (((masked s).extract i (i + 5)).toList == [88, 88, 88, 88, 88]) = true := by
  have hs := ((winB_iff s i).1 h).1
  have h5 : i + 5 ≤ (masked s).size := by rw [size_masked]; omega
  have hb : ∀ d, d < 5 → bt ((masked s).extract i (i + 5)) d = 88 := fun d hd => by
    rw [bt_extract (masked s) i (i + 5) d h5 (by omega)]
    exact bt_head h d hd
  rw [toList_bt, size_extract (masked s) i (i + 5) h5, show i + 5 - i = 5 by omega]
  simp [List.range_succ, hb]

theorem bytes12_small (s : ByteArray) (w : World) (hs : s.size ≤ 1048576) :
    Calls Try.prog 12 #[.string s] w fun e w' => e = .returned (.bool true) ∧ w = w' := by
  go_enter Try.func12, Try.ntmps12
  go_wp2
  go_ret
  exact ⟨rfl, rfl⟩
theorem bytes12_big (s : ByteArray) (w : World) (hs : 1048576 < s.size) :
    Calls Try.prog 12 #[.string s] w fun e w' => e = .returned (.bool false) ∧ w = w' := by
  go_enter Try.func12, Try.ntmps12
  go_wp2
  go_ret
  exact ⟨rfl, rfl⟩

theorem head_any (s : ByteArray) (w : World) :
    Calls Try.prog 5 #[.string s] w fun e w' => e = .returned (.bool true) ∧ Below w.heap.size w w' := by
  by_cases hs : s.size ≤ 1048576
  · have hsz := size_masked s
    go_enter Try.func5, Try.ntmps5
    go_wp2_with (first | (go_at_call 12; refine (bytes12_small _ _ hs).mono ?_; rintro e w' ⟨rfl, rfl⟩) | (go_at_call 10; refine (mask_any _ _ hs).mono ?_; rintro e w1 ⟨rfl, hb⟩))
    go_loop [4, 5] (fun i f => ∃ k : Nat, k ≤ s.size ∧ i = .int .i64 k) (fun i _ => s.size - (intOf i).toNat)
    case atStart => exact ⟨0, by omega, rfl⟩
    case round =>
      obtain ⟨k, hk, rfl⟩ := hrel
      by_cases hlt : k + 10 ≤ s.size
      · have hf1 := formB_extract s k hlt
        have hf2 := formB_extract (masked s) k (by rw [size_masked]; exact hlt)
        rw [winB_masked] at hf2
        cases hwin : winB s k
        · rw [hwin] at hf1 hf2
          go_wp2_with (go_at_call 13; refine (zzform_any _ _).mono ?_; rintro e w' ⟨rfl, rfl⟩)
          go_round
          case rel => exact ⟨k + 1, by omega, by go_num⟩
          case measure => simp [intOf]; omega
        · have hx := head_list hwin
          rw [hwin] at hf1 hf2
          go_wp2_with (go_at_call 13; refine (zzform_any _ _).mono ?_; rintro e w' ⟨rfl, rfl⟩)
          go_round
          case rel => exact ⟨k + 1, by omega, by go_num⟩
          case measure => simp [intOf]; omega
      · go_wp2
        go_ret
        exact ⟨rfl, hb⟩
  · have hs' : 1048576 < s.size := by omega
    go_enter Try.func5, Try.ntmps5
    go_wp2_with (go_at_call 12; refine (bytes12_big _ _ hs').mono ?_; rintro e w' ⟨rfl, rfl⟩)
    go_ret
    exact ⟨rfl, Below.refl _ _⟩
end Go.Proofs.Qxb6601159a
