import Derived.Test.Qxb6601159aMask
import Derived.BigQuiet
import Derived.Deep.QuietTactic
namespace Go.Proofs.Qxb6601159a
open Go.RowKit Go.PlainAid

theorem bytes14_small (s : ByteArray) (w : World) (hs : s.size ≤ 1048576) :
    Calls Try.prog 14 #[.string s] w fun e w' => e = .returned (.bool true) ∧ w = w' := by
  go_enter Try.func14, Try.ntmps14
  go_wp2
  go_ret
  exact ⟨rfl, rfl⟩
theorem bytes14_big (s : ByteArray) (w : World) (hs : 1048576 < s.size) :
    Calls Try.prog 14 #[.string s] w fun e w' => e = .returned (.bool false) ∧ w = w' := by
  go_enter Try.func14, Try.ntmps14
  go_wp2
  go_ret
  exact ⟨rfl, rfl⟩

/-- Does one of the windows lo .. i - 1 have the form? -/
def someB (s : ByteArray) (lo i : Nat) : Bool := (List.range (i - lo)).any fun d => winB s (lo + d)

theorem someB_iff (s : ByteArray) (lo i : Nat) : someB s lo i = true ↔ ∃ x, lo ≤ x ∧ x < i ∧ winB s x = true := by
  unfold someB
  simp only [List.any_eq_true, List.mem_range]
  constructor
  · rintro ⟨d, h1, h2⟩
    exact ⟨lo + d, by omega, by omega, h2⟩
  · rintro ⟨x, h1, h2, h3⟩
    exact ⟨x - lo, by omega, by rw [show lo + (x - lo) = x by omega]; exact h3⟩
theorem someB_start (s : ByteArray) (lo : Nat) : someB s lo lo = false := by simp [someB]
theorem someB_hit {s : ByteArray} {lo i : Nat} (h : lo ≤ i) (hw : winB s i = true) : someB s lo (i + 1) = true := (someB_iff _ _ _).2 ⟨i, h, by omega, hw⟩
theorem someB_miss {s : ByteArray} {lo i : Nat} (hw : winB s i = false) : someB s lo (i + 1) = someB s lo i := by
  rw [Bool.eq_iff_iff, someB_iff, someB_iff]
  constructor
  · rintro ⟨x, h1, h2, h3⟩
    by_cases e : x = i
    · subst e; rw [hw] at h3; cases h3
    · exact ⟨x, h1, by omega, h3⟩
  · rintro ⟨x, h1, h2, h3⟩
    exact ⟨x, h1, by omega, h3⟩
theorem someB_end {s : ByteArray} {lo j : Nat} (hlo : lo = j - 4) : someB s lo (j + 1) = covN s s.size j := by
  rw [Bool.eq_iff_iff, someB_iff, covN_iff]
  constructor
  · rintro ⟨x, h1, h2, h3⟩
    have := ((winB_iff s x).1 h3).1
    exact ⟨x, by omega, by omega, by omega, h3⟩
  · rintro ⟨x, h1, h2, h3, h4⟩
    exact ⟨x, by omega, by omega, h4⟩
theorem winB_short {s : ByteArray} {i : Nat} (h : s.size < i + 10) : winB s i = false := by
  have : ¬ i + 10 ≤ s.size := by omega
  simp [winB, this]

theorem int_eq {k : IntKind} {a b : Int} (h : a = b) : Value.int k a = .int k b := by rw [h]

/-- What holds at the head of each round of the inner loop. -/
def InRel (s : ByteArray) (B lo j : Nat) (w : World) (c i : Value) (wx : World) : Prop :=
  ∃ x : Nat, ∃ b : Bool, lo ≤ x ∧ x ≤ j + 1 ∧ i = .int .i64 x ∧ c = .bool b ∧ b = someB s lo x ∧ Below B w wx

theorem hide_any (s : ByteArray) (w : World) :
    Calls Try.prog 6 #[.string s] w fun e w' => e = .returned (.bool true) ∧ Below w.heap.size w w' := by
  by_cases hs : s.size ≤ 1048576
  · have hsz := size_masked s
    have hb1 := get_bt s
    have hb2 := get_bt (masked s)
    go_enter Try.func6, Try.ntmps6
    go_wp2_with (first | (go_at_call 14; refine (bytes14_small _ _ hs).mono ?_; rintro e w' ⟨rfl, rfl⟩) | (go_at_call 10; refine (mask_any _ _ hs).mono ?_; rintro e w1 ⟨rfl, hb⟩))
    go_loopw [4] (fun i wr => ∃ k : Nat, k ≤ s.size ∧ i = .int .i64 k ∧ Below w.heap.size w wr) (fun i _ => s.size - (intOf i).toNat)
    case atStart => exact ⟨0, by omega, rfl, hb⟩
    case round =>
      obtain ⟨j, hj, rfl, hbr⟩ := hrel
      by_cases hlt : j < s.size
      · have hbm := bt_masked s j hlt
        have Hbm : Hid (bt (masked s) j = mkB s s.size j) := hbm
        clear hbm
        obtain ⟨lo, hlo⟩ : ∃ lo : Nat, lo = j - 4 := ⟨_, rfl⟩
        have Hlo : Hid (lo = j - 4) := hlo
        have hlo1 : lo ≤ j := by omega
        have hlo2 : j ≤ lo + 4 := by omega
        have hlo3 : j < 4 → (0 : Int) = (lo : Int) := by omega
        have hlo4 : ¬ j < 4 → (j : Int) - 4 = (lo : Int) := by omega
        clear hlo
        have Hlo3 : Hid (j < 4 → (0 : Int) = (lo : Int)) := hlo3
        have Hlo4 : Hid (¬ j < 4 → (j : Int) - 4 = (lo : Int)) := hlo4
        clear hlo3 hlo4
        cases h4 : decide ((j : Int) - 4 < 0)
        all_goals
          go_wp2
          go_loopw [5, 7] (fun c i wx => InRel s w.heap.size lo j w c i wx) (fun _ i _ => j + 1 - (intOf i).toNat)
          case atStart => exact ⟨lo, false, by omega, by omega, by first | exact int_eq (Hlo3.out (by simp at h4; omega)) | exact int_eq (Hlo4.out (by simp at h4; omega)), rfl, (someB_start s lo).symm, hbr⟩
          case round =>
            obtain ⟨x, b, hx1, hx2, rfl, rfl, hb0, hbx⟩ := hrel
            have Hb : Hid (b = someB s lo x) := hb0
            clear hb0
            by_cases hxj : x ≤ j
            · by_cases hwl : x + 10 ≤ s.size
              · have hfe := formB_extract s x hwl
                have hgd : decide ((10 : Int) ≤ (s.size : Int) - (x : Int)) = true := decide_eq_true (by omega)
                cases hwin : winB s x
                · have Hm : Hid (b = someB s lo (x + 1)) := Hb.out.trans (someB_miss (lo := lo) hwin).symm
                  rw [hwin] at hfe
                  go_wp2_with (go_at_call 13; refine (zzform_any _ _).mono ?_; rintro e w' ⟨rfl, rfl⟩)
                  go_roundw
                  case rel =>
                    exact ⟨x + 1, b, by omega, by omega, by go_num, rfl, Hm, hbx⟩
                  case measure => simp [intOf]; omega
                · have Hm : Hid (true = someB s lo (x + 1)) := (someB_hit hx1 hwin).symm
                  rw [hwin] at hfe
                  go_wp2_with (go_at_call 13; refine (zzform_any _ _).mono ?_; rintro e w' ⟨rfl, rfl⟩)
                  go_roundw
                  case rel =>
                    exact ⟨x + 1, true, by omega, by omega, by go_num, rfl, Hm, hbx⟩
                  case measure => simp [intOf]; omega
              · have Hm : Hid (b = someB s lo (x + 1)) := Hb.out.trans (someB_miss (winB_short (by omega))).symm
                go_wp2
                go_roundw
                case rel => exact ⟨x + 1, b, by omega, by omega, by go_num, rfl, Hm, hbx⟩
                case measure => simp [intOf]; omega
            · obtain rfl : x = j + 1 := by omega
              have hend := Hb.out.trans (someB_end (s := s) Hlo.out)
              cases b
              · have hby : bt (masked s) j = bt s j := by rw [Hbm.out]; simp [mkB, ← hend]
                clear hend
                go_wp2
                go_quiet (fail)
                go_wp2
                go_roundw
                case rel => exact ⟨j + 1, by omega, by go_num, below_drewN hbx _⟩
                case measure => simp [intOf]; omega
              · have hby : bt (masked s) j = 88 := by rw [Hbm.out]; simp [mkB, ← hend]
                clear hend
                go_wp2
                go_roundw
                case rel => exact ⟨j + 1, by omega, by go_num, hbx⟩
                case measure => simp [intOf]; omega
      · go_wp2
        go_ret
        exact ⟨rfl, hbr⟩
  · have hs' : 1048576 < s.size := by omega
    go_enter Try.func6, Try.ntmps6
    go_wp2_with (go_at_call 14; refine (bytes14_big _ _ hs').mono ?_; rintro e w' ⟨rfl, rfl⟩)
    go_ret
    exact ⟨rfl, Below.refl _ _⟩
end Go.Proofs.Qxb6601159a
