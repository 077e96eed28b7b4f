import Derived.Test.Qxb6001537aRows
import Derived.Test.Qxb6001537aPlain
import Derived.WalkKit
import Derived.ProofKit
import Derived.OpenShut
import Derived.WalkSpells
import Derived.WalkLawsBesides
import Derived.BigQuiet
import Derived.Deep.QuietTactic
import Derived.Lib.Strings
import Derived.Lib.Slices
import Derived.Lib.Walk
import Derived.Lib.Bytealg
namespace Go.Proofs.Qxb6001537a
open Go.RowKit Go.PlainAid

theorem ret_int {k : IntKind} {a b : Int} (h : a = b) : Ending.returned (.int k a) = .returned (.int k b) := by rw [h]
theorem drewN_two {w wr : World} (h : ∃ n, wr = w.drewN n) (m : Nat) : ∃ n, wr.drewN m = w.drewN n := by
  obtain ⟨n, rfl⟩ := h
  exact ⟨n + m, by simp [World.drewN, Nat.add_assoc]⟩
theorem ret_bool {a b : Bool} (h : a = b) : Ending.returned (.bool a) = .returned (.bool b) := by rw [h]

/-! The library's compare: the shelf's two templates at this dump's numbers. -/
set_option maxHeartbeats 1000000 in
set_option maxRecDepth 100000 in
theorem cmpString_any (a b : ByteArray) (w : World) :
    Calls Try.prog 16 #[.string a, .string b] w fun e w' => e = .returned (.int .i64 (Lib.compareBytes a.data.toList b.data.toList)) ∧ w' = w := by
  go_enter Try.func16, Try.ntmps16
  go_wp2
  rw [run_callFunc_extern Try.func17 (by kernel_rfl) (by kernel_rfl) (by kernel_rfl) (e := Extern.BytealgCompare.compare) (by kernel_rfl), Lib.run_compareString]
  simp only [Result.andThen]
  rw [Oper.upon_value]
  go_wp2
  go_ret
  exact ⟨rfl, rfl⟩

theorem compare_any (a b : ByteArray) (w : World) :
    Calls Try.prog 15 #[.string a, .string b] w fun e w' => e = .returned (.int .i64 (Lib.compareBytes a.data.toList b.data.toList)) ∧ w' = w := by
  go_enter Try.func15, Try.ntmps15
  go_wp2_with (go_at_call 16; refine (cmpString_any _ _ _).mono ?_; rintro e w' ⟨rfl, rfl⟩)
  go_ret
  exact ⟨rfl, rfl⟩

theorem exhausted_any (p n : Nat) (k : Int) (w : World) (hc : w.cell? ⟨p, n, none⟩ = some (.int .i64 k)) :
    Calls Try.prog 13 #[.pointer (some ⟨p, n, none⟩)] w fun e w' => e = .returned (.bool (decide (1000000 < k))) ∧ w = w' := by
  go_enter Try.func13, Try.ntmps13
  go_wp2
  go_ret
  exact ⟨rfl, rfl⟩

theorem take_any (p n : Nat) (k m : Int) (w : World) (hc : w.cell? ⟨p, n, none⟩ = some (.int .i64 k)) (hf : w.frozen? ⟨p, n, none⟩ = false) (h1 : -9223372036854775808 ≤ k) (h2 : k ≤ 1000000) (h3 : 0 ≤ m) (h4 : m ≤ 1048576) :
    Calls Try.prog 14 #[.pointer (some ⟨p, n, none⟩), .int .i64 m] w fun e w' => e = .returned (.bool (decide (k + m ≤ 1000000))) ∧ w.setCell ⟨p, n, none⟩ (.int .i64 (k + m)) = w' := by
  have hs : (w.setCell ⟨p, n, none⟩ (.int .i64 (k + m))).cell? ⟨p, n, none⟩ = some (.int .i64 (k + m)) := World.cell?_setCell_same _ _ _ hc
  go_enter Try.func14, Try.ntmps14
  go_wp2
  go_ret
  exact ⟨rfl, rfl⟩

theorem order_any (a b : ByteArray) (w : World) (hsz : a.size + b.size ≤ 1048576) :
    Calls Try.prog 8 #[.string a, .string b] w fun e w' => e = .returned (.int .i64 (cmpS a b)) ∧ ∃ n, w' = w.drewN n := by
  have ha := get_bt a
  have hb := get_bt b
  by_cases hl : b.size < a.size
  all_goals
    go_enter Try.func8, Try.ntmps8
    go_wp2
    go_loopw [6] (fun i wr => ∃ k : Nat, k ≤ a.size ∧ k ≤ b.size ∧ i = .int .i64 k ∧ Hid (k ≤ lcpS a b) ∧ Hid (∃ n, wr = w.drewN n)) (fun i _ => a.size - (intOf i).toNat)
    case atStart => exact ⟨0, by omega, by omega, rfl, Nat.zero_le _, 0, rfl⟩
    case round =>
      obtain ⟨k, hka, hkb, rfl, hk, hn⟩ := hrel
      by_cases hin : k < a.size ∧ k < b.size
      · obtain ⟨hia, hib⟩ := hin
        rcases Int.lt_trichotomy (bt a k) (bt b k) with hlt | heq | hgt
        · have Hr : Hid (-1 = cmpS a b) := (cmpS_lt hk.out hia hib hlt).symm
          go_wp2
          go_quiet (fail)
          go_wp2
          go_ret
          exact ⟨ret_int Hr.out, drewN_two hn.out _⟩
        · have Hs : Hid (k + 1 ≤ lcpS a b) := lcpS_step hk.out hia hib heq
          have h1 : ¬ bt a k < bt b k := by omega
          have h2 : ¬ bt b k < bt a k := by omega
          clear heq
          go_wp2
          go_quiet (fail)
          go_wp2
          go_quiet (fail)
          go_wp2
          go_roundw
          case rel => exact ⟨k + 1, by omega, by omega, by go_num, Hs, drewN_two hn.out _⟩
          case measure => simp [intOf]; omega
        · have Hr : Hid (1 = cmpS a b) := (cmpS_gt hk.out hia hib hgt).symm
          have h1 : ¬ bt a k < bt b k := by omega
          go_wp2
          go_quiet (fail)
          go_wp2
          go_quiet (fail)
          go_wp2
          go_ret
          exact ⟨ret_int Hr.out, drewN_two (drewN_two hn.out _) _⟩
      · rcases Nat.lt_trichotomy a.size b.size with hlt | heq | hgt
        · first
          | omega
          | have Hr : Hid (-1 = cmpS a b) := (cmpS_short (Nat.le_trans (by omega) hk.out) hlt).symm
            go_wp2
            go_ret
            exact ⟨ret_int Hr.out, hn.out⟩
        · first
          | omega
          | have Hr : Hid (0 = cmpS a b) := (cmpS_same (Nat.le_trans (by omega) hk.out) heq).symm
            have h1 : ¬ a.size < b.size := by omega
            have h2 : ¬ b.size < a.size := by omega
            clear heq
            go_wp2
            go_ret
            exact ⟨ret_int Hr.out, hn.out⟩
        · first
          | omega
          | have Hr : Hid (1 = cmpS a b) := (cmpS_long (Nat.le_trans (by omega) hk.out) hgt).symm
            go_wp2
            go_ret
            exact ⟨ret_int Hr.out, hn.out⟩

theorem prefix_any (a b : ByteArray) (w : World) (hsz : a.size + b.size ≤ 1048576) :
    Calls Try.prog 10 #[.string a, .string b] w fun e w' => e = .returned (.int .i64 (lcpS a b)) ∧ ∃ n, w' = w.drewN n := by
  have ha := get_bt a
  have hb := get_bt b
  go_enter Try.func10, Try.ntmps10
  go_wp2
  go_loopw [5] (fun i wr => ∃ k : Nat, k ≤ a.size ∧ k ≤ b.size ∧ i = .int .i64 k ∧ Hid (k ≤ lcpS a b) ∧ Hid (∃ n, wr = w.drewN n)) (fun i _ => a.size - (intOf i).toNat)
  case atStart => exact ⟨0, by omega, by omega, rfl, Nat.zero_le _, 0, rfl⟩
  case round =>
    obtain ⟨k, hka, hkb, rfl, hk, hn⟩ := hrel
    cases h1 : decide (k < a.size)
    · have Hst : Hid (lcpS a b = k) := lcpS_stop hk.out (by simp at h1; omega)
      go_wp2
      go_quiet (fail)
      go_wp2
      go_ret
      exact ⟨ret_int (by rw [Hst.out]), drewN_two hn.out _⟩
    · cases h2 : decide (k < b.size)
      · have Hst : Hid (lcpS a b = k) := lcpS_stop hk.out (by simp at h2; omega)
        go_wp2
        go_quiet (fail)
        go_wp2
        go_ret
        exact ⟨ret_int (by rw [Hst.out]), drewN_two hn.out _⟩
      · have hia : k < a.size := by simpa using h1
        have hib : k < b.size := by simpa using h2
        cases he : (bt a k == bt b k)
        · have Hst : Hid (lcpS a b = k) := lcpS_stop hk.out (by intro h; rw [h.2.2] at he; simp at he)
          go_wp2
          go_quiet (fail)
          go_wp2
          go_ret
          exact ⟨ret_int (by rw [Hst.out]), drewN_two hn.out _⟩
        · have Hs : Hid (k + 1 ≤ lcpS a b) := lcpS_step hk.out hia hib (by simpa using he)
          go_wp2
          go_quiet (fail)
          go_wp2
          go_roundw
          case rel => exact ⟨k + 1, by omega, by omega, by go_num, Hs, drewN_two hn.out _⟩
          case measure => simp [intOf]; omega

end Go.Proofs.Qxb6001537a
