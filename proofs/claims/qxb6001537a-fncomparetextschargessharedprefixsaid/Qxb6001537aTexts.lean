import Derived.Test.Qxb6001537aWalks
namespace Go.Proofs.Qxb6001537a
open Go.RowKit Go.PlainAid

theorem world_end (w : World) (p : Addr) {x y : Int} (h : x = y) (i j : Nat) : ∃ m, ((w.drewN i).setCell p (.int .i64 x)).drewN j = (w.setCell p (.int .i64 y)).drewN m := by
  subst h
  refine ⟨i + j, ?_⟩
  have e : (w.drewN i).setCell p (.int .i64 x) = (w.setCell p (.int .i64 x)).drewN i := rfl
  rw [e, World.drewN_drewN]

/-- With steps run out nothing is read and nothing is taken. -/
theorem texts_out (a b : ByteArray) (p n : Nat) (k : Int) (w : World) (hc : w.cell? ⟨p, n, none⟩ = some (.int .i64 k)) (hk : 1000000 < k) :
    Calls Try.prog 12 #[.string a, .string b, .pointer (some ⟨p, n, none⟩)] w fun e w' => e = .returned (.int .i64 0) ∧ w = w' := by
  have hd : decide (1000000 < k) = true := decide_eq_true hk
  go_enter Try.func12, Try.ntmps12
  go_wp2_with (go_at_call 13; refine (exhausted_any _ _ k _ hc).mono ?_; rintro e w' ⟨rfl, rfl⟩)
  go_ret
  exact ⟨rfl, rfl⟩

theorem texts_any (a b : ByteArray) (p n : Nat) (k : Int) (w : World) (hsz : a.size + b.size ≤ 1048576) (hc : w.cell? ⟨p, n, none⟩ = some (.int .i64 k)) (hf : w.frozen? ⟨p, n, none⟩ = false) (hk : k ≤ 1000000) (hk2 : -9223372036854775808 ≤ k) :
    Calls Try.prog 12 #[.string a, .string b, .pointer (some ⟨p, n, none⟩)] w fun e w' => e = .returned (.int .i64 (cmpS a b)) ∧ ∃ m, w' = (w.setCell ⟨p, n, none⟩ (.int .i64 (k + ((lcpS a b / 64 : Nat) : Int)))).drewN m := by
  have hd : decide (1000000 < k) = false := decide_eq_false (by omega)
  go_enter Try.func12, Try.ntmps12
  go_wp2_with (go_at_call 13; refine (exhausted_any _ _ k _ hc).mono ?_; rintro e w' ⟨rfl, rfl⟩)
  go_loopw [7, 8] (fun sh en wr => ∃ q : Nat, 64 * q ≤ a.size ∧ 64 * q ≤ b.size ∧ sh = .int .i64 (64 * (q : Int)) ∧ en = .int .i64 (64 * (q : Int) + 64) ∧ Hid (64 * q ≤ lcpS a b) ∧ ∃ m, wr = w.drewN m) (fun sh _ _ => a.size - (intOf sh).toNat)
  case atStart => exact ⟨0, by omega, by omega, rfl, rfl, by show 64 * 0 ≤ _; omega, 0, rfl⟩
  case round =>
    obtain ⟨q, hqa, hqb, rfl, rfl, hq, m, rfl⟩ := hrel
    by_cases hin : 64 * q + 64 ≤ a.size ∧ 64 * q + 64 ≤ b.size
    · obtain ⟨hia, hib⟩ := hin
      have h1 : (64 * (q : Int) + 64).toNat = 64 * q + 64 := by omega
      have h2 : (64 * (q : Int)).toNat = 64 * q := by omega
      have h3 : (64 * (q : Int) + 64) ≤ (a.size : Int) := by omega
      have h4 : (64 * (q : Int) + 64) ≤ (b.size : Int) := by omega
      have h5 : 0 ≤ (64 * (q : Int)) := by omega
      have h6 : (64 * (q : Int)) ≤ 64 * (q : Int) + 64 := by omega
      cases he : ((a.extract (64 * q) (64 * q + 64)).toList == (b.extract (64 * q) (64 * q + 64)).toList)
      · have Hd : Hid (k + (q : Int) = k + ((lcpS a b / 64 : Nat) : Int)) := by
          have := lcpS_block_not he
          have := hq.out
          show _ = _
          omega
        have Hx : Hid (Lib.compareBytes (a.extract (64 * q) a.size).data.toList (b.extract (64 * q) b.size).data.toList = cmpS a b) := cmpS_extract hq.out
        have h7 : (64 * (q : Int)) ≤ (a.size : Int) := by omega
        have h8 : (64 * (q : Int)) ≤ (b.size : Int) := by omega
        go_wp2
        go_quiet (fail)
        go_wp2_with (go_at_call 14; refine (take_any _ _ k _ _ ?_ ?_ hk2 hk ?_ ?_).mono ?_; simp only [World.cell?_drewN]; exact hc; simp only [World.frozen?_drewN]; exact hf; omega; omega; rintro e w' ⟨rfl, rfl⟩)
        go_quiet ((go_at_call 15; exact Calls.quiet_of_same (compare_any _ _ _)))
        go_wp2
        go_ret
        exact ⟨ret_int Hx.out, world_end _ _ Hd.out _ _⟩
      · have Hs : Hid (64 * (q + 1) ≤ lcpS a b) := lcpS_block hq.out hia hib he
        go_wp2
        go_quiet (fail)
        go_wp2
        go_roundw
        case rel => exact ⟨q + 1, by omega, by omega, by go_num, by go_num, Hs, _, rfl⟩
        case measure => simp [intOf]; omega
    · have Hd : Hid (k + (q : Int) = k + ((lcpS a b / 64 : Nat) : Int)) := by
        have := lcpS_le a b
        have := hq.out
        show _ = _
        omega
      have Hx : Hid (Lib.compareBytes (a.extract (64 * q) a.size).data.toList (b.extract (64 * q) b.size).data.toList = cmpS a b) := cmpS_extract hq.out
      have h7 : (64 * (q : Int)) ≤ (a.size : Int) := by omega
      have h8 : (64 * (q : Int)) ≤ (b.size : Int) := by omega
      have h2 : (64 * (q : Int)).toNat = 64 * q := by omega
      by_cases hia : 64 * q + 64 ≤ a.size
      all_goals
        go_wp2_with (go_at_call 14; refine (take_any _ _ k _ _ ?_ ?_ hk2 hk ?_ ?_).mono ?_; simp only [World.cell?_drewN]; exact hc; simp only [World.frozen?_drewN]; exact hf; omega; omega; rintro e w' ⟨rfl, rfl⟩)
        go_quiet ((go_at_call 15; exact Calls.quiet_of_same (compare_any _ _ _)))
        go_wp2
        go_ret
        exact ⟨ret_int Hx.out, world_end _ _ Hd.out _ _⟩
end Go.Proofs.Qxb6001537a
