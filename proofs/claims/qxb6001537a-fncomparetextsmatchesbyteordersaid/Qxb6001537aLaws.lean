import Derived.Test.Qxb6001537aTexts
namespace Go.Proofs.Qxb6001537a
open Go.RowKit Go.PlainAid

theorem zz_out (a b : ByteArray) (k : Int) (w : World) (hk : 1000000 < k) :
    Calls Try.prog 7 #[.string a, .string b, .int .i64 k] w fun e w' => e = .returned (.tuple #[.int .i64 0, .int .i64 k]) ∧ Below w.heap.size w w' := by
  have hc : (w.alloc (.cells #[.int .i64 k] 26)).cell? ⟨w.heap.size, 0, none⟩ = some (.int .i64 k) := by simp
  go_enter Try.func7, Try.ntmps7
  go_wp2_with (go_at_call 12; refine (texts_out _ _ _ _ k _ ?_ hk).mono ?_; exact hc; rintro e w' ⟨rfl, rfl⟩)
  go_quiet (fail)
  go_wp2
  go_ret2
  exact ⟨rfl, below_drewN ((Below.refl _ _).alloc (Nat.le_refl _) _) _⟩

theorem zz_any (a b : ByteArray) (k : Int) (w : World) (hsz : a.size + b.size ≤ 1048576) (hk : k ≤ 1000000) (hk2 : -9223372036854775808 ≤ k) :
    Calls Try.prog 7 #[.string a, .string b, .int .i64 k] w fun e w' => e = .returned (.tuple #[.int .i64 (cmpS a b), .int .i64 (k + ((lcpS a b / 64 : Nat) : Int))]) ∧ Below w.heap.size w w' := by
  have hc : (w.alloc (.cells #[.int .i64 k] 26)).cell? ⟨w.heap.size, 0, none⟩ = some (.int .i64 k) := by simp
  have hf : (w.alloc (.cells #[.int .i64 k] 26)).frozen? ⟨w.heap.size, 0, none⟩ = false := by simp
  have hs : ((w.alloc (.cells #[.int .i64 k] 26)).setCell ⟨w.heap.size, 0, none⟩ (.int .i64 (k + ((lcpS a b / 64 : Nat) : Int)))).cell? ⟨w.heap.size, 0, none⟩ = some (.int .i64 (k + ((lcpS a b / 64 : Nat) : Int))) := World.cell?_setCell_same _ _ _ hc
  go_enter Try.func7, Try.ntmps7
  go_wp2_with (go_at_call 12; refine (texts_any _ _ _ _ k _ hsz ?_ ?_ hk hk2).mono ?_; exact hc; exact hf; rintro e w' ⟨rfl, m, rfl⟩)
  go_quiet (fail)
  go_wp2
  go_ret2
  exact ⟨rfl, below_drewN (below_drewN ((Below.refl _ _).alloc (Nat.le_refl _) _) _) _⟩

theorem bytes6_small (a b : ByteArray) (k : Int) (w : World) (hsz : a.size + b.size ≤ 1048576) :
    Calls Try.prog 6 #[.string a, .string b, .int .i64 k] w fun e w' => e = .returned (.bool true) ∧ w = w' := by
  go_enter Try.func6, Try.ntmps6
  go_wp2
  go_ret
  exact ⟨rfl, rfl⟩
theorem bytes6_big (a b : ByteArray) (k : Int) (w : World) (hsz : 1048576 < a.size + b.size) :
    Calls Try.prog 6 #[.string a, .string b, .int .i64 k] w fun e w' => e = .returned (.bool false) ∧ w = w' := by
  by_cases ha : a.size ≤ 1048576
  · by_cases hb : b.size ≤ 1048576
    all_goals
      go_enter Try.func6, Try.ntmps6
      go_wp2
      go_ret
      exact ⟨rfl, rfl⟩
  · go_enter Try.func6, Try.ntmps6
    go_wp2
    go_ret
    exact ⟨rfl, rfl⟩
theorem bytes9_small (a b : ByteArray) (k : Int) (w : World) (hsz : a.size + b.size ≤ 1048576) :
    Calls Try.prog 9 #[.string a, .string b, .int .i64 k] w fun e w' => e = .returned (.bool true) ∧ w = w' := by
  go_enter Try.func9, Try.ntmps9
  go_wp2
  go_ret
  exact ⟨rfl, rfl⟩
theorem bytes9_big (a b : ByteArray) (k : Int) (w : World) (hsz : 1048576 < a.size + b.size) :
    Calls Try.prog 9 #[.string a, .string b, .int .i64 k] w fun e w' => e = .returned (.bool false) ∧ w = w' := by
  by_cases ha : a.size ≤ 1048576
  · by_cases hb : b.size ≤ 1048576
    all_goals
      go_enter Try.func9, Try.ntmps9
      go_wp2
      go_ret
      exact ⟨rfl, rfl⟩
  · go_enter Try.func9, Try.ntmps9
    go_wp2
    go_ret
    exact ⟨rfl, rfl⟩

theorem order_law (a b : ByteArray) (k : Int) (w : World) (hk2 : -9223372036854775808 ≤ k) :
    Calls Try.prog 3 #[.string a, .string b, .int .i64 k] w fun e w' => e = .returned (.bool true) ∧ Below w.heap.size w w' := by
  by_cases hsz : a.size + b.size ≤ 1048576
  · by_cases hk : k ≤ 1000000
    · go_enter Try.func3, Try.ntmps3
      go_wp2_with (first | (go_at_call 6; refine (bytes6_small _ _ _ _ hsz).mono ?_; rintro e w' ⟨rfl, rfl⟩) | (go_at_call 7; refine (zz_any _ _ _ _ hsz hk hk2).mono ?_; rintro e w1 ⟨rfl, hb⟩) | (go_at_call 8; refine (order_any _ _ _ hsz).mono ?_; rintro e w2 ⟨rfl, m, rfl⟩))
      go_ret
      exact ⟨rfl, below_drewN hb _⟩
    · have hk' : 1000000 < k := by omega
      go_enter Try.func3, Try.ntmps3
      go_wp2_with (first | (go_at_call 6; refine (bytes6_small _ _ _ _ hsz).mono ?_; rintro e w' ⟨rfl, rfl⟩) | (go_at_call 7; refine (zz_out _ _ _ _ hk').mono ?_; rintro e w1 ⟨rfl, hb⟩))
      go_ret
      exact ⟨rfl, hb⟩
  · have hsz' : 1048576 < a.size + b.size := by omega
    go_enter Try.func3, Try.ntmps3
    go_wp2_with (go_at_call 6; refine (bytes6_big _ _ _ _ hsz').mono ?_; rintro e w' ⟨rfl, rfl⟩)
    go_ret
    exact ⟨rfl, Below.refl _ _⟩

theorem charge_law (a b : ByteArray) (k : Int) (w : World) (hk2 : -9223372036854775808 ≤ k) :
    Calls Try.prog 4 #[.string a, .string b, .int .i64 k] w fun e w' => e = .returned (.bool true) ∧ Below w.heap.size w w' := by
  by_cases hsz : a.size + b.size ≤ 1048576
  · by_cases hk : k ≤ 1000000
    · have hl := lcpS_le a b
      go_enter Try.func4, Try.ntmps4
      go_wp2_with (first | (go_at_call 9; refine (bytes9_small _ _ _ _ hsz).mono ?_; rintro e w' ⟨rfl, rfl⟩) | (go_at_call 7; refine (zz_any _ _ _ _ hsz hk hk2).mono ?_; rintro e w1 ⟨rfl, hb⟩) | (go_at_call 10; refine (prefix_any _ _ _ hsz).mono ?_; rintro e w2 ⟨rfl, m, rfl⟩))
      go_ret
      exact ⟨rfl, below_drewN hb _⟩
    · have hk' : 1000000 < k := by omega
      go_enter Try.func4, Try.ntmps4
      go_wp2_with (first | (go_at_call 9; refine (bytes9_small _ _ _ _ hsz).mono ?_; rintro e w' ⟨rfl, rfl⟩) | (go_at_call 7; refine (zz_out _ _ _ _ hk').mono ?_; rintro e w1 ⟨rfl, hb⟩))
      go_ret
      exact ⟨rfl, hb⟩
  · have hsz' : 1048576 < a.size + b.size := by omega
    go_enter Try.func4, Try.ntmps4
    go_wp2_with (go_at_call 9; refine (bytes9_big _ _ _ _ hsz').mono ?_; rintro e w' ⟨rfl, rfl⟩)
    go_ret
    exact ⟨rfl, Below.refl _ _⟩
end Go.Proofs.Qxb6001537a
