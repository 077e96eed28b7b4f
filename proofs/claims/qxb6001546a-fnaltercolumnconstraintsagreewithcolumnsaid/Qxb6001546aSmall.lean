import Derived.Test.Qxb6001546aRows
import Derived.WalkKit
import Derived.ProofKit
import Derived.OpenShut
import Derived.WalkSpells
import Derived.WalkLawsBesides
import Derived.BigQuiet
import Derived.Deep.QuietTactic
import Derived.Deep.Draws
namespace Go.Proofs.Qxb6001546a
open Go.RowKit

theorem ret_int {k : IntKind} {a b : Int} (h : a = b) : Ending.returned (.int k a) = .returned (.int k b) := by rw [h]
theorem drewN_two {w wr : World} (h : ∃ n, wr = w.drewN n) (m : Nat) : ∃ n, wr.drewN m = w.drewN n := by
  obtain ⟨n, rfl⟩ := h
  exact ⟨n + m, by simp [World.drewN, Nat.add_assoc]⟩

theorem addLen_any (n : Int) (s : ByteArray) (w : World) (hs : s.size ≤ 1048576) (h0 : 0 ≤ n) (h1 : n ≤ 1048576) :
    Calls Try.prog 11 #[.int .i64 n, .string s] w fun e w' => e = .returned (.int .i64 (n + s.size)) ∧ w = w' := by
  go_enter Try.func11, Try.ntmps11
  go_wp2
  go_ret
  exact ⟨rfl, rfl⟩

theorem bytes_small (a b c d e f g : ByteArray) (p q : Bool) (w : World) (h : a.size + b.size + c.size + d.size + e.size + f.size + g.size ≤ 1048576) :
    Calls Try.prog 10 #[.string a, .string b, .bool p, .string c, .string d, .bool q, .string e, .string f, .string g] w fun e w' => e = .returned (.bool true) ∧ w = w' := by
  go_enter Try.func10, Try.ntmps10
  go_wp2
  go_ret
  exact ⟨rfl, rfl⟩

theorem bytes_big (a b c d e f g : ByteArray) (p q : Bool) (w : World) (h : 1048576 < a.size + b.size + c.size + d.size + e.size + f.size + g.size) :
    Calls Try.prog 10 #[.string a, .string b, .bool p, .string c, .string d, .bool q, .string e, .string f, .string g] w fun e w' => e = .returned (.bool false) ∧ w = w' := by
  go_enter Try.func10, Try.ntmps10
  go_wp2
  all_goals
    go_ret
    exact ⟨rfl, rfl⟩

/-- A slice of strings reads as xs. -/
def RowS (w : World) (ao : Option Addr) (xs : List ByteArray) : Prop :=
  ∀ i (h : i < xs.length), ∃ g, ao = some ⟨g, 0, none⟩ ∧ w.cell? ⟨g, i, none⟩ = some (.string xs[i])

theorem RowS.block {w : World} {ao : Option Addr} {xs : List ByteArray} (h : RowS w ao xs) (h0 : 0 < xs.length) : ∃ g, ao = some ⟨g, 0, none⟩ ∧ ∀ i (hi : i < xs.length), w.cell? ⟨g, i, none⟩ = some (.string xs[i]) := by
  obtain ⟨g, hg, _⟩ := h 0 h0
  refine ⟨g, hg, fun i hi => ?_⟩
  obtain ⟨g2, hg2, hc⟩ := h i hi
  rw [hg] at hg2
  injection hg2 with e
  injection e with e1
  subst e1
  exact hc

theorem eq_any (ao bo : Option Addr) (ca cb n : Nat) (xs : List ByteArray) (w : World) (hn : xs.length = n) (h2 : n ≤ 2) (ha : RowS w ao xs) (hb : RowS w bo xs) :
    Calls Try.prog 14 #[.slice ao n ca, .slice bo n cb] w fun e w' => e = .returned (.bool true) ∧ ∃ m, w' = w.drewN m := by
  by_cases h0 : n = 0
  · subst h0
    go_enter Try.func14, Try.ntmps14
    go_wp2
    refine wp_loop_rounds 1 ?_
    rw [rounds_succ]
    go_wp2
    go_ret
    exact ⟨rfl, 0, rfl⟩
  · obtain ⟨g, rfl, hga⟩ := ha.block (by omega)
    obtain ⟨g2, rfl, hgb⟩ := hb.block (by omega)
    have Ha : Hid (∀ i (hi : i < xs.length), w.cell? ⟨g, i, none⟩ = some (.string xs[i])) := hga
    have Hb : Hid (∀ i (hi : i < xs.length), w.cell? ⟨g2, i, none⟩ = some (.string xs[i])) := hgb
    clear hga hgb ha hb
    have Hn : Hid (xs.length = n) := hn
    clear hn
    go_enter Try.func14, Try.ntmps14
    go_wp2
    go_loopw [5] (fun i wr => ∃ k : Nat, k ≤ n ∧ i = .int .i64 k ∧ ∃ m, wr = w.drewN m) (fun i _ => n - (intOf i).toNat)
    case atStart => exact ⟨0, by omega, rfl, 0, rfl⟩
    case round =>
      obtain ⟨k, hk, rfl, m, rfl⟩ := hrel
      by_cases hlt : k < n
      · obtain ⟨s, hs1, hs2⟩ : ∃ s : ByteArray, w.cell? ⟨g, k, none⟩ = some (.string s) ∧ w.cell? ⟨g2, k, none⟩ = some (.string s) := ⟨_, Ha.out k (by rw [Hn.out]; exact hlt), Hb.out k (by rw [Hn.out]; exact hlt)⟩
        have hx : (k : Int) < (n : Int) := by omega
        go_wp2
        go_quiet (fail)
        go_wp2
        go_roundw
        case rel => exact ⟨k + 1, by omega, by go_num, _, rfl⟩
        case measure => simp [intOf]; omega
      · go_wp2
        go_ret
        exact ⟨rfl, _, rfl⟩

theorem all_any (ao : Option Addr) (ca n : Nat) (t : ByteArray) (w : World) (h2 : n ≤ 2) (ha : RowS w ao (List.replicate n t)) :
    Calls Try.prog 15 #[.slice ao n ca, .string t] w fun e w' => e = .returned (.bool true) ∧ w = w' := by
  by_cases h0 : n = 0
  · subst h0
    go_enter Try.func15, Try.ntmps15
    go_wp2
    refine wp_loop_rounds 1 ?_
    rw [rounds_succ]
    go_wp2
    go_ret
    exact ⟨rfl, rfl⟩
  · obtain ⟨g, rfl, hga⟩ := ha.block (by simp; omega)
    have Ha : Hid (∀ i, i < n → w.cell? ⟨g, i, none⟩ = some (.string t)) := fun i hi => by
      have := hga i (by simpa using hi)
      rw [this]
      simp
    clear hga ha
    go_enter Try.func15, Try.ntmps15
    go_wp2
    go_loop [5] (fun i => ∃ k : Nat, k ≤ n ∧ i = .int .i64 k) (fun i => n - (intOf i).toNat)
    case atStart => exact ⟨0, by omega, rfl⟩
    case round =>
      obtain ⟨k, hk, rfl⟩ := hrel
      by_cases hlt : k < n
      · have hs1 := Ha.out k hlt
        go_wp2
        go_round
        case rel => exact ⟨k + 1, by omega, by go_num⟩
        case measure => simp [intOf]; omega
      · go_wp2
        go_ret
        exact ⟨rfl, rfl⟩
end Go.Proofs.Qxb6001546a
