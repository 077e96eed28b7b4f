import Derived.Test.Qxb6001546aCols
import Derived.Handy
namespace Go.Proofs.Qxb6001546a
open Go.RowKit

theorem RowS.drewN {w : World} {ao : Option Addr} {xs : List ByteArray} (h : RowS w ao xs) (m : Nat) : RowS (w.drewN m) ao xs := h

set_option maxHeartbeats 1000000 in
theorem main_nn (a b c d e f g : ByteArray) (w : World) (h : a.size + b.size + c.size + d.size + e.size + f.size + g.size ≤ 1048576) :
    Calls Try.prog 4 #[.string a, .string b, .bool false, .string c, .string d, .bool false, .string e, .string f, .string g] w fun e w' => e = .returned (.bool true) ∧ Below w.heap.size w w' := by
  go_enter Try.func4, Try.ntmps4
  go_wp2_with (first | (go_at_call 10; refine (bytes_small _ _ _ _ _ _ _ _ _ _ h).mono ?_; rintro e w' ⟨rfl, rfl⟩) | (go_at_call 11; refine (addLen_any _ _ _ (by omega) (by omega) (by omega)).mono ?_; rintro e w' ⟨rfl, rfl⟩) | (go_at_call 12; fail))
  refine (alter_any _ 0 [] _ rfl (cons_nn w.heap.size   _ ?_ ?_)).mono ?_
  · go_cell
  · go_cell
  rintro e w1 ⟨ao, ca, rfl, hp, hb1⟩
  have HP : Hid (RowS w1 ao []) := hp
  clear hp
  have f7 : w1.cell? ⟨w.heap.size + 1, 7, none⟩ = some (.pointer none) := (hb1.cell (p := ⟨w.heap.size + 1, 7, none⟩) (by go_size)).trans (by go_cell)
  have f8 : w1.cell? ⟨w.heap.size + 1, 8, none⟩ = some (.pointer none) := (hb1.cell (p := ⟨w.heap.size + 1, 8, none⟩) (by go_size)).trans (by go_cell)
  go_wp2_with (first | (go_at_call 13; refine (cols_any _ 0 _ [] _ rfl (by omega) (named_nn (w.heap.size + 1)  a  _ f7 f8 )).mono ?_; rintro e w2 ⟨bo, co, cb, cc, rfl, hp1, hp2, hb2⟩; have HP1 : Hid (RowS w2 bo (List.replicate 0 a)) := hp1; have HP2 : Hid (RowS w2 co []) := hp2; clear hp1 hp2) | (go_at_call 14; refine (eq_any _ _ _ _ 0 [] _ rfl (by omega) (HP.out.later hb2) HP2.out).mono ?_; rintro e w3 ⟨rfl, m, rfl⟩) | (go_at_call 15; refine (all_any _ _ 0 _ _ (by omega) (HP1.out.drewN m)).mono ?_; rintro e w4 ⟨rfl, rfl⟩))
  go_ret
  have hz := hb1.size
  simp at hz
  refine ⟨rfl, below_drewN (Below.trans (Below.trans ?_ (hb1.mono ?_)) (hb2.mono ?_)) _⟩
  · go_grown
  · go_size
  · omega

set_option maxHeartbeats 1000000 in
theorem main_yn (a b c d e f g : ByteArray) (w : World) (h : a.size + b.size + c.size + d.size + e.size + f.size + g.size ≤ 1048576) :
    Calls Try.prog 4 #[.string a, .string b, .bool true, .string c, .string d, .bool false, .string e, .string f, .string g] w fun e w' => e = .returned (.bool true) ∧ Below w.heap.size w w' := by
  go_enter Try.func4, Try.ntmps4
  go_wp2_with (first | (go_at_call 10; refine (bytes_small _ _ _ _ _ _ _ _ _ _ h).mono ?_; rintro e w' ⟨rfl, rfl⟩) | (go_at_call 11; refine (addLen_any _ _ _ (by omega) (by omega) (by omega)).mono ?_; rintro e w' ⟨rfl, rfl⟩) | (go_at_call 12; fail))
  refine (alter_any _ 1 [c] _ rfl (cons_yn w.heap.size (w.heap.size + 2) c _ ?_ ?_ ?_)).mono ?_
  · go_cell
  · go_cell
  · go_cell
  rintro e w1 ⟨ao, ca, rfl, hp, hb1⟩
  have HP : Hid (RowS w1 ao [c]) := hp
  clear hp
  have f7 : w1.cell? ⟨w.heap.size + 1, 7, none⟩ = some (.pointer (some ⟨w.heap.size + 3, 0, none⟩)) := (hb1.cell (p := ⟨w.heap.size + 1, 7, none⟩) (by go_size)).trans (by go_cell)
  have f8 : w1.cell? ⟨w.heap.size + 1, 8, none⟩ = some (.pointer none) := (hb1.cell (p := ⟨w.heap.size + 1, 8, none⟩) (by go_size)).trans (by go_cell)
  have g3 : w1.cell? ⟨w.heap.size + 3, 0, none⟩ = some (.string c) := (hb1.cell (p := ⟨w.heap.size + 3, 0, none⟩) (by go_size)).trans (by go_cell)
  go_wp2_with (first | (go_at_call 13; refine (cols_any _ 1 _ [c] _ rfl (by omega) (named_yn (w.heap.size + 1) (w.heap.size + 3) a c _ f7 f8 g3)).mono ?_; rintro e w2 ⟨bo, co, cb, cc, rfl, hp1, hp2, hb2⟩; have HP1 : Hid (RowS w2 bo (List.replicate 1 a)) := hp1; have HP2 : Hid (RowS w2 co [c]) := hp2; clear hp1 hp2) | (go_at_call 14; refine (eq_any _ _ _ _ 1 [c] _ rfl (by omega) (HP.out.later hb2) HP2.out).mono ?_; rintro e w3 ⟨rfl, m, rfl⟩) | (go_at_call 15; refine (all_any _ _ 1 _ _ (by omega) (HP1.out.drewN m)).mono ?_; rintro e w4 ⟨rfl, rfl⟩))
  go_ret
  have hz := hb1.size
  simp at hz
  refine ⟨rfl, below_drewN (Below.trans (Below.trans ?_ (hb1.mono ?_)) (hb2.mono ?_)) _⟩
  · go_grown
  · go_size
  · omega

set_option maxHeartbeats 1000000 in
theorem main_ny (a b c d e f g : ByteArray) (w : World) (h : a.size + b.size + c.size + d.size + e.size + f.size + g.size ≤ 1048576) :
    Calls Try.prog 4 #[.string a, .string b, .bool false, .string c, .string d, .bool true, .string e, .string f, .string g] w fun e w' => e = .returned (.bool true) ∧ Below w.heap.size w w' := by
  go_enter Try.func4, Try.ntmps4
  go_wp2_with (first | (go_at_call 10; refine (bytes_small _ _ _ _ _ _ _ _ _ _ h).mono ?_; rintro e w' ⟨rfl, rfl⟩) | (go_at_call 11; refine (addLen_any _ _ _ (by omega) (by omega) (by omega)).mono ?_; rintro e w' ⟨rfl, rfl⟩) | (go_at_call 12; fail))
  refine (alter_any _ 1 [e] _ rfl (cons_ny w.heap.size (w.heap.size + 2) e _ ?_ ?_ ?_)).mono ?_
  · go_cell
  · go_cell
  · go_cell
  rintro e w1 ⟨ao, ca, rfl, hp, hb1⟩
  have HP : Hid (RowS w1 ao [e]) := hp
  clear hp
  have f7 : w1.cell? ⟨w.heap.size + 1, 7, none⟩ = some (.pointer none) := (hb1.cell (p := ⟨w.heap.size + 1, 7, none⟩) (by go_size)).trans (by go_cell)
  have f8 : w1.cell? ⟨w.heap.size + 1, 8, none⟩ = some (.pointer (some ⟨w.heap.size + 3, 0, none⟩)) := (hb1.cell (p := ⟨w.heap.size + 1, 8, none⟩) (by go_size)).trans (by go_cell)
  have g3 : w1.cell? ⟨w.heap.size + 3, 0, none⟩ = some (.string e) := (hb1.cell (p := ⟨w.heap.size + 3, 0, none⟩) (by go_size)).trans (by go_cell)
  go_wp2_with (first | (go_at_call 13; refine (cols_any _ 1 _ [e] _ rfl (by omega) (named_ny (w.heap.size + 1) (w.heap.size + 3) a e _ f7 f8 g3)).mono ?_; rintro e w2 ⟨bo, co, cb, cc, rfl, hp1, hp2, hb2⟩; have HP1 : Hid (RowS w2 bo (List.replicate 1 a)) := hp1; have HP2 : Hid (RowS w2 co [e]) := hp2; clear hp1 hp2) | (go_at_call 14; refine (eq_any _ _ _ _ 1 [e] _ rfl (by omega) (HP.out.later hb2) HP2.out).mono ?_; rintro e w3 ⟨rfl, m, rfl⟩) | (go_at_call 15; refine (all_any _ _ 1 _ _ (by omega) (HP1.out.drewN m)).mono ?_; rintro e w4 ⟨rfl, rfl⟩))
  go_ret
  have hz := hb1.size
  simp at hz
  refine ⟨rfl, below_drewN (Below.trans (Below.trans ?_ (hb1.mono ?_)) (hb2.mono ?_)) _⟩
  · go_grown
  · go_size
  · omega

set_option maxHeartbeats 1000000 in
theorem main_yy (a b c d e f g : ByteArray) (w : World) (h : a.size + b.size + c.size + d.size + e.size + f.size + g.size ≤ 1048576) :
    Calls Try.prog 4 #[.string a, .string b, .bool true, .string c, .string d, .bool true, .string e, .string f, .string g] w fun e w' => e = .returned (.bool true) ∧ Below w.heap.size w w' := by
  go_enter Try.func4, Try.ntmps4
  go_wp2_with (first | (go_at_call 10; refine (bytes_small _ _ _ _ _ _ _ _ _ _ h).mono ?_; rintro e w' ⟨rfl, rfl⟩) | (go_at_call 11; refine (addLen_any _ _ _ (by omega) (by omega) (by omega)).mono ?_; rintro e w' ⟨rfl, rfl⟩) | (go_at_call 12; fail))
  refine (alter_any _ 2 [c, e] _ rfl (cons_yy w.heap.size (w.heap.size + 2) (w.heap.size + 4) c e _ ?_ ?_ ?_ ?_)).mono ?_
  · go_cell
  · go_cell
  · go_cell
  · go_cell
  rintro e w1 ⟨ao, ca, rfl, hp, hb1⟩
  have HP : Hid (RowS w1 ao [c, e]) := hp
  clear hp
  have f7 : w1.cell? ⟨w.heap.size + 1, 7, none⟩ = some (.pointer (some ⟨w.heap.size + 3, 0, none⟩)) := (hb1.cell (p := ⟨w.heap.size + 1, 7, none⟩) (by go_size)).trans (by go_cell)
  have f8 : w1.cell? ⟨w.heap.size + 1, 8, none⟩ = some (.pointer (some ⟨w.heap.size + 5, 0, none⟩)) := (hb1.cell (p := ⟨w.heap.size + 1, 8, none⟩) (by go_size)).trans (by go_cell)
  have g3 : w1.cell? ⟨w.heap.size + 3, 0, none⟩ = some (.string c) := (hb1.cell (p := ⟨w.heap.size + 3, 0, none⟩) (by go_size)).trans (by go_cell)
  have g5 : w1.cell? ⟨w.heap.size + 5, 0, none⟩ = some (.string e) := (hb1.cell (p := ⟨w.heap.size + 5, 0, none⟩) (by go_size)).trans (by go_cell)
  go_wp2_with (first | (go_at_call 13; refine (cols_any _ 2 _ [c, e] _ rfl (by omega) (named_yy (w.heap.size + 1) (w.heap.size + 3) (w.heap.size + 5) a c e _ f7 f8 g3 g5)).mono ?_; rintro e w2 ⟨bo, co, cb, cc, rfl, hp1, hp2, hb2⟩; have HP1 : Hid (RowS w2 bo (List.replicate 2 a)) := hp1; have HP2 : Hid (RowS w2 co [c, e]) := hp2; clear hp1 hp2) | (go_at_call 14; refine (eq_any _ _ _ _ 2 [c, e] _ rfl (by omega) (HP.out.later hb2) HP2.out).mono ?_; rintro e w3 ⟨rfl, m, rfl⟩) | (go_at_call 15; refine (all_any _ _ 2 _ _ (by omega) (HP1.out.drewN m)).mono ?_; rintro e w4 ⟨rfl, rfl⟩))
  go_ret
  have hz := hb1.size
  simp at hz
  refine ⟨rfl, below_drewN (Below.trans (Below.trans ?_ (hb1.mono ?_)) (hb2.mono ?_)) _⟩
  · go_grown
  · go_size
  · omega

theorem main_any (a b c d e f g : ByteArray) (p q : Bool) (w : World) :
    Calls Try.prog 4 #[.string a, .string b, .bool p, .string c, .string d, .bool q, .string e, .string f, .string g] w fun e w' => e = .returned (.bool true) ∧ Below w.heap.size w w' := by
  by_cases h : a.size + b.size + c.size + d.size + e.size + f.size + g.size ≤ 1048576
  · cases p <;> cases q
    · exact main_nn a b c d e f g w h
    · exact main_ny a b c d e f g w h
    · exact main_yn a b c d e f g w h
    · exact main_yy a b c d e f g w h
  · have h' : 1048576 < a.size + b.size + c.size + d.size + e.size + f.size + g.size := by omega
    go_enter Try.func4, Try.ntmps4
    go_wp2_with (go_at_call 10; refine (bytes_big _ _ _ _ _ _ _ _ _ _ h').mono ?_; rintro e w' ⟨rfl, rfl⟩)
    go_ret
    exact ⟨rfl, Below.refl _ _⟩
end Go.Proofs.Qxb6001546a
