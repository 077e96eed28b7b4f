import Derived.Test.Qxb6001546aCons
namespace Go.Proofs.Qxb6001546a
open Go.RowKit

theorem named_yy (O C R : Nat) (t cn rn : ByteArray) (w : World) (h6 : w.cell? ⟨O, 7, none⟩ = some (.pointer (some ⟨C, 0, none⟩))) (h7 : w.cell? ⟨O, 8, none⟩ = some (.pointer (some ⟨R, 0, none⟩)))
    (hc : w.cell? ⟨C, 0, none⟩ = some (.string cn)) (hr : w.cell? ⟨R, 0, none⟩ = some (.string rn)) :
    Calls Try.prog 20 #[.pointer (some ⟨O, 0, none⟩), .string t] w fun e w' => ∃ v, e = .returned v ∧ w'.ownsRow w.heap.size 68 2 v 2 [.string t, .string cn, .string t, .string rn] ∧ Below w.heap.size w w' := by
  have lO := lt_of_cell h6
  have lR := lt_of_cell hr
  go_enter Try.func20, Try.ntmps20
  go_wp2_with (first | (at_builtin; refine app_pair rfl (.tmp 11) (.tmp 21) rfl w.heap.size _ 0 [] rfl (World.ownsRow_nil _ _ _ _) _ _ rfl (by omega) (Nat.le_refl _) ?_; intro v1 w1 hown1 hb1; have h72 := (hb1.cell (p := ⟨O, 8, none⟩) lO).trans h7; have hr2 := (hb1.cell (p := ⟨R, 0, none⟩) lR).trans hr; have hs1 := hb1.size) | (at_builtin; refine app_pair rfl (.tmp 28) (.tmp 38) rfl w.heap.size _ 1 [.string t, .string cn] rfl hown1 _ _ rfl (by omega) hs1 ?_; intro v2 w2 hown2 hb2))
  go_ret
  exact ⟨_, rfl, hown2, hb1.trans hb2⟩

theorem named_yn (O C : Nat) (t cn : ByteArray) (w : World) (h6 : w.cell? ⟨O, 7, none⟩ = some (.pointer (some ⟨C, 0, none⟩))) (h7 : w.cell? ⟨O, 8, none⟩ = some (.pointer none))
    (hc : w.cell? ⟨C, 0, none⟩ = some (.string cn)) :
    Calls Try.prog 20 #[.pointer (some ⟨O, 0, none⟩), .string t] w fun e w' => ∃ v, e = .returned v ∧ w'.ownsRow w.heap.size 68 2 v 1 [.string t, .string cn] ∧ Below w.heap.size w w' := by
  have lO := lt_of_cell h6
  go_enter Try.func20, Try.ntmps20
  go_wp2_with (at_builtin; refine app_pair rfl (.tmp 11) (.tmp 21) rfl w.heap.size _ 0 [] rfl (World.ownsRow_nil _ _ _ _) _ _ rfl (by omega) (Nat.le_refl _) ?_; intro v1 w1 hown1 hb1; have h72 := (hb1.cell (p := ⟨O, 8, none⟩) lO).trans h7)
  go_ret
  exact ⟨_, rfl, hown1, hb1⟩

theorem named_ny (O R : Nat) (t rn : ByteArray) (w : World) (h6 : w.cell? ⟨O, 7, none⟩ = some (.pointer none)) (h7 : w.cell? ⟨O, 8, none⟩ = some (.pointer (some ⟨R, 0, none⟩)))
    (hr : w.cell? ⟨R, 0, none⟩ = some (.string rn)) :
    Calls Try.prog 20 #[.pointer (some ⟨O, 0, none⟩), .string t] w fun e w' => ∃ v, e = .returned v ∧ w'.ownsRow w.heap.size 68 2 v 1 [.string t, .string rn] ∧ Below w.heap.size w w' := by
  go_enter Try.func20, Try.ntmps20
  go_wp2_with (at_builtin; refine app_pair rfl (.tmp 28) (.tmp 38) rfl w.heap.size _ 0 [] rfl (World.ownsRow_nil _ _ _ _) _ _ rfl (by omega) (Nat.le_refl _) ?_; intro v1 w1 hown1 hb1)
  go_ret
  exact ⟨_, rfl, hown1, hb1⟩

theorem named_nn (O : Nat) (t : ByteArray) (w : World) (h6 : w.cell? ⟨O, 7, none⟩ = some (.pointer none)) (h7 : w.cell? ⟨O, 8, none⟩ = some (.pointer none)) :
    Calls Try.prog 20 #[.pointer (some ⟨O, 0, none⟩), .string t] w fun e w' => ∃ v, e = .returned v ∧ w'.ownsRow w.heap.size 68 2 v 0 [] ∧ Below w.heap.size w w' := by
  go_enter Try.func20, Try.ntmps20
  go_wp2
  go_ret
  exact ⟨_, rfl, World.ownsRow_nil _ _ _ _, Below.refl _ _⟩

/-- What 'namedConstraints' leaves: a slice of the pairs (t, name). -/
def PairsS (w : World) (ao : Option Addr) (t : ByteArray) (ns : List ByteArray) : Prop :=
  ∀ i (h : i < ns.length), ∃ g, ao = some ⟨g, 0, none⟩ ∧ w.cell? ⟨g, i * 2, none⟩ = some (.string t) ∧ w.cell? ⟨g, i * 2 + 1, none⟩ = some (.string ns[i])

def cellsOf (t : ByteArray) (ns : List ByteArray) : List Value := ns.flatMap fun n => [.string t, .string n]

theorem cellsOf_at (t : ByteArray) : ∀ (ns : List ByteArray) (i : Nat) (h : i < ns.length), (cellsOf t ns)[i * 2]? = some (.string t) ∧ (cellsOf t ns)[i * 2 + 1]? = some (.string ns[i])
  | n :: ns, 0, _ => by simp [cellsOf]
  | n :: ns, i + 1, h => by
    have := cellsOf_at t ns i (by simpa using h)
    have e : cellsOf t (n :: ns) = .string t :: .string n :: cellsOf t ns := rfl
    rw [e, show (i + 1) * 2 = i * 2 + 1 + 1 by omega]
    simpa using this

theorem pairs_of_own {w : World} {B : Nat} {v : Value} {t : ByteArray} {ns : List ByteArray} (h : w.ownsRow B 68 2 v ns.length (cellsOf t ns)) :
    ∃ ao cap, v = .slice ao ns.length cap ∧ PairsS w ao t ns := by
  rcases h.2 with ⟨rfl, h0⟩ | ⟨g, cap, cur, rfl, _⟩
  · exact ⟨none, 0, by rw [h0], fun i hi => by omega⟩
  · refine ⟨_, _, rfl, fun i hi => ⟨g, rfl, ?_, ?_⟩⟩
    · rw [h.cellAt _ (by omega)]; exact (cellsOf_at t ns i hi).1
    · rw [h.cellAt _ (by omega)]; exact (cellsOf_at t ns i hi).2

theorem rows_of_own {w : World} {B : Nat} {v : Value} {ns : List ByteArray} (h : w.ownsRow B 9 1 v ns.length (ns.map Value.string)) :
    ∃ ao cap, v = .slice ao ns.length cap ∧ RowS w ao ns := by
  rcases h.2 with ⟨rfl, h0⟩ | ⟨g, cap, cur, rfl, _⟩
  · exact ⟨none, 0, by rw [h0], fun i hi => by omega⟩
  · refine ⟨_, _, rfl, fun i hi => ⟨g, rfl, ?_⟩⟩
    rw [h.cellAt _ (by omega)]
    simp [hi]

theorem RowS.later {w w' : World} {ao : Option Addr} {xs : List ByteArray} (h : RowS w ao xs) (hb : Below w.heap.size w w') : RowS w' ao xs := fun i hi => by
  obtain ⟨g, hg, hc⟩ := h i hi
  exact ⟨g, hg, (hb.cell (p := ⟨g, i, none⟩) (lt_of_cell hc)).trans hc⟩
end Go.Proofs.Qxb6001546a
