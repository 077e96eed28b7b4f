import Derived.Test.Qxb6001546aSmall
import Derived.OwnWalk
import Derived.Laws.OwnMore
import Derived.Maps.AppendAt
namespace Go.Proofs.Qxb6001546a
open Go.RowKit

theorem info9 : (Try.prog.info? 9).map (fun i => (i.zero, i.size, i.bytes)) = some (some (.string ByteArray.empty), 1, 16) := by kernel_rfl
theorem info68 : (Try.prog.info? 68).map (fun i => (i.zero, i.size, i.bytes)) = some (some (.agg #[.string ByteArray.empty, .string ByteArray.empty]), 2, 32) := by kernel_rfl

/-- The block of a cell that is there lies in the heap. -/
theorem lt_of_cell {w : World} {b o : Nat} {v : Value} (h : w.cell? ⟨b, o, none⟩ = some v) : b < w.heap.size := by
  apply Nat.lt_of_not_le
  intro hn
  have : w.heap[b]? = none := Array.getElem?_eq_none hn
  simp [World.cell?, this] at h

theorem two_new (w : World) (x y : Value) (t : TypeId) : ∀ j u, [x, y][j]? = some u → (w.alloc (.cells #[x, y] t)).cell? ((⟨w.heap.size, 0, none⟩ : Addr).add j) = some u := by
  intro j u hj
  match j, hj with
  | 0, hj => simp at hj; subst hj; simp [Addr.add]
  | 1, hj => simp at hj; subst hj; simp [Addr.add]

/-- 'xs = append(xs, t)', xs a []string of the call's own. -/
theorem app_str {w : World} {ops : Array Oper} {rest : List Oper} {o : Oper} {a : Act} {Q : Exit → Act → World → Prop} (hgd : o.guard = none) (s x : Operand)
    (ho : o.op = .call { callee := .builtin .append, args := #[s, x], argTypes := #[28, 28] }) (base : Nat) (v : Value) (n : Nat) (xs : List Value) (hs : a.eval s = v) (hown : w.ownsRow base 9 1 v n xs)
    (t : ByteArray) (hx : a.eval x = .slice (some ⟨w.heap.size, 0, none⟩) 1 1) (hn : n ≤ 2) (hbase : base ≤ w.heap.size)
    (h : ∀ v' w', w'.ownsRow base 9 1 v' (n + 1) (xs ++ [.string t]) → Below base w w' → wpList Try.prog ops Q rest (a.put o.dst v') w') :
    wpList Try.prog ops Q (o :: rest) a (w.alloc (.cells #[.string t] 9)) := by
  obtain ⟨i9, hi, hz0, hz1, hz2⟩ := info_parts info9
  have hb2 : base ≤ (w.alloc (.cells #[.string t] 9)).heap.size := by simp; omega
  refine wpList_append_own _ hgd s x 28 ho base 9 i9 (.string ByteArray.empty) 1 16 Try.underlying28 hi hz0 hz1 hz2 rfl (by decide) v n xs hs (hown.alloc _) ⟨w.heap.size, 0, none⟩ 1 1 [.string t] hx rfl (cell_one_new _ _ _) (by simp [Value.oneCell']) (by unfold maxLen; omega) (by omega) hb2 ?_
  intro v' w' h1 h2 _
  exact h v' w' h1 (((Below.refl _ _).alloc hbase _).grown h2 hb2 (fun k hk => (hown.lt k hk).1))

/-- The same for a slice of pairs of strings. -/
theorem app_pair {w : World} {ops : Array Oper} {rest : List Oper} {o : Oper} {a : Act} {Q : Exit → Act → World → Prop} (hgd : o.guard = none) (s x : Operand)
    (ho : o.op = .call { callee := .builtin .append, args := #[s, x], argTypes := #[65, 65] }) (base : Nat) (v : Value) (n : Nat) (xs : List Value) (hs : a.eval s = v) (hown : w.ownsRow base 68 2 v n xs)
    (t u : ByteArray) (hx : a.eval x = .slice (some ⟨w.heap.size, 0, none⟩) 1 1) (hn : n ≤ 2) (hbase : base ≤ w.heap.size)
    (h : ∀ v' w', w'.ownsRow base 68 2 v' (n + 1) (xs ++ [.string t, .string u]) → Below base w w' → wpList Try.prog ops Q rest (a.put o.dst v') w') :
    wpList Try.prog ops Q (o :: rest) a (w.alloc (.cells #[.string t, .string u] 68)) := by
  obtain ⟨i9, hi, hz0, hz1, hz2⟩ := info_parts info68
  have hb2 : base ≤ (w.alloc (.cells #[.string t, .string u] 68)).heap.size := by simp; omega
  refine wpList_append_own _ hgd s x 65 ho base 68 i9 (.agg #[.string ByteArray.empty, .string ByteArray.empty]) 2 32 Try.underlying65 hi hz0 hz1 hz2 rfl (by decide) v n xs hs (hown.alloc _) ⟨w.heap.size, 0, none⟩ 1 1 [.string t, .string u] hx rfl (two_new _ _ _ _) (by simp [Value.oneCell']) (by unfold maxLen; omega) (by omega) hb2 ?_
  intro v' w' h1 h2 _
  exact h v' w' h1 (((Below.refl _ _).alloc hbase _).grown h2 hb2 (fun k hk => (hown.lt k hk).1))

theorem cons_yy (O C R : Nat) (cn rn : ByteArray) (w : World) (h6 : w.cell? ⟨O, 8, none⟩ = some (.pointer (some ⟨C, 0, none⟩))) (h7 : w.cell? ⟨O, 9, none⟩ = some (.pointer (some ⟨R, 0, none⟩)))
    (hc : w.cell? ⟨C, 0, none⟩ = some (.string cn)) (hr : w.cell? ⟨R, 0, none⟩ = some (.string rn)) :
    Calls Try.prog 19 #[.pointer (some ⟨O, 0, none⟩)] w fun e w' => ∃ v, e = .returned v ∧ w'.ownsRow w.heap.size 9 1 v 2 [.string cn, .string rn] ∧ Below w.heap.size w w' := by
  have lO := lt_of_cell h6
  have lR := lt_of_cell hr
  go_enter Try.func19, Try.ntmps19
  go_wp2_with (first | (at_builtin; refine app_str rfl (.tmp 9) (.tmp 17) rfl w.heap.size _ 0 [] rfl (World.ownsRow_nil _ _ _ _) _ rfl (by omega) (Nat.le_refl _) ?_; intro v1 w1 hown1 hb1; have h72 := (hb1.cell (p := ⟨O, 9, none⟩) lO).trans h7; have hr2 := (hb1.cell (p := ⟨R, 0, none⟩) lR).trans hr; have hs1 := hb1.size) | (at_builtin; refine app_str rfl (.tmp 24) (.tmp 32) rfl w.heap.size _ 1 [.string cn] rfl hown1 _ rfl (by omega) hs1 ?_; intro v2 w2 hown2 hb2))
  go_ret
  exact ⟨_, rfl, hown2, hb1.trans hb2⟩

theorem cons_yn (O C : Nat) (cn : ByteArray) (w : World) (h6 : w.cell? ⟨O, 8, none⟩ = some (.pointer (some ⟨C, 0, none⟩))) (h7 : w.cell? ⟨O, 9, none⟩ = some (.pointer none))
    (hc : w.cell? ⟨C, 0, none⟩ = some (.string cn)) :
    Calls Try.prog 19 #[.pointer (some ⟨O, 0, none⟩)] w fun e w' => ∃ v, e = .returned v ∧ w'.ownsRow w.heap.size 9 1 v 1 [.string cn] ∧ Below w.heap.size w w' := by
  have lO := lt_of_cell h6
  go_enter Try.func19, Try.ntmps19
  go_wp2_with (at_builtin; refine app_str rfl (.tmp 9) (.tmp 17) rfl w.heap.size _ 0 [] rfl (World.ownsRow_nil _ _ _ _) _ rfl (by omega) (Nat.le_refl _) ?_; intro v1 w1 hown1 hb1; have h72 := (hb1.cell (p := ⟨O, 9, none⟩) lO).trans h7)
  go_ret
  exact ⟨_, rfl, hown1, hb1⟩

theorem cons_ny (O R : Nat) (rn : ByteArray) (w : World) (h6 : w.cell? ⟨O, 8, none⟩ = some (.pointer none)) (h7 : w.cell? ⟨O, 9, none⟩ = some (.pointer (some ⟨R, 0, none⟩)))
    (hr : w.cell? ⟨R, 0, none⟩ = some (.string rn)) :
    Calls Try.prog 19 #[.pointer (some ⟨O, 0, none⟩)] w fun e w' => ∃ v, e = .returned v ∧ w'.ownsRow w.heap.size 9 1 v 1 [.string rn] ∧ Below w.heap.size w w' := by
  go_enter Try.func19, Try.ntmps19
  go_wp2_with (at_builtin; refine app_str rfl (.tmp 24) (.tmp 32) rfl w.heap.size _ 0 [] rfl (World.ownsRow_nil _ _ _ _) _ rfl (by omega) (Nat.le_refl _) ?_; intro v1 w1 hown1 hb1)
  go_ret
  exact ⟨_, rfl, hown1, hb1⟩

theorem cons_nn (O : Nat) (w : World) (h6 : w.cell? ⟨O, 8, none⟩ = some (.pointer none)) (h7 : w.cell? ⟨O, 9, none⟩ = some (.pointer none)) :
    Calls Try.prog 19 #[.pointer (some ⟨O, 0, none⟩)] w fun e w' => ∃ v, e = .returned v ∧ w'.ownsRow w.heap.size 9 1 v 0 [] ∧ Below w.heap.size w w' := by
  go_enter Try.func19, Try.ntmps19
  go_wp2
  go_ret
  exact ⟨_, rfl, World.ownsRow_nil _ _ _ _, Below.refl _ _⟩
end Go.Proofs.Qxb6001546a
