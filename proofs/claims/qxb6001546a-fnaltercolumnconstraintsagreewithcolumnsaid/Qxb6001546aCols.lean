import Derived.Test.Qxb6001546aNamed
namespace Go.Proofs.Qxb6001546a
open Go.RowKit

/-- 'make([]string, 0, n)'. -/
theorem make_str {w : World} {ops : Array Oper} {rest : List Oper} {o : Oper} {a : Act} {Q : Exit → Act → World → Prop} (hgd : o.guard = none) (l c : Operand)
    (ho : o.op = Op.makeSlice 28 l c) (base n : Nat) (hl : a.eval l = .int .i64 0) (hc : a.eval c = .int .i64 (n : Int)) (hn : n ≤ 2) (hbase : base ≤ w.heap.size)
    (h : ∀ w', w'.ownsRow base 9 1 (.slice (some ⟨w.heap.size, 0, none⟩) 0 n) 0 [] → w.grownBy w' none → wpList Try.prog ops Q rest (a.put o.dst (.slice (some ⟨w.heap.size, 0, none⟩) 0 n)) w') :
    wpList Try.prog ops Q (o :: rest) a w := by
  obtain ⟨i9, hi, hz0, hz1, hz2⟩ := info_parts info9
  exact wpList_make_own w hgd l c 28 ho base 9 i9 _ 1 Try.underlying28 hi hz0 hz1 .i64 .i64 n n hl hc rfl (by rw [hz2]; omega) (by unfold maxLen; omega) hbase h

/-- 'xs = append(xs, t)' within the capacity. -/
theorem app_fit {w : World} {ops : Array Oper} {rest : List Oper} {o : Oper} {a : Act} {Q : Exit → Act → World → Prop} (hgd : o.guard = none) (s x : Operand)
    (ho : o.op = .call { callee := .builtin .append, args := #[s, x], argTypes := #[28, 28] }) (base g k cap : Nat) (xs : List Value) (hs : a.eval s = .slice (some ⟨g, 0, none⟩) k cap)
    (hown : w.ownsRow base 9 1 (.slice (some ⟨g, 0, none⟩) k cap) k xs) (t : ByteArray) (hx : a.eval x = .slice (some ⟨w.heap.size, 0, none⟩) 1 1) (hk : k + 1 ≤ cap)
    (h : ∀ w', w'.ownsRow base 9 1 (.slice (some ⟨g, 0, none⟩) (k + 1) cap) (k + 1) (xs ++ [.string t]) → (w.alloc (.cells #[.string t] 9)).grownBy w' (some g) → wpList Try.prog ops Q rest (a.put o.dst (.slice (some ⟨g, 0, none⟩) (k + 1) cap)) w') :
    wpList Try.prog ops Q (o :: rest) a (w.alloc (.cells #[.string t] 9)) := by
  obtain ⟨i9, hi, hz0, hz1, hz2⟩ := info_parts info9
  exact wpList_append_fits _ hgd s x 28 ho base 9 i9 1 Try.underlying28 hi hz1 g k cap xs hs (hown.alloc _) ⟨w.heap.size, 0, none⟩ 1 1 [.string t] hx rfl (cell_one_new _ _ _) (by simp [Value.oneCell']) hk h

/-- At the head of round k: what has been gathered; below T nothing has turned. -/
structure Gath (T N n : Nat) (t : ByteArray) (ns : List ByteArray) (w1 wr : World) (k : Nat) : Prop where
  tab : wr.ownsRow T 9 1 (.slice (some ⟨T, 0, none⟩) k n) k (List.replicate k (.string t))
  nam : wr.ownsRow T 9 1 (.slice (some ⟨N, 0, none⟩) k n) k ((ns.take k).map Value.string)
  old : Below T w1 wr
  big : T ≤ wr.heap.size

/-- Between the two appends. -/
structure Half (T N n : Nat) (t : ByteArray) (ns : List ByteArray) (w1 wr : World) (k : Nat) : Prop where
  tab : wr.ownsRow T 9 1 (.slice (some ⟨T, 0, none⟩) (k + 1) n) (k + 1) (List.replicate (k + 1) (.string t))
  nam : wr.ownsRow T 9 1 (.slice (some ⟨N, 0, none⟩) k n) k ((ns.take k).map Value.string)
  old : Below T w1 wr
  big : T ≤ wr.heap.size

theorem Gath.half {T N n : Nat} {t : ByteArray} {ns : List ByteArray} {w1 wr w' : World} {k : Nat} (h : Gath T N n t ns w1 wr k) (hTN : T < N)
    (hown : w'.ownsRow T 9 1 (.slice (some ⟨T, 0, none⟩) (k + 1) n) (k + 1) (List.replicate k (.string t) ++ [.string t])) (hg : (wr.alloc (.cells #[.string t] 9)).grownBy w' (some T)) : Half T N n t ns w1 w' k := by
  have hb : T ≤ (wr.alloc (.cells #[.string t] 9)).heap.size := by have := h.big; simp; omega
  have hb2 : Below T w1 w' := (h.old.alloc h.big _).grown hg hb (fun j hj => by injection hj with e; omega)
  refine ⟨?_, (h.nam.alloc _).kept hg (.inr (by simp [Value.ownBlock]; omega)), hb2, ?_⟩
  · rw [List.replicate_succ']; exact hown
  · have := ((Below.refl T (wr.alloc (.cells #[.string t] 9))).grown hg hb (fun j hj => by injection hj with e; omega)).size; omega

theorem Half.full {T N n : Nat} {t s : ByteArray} {ns : List ByteArray} {w1 wr w' : World} {k : Nat} (h : Half T N n t ns w1 wr k) (hTN : T < N) (hk : k < ns.length) (hs : s = ns[k])
    (hown : w'.ownsRow T 9 1 (.slice (some ⟨N, 0, none⟩) (k + 1) n) (k + 1) ((ns.take k).map Value.string ++ [.string s])) (hg : (wr.alloc (.cells #[.string s] 9)).grownBy w' (some N)) : Gath T N n t ns w1 w' (k + 1) := by
  have hb : T ≤ (wr.alloc (.cells #[.string s] 9)).heap.size := by have := h.big; simp; omega
  have hb2 : Below T w1 w' := (h.old.alloc h.big _).grown hg hb (fun j hj => by injection hj with e; omega)
  refine ⟨(h.tab.alloc _).kept hg (.inr (by simp [Value.ownBlock]; omega)), ?_, hb2, ?_⟩
  · rw [List.take_succ_eq_append_getElem hk, List.map_append, List.map_cons, List.map_nil, ← hs]; exact hown
  · have := ((Below.refl T (wr.alloc (.cells #[.string s] 9))).grown hg hb (fun j hj => by injection hj with e; omega)).size; omega

theorem cols_any (C n : Nat) (t : ByteArray) (ns : List ByteArray) (w : World) (hn : ns.length = n) (h2 : n ≤ 2)
    (hcall : Calls Try.prog 20 #[.pointer (some ⟨C, 0, none⟩), .string t] w fun e w' => ∃ v, e = .returned v ∧ w'.ownsRow w.heap.size 68 2 v ns.length (cellsOf t ns) ∧ Below w.heap.size w w') :
    Calls Try.prog 13 #[.pointer (some ⟨C, 0, none⟩), .string t] w fun e w' => ∃ ao bo ca cb, e = .returned (.tuple #[.slice ao n ca, .slice bo n cb]) ∧ RowS w' ao (List.replicate n t) ∧ RowS w' bo ns ∧ Below w.heap.size w w' := by
  have H20 : Hid (Calls Try.prog 20 #[.pointer (some ⟨C, 0, none⟩), .string t] w fun e w' => ∃ ao cap, e = .returned (.slice ao n cap) ∧ PairsS w' ao t ns ∧ Below w.heap.size w w') := by
    refine hcall.mono fun e w' h => ?_
    obtain ⟨v, he, ho, hb⟩ := h
    obtain ⟨ao, cap, hv, hp⟩ := pairs_of_own ho
    exact ⟨ao, cap, by rw [he, hv, hn], hp, hb⟩
  clear hcall
  go_enter Try.func13, Try.ntmps13
  go_wp2_with (first | (go_at_call 20; refine Calls.mono H20.out ?_; rintro e w1 ⟨ao, cap, rfl, hp, hb⟩; have HP : Hid (PairsS w1 ao t ns) := hp; clear hp) | (at_make; refine make_str rfl (.const (.int .i64 0)) (.tmp 14) rfl w1.heap.size n rfl rfl h2 (Nat.le_refl _) ?_; intro w2 hT hg2) | (at_make; refine make_str rfl (.const (.int .i64 0)) (.tmp 17) rfl w1.heap.size n rfl rfl h2 ?_ ?_; exact (Nat.le_trans (Nat.le_refl _) (Below.size ((Below.refl w1.heap.size w1).grown hg2 (Nat.le_refl _) (fun k hk => by cases hk)))); intro w3 hN hg3))
  have hB2 := (Below.refl w1.heap.size w1).grown hg2 (Nat.le_refl _) (fun k hk => by cases hk)
  have hB3 := hB2.grown hg3 hB2.size (fun k hk => by cases hk)
  have HTN : Hid (w1.heap.size < w2.heap.size) := (hT.lt _ rfl).2
  have H0 : Hid (Gath w1.heap.size w2.heap.size n t ns w1 w3 0) := ⟨hT.kept hg3 (.inr (by simp [Value.ownBlock])), hN, hB3, hB3.size⟩
  have HN : Hid (ns.length = n) := hn
  clear hB2 hB3 hT hg2 hN hg3 hn
  go_loopw [7, 8, 9] (fun vt vn i wr => ∃ k : Nat, k ≤ n ∧ i = .int .i64 k ∧ vt = .slice (some ⟨w1.heap.size, 0, none⟩) k n ∧ vn = .slice (some ⟨w2.heap.size, 0, none⟩) k n ∧ Hid (Gath w1.heap.size w2.heap.size n t ns w1 wr k)) (fun _ _ i _ => n - (intOf i).toNat)
  case atStart => exact ⟨0, by omega, rfl, rfl, rfl, H0⟩
  case round =>
    obtain ⟨k, hk, rfl, rfl, rfl, hG⟩ := hrel
    by_cases hlt : k < n
    · obtain ⟨g, hg, hc1, hc2⟩ := HP.out k (by rw [HN.out]; exact hlt)
      subst hg
      have lg := lt_of_cell hc1
      have hd1 := (hG.out.old.cell (p := ⟨g, k * 2, none⟩) lg).trans hc1
      obtain ⟨s, hs0, hd2⟩ : ∃ s, s = ns[k]'(by rw [HN.out]; exact hlt) ∧ w1.cell? ⟨g, k * 2 + 1, none⟩ = some (.string s) := ⟨_, rfl, hc2⟩
      have HS : Hid (s = ns[k]'(by rw [HN.out]; exact hlt)) := hs0
      clear hc1 hc2 hs0
      have hsz := hG.out.big
      go_wp2_with (first | (at_builtin; refine app_fit rfl (.tmp 25) (.tmp 31) rfl w1.heap.size w1.heap.size k n _ rfl hG.out.tab _ rfl (by omega) ?_; intro w4 hown4 hg4; have HH : Hid (Half w1.heap.size w2.heap.size n t ns w1 w4 k) := hG.out.half HTN.out hown4 hg4; have hd3 := (HH.out.old.cell (p := ⟨g, k * 2 + 1, none⟩) lg).trans hd2; clear hown4 hg4) | (at_builtin; refine app_fit rfl (.tmp 33) (.tmp 39) rfl w1.heap.size w2.heap.size k n _ rfl HH.out.nam _ rfl (by omega) ?_; intro w5 hown5 hg5; have HF : Hid (Gath w1.heap.size w2.heap.size n t ns w1 w5 (k + 1)) := HH.out.full HTN.out (by rw [HN.out]; exact hlt) HS.out hown5 hg5; clear hown5 hg5))
      go_roundw
      case rel => exact ⟨k + 1, by omega, by go_num, rfl, rfl, HF⟩
      case measure => simp [intOf]; omega
    · obtain rfl : k = n := by omega
      go_wp2
      go_ret2
      refine ⟨_, _, _, _, rfl, ?_, ?_, hb.trans (hG.out.old.mono hb.size)⟩
      · intro i hi
        have hi' : i < k := by simpa using hi
        refine ⟨_, rfl, ?_⟩
        rw [hG.out.tab.cellAt i (by omega)]
        simp [hi']
      · intro i hi
        have hi' : i < k := by rw [← HN.out]; exact hi
        refine ⟨_, rfl, ?_⟩
        rw [hG.out.nam.cellAt i (by omega)]
        simp [hi', hi]

theorem alter_any (C n : Nat) (ns : List ByteArray) (w : World) (hn : ns.length = n)
    (hcall : Calls Try.prog 19 #[.pointer (some ⟨C, 0, none⟩)] w fun e w' => ∃ v, e = .returned v ∧ w'.ownsRow w.heap.size 9 1 v ns.length (ns.map Value.string) ∧ Below w.heap.size w w') :
    Calls Try.prog 12 #[.pointer (some ⟨C, 0, none⟩)] w fun e w' => ∃ ao ca, e = .returned (.slice ao n ca) ∧ RowS w' ao ns ∧ Below w.heap.size w w' := by
  have H19 : Hid (Calls Try.prog 19 #[.pointer (some ⟨C, 0, none⟩)] w fun e w' => ∃ ao ca, e = .returned (.slice ao n ca) ∧ RowS w' ao ns ∧ Below w.heap.size w w') := by
    refine hcall.mono fun e w' h => ?_
    obtain ⟨v, he, ho, hb⟩ := h
    obtain ⟨ao, cap, hv, hp⟩ := rows_of_own ho
    exact ⟨ao, cap, by rw [he, hv, hn], hp, hb⟩
  clear hcall hn
  go_enter Try.func12, Try.ntmps12
  go_wp2_with (go_at_call 19; refine Calls.mono H19.out ?_; rintro e w1 ⟨ao, ca, rfl, hp, hb⟩; have HP : Hid (RowS w1 ao ns) := hp; clear hp)
  go_ret
  exact ⟨_, _, rfl, HP.out, hb⟩
end Go.Proofs.Qxb6001546a
