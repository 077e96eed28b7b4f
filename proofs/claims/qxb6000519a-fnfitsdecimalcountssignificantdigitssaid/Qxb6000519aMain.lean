import Derived.Test.Qxb6000519aText
namespace Go.Proofs.Qxb6000519a
open Go.RowKit Go.PlainAid

set_option maxHeartbeats 2000000 in
theorem main_np (z : Nat) (d : ByteArray) (w : World) (h : d.size ≤ 1048576) (hz1 : z ≤ 65536) (hdg : DigUpto d d.size) (hf : 0 < d.size → bt d 0 ≠ 48) :
    Calls Try.prog 7 #[.bool false, .int .i64 z, .string d, .int .i64 (-1)] w fun e w' => e = .returned (.bool true) ∧ Below w.heap.size w w' := by
  have hd : decide ((z : Int) < 0) = false := decide_eq_false (by omega)
  have hb := get_bt d
  have HD : Hid (DigUpto d d.size) := hdg
  have HF : Hid (0 < d.size → bt d 0 ≠ 48) := hf
  clear hdg hf
  go_enter Try.func7, Try.ntmps7
  go_wp2_with (go_at_call 17; refine (bytes_small _ _ _ _ _ h).mono ?_; rintro e w' ⟨rfl, rfl⟩)
  go_loop [9] (fun i => ∃ k : Nat, k ≤ d.size ∧ i = .int .i64 k) (fun i => d.size - (intOf i).toNat)
  case atStart => exact ⟨0, by omega, rfl⟩
  case round =>
    obtain ⟨k, hk, rfl⟩ := hrel
    by_cases hlt : k < d.size
    · have h12 := HD.out k hlt
      have h1 : decide (bt d k < 48) = false := decide_eq_false (by omega)
      have h2 : bt d k ≤ 57 := by omega
      go_wp2
      go_round
      case rel => exact ⟨k + 1, by omega, by go_num⟩
      case measure => simp [intOf]; omega
    · obtain ⟨c0, hg, hf0⟩ : ∃ c0 : Bool, decide ((0 : Int) < (d.size : Int)) = c0 ∧ (c0 = true → (bt d 0 == 48) = false ∧ 0 < d.size) :=
        ⟨_, rfl, fun e => by
          have h0 : 0 < d.size := by simpa using e
          exact ⟨by simpa using HF.out h0, h0⟩⟩
      cases c0
      case' true => obtain ⟨hf1, hf2⟩ := hf0 rfl
      case' false =>
        have hf2 : ¬ 0 < d.size := by simpa using hg
        have hf1 : decide (0 < d.size) = false := decide_eq_false hf2
      all_goals
        clear hf0
        go_wp2_with (at_make; refine make_room rfl (.const (.int .i64 0)) (.tmp 65) rfl _ (z + d.size) rfl rfl (by omega) (by omega) ?_; intro w1 hB1 hb1; have HB1 : Hid (Buf w1 w.heap.size (z + d.size) []) := hB1; have HL1 : Hid (Below w.heap.size w w1) := hb1; clear hB1 hb1)
        go_loopw [10, 11] (fun v i wr => ∃ j : Nat, j ≤ z ∧ i = .int .i64 j ∧ v = .slice (some ⟨w.heap.size, 0, none⟩) j (z + d.size) ∧ Hid (Buf wr w.heap.size (z + d.size) (List.replicate j 48)) ∧ Hid (Below w.heap.size w wr)) (fun _ i _ => z - (intOf i).toNat)
        case atStart => exact ⟨0, by omega, rfl, rfl, HB1, HL1⟩
        case round =>
          clear HB1 HL1
          obtain ⟨j, hj, rfl, rfl, HB, HL⟩ := hrel
          by_cases hjz : j < z
          · go_wp2_with (at_builtin; refine app_room rfl (.tmp 72) (.tmp 73) 25 rfl w.heap.size (z + d.size) j 1 (List.replicate j 48) [48] (by simp) rfl rfl _ rfl (src_one _ _) (by omega) (HB.out.alloc _) ?_; intro w2 hB2 hk2; have HB2 : Hid (Buf w2 w.heap.size (z + d.size) (List.replicate (j + 1) 48)) := (by rw [List.replicate_succ']; exact hB2); have HL2 : Hid (Below w.heap.size w w2) := hk2.below _ _ (Nat.le_refl _) (HL.out.alloc HL.out.size _); clear hB2 hk2)
            go_roundw
            case rel => exact ⟨j + 1, by omega, by go_num, rfl, HB2, HL2⟩
            case measure => simp [intOf]; omega
          · obtain rfl : j = z := by omega
            have HLOW : Hid (Low (textN false j d)) := low_textN false HD.out
            have HLEN : Hid ((textN false j d).length = j + d.size) := by
              show _ = _
              rw [length_textN false j d]
              simp
            have HMAX : Hid ((textN false j d).length ≤ 2000000) := by
              show _ ≤ _
              rw [HLEN.out]
              omega
            have HSC : Hid ((scanL (textN false j d)).2 = d.size) := scan_textN false HD.out HF.out
            go_wp2_with (first | (at_builtin; refine app_room rfl (.tmp 75) (.tmp 76) 9 rfl w.heap.size (j + d.size) j d.size (List.replicate j 48) (intsOf d) (by simp) (length_intsOf d) rfl _ rfl (src_str _ d) (by omega) HB.out ?_; intro w3 hB3 hk3; have HB3 : Hid (Buf w3 w.heap.size (j + d.size) (bodyL j (intsOf d))) := hB3; have HL3 : Hid (Below w.heap.size w w3) := hk3.below _ _ (Nat.le_refl _) HL.out; clear hB3 hk3) | (at_make; refine make_room rfl (.const (.int .i64 0)) (.tmp 80) rfl _ (j + d.size + 2) rfl rfl (by omega) (by omega) ?_; intro w4 hB4 hb4; have HT : Hid (Buf w4 w3.heap.size (j + d.size + 2) []) := hB4; have HB4 : Hid (Buf w4 w.heap.size (j + d.size) (bodyL j (intsOf d))) := HB3.out.later hb4 HB3.out.lt; have HL4 : Hid (Below w.heap.size w w4) := HL3.out.trans (hb4.mono HL3.out.size); have HNE : Hid (w.heap.size < w3.heap.size) := HB3.out.lt; clear hB4 hb4) | (at_builtin; refine app_room rfl (.tmp 88) (.tmp 89) 25 rfl w3.heap.size (j + d.size + 2) 0 (j + d.size) [] (bodyL j (intsOf d)) rfl (length_body j d) rfl _ rfl (HB4.out.srcAll _ _ (length_body j d)) (by omega) (HT.out) ?_; intro w5 hB hk; have HT5 : Hid (Buf w5 w3.heap.size (j + d.size + 2) ([] ++ (bodyL j (intsOf d)))) := hB; have HB5 : Hid (Buf w5 w.heap.size (j + d.size) (bodyL j (intsOf d))) := hk.buf _ _ _ (Nat.ne_of_lt HNE.out) (HB4.out); have HL5 : Hid (Below w.heap.size w w5) := hk.below _ _ (Nat.le_of_lt HNE.out) (HL4.out); clear hB hk; have HTX : Hid (Buf w5 w3.heap.size (j + d.size + 2) (textN false j d)) := HT5.out; have hcv := text_back HTX.out (low_textN false HD.out) (j + d.size) HLEN.out) | (go_at_call 15; refine (text_fits _ HLOW.out HMAX.out HSC.out rfl).mono ?_; rintro e w9 ⟨rfl, hb9⟩))
            go_ret
            exact ⟨rfl, HL5.out.trans (hb9.mono HL5.out.size)⟩

set_option maxHeartbeats 2000000 in
theorem main_sp (z : Nat) (d : ByteArray) (w : World) (h : d.size ≤ 1048576) (hz1 : z ≤ 65536) (hdg : DigUpto d d.size) (hf : 0 < d.size → bt d 0 ≠ 48) :
    Calls Try.prog 7 #[.bool true, .int .i64 z, .string d, .int .i64 (-1)] w fun e w' => e = .returned (.bool true) ∧ Below w.heap.size w w' := by
  have hd : decide ((z : Int) < 0) = false := decide_eq_false (by omega)
  have hb := get_bt d
  have HD : Hid (DigUpto d d.size) := hdg
  have HF : Hid (0 < d.size → bt d 0 ≠ 48) := hf
  clear hdg hf
  go_enter Try.func7, Try.ntmps7
  go_wp2_with (go_at_call 17; refine (bytes_small _ _ _ _ _ h).mono ?_; rintro e w' ⟨rfl, rfl⟩)
  go_loop [9] (fun i => ∃ k : Nat, k ≤ d.size ∧ i = .int .i64 k) (fun i => d.size - (intOf i).toNat)
  case atStart => exact ⟨0, by omega, rfl⟩
  case round =>
    obtain ⟨k, hk, rfl⟩ := hrel
    by_cases hlt : k < d.size
    · have h12 := HD.out k hlt
      have h1 : decide (bt d k < 48) = false := decide_eq_false (by omega)
      have h2 : bt d k ≤ 57 := by omega
      go_wp2
      go_round
      case rel => exact ⟨k + 1, by omega, by go_num⟩
      case measure => simp [intOf]; omega
    · obtain ⟨c0, hg, hf0⟩ : ∃ c0 : Bool, decide ((0 : Int) < (d.size : Int)) = c0 ∧ (c0 = true → (bt d 0 == 48) = false ∧ 0 < d.size) :=
        ⟨_, rfl, fun e => by
          have h0 : 0 < d.size := by simpa using e
          exact ⟨by simpa using HF.out h0, h0⟩⟩
      cases c0
      case' true => obtain ⟨hf1, hf2⟩ := hf0 rfl
      case' false =>
        have hf2 : ¬ 0 < d.size := by simpa using hg
        have hf1 : decide (0 < d.size) = false := decide_eq_false hf2
      all_goals
        clear hf0
        go_wp2_with (at_make; refine make_room rfl (.const (.int .i64 0)) (.tmp 65) rfl _ (z + d.size) rfl rfl (by omega) (by omega) ?_; intro w1 hB1 hb1; have HB1 : Hid (Buf w1 w.heap.size (z + d.size) []) := hB1; have HL1 : Hid (Below w.heap.size w w1) := hb1; clear hB1 hb1)
        go_loopw [10, 11] (fun v i wr => ∃ j : Nat, j ≤ z ∧ i = .int .i64 j ∧ v = .slice (some ⟨w.heap.size, 0, none⟩) j (z + d.size) ∧ Hid (Buf wr w.heap.size (z + d.size) (List.replicate j 48)) ∧ Hid (Below w.heap.size w wr)) (fun _ i _ => z - (intOf i).toNat)
        case atStart => exact ⟨0, by omega, rfl, rfl, HB1, HL1⟩
        case round =>
          clear HB1 HL1
          obtain ⟨j, hj, rfl, rfl, HB, HL⟩ := hrel
          by_cases hjz : j < z
          · go_wp2_with (at_builtin; refine app_room rfl (.tmp 72) (.tmp 73) 25 rfl w.heap.size (z + d.size) j 1 (List.replicate j 48) [48] (by simp) rfl rfl _ rfl (src_one _ _) (by omega) (HB.out.alloc _) ?_; intro w2 hB2 hk2; have HB2 : Hid (Buf w2 w.heap.size (z + d.size) (List.replicate (j + 1) 48)) := (by rw [List.replicate_succ']; exact hB2); have HL2 : Hid (Below w.heap.size w w2) := hk2.below _ _ (Nat.le_refl _) (HL.out.alloc HL.out.size _); clear hB2 hk2)
            go_roundw
            case rel => exact ⟨j + 1, by omega, by go_num, rfl, HB2, HL2⟩
            case measure => simp [intOf]; omega
          · obtain rfl : j = z := by omega
            have HLOW : Hid (Low (textN true j d)) := low_textN true HD.out
            have HLEN : Hid ((textN true j d).length = 1 + (j + d.size)) := by
              show _ = _
              rw [length_textN true j d]
              simp
            have HMAX : Hid ((textN true j d).length ≤ 2000000) := by
              show _ ≤ _
              rw [HLEN.out]
              omega
            have HSC : Hid ((scanL (textN true j d)).2 = d.size) := scan_textN true HD.out HF.out
            go_wp2_with (first | (at_builtin; refine app_room rfl (.tmp 75) (.tmp 76) 9 rfl w.heap.size (j + d.size) j d.size (List.replicate j 48) (intsOf d) (by simp) (length_intsOf d) rfl _ rfl (src_str _ d) (by omega) HB.out ?_; intro w3 hB3 hk3; have HB3 : Hid (Buf w3 w.heap.size (j + d.size) (bodyL j (intsOf d))) := hB3; have HL3 : Hid (Below w.heap.size w w3) := hk3.below _ _ (Nat.le_refl _) HL.out; clear hB3 hk3) | (at_make; refine make_room rfl (.const (.int .i64 0)) (.tmp 80) rfl _ (j + d.size + 2) rfl rfl (by omega) (by omega) ?_; intro w4 hB4 hb4; have HT : Hid (Buf w4 w3.heap.size (j + d.size + 2) []) := hB4; have HB4 : Hid (Buf w4 w.heap.size (j + d.size) (bodyL j (intsOf d))) := HB3.out.later hb4 HB3.out.lt; have HL4 : Hid (Below w.heap.size w w4) := HL3.out.trans (hb4.mono HL3.out.size); have HNE : Hid (w.heap.size < w3.heap.size) := HB3.out.lt; clear hB4 hb4) | (at_builtin; refine app_room rfl (.tmp 83) (.tmp 84) 25 rfl w3.heap.size (j + d.size + 2) 0 1 [] [45] rfl rfl rfl _ rfl (src_one _ _) (by omega) (HT.out.alloc _) ?_; intro w5 hB hk; have HT5 : Hid (Buf w5 w3.heap.size (j + d.size + 2) ([] ++ [45])) := hB; have HB5 : Hid (Buf w5 w.heap.size (j + d.size) (bodyL j (intsOf d))) := hk.buf _ _ _ (Nat.ne_of_lt HNE.out) (HB4.out.alloc _); have HL5 : Hid (Below w.heap.size w w5) := hk.below _ _ (Nat.le_of_lt HNE.out) (HL4.out.alloc HL4.out.size _); clear hB hk) | (at_builtin; refine app_room rfl (.tmp 88) (.tmp 89) 25 rfl w3.heap.size (j + d.size + 2) 1 (j + d.size) ([] ++ [45]) (bodyL j (intsOf d)) rfl (length_body j d) rfl _ rfl (HB5.out.srcAll _ _ (length_body j d)) (by omega) (HT5.out) ?_; intro w6 hB hk; have HT6 : Hid (Buf w6 w3.heap.size (j + d.size + 2) (([] ++ [45]) ++ (bodyL j (intsOf d)))) := hB; have HB6 : Hid (Buf w6 w.heap.size (j + d.size) (bodyL j (intsOf d))) := hk.buf _ _ _ (Nat.ne_of_lt HNE.out) (HB5.out); have HL6 : Hid (Below w.heap.size w w6) := hk.below _ _ (Nat.le_of_lt HNE.out) (HL5.out); clear hB hk; have HTX : Hid (Buf w6 w3.heap.size (j + d.size + 2) (textN true j d)) := HT6.out; have hcv := text_back HTX.out (low_textN true HD.out) (1 + (j + d.size)) HLEN.out) | (go_at_call 15; refine (text_fits _ HLOW.out HMAX.out HSC.out rfl).mono ?_; rintro e w9 ⟨rfl, hb9⟩))
            go_ret
            exact ⟨rfl, HL6.out.trans (hb9.mono HL6.out.size)⟩
end Go.Proofs.Qxb6000519a
