import Derived.Test.Qxb6000519aText
namespace Go.Proofs.Qxb6000519a
open Go.RowKit Go.PlainAid

set_option maxHeartbeats 2000000 in
theorem main_ne (z p : Nat) (d : ByteArray) (w : World) (h : d.size ≤ 1048576) (hz1 : z ≤ 65536) (hp : p = z + d.size) (hdg : DigUpto d d.size) (hf : 0 < d.size → bt d 0 ≠ 48) :
    Calls Try.prog 7 #[.bool false, .int .i64 z, .string d, .int .i64 p] w fun e w' => e = .returned (.bool true) ∧ Below w.heap.size w w' := by
  have hd : decide ((z : Int) < 0) = false := decide_eq_false (by omega)
  have hd2 : decide ((p : Int) < -1) = false := decide_eq_false (by omega)
  have hple : p ≤ z + d.size := by omega
  have hpge : z + d.size ≤ p := by omega
  clear hp
  have hb := get_bt d
  have HD : Hid (DigUpto d d.size) := hdg
  have HF : Hid (0 < d.size → bt d 0 ≠ 48) := hf
  clear hdg hf
  go_enter Try.func7, Try.ntmps7
  go_wp2_with (go_at_call 17; refine (bytes_small _ _ _ _ _ h).mono ?_; rintro e w' ⟨rfl, rfl⟩)
  go_loop [9] (fun i => ∃ k : Nat, k ≤ d.size ∧ i = .int .i64 k) (fun i => d.size - (intOf i).toNat)
  case atStart => exact ⟨0, by omega, rfl⟩
  case round =>
    obtain ⟨k, hk, rfl⟩ := hrel
    by_cases hlt : k < d.size
    · have h12 := HD.out k hlt
      have h1 : decide (bt d k < 48) = false := decide_eq_false (by omega)
      have h2 : bt d k ≤ 57 := by omega
      go_wp2
      go_round
      case rel => exact ⟨k + 1, by omega, by go_num⟩
      case measure => simp [intOf]; omega
    · obtain ⟨c0, hg, hf0⟩ : ∃ c0 : Bool, decide ((0 : Int) < (d.size : Int)) = c0 ∧ (c0 = true → (bt d 0 == 48) = false ∧ 0 < d.size) :=
        ⟨_, rfl, fun e => by
          have h0 : 0 < d.size := by simpa using e
          exact ⟨by simpa using HF.out h0, h0⟩⟩
      cases c0
      case' true => obtain ⟨hf1, hf2⟩ := hf0 rfl
      case' false =>
        have hf2 : ¬ 0 < d.size := by simpa using hg
        have hf1 : decide (0 < d.size) = false := decide_eq_false hf2
      all_goals
        clear hf0
        go_wp2_with (at_make; refine make_room rfl (.const (.int .i64 0)) (.tmp 65) rfl _ (z + d.size) rfl rfl (by omega) (by omega) ?_; intro w1 hB1 hb1; have HB1 : Hid (Buf w1 w.heap.size (z + d.size) []) := hB1; have HL1 : Hid (Below w.heap.size w w1) := hb1; clear hB1 hb1)
        go_loopw [10, 11] (fun v i wr => ∃ j : Nat, j ≤ z ∧ i = .int .i64 j ∧ v = .slice (some ⟨w.heap.size, 0, none⟩) j (z + d.size) ∧ Hid (Buf wr w.heap.size (z + d.size) (List.replicate j 48)) ∧ Hid (Below w.heap.size w wr)) (fun _ i _ => z - (intOf i).toNat)
        case atStart => exact ⟨0, by omega, rfl, rfl, HB1, HL1⟩
        case round =>
          clear HB1 HL1
          obtain ⟨j, hj, rfl, rfl, HB, HL⟩ := hrel
          by_cases hjz : j < z
          · go_wp2_with (at_builtin; refine app_room rfl (.tmp 72) (.tmp 73) 25 rfl w.heap.size (z + d.size) j 1 (List.replicate j 48) [48] (by simp) rfl rfl _ rfl (src_one _ _) (by omega) (HB.out.alloc _) ?_; intro w2 hB2 hk2; have HB2 : Hid (Buf w2 w.heap.size (z + d.size) (List.replicate (j + 1) 48)) := (by rw [List.replicate_succ']; exact hB2); have HL2 : Hid (Below w.heap.size w w2) := hk2.below _ _ (Nat.le_refl _) (HL.out.alloc HL.out.size _); clear hB2 hk2)
            go_roundw
            case rel => exact ⟨j + 1, by omega, by go_num, rfl, HB2, HL2⟩
            case measure => simp [intOf]; omega
          · obtain rfl : j = z := by omega
            have HLOW : Hid (Low (textP false j p d)) := low_textP false p HD.out
            have HLEN : Hid ((textP false j p d).length = p + 1) := by
              show _ = _
              rw [length_textP false j p d (by omega)]
              simp
              omega
            have HMAX : Hid ((textP false j p d).length ≤ 2000000) := by
              show _ ≤ _
              rw [HLEN.out]
              omega
            have HSC : Hid ((scanL (textP false j p d)).2 = d.size) := scan_textP false p HD.out HF.out
            go_wp2_with (first | (at_builtin; refine app_room rfl (.tmp 75) (.tmp 76) 9 rfl w.heap.size (j + d.size) j d.size (List.replicate j 48) (intsOf d) (by simp) (length_intsOf d) rfl _ rfl (src_str _ d) (by omega) HB.out ?_; intro w3 hB3 hk3; have HB3 : Hid (Buf w3 w.heap.size (j + d.size) (bodyL j (intsOf d))) := hB3; have HL3 : Hid (Below w.heap.size w w3) := hk3.below _ _ (Nat.le_refl _) HL.out; clear hB3 hk3) | (at_make; refine make_room rfl (.const (.int .i64 0)) (.tmp 80) rfl _ (j + d.size + 2) rfl rfl (by omega) (by omega) ?_; intro w4 hB4 hb4; have HT : Hid (Buf w4 w3.heap.size (j + d.size + 2) []) := hB4; have HB4 : Hid (Buf w4 w.heap.size (j + d.size) (bodyL j (intsOf d))) := HB3.out.later hb4 HB3.out.lt; have HL4 : Hid (Below w.heap.size w w4) := HL3.out.trans (hb4.mono HL3.out.size); have HNE : Hid (w.heap.size < w3.heap.size) := HB3.out.lt; clear hB4 hb4) | (at_builtin; refine app_room rfl (.tmp 91) (.tmp 94) 25 rfl w3.heap.size (j + d.size + 2) 0 p [] ((bodyL j (intsOf d)).take p) rfl (by rw [List.length_take, length_body]; omega) rfl _ rfl (HB4.out.srcTake _ _ (by rw [length_body]; omega)) (by omega) (HT.out) ?_; intro w5 hB hk; have HT5 : Hid (Buf w5 w3.heap.size (j + d.size + 2) ([] ++ ((bodyL j (intsOf d)).take p))) := hB; have HB5 : Hid (Buf w5 w.heap.size (j + d.size) (bodyL j (intsOf d))) := hk.buf _ _ _ (Nat.ne_of_lt HNE.out) (HB4.out); have HL5 : Hid (Below w.heap.size w w5) := hk.below _ _ (Nat.le_of_lt HNE.out) (HL4.out); clear hB hk) | (at_builtin; refine app_room rfl (.tmp 96) (.tmp 97) 25 rfl w3.heap.size (j + d.size + 2) p 1 ([] ++ (bodyL j (intsOf d)).take p) [46] (by simp [length_body]; omega) rfl rfl _ rfl (src_one _ _) (by omega) (HT5.out.alloc _) ?_; intro w6 hB hk; have HT6 : Hid (Buf w6 w3.heap.size (j + d.size + 2) (([] ++ (bodyL j (intsOf d)).take p) ++ [46])) := hB; have HB6 : Hid (Buf w6 w.heap.size (j + d.size) (bodyL j (intsOf d))) := hk.buf _ _ _ (Nat.ne_of_lt HNE.out) (HB5.out.alloc _); have HL6 : Hid (Below w.heap.size w w6) := hk.below _ _ (Nat.le_of_lt HNE.out) (HL5.out.alloc HL5.out.size _); clear hB hk) | (at_builtin; refine app_room rfl (.tmp 99) (.tmp 102) 25 rfl w3.heap.size (j + d.size + 2) (p + 1) 0 (([] ++ (bodyL j (intsOf d)).take p) ++ [46]) ((bodyL j (intsOf d)).drop p) (by simp [length_body]; omega) (by rw [List.length_drop, length_body]; omega) rfl _ rfl (src_none _ _ _ (List.drop_of_length_le (by rw [length_body]; omega))) (by omega) (HT6.out) ?_; intro w7 hB hk; have HT7 : Hid (Buf w7 w3.heap.size (j + d.size + 2) ((([] ++ (bodyL j (intsOf d)).take p) ++ [46]) ++ ((bodyL j (intsOf d)).drop p))) := hB; have HB7 : Hid (Buf w7 w.heap.size (j + d.size) (bodyL j (intsOf d))) := hk.buf _ _ _ (Nat.ne_of_lt HNE.out) (HB6.out); have HL7 : Hid (Below w.heap.size w w7) := hk.below _ _ (Nat.le_of_lt HNE.out) (HL6.out); clear hB hk; have HTX : Hid (Buf w7 w3.heap.size (j + d.size + 2) (textP false j p d)) := HT7.out; have hcv := text_back HTX.out (low_textP false p HD.out) (p + 1) HLEN.out) | (go_at_call 15; refine (text_fits _ HLOW.out HMAX.out HSC.out rfl).mono ?_; rintro e w9 ⟨rfl, hb9⟩))
            go_ret
            exact ⟨rfl, HL7.out.trans (hb9.mono HL7.out.size)⟩

set_option maxHeartbeats 2000000 in
theorem main_se (z p : Nat) (d : ByteArray) (w : World) (h : d.size ≤ 1048576) (hz1 : z ≤ 65536) (hp : p = z + d.size) (hdg : DigUpto d d.size) (hf : 0 < d.size → bt d 0 ≠ 48) :
    Calls Try.prog 7 #[.bool true, .int .i64 z, .string d, .int .i64 p] w fun e w' => e = .returned (.bool true) ∧ Below w.heap.size w w' := by
  have hd : decide ((z : Int) < 0) = false := decide_eq_false (by omega)
  have hd2 : decide ((p : Int) < -1) = false := decide_eq_false (by omega)
  have hple : p ≤ z + d.size := by omega
  have hpge : z + d.size ≤ p := by omega
  clear hp
  have hb := get_bt d
  have HD : Hid (DigUpto d d.size) := hdg
  have HF : Hid (0 < d.size → bt d 0 ≠ 48) := hf
  clear hdg hf
  go_enter Try.func7, Try.ntmps7
  go_wp2_with (go_at_call 17; refine (bytes_small _ _ _ _ _ h).mono ?_; rintro e w' ⟨rfl, rfl⟩)
  go_loop [9] (fun i => ∃ k : Nat, k ≤ d.size ∧ i = .int .i64 k) (fun i => d.size - (intOf i).toNat)
  case atStart => exact ⟨0, by omega, rfl⟩
  case round =>
    obtain ⟨k, hk, rfl⟩ := hrel
    by_cases hlt : k < d.size
    · have h12 := HD.out k hlt
      have h1 : decide (bt d k < 48) = false := decide_eq_false (by omega)
      have h2 : bt d k ≤ 57 := by omega
      go_wp2
      go_round
      case rel => exact ⟨k + 1, by omega, by go_num⟩
      case measure => simp [intOf]; omega
    · obtain ⟨c0, hg, hf0⟩ : ∃ c0 : Bool, decide ((0 : Int) < (d.size : Int)) = c0 ∧ (c0 = true → (bt d 0 == 48) = false ∧ 0 < d.size) :=
        ⟨_, rfl, fun e => by
          have h0 : 0 < d.size := by simpa using e
          exact ⟨by simpa using HF.out h0, h0⟩⟩
      cases c0
      case' true => obtain ⟨hf1, hf2⟩ := hf0 rfl
      case' false =>
        have hf2 : ¬ 0 < d.size := by simpa using hg
        have hf1 : decide (0 < d.size) = false := decide_eq_false hf2
      all_goals
        clear hf0
        go_wp2_with (at_make; refine make_room rfl (.const (.int .i64 0)) (.tmp 65) rfl _ (z + d.size) rfl rfl (by omega) (by omega) ?_; intro w1 hB1 hb1; have HB1 : Hid (Buf w1 w.heap.size (z + d.size) []) := hB1; have HL1 : Hid (Below w.heap.size w w1) := hb1; clear hB1 hb1)
        go_loopw [10, 11] (fun v i wr => ∃ j : Nat, j ≤ z ∧ i = .int .i64 j ∧ v = .slice (some ⟨w.heap.size, 0, none⟩) j (z + d.size) ∧ Hid (Buf wr w.heap.size (z + d.size) (List.replicate j 48)) ∧ Hid (Below w.heap.size w wr)) (fun _ i _ => z - (intOf i).toNat)
        case atStart => exact ⟨0, by omega, rfl, rfl, HB1, HL1⟩
        case round =>
          clear HB1 HL1
          obtain ⟨j, hj, rfl, rfl, HB, HL⟩ := hrel
          by_cases hjz : j < z
          · go_wp2_with (at_builtin; refine app_room rfl (.tmp 72) (.tmp 73) 25 rfl w.heap.size (z + d.size) j 1 (List.replicate j 48) [48] (by simp) rfl rfl _ rfl (src_one _ _) (by omega) (HB.out.alloc _) ?_; intro w2 hB2 hk2; have HB2 : Hid (Buf w2 w.heap.size (z + d.size) (List.replicate (j + 1) 48)) := (by rw [List.replicate_succ']; exact hB2); have HL2 : Hid (Below w.heap.size w w2) := hk2.below _ _ (Nat.le_refl _) (HL.out.alloc HL.out.size _); clear hB2 hk2)
            go_roundw
            case rel => exact ⟨j + 1, by omega, by go_num, rfl, HB2, HL2⟩
            case measure => simp [intOf]; omega
          · obtain rfl : j = z := by omega
            have HLOW : Hid (Low (textP true j p d)) := low_textP true p HD.out
            have HLEN : Hid ((textP true j p d).length = 1 + p + 1) := by
              show _ = _
              rw [length_textP true j p d (by omega)]
              simp
              omega
            have HMAX : Hid ((textP true j p d).length ≤ 2000000) := by
              show _ ≤ _
              rw [HLEN.out]
              omega
            have HSC : Hid ((scanL (textP true j p d)).2 = d.size) := scan_textP true p HD.out HF.out
            go_wp2_with (first | (at_builtin; refine app_room rfl (.tmp 75) (.tmp 76) 9 rfl w.heap.size (j + d.size) j d.size (List.replicate j 48) (intsOf d) (by simp) (length_intsOf d) rfl _ rfl (src_str _ d) (by omega) HB.out ?_; intro w3 hB3 hk3; have HB3 : Hid (Buf w3 w.heap.size (j + d.size) (bodyL j (intsOf d))) := hB3; have HL3 : Hid (Below w.heap.size w w3) := hk3.below _ _ (Nat.le_refl _) HL.out; clear hB3 hk3) | (at_make; refine make_room rfl (.const (.int .i64 0)) (.tmp 80) rfl _ (j + d.size + 2) rfl rfl (by omega) (by omega) ?_; intro w4 hB4 hb4; have HT : Hid (Buf w4 w3.heap.size (j + d.size + 2) []) := hB4; have HB4 : Hid (Buf w4 w.heap.size (j + d.size) (bodyL j (intsOf d))) := HB3.out.later hb4 HB3.out.lt; have HL4 : Hid (Below w.heap.size w w4) := HL3.out.trans (hb4.mono HL3.out.size); have HNE : Hid (w.heap.size < w3.heap.size) := HB3.out.lt; clear hB4 hb4) | (at_builtin; refine app_room rfl (.tmp 83) (.tmp 84) 25 rfl w3.heap.size (j + d.size + 2) 0 1 [] [45] rfl rfl rfl _ rfl (src_one _ _) (by omega) (HT.out.alloc _) ?_; intro w5 hB hk; have HT5 : Hid (Buf w5 w3.heap.size (j + d.size + 2) ([] ++ [45])) := hB; have HB5 : Hid (Buf w5 w.heap.size (j + d.size) (bodyL j (intsOf d))) := hk.buf _ _ _ (Nat.ne_of_lt HNE.out) (HB4.out.alloc _); have HL5 : Hid (Below w.heap.size w w5) := hk.below _ _ (Nat.le_of_lt HNE.out) (HL4.out.alloc HL4.out.size _); clear hB hk) | (at_builtin; refine app_room rfl (.tmp 91) (.tmp 94) 25 rfl w3.heap.size (j + d.size + 2) 1 p ([] ++ [45]) ((bodyL j (intsOf d)).take p) rfl (by rw [List.length_take, length_body]; omega) rfl _ rfl (HB5.out.srcTake _ _ (by rw [length_body]; omega)) (by omega) (HT5.out) ?_; intro w6 hB hk; have HT6 : Hid (Buf w6 w3.heap.size (j + d.size + 2) (([] ++ [45]) ++ ((bodyL j (intsOf d)).take p))) := hB; have HB6 : Hid (Buf w6 w.heap.size (j + d.size) (bodyL j (intsOf d))) := hk.buf _ _ _ (Nat.ne_of_lt HNE.out) (HB5.out); have HL6 : Hid (Below w.heap.size w w6) := hk.below _ _ (Nat.le_of_lt HNE.out) (HL5.out); clear hB hk) | (at_builtin; refine app_room rfl (.tmp 96) (.tmp 97) 25 rfl w3.heap.size (j + d.size + 2) (1 + p) 1 (([] ++ [45]) ++ (bodyL j (intsOf d)).take p) [46] (by simp [length_body]; omega) rfl rfl _ rfl (src_one _ _) (by omega) (HT6.out.alloc _) ?_; intro w7 hB hk; have HT7 : Hid (Buf w7 w3.heap.size (j + d.size + 2) ((([] ++ [45]) ++ (bodyL j (intsOf d)).take p) ++ [46])) := hB; have HB7 : Hid (Buf w7 w.heap.size (j + d.size) (bodyL j (intsOf d))) := hk.buf _ _ _ (Nat.ne_of_lt HNE.out) (HB6.out.alloc _); have HL7 : Hid (Below w.heap.size w w7) := hk.below _ _ (Nat.le_of_lt HNE.out) (HL6.out.alloc HL6.out.size _); clear hB hk) | (at_builtin; refine app_room rfl (.tmp 99) (.tmp 102) 25 rfl w3.heap.size (j + d.size + 2) (1 + p + 1) 0 ((([] ++ [45]) ++ (bodyL j (intsOf d)).take p) ++ [46]) ((bodyL j (intsOf d)).drop p) (by simp [length_body]; omega) (by rw [List.length_drop, length_body]; omega) rfl _ rfl (src_none _ _ _ (List.drop_of_length_le (by rw [length_body]; omega))) (by omega) (HT7.out) ?_; intro w8 hB hk; have HT8 : Hid (Buf w8 w3.heap.size (j + d.size + 2) (((([] ++ [45]) ++ (bodyL j (intsOf d)).take p) ++ [46]) ++ ((bodyL j (intsOf d)).drop p))) := hB; have HB8 : Hid (Buf w8 w.heap.size (j + d.size) (bodyL j (intsOf d))) := hk.buf _ _ _ (Nat.ne_of_lt HNE.out) (HB7.out); have HL8 : Hid (Below w.heap.size w w8) := hk.below _ _ (Nat.le_of_lt HNE.out) (HL7.out); clear hB hk; have HTX : Hid (Buf w8 w3.heap.size (j + d.size + 2) (textP true j p d)) := HT8.out; have hcv := text_back HTX.out (low_textP true p HD.out) (1 + p + 1) HLEN.out) | (go_at_call 15; refine (text_fits _ HLOW.out HMAX.out HSC.out rfl).mono ?_; rintro e w9 ⟨rfl, hb9⟩))
            go_ret
            exact ⟨rfl, HL8.out.trans (hb9.mono HL8.out.size)⟩
end Go.Proofs.Qxb6000519a
