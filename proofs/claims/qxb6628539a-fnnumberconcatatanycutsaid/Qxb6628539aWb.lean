import Derived.Test.Qxb6628539aWa
namespace Go.Proofs.Qxb6628539a
open Go.RowKit
open Plain

def Law (w : World) (e : Ending) (w' : World) : Prop := e = .returned (.bool true) ∧ w = w'

theorem ret_bool {a b : Bool} (h : a = b) : Ending.returned (.bool a) = .returned (.bool b) := by rw [h]
theorem ret_int {k : IntKind} {a b : Int} (h : a = b) : Ending.returned (.int k a) = .returned (.int k b) := by rw [h]

theorem bytes5 (s : ByteArray) (w : World) (hs : s.size ≤ 1048576) : Calls Try.prog 5 #[.string s] w fun e w' => e = .returned (.bool true) ∧ w = w' := by
  go_enter Try.func5, Try.ntmps5
  go_wp2
  go_ret
  exact ⟨rfl, rfl⟩

theorem law3 (s : ByteArray) (w : World) (hm : s.size ≤ maxLen) : Calls Try.prog 3 #[.string s] w fun e w' => Law w e w' := by
  unfold maxLen at hm
  by_cases hs : s.size ≤ 1048576
  · go_enter Try.func3, Try.ntmps3
    go_wp2_with (first | (go_at_call 5; refine (bytes5 s w hs).mono ?_; rintro e w' ⟨rfl, rfl⟩) | (go_at_call 6; refine (num6 s w hs).mono ?_; rintro e w' ⟨rfl, rfl⟩) | (go_at_call 7; refine (model7 s w hs).mono ?_; rintro e w' ⟨rfl, rfl⟩))
    go_ret
    exact ⟨ret_bool (by simp), rfl⟩
  · go_enter Try.func3, Try.ntmps3
    go_wp2
    go_ret
    exact ⟨rfl, rfl⟩

set_option maxHeartbeats 400000 in
set_option maxRecDepth 100000 in
theorem dig9 (s : ByteArray) (w : World) (hs : s.size ≤ 1048576) : Calls Try.prog 9 #[.string s] w fun e w' => e = .returned (.bool ((bytes s).all dig)) ∧ w = w' := by
  have HL : Hid ((bytes s).length = s.size) := bytes_length s
  go_enter Try.func9, Try.ntmps9
  go_wp2
  go_loopg [3] s.size (fun g i wr => ∃ j : Nat, g + j = s.size ∧ i = .int .i64 j ∧ w = wr ∧ Hid (∀ m, m < j → 48 ≤ fb (bytes s) m ∧ fb (bytes s) m ≤ 57))
  case atStart => exact ⟨0, by omega, rfl, rfl, fun m hm => by omega⟩
  case round =>
    obtain ⟨j, hg, rfl, rfl, HJ⟩ := hrel
    by_cases hj : j < s.size
    · have hx := at_fb s j hj
      have hr := fb_range (bytes s) j
      by_cases hd : 48 ≤ fb (bytes s) j ∧ fb (bytes s) j ≤ 57
      · go_wp2
        go_roundg (gk - 1)
        case measure => omega
        case rel => exact ⟨j + 1, by omega, by go_num, rfl, fun m hm => by
          by_cases e : m = j
          · rw [e]; exact hd
          · exact HJ.out m (by omega)⟩
      · have HN : Hid ((bytes s).all dig = false) := by
          show (bytes s).all dig = false
          cases e : (bytes s).all dig with
          | false => rfl
          | true => exact absurd ((allDig_iff _ 0).1 (by rw [List.drop_zero]; exact e) j (Nat.zero_le _) (by rw [HL.out]; exact hj)) hd
        go_wp2
        all_goals go_ret
        all_goals exact ⟨ret_bool HN.out.symm, rfl⟩
    · have HY : Hid ((bytes s).all dig = true) := by
        have := (allDig_iff (bytes s) 0).2 (fun m _ h2 => HJ.out m (by rw [HL.out] at h2; omega))
        rw [List.drop_zero] at this
        exact this
      go_wp2
      go_ret
      exact ⟨ret_bool HY.out.symm, rfl⟩

/-- hi, shifted by i places. -/
def sh (hi : Int) (i : Nat) : Int := hi * ((10 ^ i : Nat) : Int)
theorem sh_zero (hi : Int) : sh hi 0 = hi := by unfold sh; simp
theorem sh_succ (hi : Int) (i : Nat) : sh hi (i + 1) = sh hi i * 10 := by
  unfold sh
  rw [Nat.pow_succ, Int.natCast_mul, ← Int.mul_assoc]
  rfl
theorem sh_mono (hi : Int) (h0 : 0 ≤ hi) (i : Nat) : ∀ d, sh hi i ≤ sh hi (i + d) := by
  intro d
  induction d with
  | zero => exact Int.le_refl _
  | succ d ih =>
    rw [← Nat.add_assoc, sh_succ]
    have : 0 ≤ sh hi (i + d) := by unfold sh; exact Int.mul_nonneg h0 (Int.natCast_nonneg _)
    omega

set_option maxHeartbeats 400000 in
set_option maxRecDepth 100000 in
theorem join10 (hi lo : Int) (k : Nat) (w : World) (h0 : 0 ≤ hi) (h1 : hi ≤ 1048576) (h2 : 0 ≤ lo) (h3 : lo ≤ 1048576) (hk : k ≤ 1048576) :
    Calls Try.prog 10 #[.int .i64 hi, .int .i64 lo, .int .i64 (k : Int)] w fun e w' => e = .returned (.int .i64 (joined hi lo k)) ∧ w = w' := by
  by_cases hc : 1048576 ≤ hi ∨ 1048576 ≤ lo
  · have HJ : Hid (joined hi lo k = 1048576) := by show joined hi lo k = _; unfold joined; rw [if_pos hc]
    by_cases ha : 1048576 ≤ hi
    · go_enter Try.func10, Try.ntmps10
      go_wp2
      go_ret
      exact ⟨ret_int HJ.out.symm, rfl⟩
    · have hb : 1048576 ≤ lo := by omega
      go_enter Try.func10, Try.ntmps10
      go_wp2
      go_ret
      exact ⟨ret_int HJ.out.symm, rfl⟩
  · have HJ : Hid (joined hi lo k = min (sh hi k + lo) 1048576) := by show joined hi lo k = _; unfold joined; rw [if_neg hc]; rfl
    have ha : hi < 1048576 := by omega
    have hb : lo < 1048576 := by omega
    clear hc
    go_enter Try.func10, Try.ntmps10
    go_upto_block 0 with fail
    go_cut [7] (fun m wx => m = .int .i64 (sh hi k) ∧ sh hi k < 1048576 ∧ w = wx)
    case first =>
      go_wp2
      go_loopg [7, 8] k (fun g m i wr => ∃ (j : Nat) (x : Int), g + j = k ∧ i = .int .i64 j ∧ m = .int .i64 x ∧ 0 ≤ x ∧ x < 1048576 ∧ w = wr ∧ Hid (x = sh hi j))
      case atStart => exact ⟨0, hi, by omega, rfl, rfl, h0, ha, rfl, (sh_zero hi).symm⟩
      case round =>
        obtain ⟨j, x, hg, rfl, rfl, hx0, hx1, rfl, HX⟩ := hrel
        by_cases hj : j < k
        · have HS : Hid (sh hi (j + 1) = x * 10) := by show sh hi (j + 1) = _; rw [sh_succ, HX.out]
          by_cases hz : x = 0
          · have HZ : Hid (sh hi k = 0) := by
              show sh hi k = 0
              have e : hi = 0 := by
                have := sh_mono hi h0 0 j
                rw [sh_zero, Nat.zero_add, ← HX.out] at this
                omega
              rw [e]; unfold sh; simp
            go_wp2
            go_meet
            case rel => exact ⟨by rw [HZ.out, hz], by rw [HZ.out]; omega, rfl⟩
          · by_cases hbig : 1048576 ≤ x * 10
            · have HB : Hid (joined hi lo k = 1048576) := by
                show joined hi lo k = _
                have := sh_mono hi h0 (j + 1) (k - (j + 1))
                rw [show j + 1 + (k - (j + 1)) = k by omega, HS.out] at this
                rw [HJ.out]; omega
              go_wp2
              go_ret
              exact ⟨ret_int HB.out.symm, rfl⟩
            · go_wp2
              go_roundg (gk - 1)
              case measure => omega
              case rel => exact ⟨j + 1, x * 10, by omega, by go_num, rfl, by omega, by omega, rfl, HS.out.symm⟩
        · have HK : Hid (sh hi k = x) := by show sh hi k = x; rw [HX.out, show j = k by omega]
          go_wp2
          go_meet
          case rel => exact ⟨by rw [HK.out], by rw [HK.out]; exact hx1, rfl⟩
    case rest =>
      obtain ⟨rfl, hlt, rfl⟩ := hcut
      obtain ⟨x, hx⟩ : ∃ x, x = sh hi k := ⟨_, rfl⟩
      have hx0 : 0 ≤ x := by rw [hx]; unfold sh; exact Int.mul_nonneg h0 (Int.natCast_nonneg _)
      rw [← hx] at hlt HJ ⊢
      clear hx
      by_cases hbig : 1048576 < x + lo
      · go_wp2
        go_ret
        exact ⟨ret_int (by rw [HJ.out]; omega), rfl⟩
      · go_wp2
        go_ret
        exact ⟨ret_int (by rw [HJ.out]; omega), rfl⟩

theorem bytes8 (a b : ByteArray) (w : World) (ha : a.size ≤ 1048576) (hb : b.size ≤ 1048576) (hab : (a.size : Int) + b.size ≤ 1048576) : Calls Try.prog 8 #[.string a, .string b] w fun e w' => e = .returned (.bool true) ∧ w = w' := by
  go_enter Try.func8, Try.ntmps8
  go_wp2
  go_ret
  exact ⟨rfl, rfl⟩
theorem bytes8_no (a b : ByteArray) (w : World) (ha : a.size ≤ maxLen) (hb : b.size ≤ maxLen) (h : ¬ ((a.size : Int) + b.size ≤ 1048576)) : Calls Try.prog 8 #[.string a, .string b] w fun e w' => e = .returned (.bool false) ∧ w = w' := by
  unfold maxLen at ha hb
  by_cases h1 : a.size ≤ 1048576
  · by_cases h2 : b.size ≤ 1048576
    · go_enter Try.func8, Try.ntmps8
      go_wp2
      go_ret
      exact ⟨rfl, rfl⟩
    · go_enter Try.func8, Try.ntmps8
      go_wp2
      go_ret
      exact ⟨rfl, rfl⟩
  · go_enter Try.func8, Try.ntmps8
    go_wp2
    go_ret
    exact ⟨rfl, rfl⟩

theorem law4_no (a b : ByteArray) (w : World) (ha : a.size ≤ maxLen) (hb : b.size ≤ maxLen) (h : ¬ ((a.size : Int) + b.size ≤ 1048576)) : Calls Try.prog 4 #[.string a, .string b] w fun e w' => Law w e w' := by
  go_enter Try.func4, Try.ntmps4
  go_wp2_with (go_at_call 8; refine (bytes8_no a b w ha hb h).mono ?_; rintro e w' ⟨rfl, rfl⟩)
  go_ret
  exact ⟨rfl, rfl⟩

theorem bytes_append (a b : ByteArray) : bytes (a ++ b) = bytes a ++ bytes b := by
  unfold bytes
  rw [ByteArray.data_append, Array.toList_append]
theorem nv_range (l : List UInt8) : 0 ≤ nvOf l ∧ nvOf l ≤ 1048576 := by
  unfold nvOf top
  split
  · omega
  · omega

set_option maxHeartbeats 400000 in
set_option maxRecDepth 100000 in
theorem law4_yes (a b : ByteArray) (w : World) (h : (a.size : Int) + b.size ≤ 1048576) : Calls Try.prog 4 #[.string a, .string b] w fun e w' => Law w e w' := by
  by_cases h1 : a.size ≤ 524288
  case neg =>
    go_enter Try.func4, Try.ntmps4
    go_wp2_with (go_at_call 8; refine (bytes8 a b w (by omega) (by omega) h).mono ?_; rintro e w' ⟨rfl, rfl⟩)
    go_ret
    exact ⟨rfl, rfl⟩
  by_cases h2 : b.size ≤ 524288
  case neg =>
    go_enter Try.func4, Try.ntmps4
    go_wp2_with (go_at_call 8; refine (bytes8 a b w (by omega) (by omega) h).mono ?_; rintro e w' ⟨rfl, rfl⟩)
    go_ret
    exact ⟨rfl, rfl⟩
  go_enter Try.func4, Try.ntmps4
  go_wp2_with fail
  refine (bytes8 a b w (by omega) (by omega) h).mono ?_
  rintro e w' ⟨rfl, rfl⟩
  have hsz : (a ++ b).size = a.size + b.size := ByteArray.size_append
  have hs : (a ++ b).size ≤ 1048576 := by omega
  have HX : Hid (bytes (a ++ b) = bytes a ++ bytes b) := bytes_append a b
  have HLb : Hid ((bytes b).length = b.size) := bytes_length b
  have HLa : Hid ((bytes a).length = a.size) := bytes_length a
  have hnr := nv_range (bytes (a ++ b))
  have hna := nv_range (bytes a)
  have hnb := nv_range (bytes b)
  clear hsz
  go_wp2_with fail
  refine (num6 (a ++ b) w hs).mono ?_
  rintro e w' ⟨rfl, rfl⟩
  go_wp2_with fail
  refine (num6 a w (by omega)).mono ?_
  rintro e w' ⟨rfl, rfl⟩
  go_wp2_with fail
  refine (num6 b w (by omega)).mono ?_
  rintro e w' ⟨rfl, rfl⟩
  have HE : Hid (0 < a.size + b.size → (bytes (a ++ b)).all dig = okOf (bytes (a ++ b))) := fun hp => by
    unfold okOf
    have : (bytes (a ++ b)).isEmpty = false := by
      have hl : (bytes (a ++ b)).length = a.size + b.size := by rw [HX.out, List.length_append, HLa.out, HLb.out]
      cases e : bytes (a ++ b) with
      | nil => rw [e] at hl; simp at hl; omega
      | cons _ _ => rfl
    rw [this]; rfl
  have HZ : Hid (a.size + b.size = 0 → okOf (bytes (a ++ b)) = false) := fun hp => by
    have hl : (bytes (a ++ b)).length = a.size + b.size := by rw [HX.out, List.length_append, HLa.out, HLb.out]
    have e0 : bytes (a ++ b) = [] := List.eq_nil_of_length_eq_zero (by rw [hl]; exact hp)
    rw [e0]; rfl
  by_cases ha0 : a.size = 0
  · have e0 : bytes a = [] := List.eq_nil_of_length_eq_zero (by rw [HLa.out]; exact ha0)
    have e : bytes (a ++ b) = bytes b := by rw [HX.out, e0, List.nil_append]
    have HN : Hid (nvOf (bytes (a ++ b)) = nvOf (bytes b)) := by rw [e]; rfl
    have HO : Hid (okOf (bytes (a ++ b)) = okOf (bytes b)) := by rw [e]; rfl
    clear e e0
    have hab : a.size ≤ 0 := by omega
    clear ha0
    by_cases hb0 : b.size = 0
    · have hO : okOf (bytes (a ++ b)) = false := HZ.out (by omega)
      have hOb : okOf (bytes b) = false := by rw [← HO.out, hO]
      have hbb : b.size ≤ 0 := by omega
      clear hb0
      go_wp2_with (go_at_call 9; refine (dig9 (a ++ b) w hs).mono ?_; rintro e w' ⟨rfl, rfl⟩)
      go_ret
      exact ⟨ret_bool (by simp), rfl⟩
    · have hD := HE.out (by omega)
      cases hO : okOf (bytes (a ++ b)) with
      | false =>
        have hOb : okOf (bytes b) = false := by rw [← HO.out, hO]
        rw [hO] at hD
        go_wp2_with (go_at_call 9; refine (dig9 (a ++ b) w hs).mono ?_; rintro e w' ⟨rfl, rfl⟩)
        go_ret
        exact ⟨ret_bool (by simp), rfl⟩
      | true =>
        have hOb : okOf (bytes b) = true := by rw [← HO.out, hO]
        rw [hO] at hD
        go_wp2_with (go_at_call 9; refine (dig9 (a ++ b) w hs).mono ?_; rintro e w' ⟨rfl, rfl⟩)
        go_ret
        exact ⟨ret_bool (by simp), rfl⟩
  · have hD := HE.out (by omega)
    by_cases hb0 : b.size = 0
    · have e0 : bytes b = [] := List.eq_nil_of_length_eq_zero (by rw [HLb.out]; exact hb0)
      have e : bytes (a ++ b) = bytes a := by rw [HX.out, e0, List.append_nil]
      have HN : Hid (nvOf (bytes (a ++ b)) = nvOf (bytes a)) := by rw [e]; rfl
      have HO : Hid (okOf (bytes (a ++ b)) = okOf (bytes a)) := by rw [e]; rfl
      clear e e0
      have hbb : b.size ≤ 0 := by omega
      clear hb0
      cases hO : okOf (bytes (a ++ b)) with
      | false =>
        have hOa : okOf (bytes a) = false := by rw [← HO.out, hO]
        rw [hO] at hD
        go_wp2_with (go_at_call 9; refine (dig9 (a ++ b) w hs).mono ?_; rintro e w' ⟨rfl, rfl⟩)
        go_ret
        exact ⟨ret_bool (by simp), rfl⟩
      | true =>
        have hOa : okOf (bytes a) = true := by rw [← HO.out, hO]
        rw [hO] at hD
        go_wp2_with (go_at_call 9; refine (dig9 (a ++ b) w hs).mono ?_; rintro e w' ⟨rfl, rfl⟩)
        go_ret
        exact ⟨ret_bool (by simp), rfl⟩
    · have hla : bytes a ≠ [] := fun e => ha0 (by rw [← HLa.out, e]; rfl)
      have hlb : bytes b ≠ [] := fun e => hb0 (by rw [← HLb.out, e]; rfl)
      have HOK : Hid (okOf (bytes (a ++ b)) = (okOf (bytes a) && okOf (bytes b))) := by rw [HX.out]; exact ok_append _ _ hla hlb
      clear hla hlb
      cases hA : okOf (bytes a) with
      | false =>
        have hO : okOf (bytes (a ++ b)) = false := by rw [HOK.out, hA]; rfl
        have HN : Hid (nvOf (bytes (a ++ b)) = 0) := nv_no _ hO
        rw [hO] at hD
        go_wp2_with (go_at_call 9; refine (dig9 (a ++ b) w hs).mono ?_; rintro e w' ⟨rfl, rfl⟩)
        all_goals go_ret
        all_goals exact ⟨ret_bool (by simp [HN.out]), rfl⟩
      | true =>
        cases hBk : okOf (bytes b) with
        | false =>
          have hO : okOf (bytes (a ++ b)) = false := by rw [HOK.out, hA, hBk]; rfl
          have HN : Hid (nvOf (bytes (a ++ b)) = 0) := nv_no _ hO
          rw [hO] at hD
          go_wp2_with (go_at_call 9; refine (dig9 (a ++ b) w hs).mono ?_; rintro e w' ⟨rfl, rfl⟩)
          go_ret
          exact ⟨ret_bool (by simp [HN.out]), rfl⟩
        | true =>
          have hO : okOf (bytes (a ++ b)) = true := by rw [HOK.out, hA, hBk]; rfl
          have HN : Hid (nvOf (bytes (a ++ b)) = joined (nvOf (bytes a)) (nvOf (bytes b)) b.size) := by
            have := joined_nv (bytes a) (bytes b) hA hBk (by rw [← HX.out]; exact hO)
            rw [← HX.out, HLb.out] at this
            exact this
          rw [hO] at hD
          go_wp2_with (first | (go_at_call 9; refine (dig9 (a ++ b) w hs).mono ?_; rintro e w' ⟨rfl, rfl⟩) | (go_at_call 10; refine (join10 (nvOf (bytes a)) (nvOf (bytes b)) b.size w hna.1 hna.2 hnb.1 hnb.2 (by omega)).mono ?_; rintro e w' ⟨rfl, rfl⟩))
          go_ret
          exact ⟨ret_bool (by simp [HN.out]), rfl⟩

theorem law4 (a b : ByteArray) (w : World) (ha : a.size ≤ maxLen) (hb : b.size ≤ maxLen) : Calls Try.prog 4 #[.string a, .string b] w fun e w' => Law w e w' := by
  by_cases h : (a.size : Int) + b.size ≤ 1048576
  · exact law4_yes a b w h
  · exact law4_no a b w ha hb h

end Go.Proofs.Qxb6628539a
