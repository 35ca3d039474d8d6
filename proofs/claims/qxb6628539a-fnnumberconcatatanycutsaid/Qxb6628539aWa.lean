import Derived.Test.Qxb6628539aProg
import Derived.Test.Qxb6628539aPlain
import Derived.WalkKit
import Derived.WalkSpells
import Derived.WalkLawsBesides
import Derived.Deep.DeepCutAuto
import Derived.Deep.CutBlock
import Derived.Deep.QuietTactic
import Derived.BigQuiet
import Derived.Deep.Light
namespace Go.Proofs.Qxb6628539a
open Go.RowKit
open Plain

/-- The bytes of a string. -/
def bytes (s : ByteArray) : List UInt8 := s.data.toList
theorem bytes_length (s : ByteArray) : (bytes s).length = s.size := Array.length_toList
theorem empty_yes (s : ByteArray) (h : s.size = 0) : s.toList.isEmpty = true := by
  rw [ByteArray.toList_eq]
  have : bytes s = [] := List.eq_nil_of_length_eq_zero (by rw [bytes_length]; exact h)
  show (bytes s).isEmpty = true
  rw [this]; rfl
theorem empty_no (s : ByteArray) (h : ¬ s.size = 0) : s.toList.isEmpty = false := by
  rw [ByteArray.toList_eq]
  show (bytes s).isEmpty = false
  cases e : bytes s with
  | nil => exact absurd (by rw [← bytes_length, e]; rfl) h
  | cons _ _ => rfl
theorem at_fb (s : ByteArray) (k : Nat) (h : k < s.size) : (s[k].toNat : Int) = fb (bytes s) k := by
  rw [fb_of_lt _ _ (by rw [bytes_length]; exact h)]
  rfl

/-- What number hands back. -/
def Num (l : List UInt8) (w : World) (e : Ending) (w' : World) : Prop := e = .returned (.tuple #[.int .i64 (nvOf l), .bool (okOf l)]) ∧ w = w'
theorem Num.no {l : List UInt8} {w : World} (h : okOf l = false) : Num l w (.returned (.tuple #[.int .i64 0, .bool false])) w := ⟨by rw [nv_no l h, h], rfl⟩
theorem Num.yes {l : List UInt8} {w : World} {n : Int} (h : okOf l = true) (hn : n = nvOf l) : Num l w (.returned (.tuple #[.int .i64 n, .bool true])) w := ⟨by rw [h, hn], rfl⟩

set_option maxHeartbeats 400000 in
set_option maxRecDepth 100000 in
theorem num11 (s : ByteArray) (w : World) (hs : s.size ≤ 1048576) : Calls Try.prog 11 #[.string s] w fun e w' => Num (bytes s) w e w' := by
  have HL : Hid ((bytes s).length = s.size) := bytes_length s
  by_cases h0 : s.size = 0
  · have he : bytes s = [] := List.eq_nil_of_length_eq_zero (by rw [HL.out]; exact h0)
    have hl := empty_yes s h0
    have HE : Hid (okOf (bytes s) = false) := by show okOf (bytes s) = false; rw [he]; rfl
    clear he h0
    go_enter Try.func11, Try.ntmps11
    go_wp2
    go_ret2
    exact Num.no HE.out
  · have hl := empty_no s h0
    go_enter Try.func11, Try.ntmps11
    go_wp2
    go_loopg [4, 5] s.size (fun g n i wr => ∃ j : Nat, g + j = s.size ∧ i = .int .i64 j ∧ n = .int .i64 (cut (bytes s) j) ∧ w = wr ∧ Hid (∀ m, m < j → 48 ≤ fb (bytes s) m ∧ fb (bytes s) m ≤ 57))
    case atStart => exact ⟨0, by omega, rfl, by rw [cut_zero], rfl, fun m hm => by omega⟩
    case round =>
      obtain ⟨j, hg, rfl, rfl, rfl, HJ⟩ := hrel
      by_cases hj : j < s.size
      · have hx := at_fb s j hj
        have hr := fb_range (bytes s) j
        have hc := cut_range (bytes s) j
        by_cases hd : 48 ≤ fb (bytes s) j ∧ fb (bytes s) j ≤ 57
        · have HC : Hid (cut (bytes s) (j + 1) = min (cut (bytes s) j * 10 + (fb (bytes s) j - 48)) 1048576) := cut_succ _ j (by rw [HL.out]; exact hj) hd.1
          go_wp2
          all_goals
            go_roundg (gk - 1)
            case measure => omega
            case rel => exact ⟨j + 1, by omega, by go_num, by rw [HC.out]; go_light; congr 1; omega, rfl, fun m hm => by
              by_cases e : m = j
              · rw [e]; exact hd
              · exact HJ.out m (by omega)⟩
        · go_wp2
          all_goals go_ret2
          all_goals exact Num.no (ok_false _ j (by rw [HL.out]; exact hj) hd)
      · have hje : j = (bytes s).length := by rw [HL.out]; omega
        have HO : Hid (okOf (bytes s) = true) := ok_true _ (by rw [HL.out]; omega) (fun m _ h2 => HJ.out m (by omega))
        have HV : Hid (cut (bytes s) j = nvOf (bytes s)) := by
          show cut (bytes s) j = nvOf (bytes s)
          rw [hje, cut_all, nv_ok _ HO.out]
        clear hje
        go_wp2
        go_ret2
        exact Num.yes HO.out HV.out

set_option maxHeartbeats 400000 in
theorem num6 (s : ByteArray) (w : World) (hs : s.size ≤ 1048576) : Calls Try.prog 6 #[.string s] w fun e w' => Num (bytes s) w e w' := by
  go_enter Try.func6, Try.ntmps6
  go_wp2_with (go_at_call 11; refine (num11 s w hs).mono ?_; rintro e w' ⟨rfl, rfl⟩)
  go_ret2
  exact ⟨rfl, rfl⟩

set_option maxHeartbeats 400000 in
set_option maxRecDepth 100000 in
theorem model7 (s : ByteArray) (w : World) (hs : s.size ≤ 1048576) : Calls Try.prog 7 #[.string s] w fun e w' => Num (bytes s) w e w' := by
  have HL : Hid ((bytes s).length = s.size) := bytes_length s
  by_cases h0 : s.size = 0
  · have he : bytes s = [] := List.eq_nil_of_length_eq_zero (by rw [HL.out]; exact h0)
    have HE : Hid (okOf (bytes s) = false) := by show okOf (bytes s) = false; rw [he]; rfl
    clear he
    go_enter Try.func7, Try.ntmps7
    go_wp2
    go_ret2
    exact Num.no HE.out
  · have h0b : ((s.size : Int) == 0) = false := by rw [beq_eq_false_iff_ne]; omega
    go_enter Try.func7, Try.ntmps7
    go_wp2
    go_loopg [4] s.size (fun g i wr => ∃ j : Nat, g + j = s.size ∧ i = .int .i64 j ∧ w = wr ∧ Hid (∀ m, m < j → 48 ≤ fb (bytes s) m ∧ fb (bytes s) m ≤ 57))
    case atStart => exact ⟨0, by omega, rfl, rfl, fun m hm => by omega⟩
    case round =>
      obtain ⟨j, hg, rfl, rfl, HJ⟩ := hrel
      by_cases hj : j < s.size
      · have hx := at_fb s j hj
        have hr := fb_range (bytes s) j
        by_cases hd : 48 ≤ fb (bytes s) j ∧ fb (bytes s) j ≤ 57
        · go_wp2
          go_roundg (gk - 1)
          case measure => omega
          case rel => exact ⟨j + 1, by omega, by go_num, rfl, fun m hm => by
            by_cases e : m = j
            · rw [e]; exact hd
            · exact HJ.out m (by omega)⟩
        · go_wp2
          all_goals go_ret2
          all_goals exact Num.no (ok_false _ j (by rw [HL.out]; exact hj) hd)
      · have HA : Hid (allDig (bytes s) 0) := fun m _ h2 => HJ.out m (by rw [HL.out] at h2; omega)
        have HO : Hid (okOf (bytes s) = true) := ok_true _ (by rw [HL.out]; omega) HA.out
        clear HJ
        go_wp2
        go_loopg [5] s.size (fun g i wr => ∃ z : Nat, g + z = s.size ∧ i = .int .i64 z ∧ w = wr ∧ Hid (∀ m, m < z → fb (bytes s) m = 48))
        case atStart => exact ⟨0, by omega, rfl, rfl, fun m hm => by omega⟩
        case round =>
          obtain ⟨z, hg2, rfl, rfl, HZ⟩ := hrel
          by_cases hz : z < s.size ∧ fb (bytes s) z = 48
          · obtain ⟨hz1, h48⟩ := hz
            have hx := at_fb s z hz1
            go_wp2
            go_roundg (gk - 1)
            case measure => omega
            case rel => exact ⟨z + 1, by omega, by go_num, rfl, fun m hm => by
              by_cases e : m = z
              · rw [e]; exact h48
              · exact HZ.out m (by omega)⟩
          · have HS : Hid (val 0 (bytes s) = val 0 ((bytes s).drop z)) := val_strip _ z (by rw [HL.out]; omega) HZ.out
            have HN : Hid (nvOf (bytes s) = ((min (val 0 ((bytes s).drop z)) top : Nat) : Int)) := by
              show nvOf (bytes s) = _
              rw [nv_ok _ HO.out, HS.out]
            by_cases h7 : (7 : Int) < (s.size : Int) - (z : Int)
            · have hz1 : z < s.size := by omega
              have hx := at_fb s z hz1
              have hd := HA.out z (Nat.zero_le _) (by rw [HL.out]; exact hz1)
              have h48 : ¬ fb (bytes s) z = 48 := fun e => hz ⟨hz1, e⟩
              have HT : Hid (nvOf (bytes s) = 1048576) := by
                show nvOf (bytes s) = _
                rw [HN.out, min_top _ (val_long _ z (by rw [HL.out]; exact hz1) (by omega) (by rw [HL.out]; omega))]
              clear hz
              go_wp2
              go_ret2
              exact Num.yes HO.out HT.out.symm
            · by_cases hz1 : z < s.size
              · have hx := at_fb s z hz1
                have h48 : ¬ fb (bytes s) z = 48 := fun e => hz ⟨hz1, e⟩
                clear hz
                go_wp2
                go_loopg [6, 7, 8] (s.size - z) (fun g v p k wr => ∃ (t : Nat) (kk vi pi : Int), g + z = t ∧ t ≤ s.size ∧ k = .int .i64 kk ∧ v = .int .i64 vi ∧ p = .int .i64 pi ∧ w = wr ∧ Hid (kk = (t : Int) - 1 ∧ vi = tv (bytes s) t ∧ pi = pw (bytes s) t))
                case atStart => exact ⟨s.size, _, _, _, by omega, Nat.le_refl _, rfl, rfl, rfl, rfl, rfl, by rw [← HL.out, tv_end], by rw [← HL.out, pw_end]⟩
                case round =>
                  obtain ⟨t, kk, vi, pi, hg3, hts, rfl, rfl, rfl, rfl, HR⟩ := hrel
                  have hvb := tv_bound (bytes s) t (fun m _ h2 => HA.out m (Nat.zero_le _) h2) (by rw [HL.out]; omega)
                  rw [← HR.out.2.1] at hvb
                  by_cases ht : z < t
                  · obtain ⟨r, hr⟩ : ∃ r : Nat, t = r + 1 := ⟨t - 1, by omega⟩
                    obtain rfl : kk = (r : Int) := by have := HR.out.1; omega
                    have hrs : r < s.size := by omega
                    have hx := at_fb s r hrs
                    have hd := HA.out r (Nat.zero_le _) (by rw [HL.out]; exact hrs)
                    have hpb := pw_bound (bytes s) t (by rw [HL.out]; omega)
                    rw [← HR.out.2.2] at hpb
                    have hpr := prod_le (fb (bytes s) r - 48) pi (by omega) (by omega) hpb.1 hpb.2
                    have HV : Hid (tv (bytes s) r = vi + (fb (bytes s) r - 48) * pi) := by
                      have := tv_step (bytes s) r (by rw [HL.out]; exact hrs) hd.1
                      rw [← hr, ← HR.out.2.1, ← HR.out.2.2] at this
                      exact this
                    have HP : Hid (pw (bytes s) r = pi * 10) := by
                      have := pw_step (bytes s) r (by rw [HL.out]; exact hrs)
                      rw [← hr, ← HR.out.2.2] at this
                      exact this
                    have hzr : (z : Int) ≤ (r : Int) := by omega
                    have hr1 : t ≤ r + 1 := by omega
                    have hr2 : r + 1 ≤ t := by omega
                    clear hr
                    go_wp2
                    go_roundg (gk - 1)
                    case measure => omega
                    case rel => exact ⟨r, (r : Int) - 1, vi + (fb (bytes s) r - 48) * pi, pi * 10, by omega, by omega, rfl, rfl, rfl, rfl, rfl, HV.out.symm, HP.out.symm⟩
                  · have hzt : t = z := by omega
                    have HX : Hid (nvOf (bytes s) = ((min (val 0 ((bytes s).drop z)) top : Nat) : Int) ∧ vi = (val 0 ((bytes s).drop z) : Int)) := ⟨HN.out, by rw [HR.out.2.1, hzt]; rfl⟩
                    have hkz : kk < (z : Int) := by have := HR.out.1; omega
                    clear hzt
                    by_cases hbig : 1048576 < vi
                    · go_wp2
                      go_ret2
                      exact Num.yes HO.out (by rw [HX.out.1, min_top _ (by have := HX.out.2; unfold top; omega)])
                    · go_wp2
                      go_ret2
                      exact Num.yes HO.out (by rw [HX.out.1, min_low _ (by have := HX.out.2; unfold top; omega)]; exact HX.out.2)
              · clear hz
                go_wp2
                go_loopg [6, 7, 8] (s.size - z) (fun g v p k wr => ∃ (t : Nat) (kk vi pi : Int), g + z = t ∧ t ≤ s.size ∧ k = .int .i64 kk ∧ v = .int .i64 vi ∧ p = .int .i64 pi ∧ w = wr ∧ Hid (kk = (t : Int) - 1 ∧ vi = tv (bytes s) t ∧ pi = pw (bytes s) t))
                case atStart => exact ⟨s.size, _, _, _, by omega, Nat.le_refl _, rfl, rfl, rfl, rfl, rfl, by rw [← HL.out, tv_end], by rw [← HL.out, pw_end]⟩
                case round =>
                  obtain ⟨t, kk, vi, pi, hg3, hts, rfl, rfl, rfl, rfl, HR⟩ := hrel
                  have hvb := tv_bound (bytes s) t (fun m _ h2 => HA.out m (Nat.zero_le _) h2) (by rw [HL.out]; omega)
                  rw [← HR.out.2.1] at hvb
                  by_cases ht : z < t
                  · obtain ⟨r, hr⟩ : ∃ r : Nat, t = r + 1 := ⟨t - 1, by omega⟩
                    obtain rfl : kk = (r : Int) := by have := HR.out.1; omega
                    have hrs : r < s.size := by omega
                    have hx := at_fb s r hrs
                    have hd := HA.out r (Nat.zero_le _) (by rw [HL.out]; exact hrs)
                    have hpb := pw_bound (bytes s) t (by rw [HL.out]; omega)
                    rw [← HR.out.2.2] at hpb
                    have hpr := prod_le (fb (bytes s) r - 48) pi (by omega) (by omega) hpb.1 hpb.2
                    have HV : Hid (tv (bytes s) r = vi + (fb (bytes s) r - 48) * pi) := by
                      have := tv_step (bytes s) r (by rw [HL.out]; exact hrs) hd.1
                      rw [← hr, ← HR.out.2.1, ← HR.out.2.2] at this
                      exact this
                    have HP : Hid (pw (bytes s) r = pi * 10) := by
                      have := pw_step (bytes s) r (by rw [HL.out]; exact hrs)
                      rw [← hr, ← HR.out.2.2] at this
                      exact this
                    have hzr : (z : Int) ≤ (r : Int) := by omega
                    have hr1 : t ≤ r + 1 := by omega
                    have hr2 : r + 1 ≤ t := by omega
                    clear hr
                    go_wp2
                    go_roundg (gk - 1)
                    case measure => omega
                    case rel => exact ⟨r, (r : Int) - 1, vi + (fb (bytes s) r - 48) * pi, pi * 10, by omega, by omega, rfl, rfl, rfl, rfl, rfl, HV.out.symm, HP.out.symm⟩
                  · have hzt : t = z := by omega
                    have HX : Hid (nvOf (bytes s) = ((min (val 0 ((bytes s).drop z)) top : Nat) : Int) ∧ vi = (val 0 ((bytes s).drop z) : Int)) := ⟨HN.out, by rw [HR.out.2.1, hzt]; rfl⟩
                    have hkz : kk < (z : Int) := by have := HR.out.1; omega
                    clear hzt
                    by_cases hbig : 1048576 < vi
                    · go_wp2
                      go_ret2
                      exact Num.yes HO.out (by rw [HX.out.1, min_top _ (by have := HX.out.2; unfold top; omega)])
                    · go_wp2
                      go_ret2
                      exact Num.yes HO.out (by rw [HX.out.1, min_low _ (by have := HX.out.2; unfold top; omega)]; exact HX.out.2)

end Go.Proofs.Qxb6628539a
