import Derived.Test.Qxb6628219aDoorProg
import Derived.Test.Qxb6628219aDoorModel
import Derived.WalkKit
import Derived.WalkSpells
import Derived.WalkLawsBesides
import Derived.Deep.DeepCutAuto
import Derived.Deep.CutBlock
import Derived.Deep.QuietTactic
import Derived.BigQuiet
import Derived.Deep.Light
namespace Go.Proofs.Qxb6628219aDoor
open Go.RowKit
open Plain

/-- The bound as a Go string. -/
def bndS (neg : Bool) : ByteArray := ⟨(bnd neg).toArray⟩
theorem bndS_size (neg : Bool) : (bndS neg).size = 19 := by cases neg <;> rfl
theorem bndS_at (neg : Bool) (k : Nat) (h : k < (bndS neg).size) : ((bndS neg)[k].toNat : Int) = fb (bnd neg) k := by
  have h' : k < (bnd neg).length := by rw [bnd_length]; rw [bndS_size] at h; exact h
  rw [fb_of_lt _ _ h']
  rfl

theorem drewN_two (w : World) (a b : Nat) : (w.drewN a).drewN b = w.drewN (a + b) := by simp
theorem sgF (n : Nat) : signedOf false n = (n : Int) := rfl
theorem sgT (n : Nat) : signedOf true n = -(n : Int) := rfl

theorem Tryd.cells5 : Tryd.prog.cellsOf 5 = 1 := by kernel_rfl

set_option maxHeartbeats 400000 in
set_option maxRecDepth 100000 in
theorem model_sign (l : List UInt8) (b : Nat) (w : World) (hn : l.length ≤ 1048577) (hpos : 0 < l.length)
    (hc : ∀ k, k < l.length → w.cell? ⟨b, k, none⟩ = some (.int .u8 (fb l k)))
    (sgn neg : Bool) (i0 : Nat) (hi0 : i0 ≤ 1) (HS : Hid (sgn = decide (fb l 0 = 43 ∨ fb l 0 = 45))) (HI : Hid ((sgn = true → i0 = 1) ∧ (sgn = false → i0 = 0) ∧ neg = decide (fb l 0 = 45) ∧ dec l = mag neg (l.drop i0))) :
    Calls Tryd.prog 6 #[.slice (some ⟨b, 0, none⟩) l.length l.length] w fun e w' => (∃ q, w' = w.drewN q) ∧ ((mag neg (l.drop i0) = none ∧ e = .returned (.tuple #[.int .i64 0, .bool false])) ∨ ∃ v, mag neg (l.drop i0) = some v ∧ e = .returned (.tuple #[.int .i64 v, .bool true])) := by
  have hc0 := hc 0 hpos
  have hr0 := fb_range l 0
  go_enter Tryd.func6, Tryd.ntmps6
  go_upto_region 3 with fail
  go_cut [27] from 13 to 27 (fun c wx => c = .bool sgn ∧ w = wx)
  case first =>
    by_cases h43 : fb l 0 = 43
    · go_wp2
      go_meet
      case rel => exact ⟨by rw [HS.out, decide_eq_true (Or.inl h43)], rfl⟩
    · by_cases h45 : fb l 0 = 45
      · go_wp2
        go_meet
        case rel => exact ⟨by rw [HS.out, decide_eq_true (Or.inr h45)], rfl⟩
      · go_wp2
        go_meet
        case rel => go_light; exact ⟨by rw [HS.out, decide_eq_false (by omega)]; simp; omega, rfl⟩
  case rest =>
    obtain ⟨rfl, rfl⟩ := hcut
    go_upto_if 27 with fail
    go_cut [4, 5] from 13 to 31 (fun i ng wx => i = .int .i64 (i0 : Int) ∧ ng = .bool neg ∧ w = wx)
    case first =>
      by_cases h43 : fb l 0 = 43 ∨ fb l 0 = 45
      · have hs : sgn = true := by rw [HS.out]; exact decide_eq_true h43
        have HI1 : Hid (i0 = 1 ∧ neg = decide (fb l 0 = 45)) := ⟨HI.out.1 hs, HI.out.2.2.1⟩
        clear h43 HI HS
        subst hs
        go_wp2
        go_meet
        case rel => exact ⟨by rw [HI1.out.1]; rfl, by rw [HI1.out.2]; rfl, rfl⟩
      · have hs : sgn = false := by rw [HS.out]; exact decide_eq_false h43
        have HI1 : Hid (i0 = 0 ∧ neg = decide (fb l 0 = 45)) := ⟨HI.out.2.1 hs, HI.out.2.2.1⟩
        have H45 : Hid (¬ fb l 0 = 45) := fun h => h43 (Or.inr h)
        clear h43 HI HS
        subst hs
        go_wp2
        go_meet
        case rel => exact ⟨by rw [HI1.out.1]; rfl, by rw [HI1.out.2, decide_eq_false H45.out], rfl⟩
    case rest =>
      obtain ⟨rfl, rfl, rfl⟩ := hcut
      clear HS HI hc0 hr0
      by_cases hz : i0 = l.length
      · go_wp2
        go_ret2
        exact ⟨⟨0, rfl⟩, Or.inl ⟨by rw [hz, List.drop_length, mag_nil], rfl⟩⟩
      · have hlt : i0 < l.length := by omega
        have hzb : ((i0 : Int) == (l.length : Int)) = false := by simp; omega
        clear hz
        go_wp2
        go_loopg [6] (l.length - i0) (fun g j wr => ∃ k : Nat, g + k = l.length ∧ i0 ≤ k ∧ j = .int .i64 k ∧ Hid (∀ m, i0 ≤ m → m < k → 48 ≤ fb l m ∧ fb l m ≤ 57) ∧ w = wr)
        case atStart => exact ⟨i0, by omega, Nat.le_refl _, rfl, fun m h1 h2 => by omega, rfl⟩
        case round =>
          obtain ⟨k, hk2, hk1, rfl, HD, rfl⟩ := hrel
          by_cases hkl : k < l.length
          · have hck := hc k hkl
            have hrk := fb_range l k
            by_cases hd : 48 ≤ fb l k ∧ fb l k ≤ 57
            · go_wp2
              go_roundg (gk - 1)
              case measure => omega
              case rel => exact ⟨k + 1, by omega, by omega, by go_num, fun m h1 h2 => by
                by_cases e : m = k
                · rw [e]; exact hd
                · exact HD.out m h1 (by omega), rfl⟩
            · go_wp2
              all_goals go_ret2
              all_goals exact ⟨⟨0, rfl⟩, Or.inl ⟨mag_bad neg l i0 k hk1 hkl hd, rfl⟩⟩
          · have HA : Hid (allDig l i0) := fun m h1 h2 => HD.out m h1 (by omega)
            clear HD
            go_wp2
            go_loopg [7] (l.length - i0) (fun g j wr => ∃ z : Nat, g + z = l.length ∧ i0 ≤ z ∧ j = .int .i64 z ∧ Hid (∀ m, i0 ≤ m → m < z → fb l m = 48) ∧ w = wr)
            case atStart => exact ⟨i0, by omega, Nat.le_refl _, rfl, fun m h1 h2 => by omega, rfl⟩
            case round =>
              obtain ⟨z, hz2, hz1, rfl, HZ, rfl⟩ := hrel
              by_cases hzl : z < l.length
              · have hcz := hc z hzl
                have hrz := fb_range l z
                by_cases h48 : fb l z = 48
                · go_wp2
                  go_roundg (gk - 1)
                  case measure => omega
                  case rel => exact ⟨z + 1, by omega, by omega, by go_num, fun m h1 h2 => by
                    by_cases e : m = z
                    · rw [e]; exact h48
                    · exact HZ.out m h1 (by omega), rfl⟩
                · have h0 : 48 < fb l z := by have := (HA.out z hz1 hzl).1; omega
                  clear h48
                  have hzz : ¬ z = l.length := by omega
                  go_upto_if 72 with fail
                  go_cut [9] (fun bd wx => bd = .string (bndS neg) ∧ w = wx)
                  case first =>
                    cases neg
                    · go_wp2
                      go_meet
                      case rel => exact ⟨rfl, rfl⟩
                    · go_wp2
                      go_meet
                      case rel => exact ⟨rfl, rfl⟩
                  case rest =>
                    obtain ⟨rfl, rfl⟩ := hcut
                    have hbs := bndS_size neg
                    by_cases h19 : 19 < l.length - z
                    · go_wp2
                      go_ret2
                      exact ⟨⟨0, rfl⟩, Or.inl ⟨mag_unfit neg l i0 (by rw [val_zeros l i0 (z - i0) (by omega) (fun m a1 a2 => HZ.out m a1 (by omega)), show i0 + (z - i0) = z by omega]; exact unfit_long neg l z hzl h0 (by omega)), rfl⟩⟩
                    · have HV : Hid (val 0 (l.drop i0) = val 0 (l.drop z)) := by
                        have := val_zeros l i0 (z - i0) (by omega) (fun m a1 a2 => HZ.out m a1 (by omega))
                        rw [show i0 + (z - i0) = z by omega] at this
                        exact this
                      have HAz : Hid (allDig l z) := fun m a1 a2 => HA.out m (by omega) a2
                      go_upto_if 82 with fail
                      go_cut [10] (fun _ wx => (∃ q, wx = w.drewN q) ∧ Hid (fits neg (val 0 (l.drop z)) = true))
                      case first =>
                        by_cases he : 19 ≤ l.length - z
                        · go_wp2
                          go_loopg [10] 19 (fun g j wr => ∃ q : Nat, g + q = 19 ∧ j = .int .i64 q ∧ Hid (∀ m, m < q → fb l (z + m) = fb (bnd neg) m) ∧ ∃ d, wr = w.drewN d)
                          case atStart => exact ⟨0, by omega, rfl, fun m hm => by omega, 0, rfl⟩
                          case round =>
                            obtain ⟨q, hq, rfl, HQ, d, rfl⟩ := hrel
                            by_cases hq19 : q < 19
                            · have hcq := hc (z + q) (by omega)
                              have hq1 : (q : Int) < ((l.length - z : Nat) : Int) := by omega
                              have hba := bndS_at neg q (by rw [hbs]; exact hq19)
                              by_cases hbe : fb l (z + q) = fb (bnd neg) q
                              · have HBE : Hid (fb l (z + q) = fb (bnd neg) q) := hbe
                                have hbb : (fb l (z + q) != fb (bnd neg) q) = false := by simp [hbe]
                                clear hbe
                                go_wp2
                                go_quiet (fail)
                                go_wp2
                                go_roundg (gk - 1)
                                case measure => omega
                                case rel => exact ⟨q + 1, by omega, by go_num, fun m hm => by
                                  by_cases e : m = q
                                  · rw [e]; exact HBE.out
                                  · exact HQ.out m (by omega), d + nq, by simp⟩
                              · have hbb : (fb l (z + q) != fb (bnd neg) q) = true := by simp [hbe]
                                by_cases hgt : fb (bnd neg) q < fb l (z + q)
                                · go_wp2
                                  go_quiet (fail)
                                  go_wp2
                                  go_quiet (fail)
                                  go_wp2
                                  go_ret2
                                  exact ⟨⟨_, by rw [drewN_two, drewN_two]⟩, Or.inl ⟨mag_unfit neg l i0 (by rw [HV.out]; exact unfit_greater neg l z q HAz.out (by omega) hq19 HQ.out hgt), rfl⟩⟩
                                · go_wp2
                                  go_quiet (fail)
                                  go_wp2
                                  go_quiet (fail)
                                  go_wp2
                                  go_meet
                                  case rel => exact ⟨⟨_, by rw [drewN_two, drewN_two]⟩, fit_less neg l z q HAz.out (by omega) hq19 HQ.out (by omega)⟩
                            · go_wp2
                              go_meet
                              case rel => exact ⟨⟨d, rfl⟩, fit_equal neg l z (by omega) (fun m hm => HQ.out m (by omega))⟩
                        · go_wp2
                          go_meet
                          case rel => exact ⟨⟨0, rfl⟩, fit_short neg l z HAz.out (by omega)⟩
                      case rest =>
                        obtain ⟨⟨d, rfl⟩, HF⟩ := hcut
                        have HM : Hid (mag neg (l.drop i0) = some (signedOf neg (val 0 (l.drop z)))) := by
                          have := mag_fit neg l i0 hlt HA.out (by rw [HV.out]; exact HF.out)
                          rw [HV.out] at this
                          exact this
                        have HP : Hid (pv l z (l.length - z) = (val 0 (l.drop z) : Int)) := pv_all l z _ (by omega)
                        have HB : Hid (pv l z (l.length - z) ≤ 9223372036854775808 ∧ (neg = false → pv l z (l.length - z) ≤ 9223372036854775807)) := by
                          rw [HP.out]
                          have := (fits_iff _ _).1 HF.out
                          cases neg
                          · rw [bnd_val_false] at this; exact ⟨by omega, fun _ => by omega⟩
                          · rw [bnd_val_true] at this; exact ⟨by omega, fun e => by cases e⟩
                        go_wp2
                        go_loopg [11, 12] (l.length - z) (fun g acc j wr => ∃ (q : Nat) (a : Int), g + q = l.length - z ∧ j = .int .i64 q ∧ acc = .int .i64 a ∧ Hid (a = -(pv l z q)) ∧ w.drewN d = wr)
                        case atStart => exact ⟨0, 0, by omega, rfl, rfl, by rw [pv_zero]; rfl, rfl⟩
                        case round =>
                          obtain ⟨q, a, hq, rfl, rfl, HQ, rfl⟩ := hrel
                          by_cases hql : q < l.length - z
                          · have hcq := hc (z + q) (by omega)
                            have hdq := HAz.out (z + q) (by omega) (by omega)
                            have HS : Hid (pv l z (q + 1) = pv l z q * 10 + (fb l (z + q) - 48)) := pv_succ l z q (by omega) hdq.1
                            have hb1 : -9223372036854775808 ≤ a * 10 - (fb l (z + q) - 48) := by
                              have h1 := pv_le l z (q + 1) (l.length - z) (by omega)
                              have h2 := HS.out
                              have h3 := HQ.out
                              have h4 := HB.out.1
                              omega
                            have hb2 : a ≤ 0 := by have h1 := pv_nonneg l z q; have h3 := HQ.out; omega
                            have hq1 : (q : Int) < ((l.length - z : Nat) : Int) := by omega
                            go_wp2
                            go_roundg (gk - 1)
                            case measure => omega
                            case rel => exact ⟨q + 1, a * 10 - (fb l (z + q) - 48), by omega, by go_num, rfl, by
                              show _ = _
                              rw [HS.out, HQ.out]; omega, rfl⟩
                          · have hqe : q = l.length - z := by omega
                            have HR : Hid (a = -(val 0 (l.drop z) : Int)) := by
                              have := HQ.out
                              rw [hqe, HP.out] at this
                              exact this
                            have hb2 : a ≤ 0 := by have h3 := HR.out; omega
                            cases neg
                            · have hb3 : -9223372036854775807 ≤ a := by
                                have h1 := HB.out.2 rfl
                                rw [HP.out] at h1
                                have h3 := HR.out
                                omega
                              go_wp2
                              go_ret2
                              exact ⟨⟨d, rfl⟩, Or.inr ⟨-a, by rw [HM.out, sgF, HR.out, Int.neg_neg], rfl⟩⟩
                            · go_wp2
                              go_ret2
                              exact ⟨⟨d, rfl⟩, Or.inr ⟨a, by rw [HM.out, sgT, HR.out], rfl⟩⟩
              · have hze : z = l.length := by omega
                subst hze
                have HM : Hid (mag neg (l.drop i0) = some 0) := by
                  have e := val_zeros l i0 (l.length - i0) (by omega) (fun m a1 a2 => HZ.out m a1 (by omega))
                  rw [show i0 + (l.length - i0) = l.length by omega, List.drop_length, val_nil] at e
                  have hf : fits neg (val 0 (l.drop i0)) = true := by rw [e, fits_iff]; exact Nat.zero_le _
                  have := mag_fit neg l i0 hlt HA.out hf
                  rw [e] at this
                  rw [this]
                  cases neg <;> rfl
                cases neg
                all_goals
                  go_wp2
                  go_loopg [11, 12] 0 (fun _ acc j wr => acc = .int .i64 0 ∧ j = .int .i64 0 ∧ w = wr)
                  case atStart => exact ⟨rfl, rfl, rfl⟩
                  case round =>
                    obtain ⟨rfl, rfl, rfl⟩ := hrel
                    go_wp2
                    go_ret2
                    exact ⟨⟨0, rfl⟩, Or.inr ⟨0, HM.out, rfl⟩⟩

/-- WHAT zzDecimalModel HANDS BACK. -/
def Said (l : List UInt8) (e : Ending) : Prop := (dec l = none ∧ e = .returned (.tuple #[.int .i64 0, .bool false])) ∨ ∃ v, dec l = some v ∧ e = .returned (.tuple #[.int .i64 v, .bool true])

theorem dec_drop (l : List UInt8) (h : 0 < l.length) (i0 : Nat) (h1 : decide (fb l 0 = 43 ∨ fb l 0 = 45) = true → i0 = 1) (h2 : decide (fb l 0 = 43 ∨ fb l 0 = 45) = false → i0 = 0) : dec l = mag (decide (fb l 0 = 45)) (l.drop i0) := by
  match l, h with
  | c :: r, _ =>
    have e : negOf (c :: r) = decide (fb (c :: r) 0 = 45) := by
      show decide (c.toNat = 45) = _
      rw [fb_zero]
      by_cases hc : c.toNat = 45
      · rw [decide_eq_true hc, decide_eq_true (by omega)]
      · rw [decide_eq_false hc, decide_eq_false (by omega)]
    unfold dec
    rw [e]
    congr 1
    show (if c.toNat = 43 ∨ c.toNat = 45 then r else c :: r) = _
    rw [fb_zero] at h1 h2
    by_cases hs : c.toNat = 43 ∨ c.toNat = 45
    · rw [if_pos hs, h1 (decide_eq_true (by omega))]; rfl
    · rw [if_neg hs, h2 (decide_eq_false (by omega))]; rfl

set_option maxHeartbeats 400000 in
theorem model_none (p : Option Addr) (c : Nat) (w : World) :
    Calls Tryd.prog 6 #[.slice p 0 c] w fun e w' => (∃ q, w' = w.drewN q) ∧ Said [] e := by
  go_enter Tryd.func6, Tryd.ntmps6
  go_wp2
  go_ret2
  exact ⟨⟨0, rfl⟩, Or.inl ⟨mag_nil _, rfl⟩⟩

theorem model_any (l : List UInt8) (b : Nat) (w : World) (hn : l.length ≤ 1048577)
    (hc : ∀ k, k < l.length → w.cell? ⟨b, k, none⟩ = some (.int .u8 (fb l k))) :
    Calls Tryd.prog 6 #[.slice (some ⟨b, 0, none⟩) l.length l.length] w fun e w' => (∃ q, w' = w.drewN q) ∧ Said l e := by
  by_cases h : 0 < l.length
  · have key : ∀ i0 : Nat, i0 ≤ 1 → (decide (fb l 0 = 43 ∨ fb l 0 = 45) = true → i0 = 1) → (decide (fb l 0 = 43 ∨ fb l 0 = 45) = false → i0 = 0) → Calls Tryd.prog 6 #[.slice (some ⟨b, 0, none⟩) l.length l.length] w fun e w' => (∃ q, w' = w.drewN q) ∧ Said l e := by
      intro i0 hi h1 h2
      have e := dec_drop l h i0 h1 h2
      unfold Said
      rw [e]
      exact model_sign l b w hn h hc _ _ i0 hi rfl ⟨h1, h2, rfl, e⟩
    cases hd : decide (fb l 0 = 43 ∨ fb l 0 = 45) with
    | true => exact key 1 (by omega) (fun _ => rfl) (fun e => by rw [hd] at e; cases e)
    | false => exact key 0 (by omega) (fun e => by rw [hd] at e; cases e) (fun _ => rfl)
  · match l, h with
    | [], _ => exact model_none _ _ w
    | _ :: _, h => exact absurd (Nat.succ_pos _) h

end Go.Proofs.Qxb6628219aDoor
