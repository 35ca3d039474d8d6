import Derived.Test.Qxb6628260aWc
namespace Go.Proofs.Qxb6628260a
open Go.RowKit

theorem drewN_two (w : World) (a b : Nat) : (w.drewN a).drewN b = w.drewN (a + b) := by simp

/-- What a law says. -/
def Law (w : World) (e : Ending) (w' : World) : Prop := e = .returned (.bool true) ∧ Below w.heap.size w w'

set_option maxHeartbeats 4000000 in
set_option maxRecDepth 100000 in
theorem split3 (S : Nat → ByteArray) (n : Nat) (v0 : Value) (Z : Nat → Int) (m : Nat) (v1 : Value) (k : Int) (w : World) (h0 : Arg (str S) n v0 w) (h1 : Arg (num Z) m v1 w) (hS : ∀ k, k < n → (S k).size ≤ maxLen) (hn : n ≤ maxLen) (hm : m ≤ maxLen) :
    Calls Try.prog 3 #[v0, v1, .int .i64 k] w fun e w' => Law w e w' := by
  obtain ⟨a0, c0, rfl, hR0⟩ : ∃ a c, v0 = .slice a n c ∧ Row (str S) n a c w := by
    rcases h0 with ⟨rfl, rfl⟩ | ⟨x, c, rfl, hR⟩
    · exact ⟨_, _, rfl, fun h => absurd h (Nat.lt_irrefl _)⟩
    · exact ⟨_, _, rfl, hR⟩
  obtain ⟨a1, c1, rfl, hR1⟩ : ∃ a c, v1 = .slice a m c ∧ Row (num Z) m a c w := by
    rcases h1 with ⟨rfl, rfl⟩ | ⟨x, c, rfl, hR⟩
    · exact ⟨_, _, rfl, fun h => absurd h (Nat.lt_irrefl _)⟩
    · exact ⟨_, _, rfl, hR⟩
  go_enter Try.func3, Try.ntmps3
  go_wp2_with fail
  refine (bytes5 S n a0 c0 a1 m c1 k w hR0 hS hn hm).mono ?_
  rintro e w' ⟨r, rfl, rfl, hr⟩
  cases r
  · go_wp2
    go_ret
    exact ⟨rfl, Below.refl _ _⟩
  have hSm := hr rfl
  clear hr hn hm hS
  go_wp2_with fail
  refine (within6 S n a0 c0 a1 m c1 w hR0 hSm).mono ?_
  rintro e w' ⟨r, rfl, rfl, hr⟩
  cases r
  · go_wp2
    go_ret
    exact ⟨rfl, Below.refl _ _⟩
  obtain ⟨hn, hm⟩ := hr rfl
  clear hr hSm
  by_cases hk0 : 0 ≤ k
  case neg =>
    go_wp2
    go_ret
    exact ⟨rfl, Below.refl _ _⟩
  by_cases hkm : k ≤ (m : Int)
  case neg =>
    go_wp2
    go_ret
    exact ⟨rfl, Below.refl _ _⟩
  obtain ⟨κ, rfl⟩ : ∃ κ : Nat, k = κ := ⟨k.toNat, by omega⟩
  have hkm' : κ ≤ m := by omega
  go_wp2_with fail
  refine (inRange7 Z a0 n c0 a1 m c1 w hR1 hn hm).mono ?_
  rintro e w' ⟨r, rfl, rfl, hr⟩
  cases r
  · go_wp2
    go_ret
    exact ⟨rfl, Below.refl _ _⟩
  have hIn := hr rfl
  clear hr hR0 hR1
  -- the copies
  go_wp2_with fail
  refine (copy8 S n _ w h0 hn).mono ?_
  rintro e w1 ⟨aC, cC, rfl, hC, hb1⟩
  have h1' : Arg (num Z) m (.slice a1 m c1) w1 := by
    rcases h1 with h | ⟨x, c, e, hR⟩
    · exact Or.inl h
    · exact Or.inr ⟨x, c, e, fun h => by
        obtain ⟨b, off, e2, hlt, hc, hcell⟩ := hR h
        exact ⟨b, off, e2, Nat.lt_of_lt_of_le hlt hb1.size, hc, fun k hk => by rw [hb1.cell (p := ⟨b, off + k, none⟩) hlt]; exact hcell k hk⟩⟩
  clear h0 h1
  go_wp2_with fail
  refine (copy9 Z m _ w1 h1' hm).mono ?_
  rintro e w2 ⟨aS, cS, rfl, hSh, hb2⟩
  replace hC := hC.keep hb2
  have hB := hb1.trans (hb2.mono hb1.size)
  clear hb1 hb2 h1'
  go_wp2_with fail
  refine (lines10 S n aC cC w2 hC.row hn).mono ?_
  rintro e w3 ⟨L, rfl, hL, hLlo, hb3⟩
  replace hC := hC.keep hb3
  replace hSh := hSh.keep hb3
  replace hB := hB.trans (hb3.mono hB.size)
  clear hb3
  go_wp2_with fail
  refine (copy9 Z m _ w3 hSh.arg hm).mono ?_
  rintro e w4 ⟨aA, cA, rfl, hA, hb4⟩
  replace hC := hC.keep hb4
  replace hSh := hSh.keep hb4
  replace hL := hL.keep hb4
  replace hB := hB.trans (hb4.mono hB.size)
  clear hb4
  obtain ⟨vH, hsH, hvH⟩ := slice_head Z m aS cS _ w4 hSh κ hkm'
  go_wp2_with fail
  refine (copy9 Z κ _ w4 hvH (by omega)).mono ?_
  rintro e w5 ⟨aH, cH, rfl, hH, hb5⟩
  replace hC := hC.keep hb5
  replace hSh := hSh.keep hb5
  replace hL := hL.keep hb5
  replace hA := hA.keep hb5
  replace hB := hB.trans (hb5.mono hB.size)
  clear hb5 hvH hsH
  obtain ⟨vT, hsT, hvT⟩ := slice_tail Z m aS cS _ w5 hSh κ hkm'
  go_wp2_with fail
  refine (copy9 (fun j => Z (κ + j)) (m - κ) _ w5 hvT (by omega)).mono ?_
  rintro e w6 ⟨aT, cT, rfl, hT, hb6⟩
  replace hC := hC.keep hb6
  replace hSh := hSh.keep hb6
  replace hL := hL.keep hb6
  replace hA := hA.keep hb6
  replace hH := hH.keep hb6
  replace hB := hB.trans (hb6.mono hB.size)
  clear hb6 hvT hsT
  -- the three tables
  have hInL : InRange Z n κ := fun j hj => hIn j (by omega)
  have hInR : InRange (fun j => Z (κ + j)) n (m - κ) := fun j hj => hIn (κ + j) (by omega)
  go_wp2_with fail
  refine (table _ _ _ _ _ _ _).mono ?_
  rintro e w7 ⟨TW, rfl, hTloW, hTbW, hb7⟩
  replace hC := hC.keep hb7
  replace hSh := hSh.keep hb7
  replace hL := hL.keep hb7
  replace hA := hA.keep hb7
  replace hH := hH.keep hb7
  replace hT := hT.keep hb7
  replace hB := hB.trans (hb7.mono hB.size)
  clear hb7 hTloW
  go_wp2_with fail
  refine (codes S Z n m TW L _ _ _ hTbW hL hA.row hIn hn (by omega)).mono ?_
  rintro e w8 ⟨bW, rfl, hW, hb8⟩
  replace hC := hC.keep hb8
  replace hSh := hSh.keep hb8
  replace hL := hL.keep hb8
  replace hA := hA.keep hb8
  replace hH := hH.keep hb8
  replace hT := hT.keep hb8
  replace hB := hB.trans (hb8.mono hB.size)
  clear hb8 hTbW
  go_wp2_with fail
  refine (table _ _ _ _ _ _ _).mono ?_
  rintro e w9 ⟨TL, rfl, hTloL, hTbL, hb9⟩
  replace hC := hC.keep hb9
  replace hSh := hSh.keep hb9
  replace hL := hL.keep hb9
  replace hA := hA.keep hb9
  replace hH := hH.keep hb9
  replace hT := hT.keep hb9
  replace hW := hW.keep hb9
  replace hB := hB.trans (hb9.mono hB.size)
  clear hb9 hTloL
  go_wp2_with fail
  refine (codes S Z n κ TL L _ _ _ hTbL hL hH.row hInL hn (by omega)).mono ?_
  rintro e w10 ⟨bL, rfl, hLf, hb10⟩
  replace hC := hC.keep hb10
  replace hSh := hSh.keep hb10
  replace hL := hL.keep hb10
  replace hA := hA.keep hb10
  replace hH := hH.keep hb10
  replace hT := hT.keep hb10
  replace hW := hW.keep hb10
  replace hB := hB.trans (hb10.mono hB.size)
  clear hb10 hTbL
  go_wp2_with fail
  refine (table _ _ _ _ _ _ _).mono ?_
  rintro e w11 ⟨TR, rfl, hTloR, hTbR, hb11⟩
  replace hC := hC.keep hb11
  replace hSh := hSh.keep hb11
  replace hL := hL.keep hb11
  replace hA := hA.keep hb11
  replace hH := hH.keep hb11
  replace hT := hT.keep hb11
  replace hW := hW.keep hb11
  replace hLf := hLf.keep hb11
  replace hB := hB.trans (hb11.mono hB.size)
  clear hb11 hTloR
  go_wp2_with fail
  refine (codes S (fun j => Z (κ + j)) n (m - κ) TR L _ _ _ hTbR hL hT.row hInR hn (by omega)).mono ?_
  rintro e w12 ⟨bR, rfl, hRt, hb12⟩
  replace hC := hC.keep hb12
  replace hSh := hSh.keep hb12
  replace hL := hL.keep hb12
  replace hA := hA.keep hb12
  replace hH := hH.keep hb12
  replace hT := hT.keep hb12
  replace hW := hW.keep hb12
  replace hLf := hLf.keep hb12
  replace hB := hB.trans (hb12.mono hB.size)
  clear hb12 hTbR
  clear hL hA hH hT hInL hInR
  have hsub : (((m - κ : Nat) : Int) != (m : Int) - (κ : Int)) = false := by simp; omega
  go_wp2
  go_loopg [15] κ (fun g i wr => ∃ j : Nat, g + j = κ ∧ i = .int .i64 j ∧ ∃ d, wr = w12.drewN d)
  case atStart => exact ⟨0, by omega, rfl, 0, rfl⟩
  case round =>
    obtain ⟨j, hg, rfl, d, rfl⟩ := hrel
    by_cases hj : j < κ
    · have hc1 : w12.cell? ⟨bW, j, none⟩ = some (.string (S (Z j).toNat)) := hW.cell j (by omega)
      have hc2 : w12.cell? ⟨bL, j, none⟩ = some (.string (S (Z j).toNat)) := hLf.cell j hj
      have hi1 : (j : Int) < (m : Int) := by omega
      have hi2 : (j : Int) < (κ : Int) := by omega
      go_wp2
      go_quiet (fail)
      go_wp2
      go_roundg (gk - 1)
      case measure => omega
      case rel => exact ⟨j + 1, by omega, by go_num, d + nq, by simp⟩
    · go_wp2
      go_loopg [16] (m - κ) (fun g i wr => ∃ j : Nat, g + j = m - κ ∧ i = .int .i64 j ∧ ∃ d, wr = w12.drewN d)
      case atStart => exact ⟨0, by omega, rfl, d, rfl⟩
      case round =>
        obtain ⟨q, hg2, rfl, d2, rfl⟩ := hrel
        by_cases hq : q < m - κ
        · have hc1 : w12.cell? ⟨bW, κ + q, none⟩ = some (.string (S (Z (κ + q)).toNat)) := hW.cell (κ + q) (by omega)
          have hc2 : w12.cell? ⟨bR, q, none⟩ = some (.string (S (Z (κ + q)).toNat)) := hRt.cell q hq
          have hi1 : (κ : Int) + (q : Int) < (m : Int) := by omega
          have hi2 : (q : Int) < ((m - κ : Nat) : Int) := by omega
          have hi3 : (q : Int) < (m : Int) - (κ : Int) := by omega
          go_wp2
          go_quiet (fail)
          go_wp2
          go_roundg (gk - 1)
          case measure => omega
          case rel => exact ⟨q + 1, by omega, by go_num, d2 + nq, by simp⟩
        · go_wp2
          by_cases hm0 : 0 < m
          · obtain ⟨bS, hbS, hcS, hfS⟩ : ∃ b, aS = some ⟨b, 0, none⟩ ∧ m = cS ∧ ∀ j, j < m → w12.cell? ⟨b, j, none⟩ = some (.int .i64 (Z j)) := by
              rcases hSh with ⟨h, _⟩ | ⟨b, e1, e2, hf⟩
              · omega
              · exact ⟨b, e1, e2.symm, hf.cell⟩
            have hn0 : 0 < n := by have := hIn 0 hm0; omega
            obtain ⟨bC, hbC, hcC, hfC⟩ : ∃ b, aC = some ⟨b, 0, none⟩ ∧ n = cC ∧ ∀ j, j < n → w12.cell? ⟨b, j, none⟩ = some (.string (S j)) := by
              rcases hC with ⟨h, _⟩ | ⟨b, e1, e2, hf⟩
              · omega
              · exact ⟨b, e1, e2.symm, hf.cell⟩
            subst hbS hcS hbC hcC
            have look : ∀ j, j < m → ∃ q : Nat, Z j = q ∧ q < n := fun j hj => ⟨(Z j).toNat, by have := hIn j hj; omega, by have := hIn j hj; omega⟩
            obtain ⟨q0, hq0, hq0n⟩ := look 0 hm0
            have hs0 : w12.cell? ⟨bS, 0, none⟩ = some (.int .i64 (q0 : Int)) := by rw [← hq0]; exact hfS 0 hm0
            have hw0 : w12.cell? ⟨bW, 0, none⟩ = some (.string (S q0)) := by
              have := hW.cell 0 hm0
              unfold shows at this
              rw [hq0] at this
              exact this
            have hk0 : w12.cell? ⟨bC, q0, none⟩ = some (.string (S q0)) := hfC q0 hq0n
            clear hq0
            have hi0 : (0 : Int) < (m : Int) := by omega
            have hi4 : (q0 : Int) < (n : Int) := by omega
            by_cases hκ : 0 < κ
            · obtain ⟨p, hp⟩ : ∃ p : Nat, (κ : Int) - 1 = (p : Int) := ⟨κ - 1, by omega⟩
              obtain ⟨q1, hq1, hq1n⟩ := look p (by omega)
              have hs1 : w12.cell? ⟨bS, p, none⟩ = some (.int .i64 (q1 : Int)) := by rw [← hq1]; exact hfS p (by omega)
              have hw1 : w12.cell? ⟨bL, p, none⟩ = some (.string (S q1)) := by
                have := hLf.cell p (by omega)
                unfold shows at this
                rw [hq1] at this
                exact this
              have hk1 : w12.cell? ⟨bC, q1, none⟩ = some (.string (S q1)) := hfC q1 hq1n
              clear hq1 look
              have hi5 : (q1 : Int) < (n : Int) := by omega
              have hi6 : (p : Int) < (m : Int) := by omega
              have hi7 : (p : Int) < (κ : Int) := by omega
              clear hW hLf hRt hfS hfC hC hSh hIn hsub
              go_quiet (fail)
              go_wp2
              go_quiet (fail)
              go_wp2
              go_ret
              exact ⟨rfl, by rw [drewN_two, drewN_two]; exact below_drewN hB _⟩
            · have hd : decide ((0 : Int) < (κ : Int)) = false := by simp; omega
              clear hW hLf hRt hfS hfC hC hSh hIn hsub look
              go_quiet (fail)
              go_wp2
              go_quiet (fail)
              go_wp2
              go_ret
              exact ⟨rfl, by rw [drewN_two, drewN_two]; exact below_drewN hB _⟩
          · have hκ : ¬ 0 < κ := by omega
            have hd : decide ((0 : Int) < (κ : Int)) = false := by simp; omega
            have hd2 : decide ((0 : Int) < (m : Int)) = false := by simp; omega
            clear hW hLf hRt hC hSh hIn hsub
            go_quiet (fail)
            go_wp2
            go_quiet (fail)
            go_wp2
            go_ret
            exact ⟨rfl, by rw [drewN_two, drewN_two]; exact below_drewN hB _⟩

end Go.Proofs.Qxb6628260a
