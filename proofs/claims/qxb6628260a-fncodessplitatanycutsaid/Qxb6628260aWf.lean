import Derived.Test.Qxb6628260aWd
namespace Go.Proofs.Qxb6628260a
open Go.RowKit

set_option maxHeartbeats 400000 in
set_option maxRecDepth 100000 in
theorem bytes13 (S : Nat → ByteArray) (n : Nat) (a : Option Addr) (c : Nat) (a' : Option Addr) (m c' : Nat) (w : World) (hR : Row (str S) n a c w) (hS : ∀ k, k < n → (S k).size ≤ maxLen) (hn : n ≤ maxLen) (hm : m ≤ maxLen) :
    Calls Try.prog 13 #[.slice a n c, .slice a' m c'] w fun e w' => Asks (Small S n m) w e w' := by
  unfold maxLen at hn hm hS
  by_cases h1 : n ≤ 1048576
  · go_enter Try.func13, Try.ntmps13
    go_wp2
    go_loopg [5, 6] n (fun g t i wr => ∃ (j : Nat) (s : Int), g + j = n ∧ i = .int .i64 j ∧ t = .int .i64 s ∧ 0 ≤ s ∧ s ≤ 1048576 ∧ w = wr ∧ Hid (∀ k, k < j → (S k).size ≤ 1048576))
    case atStart => exact ⟨0, n, by omega, rfl, by simp, by omega, by omega, rfl, fun k hk => by omega⟩
    case round =>
      obtain ⟨j, s, hg, rfl, rfl, hs0, hs1, rfl, HJ⟩ := hrel
      by_cases hj : j < n
      · obtain ⟨b, off, rfl, hlt, hc, hcell⟩ := hR (by omega)
        have hcj : w.cell? ⟨b, off + j, none⟩ = some (.string (S j)) := hcell j hj
        clear hcell hR
        have hSj := hS j hj
        by_cases h2 : (S j).size ≤ 1048576
        · by_cases h3 : s + (S j).size ≤ 1048576
          · go_wp2
            go_roundg (gk - 1)
            case measure => omega
            case rel => exact ⟨j + 1, s + (S j).size, by omega, by go_num, rfl, by omega, h3, rfl, fun k hk => by
              by_cases e : k = j
              · rw [e]; exact h2
              · exact HJ.out k (by omega)⟩
          · go_wp2
            go_ret
            exact Asks.no
        · go_wp2
          go_ret
          exact Asks.no
      · by_cases h4 : m ≤ 1048576
        · go_wp2
          all_goals go_ret
          · exact Asks.no
          · exact Asks.yes ⟨h1, h4, fun k hk => HJ.out k (by omega)⟩
        · go_wp2
          go_ret
          exact Asks.no
  · go_enter Try.func13, Try.ntmps13
    go_wp2
    go_ret
    exact Asks.no


theorem Part.keepB {enc : Nat → Value} {place : Nat → Nat} {n N k B : Nat} {w w' : World} (h : Part enc place n N k w) (hb : Below B w w') (hB : N < B) : Part enc place n N k w' :=
  ⟨Nat.lt_of_lt_of_le h.size hb.size, fun j hj => by rw [hb.cell (p := ⟨N, place j, none⟩) hB]; exact h.done j hj, fun j h1 h2 => by rw [hb.cell (p := ⟨N, place j, none⟩) hB]; exact h.todo j h1 h2, fun j => by rw [hb.frozen (p := ⟨N, j, none⟩) hB]; exact h.soft j⟩
theorem Table.keepB {T B : Nat} {v2 v7 : Value} {w w' : World} (h : Table T v2 v7 w) (hb : Below B w w') (hB : T < B) : Table T v2 v7 w' :=
  ⟨Nat.lt_of_lt_of_le h.size hb.size, by rw [hb.cell (p := ⟨T, 2, none⟩) hB]; exact h.two, by rw [hb.cell (p := ⟨T, 7, none⟩) hB]; exact h.seven⟩
theorem Fresh.other {enc : Nat → Value} {n b lo : Nat} {w : World} (h : Fresh enc n b lo w) {x : Addr} (hx : x.block ≠ b) (v : Value) : Fresh enc n b lo (w.setCell x v) :=
  ⟨h.lo, by simpa [World.setCell] using h.size, fun k hk => by rw [World.cell?_setCell_other (h := fun e => hx (by rw [e]))]; exact h.cell k hk, fun k => by rw [World.frozen?_setCell]; exact h.soft k⟩
theorem Own.lt {enc : Nat → Value} {n c lo : Nat} {a : Option Addr} {w : World} (h : Own enc n a c lo w) (b off : Nat) (e : a = some ⟨b, off, none⟩) : b < w.heap.size := by
  rcases h with ⟨_, h, _⟩ | ⟨b', h, _, hf⟩
  · rw [h] at e; cases e
  · rw [h] at e; injection e with e; injection e with e1 _; rw [← e1]; exact hf.size

/-- The row 'a' while the law writes into it. -/
structure Marked (enc : Nat → Value) (m A j : Nat) (w : World) : Prop where
  size : A < w.heap.size
  todo : ∀ q, j ≤ q → q < m → w.cell? ⟨A, q, none⟩ = some (enc q)
  soft : ∀ q, w.frozen? ⟨A, q, none⟩ = false
theorem Marked.put {enc : Nat → Value} {m A j : Nat} {w : World} (h : Marked enc m A j w) (v : Value) : Marked enc m A (j + 1) (w.setCell ⟨A, j, none⟩ v) :=
  ⟨by simpa [World.setCell] using h.size, fun q h1 h2 => by rw [World.cell?_setCell_other (h := addr_ne A q j (by omega))]; exact h.todo q (by omega) h2, fun q => by rw [World.frozen?_setCell]; exact h.soft q⟩
theorem Fresh.marked {enc : Nat → Value} {n b lo : Nat} {w : World} (h : Fresh enc n b lo w) : Marked enc n b 0 w := ⟨h.size, fun q _ h2 => h.cell q h2, h.soft⟩

set_option maxHeartbeats 4000000 in
set_option maxRecDepth 100000 in
theorem rev4 (S : Nat → ByteArray) (n : Nat) (v0 : Value) (Z : Nat → Int) (m : Nat) (v1 : Value) (w : World) (h0 : Arg (str S) n v0 w) (h1 : Arg (num Z) m v1 w) (hS : ∀ k, k < n → (S k).size ≤ maxLen) (hn : n ≤ maxLen) (hm : m ≤ maxLen) :
    Calls Try.prog 4 #[v0, v1] w fun e w' => Law w e w' := by
  obtain ⟨a0, c0, rfl, hR0⟩ : ∃ a c, v0 = .slice a n c ∧ Row (str S) n a c w := by
    rcases h0 with ⟨rfl, rfl⟩ | ⟨x, c, rfl, hR⟩
    · exact ⟨_, _, rfl, fun h => absurd h (Nat.lt_irrefl _)⟩
    · exact ⟨_, _, rfl, hR⟩
  obtain ⟨a1, c1, rfl, hR1⟩ : ∃ a c, v1 = .slice a m c ∧ Row (num Z) m a c w := by
    rcases h1 with ⟨rfl, rfl⟩ | ⟨x, c, rfl, hR⟩
    · exact ⟨_, _, rfl, fun h => absurd h (Nat.lt_irrefl _)⟩
    · exact ⟨_, _, rfl, hR⟩
  go_enter Try.func4, Try.ntmps4
  go_wp2_with fail
  refine (bytes13 S n a0 c0 a1 m c1 w hR0 hS hn hm).mono ?_
  rintro e w' ⟨r, rfl, rfl, hr⟩
  cases r
  · go_wp2
    go_ret
    exact ⟨rfl, Below.refl _ _⟩
  have hSm := hr rfl
  clear hr hn hm hS
  go_wp2_with fail
  refine (within6 S n a0 c0 a1 m c1 w hR0 hSm).mono ?_
  rintro e w' ⟨r, rfl, rfl, hr⟩
  cases r
  · go_wp2
    go_ret
    exact ⟨rfl, Below.refl _ _⟩
  obtain ⟨hn, hm⟩ := hr rfl
  have HSz : Hid (∀ k, k < n → (S k).size ≤ 1048576) := hSm.2.2
  clear hr hSm
  go_wp2_with fail
  refine (inRange7 Z a0 n c0 a1 m c1 w hR1 hn hm).mono ?_
  rintro e w' ⟨r, rfl, rfl, hr⟩
  cases r
  · go_wp2
    go_ret
    exact ⟨rfl, Below.refl _ _⟩
  have hIn := hr rfl
  clear hr hR0 hR1
  -- the copies
  go_wp2_with fail
  refine (copy8 S n _ w h0 hn).mono ?_
  rintro e w1 ⟨aC, cC, rfl, hC, hb1⟩
  have h1' : Arg (num Z) m (.slice a1 m c1) w1 := by
    rcases h1 with h | ⟨x, c, e, hR⟩
    · exact Or.inl h
    · exact Or.inr ⟨x, c, e, fun h => by
        obtain ⟨b, off, e2, hlt, hc, hcell⟩ := hR h
        exact ⟨b, off, e2, Nat.lt_of_lt_of_le hlt hb1.size, hc, fun k hk => by rw [hb1.cell (p := ⟨b, off + k, none⟩) hlt]; exact hcell k hk⟩⟩
  clear h0 h1
  go_wp2_with fail
  refine (copy9 Z m _ w1 h1' hm).mono ?_
  rintro e w2 ⟨aS, cS, rfl, hSh, hb2⟩
  replace hC := hC.keep hb2
  have hB := hb1.trans (hb2.mono hb1.size)
  clear hb1 hb2 h1'
  -- rev
  have hmk := make23 m w2 hm
  go_upto_block 0 with fail
  go_cut [7] (fun _ wx => Below w2.heap.size w2 wx ∧ Part (num fun j => Z (m - 1 - j)) (fun j => j) m w2.heap.size m wx)
  case first =>
    go_wp2
    go_loopg [7] m (fun g i wr => ∃ j : Nat, g + j = m ∧ i = .int .i64 j ∧ Below w2.heap.size w2 wr ∧ Part (num fun j => Z (m - 1 - j)) (fun j => j) m w2.heap.size j wr)
    case atStart => exact ⟨0, by omega, rfl, (Below.refl _ _).alloc (Nat.le_refl _) _, Part.start _ _ _ _ _ _ _ (fun j hj => hj)⟩
    case round =>
      obtain ⟨j, hg, rfl, hb, hp⟩ := hrel
      by_cases hj : j < m
      · obtain ⟨b, off, rfl, hlt, hc, hcell⟩ := hSh.row (by omega)
        obtain ⟨q, hq⟩ : ∃ q : Nat, (m : Int) - 1 - (j : Int) = (q : Int) := ⟨m - 1 - j, by omega⟩
        have hqe : q = m - 1 - j := by omega
        have hcj : wr.cell? ⟨b, off + q, none⟩ = some (.int .i64 (Z (m - 1 - j))) := by rw [hb.cell (p := ⟨b, off + q, none⟩) hlt, hqe]; exact hcell (m - 1 - j) (by omega)
        obtain ⟨u, hu⟩ := hp.todo j (Nat.le_refl _) hj
        have hu' : wr.cell? ⟨w2.heap.size, j, none⟩ = some u := hu
        have hfz := hp.soft j
        have hi1 : (q : Int) < (m : Int) := by omega
        clear hcell hu hqe
        go_wp2
        go_roundg (gk - 1)
        case measure => omega
        case rel => exact ⟨j + 1, by omega, by go_num, hb.setCell (Nat.le_refl _) _, hp.put hj (fun _ _ e => e)⟩
      · have hje : j = m := by omega
        go_wp2
        go_meet
        case rel => exact ⟨hb, by rw [← hje] at hp ⊢; exact hp⟩
  case rest =>
    obtain ⟨hb3, hRv⟩ := hcut
    obtain ⟨w3, rfl⟩ : ∃ w3, w3 = wc := ⟨_, rfl⟩
    replace hC := hC.keep hb3
    replace hSh := hSh.keep hb3
    replace hB := hB.trans (hb3.mono hB.size)
    have hRw := hRv.fresh (Nat.le_refl _)
    clear hb3 hRv hmk
    have hInR : InRange (fun j => Z (m - 1 - j)) n m := fun j hj => hIn (m - 1 - j) (by omega)
    go_wp2_with fail
    refine (lines10 S n aC cC w3 hC.row hn).mono ?_
    rintro e w4 ⟨L, rfl, hL, hLlo, hb4⟩
    replace hC := hC.keep hb4
    replace hSh := hSh.keep hb4
    replace hRw := hRw.keep hb4
    replace hB := hB.trans (hb4.mono hB.size)
    clear hb4 hLlo
    go_wp2_with fail
    refine (table _ _ _ _ _ _ _).mono ?_
    rintro e w5 ⟨T, rfl, hTlo, hT, hb5⟩
    replace hC := hC.keep hb5
    replace hSh := hSh.keep hb5
    replace hRw := hRw.keep hb5
    replace hL := hL.keep hb5
    replace hB := hB.trans (hb5.mono hB.size)
    clear hb5 hTlo
    go_wp2_with fail
    refine (codes S Z n m T L _ _ _ hT hL hSh.row hIn hn hm).mono ?_
    rintro e w6 ⟨bA, rfl, hA, hb6⟩
    have hTA : T < bA := Nat.lt_of_lt_of_le hT.size hA.lo
    have hLA : L < bA := Nat.lt_of_lt_of_le hL.size hA.lo
    have hSA : ∀ b off, aS = some ⟨b, off, none⟩ → b < bA := fun b off e => Nat.lt_of_lt_of_le (hSh.lt b off e) hA.lo
    have hWA : w.heap.size ≤ bA := Nat.le_trans hB.size hA.lo
    replace hC := hC.keep hb6
    replace hSh := hSh.keep hb6
    replace hRw := hRw.keep hb6
    replace hL := hL.keep hb6
    replace hT := hT.keep hb6
    replace hB := hB.trans (hb6.mono hB.size)
    clear hb6
    go_wp2_with fail
    refine (table _ _ _ _ _ _ _).mono ?_
    rintro e w7 ⟨T2, rfl, hT2lo, hT2, hb7⟩
    replace hC := hC.keep hb7
    replace hSh := hSh.keep hb7
    replace hRw := hRw.keep hb7
    replace hL := hL.keep hb7
    replace hT := hT.keep hb7
    replace hA := hA.keep hb7
    replace hB := hB.trans (hb7.mono hB.size)
    clear hb7 hT2lo
    go_wp2_with fail
    refine (codes S (fun j => Z (m - 1 - j)) n m T2 L _ _ _ hT2 hL hRw.row hInR hn hm).mono ?_
    rintro e w8 ⟨bB, rfl, hBr, hb8⟩
    have hAB : bA ≠ bB := by have h1 := hA.size; have h2 := hBr.lo; omega
    replace hC := hC.keep hb8
    replace hSh := hSh.keep hb8
    replace hL := hL.keep hb8
    replace hT := hT.keep hb8
    replace hA := hA.keep hb8
    replace hB := hB.trans (hb8.mono hB.size)
    clear hb8 hRw hT2 hInR
    go_wp2
    go_loopg [12] m (fun g i wr => ∃ j : Nat, g + j = m ∧ i = .int .i64 j ∧ ∃ d, wr = w8.drewN d)
    case atStart => exact ⟨0, by omega, rfl, 0, rfl⟩
    case round =>
      obtain ⟨j, hg, rfl, d, rfl⟩ := hrel
      by_cases hj : j < m
      · obtain ⟨q, hq⟩ : ∃ q : Nat, (m : Int) - 1 - (j : Int) = (q : Int) := ⟨m - 1 - j, by omega⟩
        have hc1 : w8.cell? ⟨bA, j, none⟩ = some (.string (S (Z j).toNat)) := hA.cell j hj
        have hc2 : w8.cell? ⟨bB, q, none⟩ = some (.string (S (Z j).toNat)) := by
          have : w8.cell? ⟨bB, q, none⟩ = some (.string (S (Z (m - 1 - q)).toNat)) := hBr.cell q (by omega)
          rw [show m - 1 - q = j by omega] at this
          exact this
        have hi1 : (j : Int) < (m : Int) := by omega
        have hi2 : (q : Int) < (m : Int) := by omega
        go_wp2
        go_quiet (fail)
        go_wp2
        go_roundg (gk - 1)
        case measure => omega
        case rel => exact ⟨j + 1, by omega, by go_num, d + nq, by simp⟩
      · go_wp2
        go_cut [104] (fun c wx => c = .bool false ∧ ∃ d, wx = w8.drewN d)
        case first =>
          by_cases hm0 : 0 < m
          · obtain ⟨bS, hbS, hcS, hfS⟩ : ∃ b, aS = some ⟨b, 0, none⟩ ∧ m = cS ∧ ∀ j, j < m → w8.cell? ⟨b, j, none⟩ = some (.int .i64 (Z j)) := by
              rcases hSh with ⟨h, _⟩ | ⟨b, e1, e2, hf⟩
              · omega
              · exact ⟨b, e1, e2.symm, hf.cell⟩
            have hn0 : 0 < n := by have := hIn 0 hm0; omega
            obtain ⟨bC, hbC, hcC, hfC⟩ : ∃ b, aC = some ⟨b, 0, none⟩ ∧ n = cC ∧ ∀ j, j < n → w8.cell? ⟨b, j, none⟩ = some (.string (S j)) := by
              rcases hC with ⟨h, _⟩ | ⟨b, e1, e2, hf⟩
              · omega
              · exact ⟨b, e1, e2.symm, hf.cell⟩
            subst hbS hcS hbC hcC
            obtain ⟨p, hp⟩ : ∃ p : Nat, (m : Int) - 1 = (p : Int) := ⟨m - 1, by omega⟩
            obtain ⟨q1, hq1, hq1n⟩ : ∃ q : Nat, Z p = q ∧ q < n := ⟨(Z p).toNat, by have := hIn p (by omega); omega, by have := hIn p (by omega); omega⟩
            have hs1 : w8.cell? ⟨bS, p, none⟩ = some (.int .i64 (q1 : Int)) := by rw [← hq1]; exact hfS p (by omega)
            have hw1 : w8.cell? ⟨bB, 0, none⟩ = some (.string (S q1)) := by
              have : w8.cell? ⟨bB, 0, none⟩ = some (.string (S (Z (m - 1 - 0)).toNat)) := hBr.cell 0 hm0
              rw [show m - 1 - 0 = p by omega, hq1] at this
              exact this
            have hk1 : w8.cell? ⟨bC, q1, none⟩ = some (.string (S q1)) := hfC q1 hq1n
            have hi5 : (q1 : Int) < (n : Int) := by omega
            have hi6 : (p : Int) < (m : Int) := by omega
            have hi7 : (0 : Int) < (m : Int) := by omega
            clear hq1 hfS hfC hA hBr hC hSh hIn hL hT
            go_quiet (fail)
            go_wp2
            go_meet
            case rel => exact ⟨by simp, d + nq, by simp⟩
          · have hd : decide ((0 : Int) < (m : Int)) = false := by simp; omega
            clear hA hBr hC hSh hIn hL hT
            go_quiet (fail)
            go_wp2
            go_meet
            case rel => exact ⟨rfl, d + nq, by simp⟩
        case rest =>
          obtain ⟨rfl, d2, rfl⟩ := hcut
          have hbd : Below w8.heap.size w8 (w8.drewN d2) := below_drewN (Below.refl _ _) d2
          go_wp2
          go_loopg [13] m (fun g i wr => ∃ j : Nat, g + j = m ∧ i = .int .i64 j ∧ Below bA w8 wr ∧ Fresh (shows S fun j => Z (m - 1 - j)) m bB w7.heap.size wr ∧ Marked (shows S Z) m bA j wr)
          case atStart => exact ⟨0, by omega, rfl, below_drewN (Below.refl _ _) d2, hBr.keep hbd, (hA.keep hbd).marked⟩
          case round =>
            obtain ⟨i, hg3, rfl, hbi, hBi, hMi⟩ := hrel
            by_cases hi : i < m
            · have hci : wr.cell? ⟨bA, i, none⟩ = some (.string (S (Z i).toNat)) := hMi.todo i (Nat.le_refl _) hi
              have hfi := hMi.soft i
              have hzi : (S (Z i).toNat).size ≤ 1048576 := HSz.out _ (by have := hIn i hi; omega)
              have hi1 : (i : Int) < (m : Int) := by omega
              clear hbd hA hBr hC hSh hL hT
              go_wp2
              go_roundg (gk - 1)
              case measure => omega
              case rel => exact ⟨i + 1, by omega, by go_num, hbi.setCell (Nat.le_refl _) _, hBi.other hAB _, hMi.put _⟩
            · have hT3 := hT.keepB hbi hTA
              have hL3 := hL.keepB hbi hLA
              have hS3 := hSh.row.below hbi hSA
              have hB3 := hB.trans (hbi.mono hWA)
              clear hbd hA hBr hC hSh hL hT hbi hMi hB
              go_wp2_with fail
              refine (codes S Z n m T L _ _ _ hT3 hL3 hS3 hIn hn hm).mono ?_
              rintro e w9 ⟨bN, rfl, hN, hb9⟩
              replace hBi := hBi.keep hb9
              replace hB3 := hB3.trans (hb9.mono hB3.size)
              clear hT3 hL3 hS3 hb9
              go_wp2
              go_loopg [15] m (fun g i wr => ∃ j : Nat, g + j = m ∧ i = .int .i64 j ∧ ∃ d, wr = w9.drewN d)
              case atStart => exact ⟨0, by omega, rfl, 0, rfl⟩
              case round =>
                obtain ⟨i2, hg4, rfl, d4, rfl⟩ := hrel
                by_cases hi4 : i2 < m
                · obtain ⟨q, hq⟩ : ∃ q : Nat, (m : Int) - 1 - (i2 : Int) = (q : Int) := ⟨m - 1 - i2, by omega⟩
                  have hc1 : w9.cell? ⟨bN, i2, none⟩ = some (.string (S (Z i2).toNat)) := hN.cell i2 hi4
                  have hc2 : w9.cell? ⟨bB, q, none⟩ = some (.string (S (Z i2).toNat)) := by
                    have : w9.cell? ⟨bB, q, none⟩ = some (.string (S (Z (m - 1 - q)).toNat)) := hBi.cell q (by omega)
                    rw [show m - 1 - q = i2 by omega] at this
                    exact this
                  have hi1 : (i2 : Int) < (m : Int) := by omega
                  have hi2 : (q : Int) < (m : Int) := by omega
                  go_wp2
                  go_quiet (fail)
                  go_wp2
                  go_roundg (gk - 1)
                  case measure => omega
                  case rel => exact ⟨i2 + 1, by omega, by go_num, d4 + nq, by simp⟩
                · go_wp2
                  go_ret
                  exact ⟨rfl, below_drewN hB3 _⟩

end Go.Proofs.Qxb6628260a
