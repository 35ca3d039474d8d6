import Derived.Test.Qxb6630526aWe
namespace Go.Proofs.Qxb6630526a
open Go.RowKit
open Plain

/-- The law said true; what was there reads as it did. -/
def True4 (w : World) (e : Ending) (w' : World) : Prop := e = .returned (.bool true) ∧ Below w.heap.size w w'

theorem mem1 (R : Nat → ByteArray × ByteArray) (n k : Nat) (h : k < n) : (R k).1 ∈ allOf (listOf R n) :=
  (allOf_in _ _ (List.mem_map_of_mem (List.mem_range.2 h))).1
theorem mem2 (R : Nat → ByteArray × ByteArray) (n k : Nat) (h : k < n) : (R k).2 ∈ allOf (listOf R n) :=
  (allOf_in _ _ (List.mem_map_of_mem (List.mem_range.2 h))).2

set_option maxHeartbeats 1000000 in
set_option maxRecDepth 100000 in
theorem law4 (R : Nat → ByteArray × ByteArray) (n : Nat) (a : Option Addr) (c : Nat) (w : World) (hR : Row2 R n a c w) (hS : ∀ k, k < n → (R k).1.size ≤ maxLen ∧ (R k).2.size ≤ maxLen) (hn : n ≤ maxLen) :
    Calls Try.prog 4 #[.slice a n c] w (True4 w) := by
  go_enter Try.func4, Try.ntmps4
  go_wp2_with fail
  refine (bytes10 R n a c w hR hS hn).mono ?_
  rintro e w' ⟨r, rfl, rfl, hr⟩
  cases r with
  | false =>
    go_wp2
    go_ret
    exact ⟨rfl, Below.refl _ _⟩
  | true =>
    obtain ⟨hn1, hsm⟩ := hr rfl
    clear hr hS hn
    have HSm : Hid (∀ k, k < n → (R k).1.size ≤ 1048576 ∧ (R k).2.size ≤ 1048576) := hsm
    clear hsm
    go_wp2
    go_loopg [3, 4] n (fun g t i wr => ∃ (j : Nat) (s : Int), g + j = n ∧ i = .int .i64 j ∧ t = .int .i64 s ∧ 0 ≤ s ∧ s ≤ 1048576 ∧ Below w.heap.size w wr)
    case atStart => exact ⟨0, 0, by omega, rfl, rfl, by omega, by omega, Below.refl _ _⟩
    case round =>
      obtain ⟨j, s, hg, rfl, rfl, hs0, hs1, hbr⟩ := hrel
      by_cases hj : j < n
      · obtain ⟨b, off, rfl, hlt, hc, hcell⟩ := hR (by omega)
        obtain ⟨hc1, hc2⟩ := hcell j hj
        obtain ⟨hS1, hS2⟩ := HSm.out j hj
        rw [← hbr.cell (p := ⟨b, off + j * 2, none⟩) hlt] at hc1
        rw [← hbr.cell (p := ⟨b, off + j * 2 + 1, none⟩) hlt] at hc2
        clear hcell hR
        by_cases h3 : s + (32 + (R j).1.size + (R j).2.size) ≤ 1048576
        · go_wp2
          go_quiet (fail)
          go_wp2
          go_roundg (gk - 1)
          case measure => omega
          case rel => exact ⟨j + 1, s + (32 + (R j).1.size + (R j).2.size), by omega, by go_num, rfl, by omega, h3, drewN_below hbr _⟩
        · go_wp2
          go_quiet (fail)
          go_wp2
          go_ret
          exact ⟨rfl, drewN_below hbr _⟩
      · by_cases h4 : n ≤ 4096
        · have hRr : Row2 R n a c wr := fun h => by
            obtain ⟨b, off, rfl, hlt, hc, hcell⟩ := hR h
            exact ⟨b, off, rfl, Nat.lt_of_lt_of_le hlt hbr.size, hc, fun k hk => by rw [hbr.cell (p := ⟨b, off + k * 2, none⟩) hlt, hbr.cell (p := ⟨b, off + k * 2 + 1, none⟩) hlt]; exact hcell k hk⟩
          obtain ⟨wa, hwa⟩ : ∃ wa, wa = wr := ⟨_, rfl⟩
          subst hwa
          go_wp2_with fail
          refine (split6 R n a c wa hRr (by omega)).mono ?_
          rintro e wb ⟨b1, b2, rfl, hf1, hf2, hbb⟩
          go_wp2_with fail
          refine (settle7 R n b1 b2 wb ⟨Nat.zero_le _, hf1.size, hf1.cell, hf1.soft⟩ ⟨Nat.zero_le _, hf2.size, hf2.cell, hf2.soft⟩ (by omega)).mono ?_
          rintro e wc ⟨mb, f1, f2, S, J, T, rfl, hperm, hup, hJS, hlist, hg1, hg2, hbc⟩
          have hlen : J.length ≤ n := by rw [hJS]; exact Nat.le_trans (law_len S) (by rw [hperm.length_eq, listOf_length]; exact Nat.le_refl _)
          have HSep : Hid (∀ i, i + 1 < J.length → (T i).2.toList.isEmpty = false ∧ leqS (T (i + 1)).1 (T i).2 = false ∧ lts (T (i + 1)).1 (T i).1 = false) := by
            show ∀ i, i + 1 < J.length → (T i).2.toList.isEmpty = false ∧ leqS (T (i + 1)).1 (T i).2 = false ∧ lts (T (i + 1)).1 (T i).1 = false
            intro i hi
            have hT : ∀ k (hk : k < J.length), J[k] = T k := fun k hk => by
              have h1 := listOf_get T J.length k (by rw [listOf_length]; exact hk)
              rw [← h1]
              congr 1
              exact hlist.symm
            rw [← hT i (by omega), ← hT (i + 1) hi]
            subst hJS
            exact law_sep S hup i hi
          have HCov : Hid (∀ x ∈ allOf (listOf R n), inAnyS x (listOf T J.length) = inAnyS x (listOf R n)) := by
            show ∀ x ∈ allOf (listOf R n), inAnyS x (listOf T J.length) = inAnyS x (listOf R n)
            intro x hx
            rw [hlist, hJS]
            exact law_cov (listOf R n) S hperm hup x hx
          clear hJS hlist hup hperm
          generalize hL : J.length = l at *
          clear hL J
          have hbw : Below w.heap.size w wc := (hbr.trans (hbb.mono hbr.size)).trans (hbc.mono (Nat.le_trans hbr.size hbb.size))
          have hf1c : Fresh (str (fst R)) n b1 wa.heap.size wc := hf1.below hbc hf1.size
          have hf2c : Fresh (str (snd R)) n b2 wa.heap.size wc := hf2.below hbc hf2.size
          go_wp2
          rw [show decide (n < l) = false from decide_eq_false (by omega)]
          go_loopg [10] l (fun g i wr => ∃ k : Nat, g + k = l ∧ i = .int .i64 k ∧ Below wc.heap.size wc wr)
          case atStart => exact ⟨0, by omega, rfl, Below.refl _ _⟩
          case round =>
            obtain ⟨k, hgk, rfl, hbd⟩ := hrel
            by_cases hk : k + 1 < l
            · have c1 : wr.cell? ⟨f1, k, none⟩ = some (.string (T k).1) := by rw [hbd.cell (p := ⟨f1, k, none⟩) hg1.size]; exact hg1.cell k (by omega)
              have c2 : wr.cell? ⟨f1, k + 1, none⟩ = some (.string (T (k + 1)).1) := by rw [hbd.cell (p := ⟨f1, k + 1, none⟩) hg1.size]; exact hg1.cell (k + 1) hk
              have c3 : wr.cell? ⟨f2, k, none⟩ = some (.string (T k).2) := by rw [hbd.cell (p := ⟨f2, k, none⟩) hg2.size]; exact hg2.cell k (by omega)
              obtain ⟨s1, s2, s3⟩ := HSep.out k hk
              have s2' : (Op.bytesLess (T (k + 1)).1.toList (T k).2.toList || (T (k + 1)).1.toList == (T k).2.toList) = false := s2
              have s3' : Op.bytesLess (T (k + 1)).1.toList (T k).1.toList = false := s3
              clear s2 s3 hR
              go_wp2
              go_quiet (fail)
              go_wp2
              go_quiet (fail)
              go_wp2
              go_roundg (gk - 1)
              case measure => omega
              case rel => exact ⟨k + 1, by omega, by go_num, drewN_below hbd _⟩
            · obtain ⟨wd, hwd⟩ : ∃ wd, wd = wr := ⟨_, rfl⟩
              subst hwd
              have hbwd : Below w.heap.size w wd := hbw.trans (hbd.mono hbw.size)
              have r1 : Row (str (fst R)) n (some ⟨b1, 0, none⟩) n wd := (hf1c.below hbd hf1c.size).row
              have r2 : Row (str (snd R)) n (some ⟨b2, 0, none⟩) n wd := (hf2c.below hbd hf2c.size).row
              have r3 : Row (str (fst T)) l (some ⟨f1, 0, none⟩) l wd := (hg1.below hbd hg1.size).row
              have r4 : Row (str (snd T)) l (some ⟨f2, 0, none⟩) l wd := (hg2.below hbd hg2.size).row
              go_wp2
              go_loopg [11] n (fun g i wr => ∃ m : Nat, g + m = n ∧ i = .int .i64 m ∧ wd = wr)
              case atStart => exact ⟨0, by omega, rfl, rfl⟩
              case round =>
                obtain ⟨m, hgm, rfl, rfl⟩ := hrel
                by_cases hm : m < n
                · obtain ⟨b, off, rfl, hlt, hc, hcell⟩ := hR (by omega)
                  obtain ⟨hc1, hc2⟩ := hcell m hm
                  rw [← hbwd.cell (p := ⟨b, off + m * 2, none⟩) hlt] at hc1
                  rw [← hbwd.cell (p := ⟨b, off + m * 2 + 1, none⟩) hlt] at hc2
                  have q1 := HCov.out _ (mem1 R n m hm)
                  have q2 := HCov.out _ (mem2 R n m hm)
                  clear hcell hR
                  go_wp2_with fail
                  refine (inAny11 R (R m).1 n _ _ _ _ _ wd r1 r2 (by omega) rfl).mono ?_
                  rintro e wx ⟨rfl, rfl⟩
                  go_wp2_with fail
                  refine (inAny11 T (R m).1 l _ _ _ _ _ wd r3 r4 (by omega) rfl).mono ?_
                  rintro e wx ⟨rfl, rfl⟩
                  rw [q1]
                  cases t1 : (R m).2.toList.isEmpty with
                  | true =>
                    go_wp2
                    go_roundg (gk - 1)
                    case measure => omega
                    case rel => exact ⟨m + 1, by omega, by go_num, rfl⟩
                  | false =>
                    go_wp2_with fail
                    refine (inAny11 R (R m).2 n _ _ _ _ _ wd r1 r2 (by omega) rfl).mono ?_
                    rintro e wx ⟨rfl, rfl⟩
                    go_wp2_with fail
                    refine (inAny11 T (R m).2 l _ _ _ _ _ wd r3 r4 (by omega) rfl).mono ?_
                    rintro e wx ⟨rfl, rfl⟩
                    rw [q2]
                    go_wp2
                    go_roundg (gk - 1)
                    case measure => omega
                    case rel => exact ⟨m + 1, by omega, by go_num, rfl⟩
                · go_wp2
                  go_ret
                  exact ⟨rfl, hbwd⟩
        · go_wp2
          go_ret
          exact ⟨rfl, hbr⟩

end Go.Proofs.Qxb6630526a
