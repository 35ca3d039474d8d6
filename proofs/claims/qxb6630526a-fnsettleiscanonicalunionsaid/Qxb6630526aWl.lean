import Derived.Test.Qxb6630526aDist
namespace Go.Proofs.Qxb6630526a
open Go.RowKit
open Plain

/-- An owned row of strings, as the walks hold it. -/
theorem own_row {w : World} {base n : Nat} {v : Value} {xs : List ByteArray} (h : w.ownsRow base 9 1 v n (xs.map fun x => .string x)) : ∃ a c, v = .slice a n c ∧ xs.length = n ∧ StRow xs a c w := by
  obtain ⟨h1, ⟨rfl, rfl⟩ | ⟨g, cap, cur, rfl, hg, hb, hc, hm, hs, ht⟩⟩ := h
  · rw [List.length_map] at h1
    exact ⟨none, 0, rfl, by omega, fun h => by omega⟩
  · rw [List.length_map, Nat.mul_one] at h1
    rw [Nat.mul_one] at ht
    refine ⟨_, _, rfl, h1, fun _ => ⟨g, 0, rfl, ?_, by omega, fun k x hx => ?_⟩⟩
    · rcases Nat.lt_or_ge g w.heap.size with h | h
      · exact h
      · rw [Array.getElem?_eq_none h] at hb; cases hb
    · have hk : k < xs.length := (List.getElem?_eq_some_iff.1 hx).1
      have e : (cur.toList.take n)[k]? = some (.string x) := by rw [ht, List.getElem?_map, hx]; rfl
      rw [List.getElem?_take, if_pos (by omega)] at e
      have hsp : (⟨g, 0 + k, none⟩ : Addr).spot.isSome = false := rfl
      rw [Nat.zero_add]
      unfold World.cell?
      rw [hb]
      simp at e ⊢
      exact e
theorem map_strings (f : (ByteArray × ByteArray) → ByteArray) (T : List (ByteArray × ByteArray)) : (T.map fun p => Value.string (f p)) = (T.map f).map fun x => .string x := by rw [List.map_map]; rfl

/-- A fresh row of one side of a list of ranges. -/
theorem fresh_row {R : Nat → ByteArray × ByteArray} {f : (Nat → ByteArray × ByteArray) → Nat → ByteArray} {g : ByteArray × ByteArray → ByteArray} (hfg : ∀ k, f R k = g (R k)) {l b lo : Nat} {w : World} (h : Fresh (str (f R)) l b lo w) : StRow ((listOf R l).map g) (some ⟨b, 0, none⟩) l w := fun _ =>
  ⟨b, 0, rfl, h.size, by rw [List.length_map, listOf_length]; exact Nat.le_refl _, fun k x hx => by
    have hk : k < l := by have := (List.getElem?_eq_some_iff.1 hx).1; rw [List.length_map, listOf_length] at this; exact this
    rw [List.getElem?_map, List.getElem?_eq_getElem (by rw [listOf_length]; exact hk), listOf_get] at hx
    rw [Nat.zero_add, ← Option.some.inj hx, ← hfg k]
    exact h.cell k hk⟩

/-- The one ahead of place i. -/
def ahead (S : List ByteArray) (i : Nat) : Option ByteArray := if i = 0 then none else S[i - 1]?

theorem ahead_succ (S : List ByteArray) (i : Nat) : ahead S (i + 1) = S[i]? := by unfold ahead; rw [if_neg (by omega), Nat.add_sub_cancel]
theorem cnt_step (S : List ByteArray) (i : Nat) (x : ByteArray) (hx : S[i]? = some x) (p : Option ByteArray) : cntUp p (S.drop i) = (if p = some x then 0 else 1) + cntUp (ahead S (i + 1)) (S.drop (i + 1)) := by
  rw [drop_some hx, cntUp, ahead_succ, hx]
theorem Row2.keep {R : Nat → ByteArray × ByteArray} {n : Nat} {a : Option Addr} {c : Nat} {w w' : World} (h : Row2 R n a c w) (hb : Below w.heap.size w w') : Row2 R n a c w' := fun hn => by
  obtain ⟨b, off, rfl, hlt, hc, hcell⟩ := h hn
  exact ⟨b, off, rfl, Nat.lt_of_lt_of_le hlt hb.size, hc, fun k hk => by rw [hb.cell (p := ⟨b, off + k * 2, none⟩) hlt, hb.cell (p := ⟨b, off + k * 2 + 1, none⟩) hlt]; exact hcell k hk⟩

set_option maxHeartbeats 2000000 in
set_option maxRecDepth 100000 in
theorem law3 (ks : List ByteArray) (ka : Option Addr) (kc nk : Nat) (R : Nat → ByteArray × ByteArray) (n : Nat) (a : Option Addr) (c : Nat) (w : World) (hK : StRow ks ka kc w) (hnil : ka = none → nk = 0 ∧ kc = 0) (hnk : ks.length = nk) (hks : ∀ (k : Nat) (x : ByteArray), ks[k]? = some x → x.size ≤ maxLen) (hnm : nk ≤ maxLen)
    (hR : Row2 R n a c w) (hS : ∀ k, k < n → (R k).1.size ≤ maxLen ∧ (R k).2.size ≤ maxLen) (hn : n ≤ maxLen) :
    Calls Try.prog 3 #[.slice ka nk kc, .slice a n c] w (True4 w) := by
  go_enter Try.func3, Try.ntmps3
  go_wp2_with fail
  refine (bytes5 ks ka kc nk R n a c w hK hnk hks hnm hR hS hn).mono ?_
  rintro e w' ⟨r, rfl, rfl, hr⟩
  cases r with
  | false =>
    go_wp2
    go_ret
    exact ⟨rfl, Below.refl _ _⟩
  | true =>
    obtain ⟨⟨hnk1, hksm⟩, hn1, hsm⟩ := hr rfl
    clear hr hS hn hks hnm
    have HSm : Hid (∀ k, k < n → (R k).1.size ≤ 1048576 ∧ (R k).2.size ≤ 1048576) := hsm
    have HKm : Hid (∀ (k : Nat) (x : ByteArray), ks[k]? = some x → x.size ≤ 1048576) := hksm
    clear hsm hksm
    go_upto_if 29 with fail
    go_cut [0] (fun v0 wx => ∃ ka' kc', v0 = .slice ka' nk kc' ∧ StRow ks ka' kc' wx ∧ Below w.heap.size w wx)
    case first =>
      cases ka with
      | none =>
        obtain ⟨rfl, rfl⟩ := hnil rfl
        go_wp2
        go_meet
        case rel => exact ⟨none, 0, rfl, hK, Below.refl _ _⟩
      | some x =>
        have hmk := make22w nk w hnk1
        have hcx : ∀ k y, ks[k]? = some y → w.cell? (x.add k) = some (.string y) := fun k y hy => by
          obtain ⟨b, off, e, _, _, hcell⟩ := hK (by have := (List.getElem?_eq_some_iff.1 hy).1; omega)
          rw [Option.some.inj e]
          rw [Go.WideShapes.add_plain]
          exact hcell k y hy
        have hcp := fun ty => copyK ks nk hnk x kc w ty hcx
        clear hcx
        go_wp2
        go_meet
        case rel => exact ⟨_, _, rfl, copied_row ks nk hnk w, (Below.refl _ _).alloc (Nat.le_refl _) _⟩
    case rest =>
      obtain ⟨ka', kc', rfl, hK1, hb1⟩ := hcut
      clear hK hnil ka kc
      obtain ⟨wa, hwa⟩ : ∃ wa, wa = wc := ⟨_, rfl⟩
      subst hwa
      go_wp2
      go_loopg [6, 7] nk (fun g t i wr => ∃ (j : Nat) (s : Int), g + j = nk ∧ i = .int .i64 j ∧ t = .int .i64 s ∧ 16 * (j : Int) ≤ s ∧ s ≤ 1048576 ∧ wa = wr)
      case atStart => exact ⟨0, 0, by omega, rfl, rfl, by omega, by omega, rfl⟩
      case round =>
        obtain ⟨j, s, hg, rfl, rfl, hs0, hs1, rfl⟩ := hrel
        by_cases hj : j < nk
        · obtain ⟨x, hx⟩ : ∃ x, ks[j]? = some x := ⟨_, List.getElem?_eq_getElem (by omega)⟩
          obtain ⟨b, off, rfl, hlt, hc, hcell⟩ := hK1 (by omega)
          have hc1 := hcell j x hx
          have hS1 := HKm.out j x hx
          rw [hnk] at hc
          clear hcell hK1 hx hnk hR
          by_cases h3 : s + (16 + x.size) ≤ 1048576
          · go_wp2
            go_roundg (gk - 1)
            case measure => omega
            case rel => exact ⟨j + 1, s + (16 + x.size), by omega, by go_num, rfl, by omega, h3, rfl⟩
          · go_wp2
            go_ret
            exact ⟨rfl, hb1⟩
        · have hnk2 : nk ≤ 65536 := by omega
          have HNK : Hid (ks.length = nk) := hnk
          clear hnk
          go_wp2
          go_loopg [6, 8] n (fun g t i wr => ∃ (j : Nat) (s : Int), g + j = n ∧ i = .int .i64 j ∧ t = .int .i64 s ∧ 32 * (j : Int) ≤ s ∧ s ≤ 1048576 ∧ Below wa.heap.size wa wr)
          case atStart => exact ⟨0, s, by omega, rfl, rfl, by omega, hs1, Below.refl _ _⟩
          case round =>
            clear hs0 hs1 hj hg
            obtain ⟨j', s', hg, rfl, rfl, hs0, hs1, hb2⟩ := hrel
            have hb3 : Below w.heap.size w wr := hb1.trans (hb2.mono hb1.size)
            by_cases hj : j' < n
            · obtain ⟨b, off, rfl, hlt, hc, hcell⟩ := hR (by omega)
              obtain ⟨hc1, hc2⟩ := hcell j' hj
              obtain ⟨hS1, hS2⟩ := HSm.out j' hj
              rw [← hb3.cell (p := ⟨b, off + j' * 2, none⟩) hlt] at hc1
              rw [← hb3.cell (p := ⟨b, off + j' * 2 + 1, none⟩) hlt] at hc2
              clear hcell hR
              by_cases h3 : s' + (32 + (R j').1.size + (R j').2.size) ≤ 1048576
              · go_wp2
                go_quiet (fail)
                go_wp2
                go_roundg (gk - 1)
                case measure => omega
                case rel => exact ⟨j' + 1, s' + (32 + (R j').1.size + (R j').2.size), by omega, by go_num, rfl, by omega, h3, drewN_below hb2 _⟩
              · go_wp2
                go_quiet (fail)
                go_wp2
                go_ret
                exact ⟨rfl, drewN_below hb3 _⟩
            · have hn2 : n ≤ 32768 := by omega
              go_wp2
              go_loopg [9] n (fun g i wr => ∃ j : Nat, g + j = n ∧ i = .int .i64 j ∧ Below wa.heap.size wa wr ∧ Hid (∀ k, k < j → WFS (R k)))
              case atStart => exact ⟨0, by omega, rfl, hb2, fun k hk => by omega⟩
              case round =>
                clear hs0 hs1 hj hg hb2 hb3
                obtain ⟨jj, hg, rfl, hb2, HW⟩ := hrel
                have hb3 : Below w.heap.size w wr := hb1.trans (hb2.mono hb1.size)
                by_cases hj : jj < n
                · obtain ⟨b, off, rfl, hlt, hc, hcell⟩ := hR (by omega)
                  obtain ⟨hc1, hc2⟩ := hcell jj hj
                  rw [← hb3.cell (p := ⟨b, off + jj * 2, none⟩) hlt] at hc1
                  rw [← hb3.cell (p := ⟨b, off + jj * 2 + 1, none⟩) hlt] at hc2
                  clear hcell hR
                  cases t1 : (R jj).2.toList.isEmpty with
                  | true =>
                    have HN : Hid (∀ k, k < jj + 1 → WFS (R k)) := fun k hk => by
                      by_cases e : k = jj
                      · rw [e]; exact Or.inl t1
                      · exact HW.out k (by omega)
                    go_wp2
                    go_quiet (fail)
                    go_wp2
                    go_roundg (gk - 1)
                    case measure => omega
                    case rel => exact ⟨jj + 1, by omega, by go_num, drewN_below hb2 _, HN⟩
                  | false =>
                    cases t2 : Op.bytesLess (R jj).1.toList (R jj).2.toList with
                    | true =>
                      have HN : Hid (∀ k, k < jj + 1 → WFS (R k)) := fun k hk => by
                        by_cases e : k = jj
                        · rw [e]; exact Or.inr t2
                        · exact HW.out k (by omega)
                      go_wp2
                      go_quiet (fail)
                      go_wp2
                      go_roundg (gk - 1)
                      case measure => omega
                      case rel => exact ⟨jj + 1, by omega, by go_num, drewN_below hb2 _, HN⟩
                    | false =>
                      go_wp2
                      go_quiet (fail)
                      go_wp2
                      go_ret
                      exact ⟨rfl, drewN_below hb3 _⟩
                · have HWF : Hid (∀ p ∈ listOf R n, WFS p) := fun p hp => by
                    obtain ⟨k, hk, rfl⟩ := List.mem_map.1 hp
                    exact HW.out k (by have := List.mem_range.1 hk; omega)
                  clear HW
                  have hRr := hR.keep hb3
                  have hKr := hK1.keep hb2
                  clear hR hK1 hb1 hb2
                  obtain ⟨w0, hw0⟩ : ∃ w0, w0 = wr := ⟨_, rfl⟩
                  subst hw0
                  go_wp2_with fail
                  refine (split6 R n a c w0 hRr (by omega)).mono ?_
                  rintro e wb ⟨b1, b2, rfl, hf1, hf2, hbb⟩
                  go_wp2_with fail
                  refine (settle7k ks ka' kc' nk R n b1 b2 wb (hKr.keep hbb) HNK.out (fun x hx => by
                    obtain ⟨k, hk⟩ := List.mem_iff_getElem?.1 hx
                    have := HKm.out k x hk
                    unfold maxLen; omega) (by omega) ⟨Nat.zero_le _, hf1.size, hf1.cell, hf1.soft⟩ ⟨Nat.zero_le _, hf2.size, hf2.cell, hf2.soft⟩ (by omega)).mono ?_
                  rintro e wd ⟨mb, f1, f2, S, J, T, rfl, ⟨hmap, hmb1, hmb2⟩, hperm, hup, hJS, hlist, hg1, hg2, hbd⟩
                  have HJS : Hid (J = settleS S) := hJS
                  clear hJS
                  have hb0d : Below w0.heap.size w0 wd := hbb.trans (hbd.mono hbb.size)
                  clear hf1 hf2 hbb hbd
                  go_wp2_with fail
                  refine (sweep8 R n a c wd (hRr.keep hb0d) (by omega)).mono ?_
                  rintro e we ⟨E, T', v1, v2, rfl, hE, hue, hT', hr1, hr2, hbe⟩
                  have hTJ : T' = J := by rw [hT', HJS.out]; exact law_sweep (listOf R n) S E HWF.out hperm hup hE hue
                  clear hT' hE hue
                  subst hTJ
                  have hlb : T'.length ≤ n := by rw [HJS.out]; exact Nat.le_trans (law_len S) (by rw [hperm.length_eq, listOf_length]; exact Nat.le_refl _)
                  rw [map_strings Prod.fst] at hr1
                  rw [map_strings Prod.snd] at hr2
                  obtain ⟨a3, c3, rfl, hl3, hst1⟩ := own_row hr1
                  obtain ⟨a4, c4, rfl, hl4, hst2⟩ := own_row hr2
                  have hq1 := (fresh_row (f := fst) (g := Prod.fst) (fun _ => rfl) hg1).keep hbe
                  have hq2 := (fresh_row (f := snd) (g := Prod.snd) (fun _ => rfl) hg2).keep hbe
                  rw [hlist] at hq1 hq2
                  clear hr1 hr2 hg1 hg2 hlist HJS hup hperm
                  obtain ⟨FL, hFL⟩ : ∃ FL, FL = T'.map Prod.fst := ⟨_, rfl⟩
                  obtain ⟨GL, hGL⟩ : ∃ GL, GL = T'.map Prod.snd := ⟨_, rfl⟩
                  rw [← hFL] at hl3 hst1 hq1
                  rw [← hGL] at hl4 hst2 hq2
                  clear hFL hGL
                  obtain ⟨l, hl⟩ : ∃ l, l = T'.length := ⟨_, rfl⟩
                  rw [← hl] at hl3 hl4 hq1 hq2 hlb ⊢
                  clear hl T'
                  have HL3 : Hid (FL.length = l) := hl3
                  have HL4 : Hid (GL.length = l) := hl4
                  clear hl3 hl4
                  have hb0e : Below w0.heap.size w0 we := hb0d.trans (hbe.mono hb0d.size)
                  have hmape : Holds ks ks.length mb we := hmap.block (hbe.block mb hmb2)
                  have hmbe : mb < we.heap.size := Nat.lt_of_lt_of_le hmb2 hbe.size
                  clear hmap hmb1 hmb2 hbe hb0d
                  go_wp2
                  go_loopg [17] l (fun g i wr => ∃ k : Nat, g + k = l ∧ i = .int .i64 k ∧ Below we.heap.size we wr)
                  case atStart => exact ⟨0, by omega, rfl, Below.refl _ _⟩
                  case round =>
                    obtain ⟨k, hgk, rfl, hbw⟩ := hrel
                    by_cases hk : k < l
                    · obtain ⟨x, hx⟩ : ∃ x, FL[k]? = some x := ⟨_, List.getElem?_eq_getElem (by rw [HL3.out]; exact hk)⟩
                      obtain ⟨y, hy⟩ : ∃ y, GL[k]? = some y := ⟨_, List.getElem?_eq_getElem (by rw [HL4.out]; exact hk)⟩
                      obtain ⟨p1, o1, e1, lt1, m1, cell1⟩ := hq1 (by rw [HL3.out]; omega)
                      obtain ⟨p2, o2, e2, lt2, m2, cell2⟩ := hq2 (by rw [HL4.out]; omega)
                      cases e1
                      cases e2
                      obtain ⟨p3, o3, rfl, lt3, m3, cell3⟩ := hst1 (by rw [HL3.out]; omega)
                      obtain ⟨p4, o4, rfl, lt4, m4, cell4⟩ := hst2 (by rw [HL4.out]; omega)
                      have z1 := cell1 k x hx
                      have z2 := cell2 k y hy
                      have z3 := cell3 k x hx
                      have z4 := cell4 k y hy
                      rw [Nat.zero_add] at z1 z2
                      rw [← hbw.cell (p := ⟨f1, k, none⟩) lt1] at z1
                      rw [← hbw.cell (p := ⟨f2, k, none⟩) lt2] at z2
                      rw [← hbw.cell (p := ⟨p3, o3 + k, none⟩) lt3] at z3
                      rw [← hbw.cell (p := ⟨p4, o4 + k, none⟩) lt4] at z4
                      rw [HL3.out] at m3
                      rw [HL4.out] at m4
                      have t1 : (x.toList == x.toList) = true := beq_self_eq_true _
                      have t2 : (y.toList == y.toList) = true := beq_self_eq_true _
                      clear cell1 cell2 cell3 cell4 hx hy hq1 hq2 hst1 hst2 hRr hKr m1 m2
                      go_wp2
                      go_quiet (fail)
                      go_wp2
                      go_roundg (gk - 1)
                      case measure => omega
                      case rel => exact ⟨k + 1, by omega, by go_num, drewN_below hbw _⟩
                    · have hKw := (hKr.keep hb0e).keep hbw
                      have hb4 : Below w.heap.size w wr := (hb3.trans (hb0e.mono hb3.size)).trans (hbw.mono (Nat.le_trans hb3.size hb0e.size))
                      have hmapw : Holds ks ks.length mb wr := hmape.block (hbw.block mb hmbe)
                      have hmbw : mb < wr.heap.size := Nat.lt_of_lt_of_le hmbe hbw.size
                      clear hq1 hq2 hst1 hst2 hRr hKr hmape hmbe hbw hb0e hb3
                      obtain ⟨w4, hw4⟩ : ∃ w4, w4 = wr := ⟨_, rfl⟩
                      subst hw4
                      go_wp2_with fail
                      refine (sortSt9 nk ks ka' kc' nk w4 (Nat.le_refl _) HNK.out (by omega) hKw).mono ?_
                      rintro e w5 ⟨Sd, a5, n5, c5, rfl, hSd, hpS, huS, hrS, hb5⟩
                      have hn5 : n5 ≤ 65536 := by have e1 := hpS.length_eq; rw [hSd, HNK.out] at e1; omega
                      have HSd : Hid (Sd.length = n5) := hSd
                      have HSz : Hid (Maps.size (setK ks ks.length) = cntUp none Sd) := size_set ks Sd hpS huS
                      have hK5 := hKw.keep hb5
                      have hb6 : Below w.heap.size w w5 := hb4.trans (hb5.mono hb4.size)
                      have hmap5 : Holds ks ks.length mb w5 := hmapw.block (hb5.block mb hmbw)
                      have hmb5 : mb < w5.heap.size := Nat.lt_of_lt_of_le hmbw hb5.size
                      clear hSd hpS huS hKw hb5 hb4 hmapw hmbw
                      go_wp2
                      go_loopg [19, 20] n5 (fun g dv iv wr => ∃ i d : Nat, g + i = n5 ∧ iv = .int .i64 i ∧ dv = .int .i64 d ∧ d ≤ i ∧ Below w5.heap.size w5 wr ∧ Hid (d + cntUp (ahead Sd i) (Sd.drop i) = cntUp none Sd))
                      case atStart => exact ⟨0, 0, by omega, rfl, rfl, Nat.le_refl _, Below.refl _ _, by show 0 + cntUp none (Sd.drop 0) = _; rw [Nat.zero_add, List.drop_zero]⟩
                      case round =>
                        obtain ⟨i, d, hgi, rfl, rfl, hdi, hbw, HC⟩ := hrel
                        by_cases hi : i < n5
                        · obtain ⟨x, hx⟩ : ∃ x, Sd[i]? = some x := ⟨_, List.getElem?_eq_getElem (by rw [HSd.out]; exact hi)⟩
                          obtain ⟨p1, o1, rfl, lt1, m1, cell1⟩ := hrS (by rw [HSd.out]; omega)
                          have z1 := cell1 i x hx
                          rw [← hbw.cell (p := ⟨p1, o1 + i, none⟩) lt1] at z1
                          rw [HSd.out] at m1
                          have HX : Hid (Sd[i]? = some x) := hx
                          match i, hgi, hdi, HC, hi, z1, HX with
                          | 0, hgi, hdi, HC, hi, z1, HX =>
                            clear cell1 hx hrS hK5
                            go_wp2
                            go_quiet (fail)
                            go_wp2
                            go_roundg (gk - 1)
                            case measure => omega
                            case rel => exact ⟨1, d + 1, by omega, by go_num, by go_num, by omega, drewN_below hbw _, by
                              show d + 1 + cntUp (ahead Sd (0 + 1)) (Sd.drop (0 + 1)) = _
                              rw [← HC.out, cnt_step Sd 0 x HX.out, if_neg (by unfold ahead; rw [if_pos rfl]; exact fun h => by cases h)]
                              omega⟩
                          | m + 1, hgi, hdi, HC, hi, z1, HX =>
                            obtain ⟨y, hy⟩ : ∃ y, Sd[m]? = some y := ⟨_, List.getElem?_eq_getElem (by rw [HSd.out]; omega)⟩
                            have z2 := cell1 m y hy
                            rw [← hbw.cell (p := ⟨p1, o1 + m, none⟩) lt1] at z2
                            have HY : Hid (ahead Sd (m + 1) = some y) := by show ahead Sd (m + 1) = some y; rw [ahead_succ]; exact hy
                            clear cell1 hx hy hrS hK5
                            have hi2 : (m : Int) + 1 < (n5 : Int) := by omega
                            have hi3 : ((m : Int) + 1).toNat = m + 1 := by omega
                            have hi4 : (0 : Int) ≤ (m : Int) + 1 := by omega
                            have hi5 : (m : Int) < (n5 : Int) := by omega
                            have hi6 : ((m : Int) + 1 == 0) = false := by rw [beq_eq_false_iff_ne]; omega
                            cases t : (x.toList == y.toList) with
                            | true =>
                              have hxy : x = y := list_inj (beq_iff_eq.1 t)
                              have HXY : Hid (x = y) := hxy
                              clear hxy
                              go_wp2
                              go_quiet (fail)
                              go_wp2
                              go_roundg (gk - 1)
                              case measure => omega
                              case rel => exact ⟨m + 1 + 1, d, by omega, by go_num, rfl, by omega, drewN_below hbw _, by
                                show d + cntUp (ahead Sd (m + 1 + 1)) (Sd.drop (m + 1 + 1)) = _
                                rw [← HC.out, cnt_step Sd (m + 1) x HX.out, if_pos (by rw [HY.out, HXY.out])]
                                omega⟩
                            | false =>
                              have HXY : Hid (x ≠ y) := fun e => by rw [e, beq_self_eq_true] at t; cases t
                              go_wp2
                              go_quiet (fail)
                              go_wp2
                              go_roundg (gk - 1)
                              case measure => omega
                              case rel => exact ⟨m + 1 + 1, d + 1, by omega, by go_num, by go_num, by omega, drewN_below hbw _, by
                                show d + 1 + cntUp (ahead Sd (m + 1 + 1)) (Sd.drop (m + 1 + 1)) = _
                                rw [← HC.out, cnt_step Sd (m + 1) x HX.out, if_neg (by rw [HY.out]; exact fun h => HXY.out (Option.some.inj h).symm)]
                                omega⟩
                        · have hsz : Maps.size (setK ks ks.length) = d := by
                            rw [HSz.out, ← HC.out, List.drop_eq_nil_of_le (by rw [HSd.out]; omega), cntUp, Nat.add_zero]
                          have hKw := hK5.keep hbw
                          have hb7 : Below w.heap.size w wr := hb6.trans (hbw.mono hb6.size)
                          have hmapw : Holds ks ks.length mb wr := hmap5.block (hbw.block mb hmb5)
                          have hmbw : mb < wr.heap.size := Nat.lt_of_lt_of_le hmb5 hbw.size
                          have hown := hmapw.own
                          clear hrS hK5 hmap5 hmb5 hbw hb6 HC HSz
                          obtain ⟨w6, hw6⟩ : ∃ w6, w6 = wr := ⟨_, rfl⟩
                          subst hw6
                          have hlenm : ∀ ty, (Builtin.len_ #[29] ty #[.map (some mb)]).run Try.prog w6 = .ok (.int .i64 (d : Int)) w6 := fun ty => by
                            rw [hown.len Try.underlying29 ty, hsz]
                          clear hsz hown
                          go_wp2
                          go_loopg [21] nk (fun g iv wr => ∃ m : Nat, g + m = nk ∧ iv = .int .i64 m ∧ Below w6.heap.size w6 wr)
                          case atStart => exact ⟨0, by omega, rfl, Below.refl _ _⟩
                          case round =>
                            obtain ⟨m, hgm, rfl, hbw⟩ := hrel
                            by_cases hm : m < nk
                            · obtain ⟨x, hx⟩ : ∃ x, ks[m]? = some x := ⟨_, List.getElem?_eq_getElem (by rw [HNK.out]; exact hm)⟩
                              obtain ⟨p1, o1, rfl, lt1, m1, cell1⟩ := hKw (by rw [HNK.out]; omega)
                              have z1 := cell1 m x hx
                              rw [← hbw.cell (p := ⟨p1, o1 + m, none⟩) lt1] at z1
                              rw [HNK.out] at m1
                              have hkey : keyOf Try.prog 9 (.string x) = some (.string x.data.toList) := WideMaps.keyOf_string_mk Try.underlying9 (by have := HKm.out m x hx; unfold maxLen; omega)
                              have hlook : (Instr.lookup 29 (.map (some mb)) (.string x) true).run Try.prog wr = .ok (.tuple #[.agg #[], .bool true]) wr := by
                                obtain ⟨v, ps, hrun, hv⟩ := (hmapw.block (hbw.block mb hmbw)).own.look_ok law9 Try.underlying29 (Try.zeroValue33 wr) unitElem_mk hkey
                                obtain ⟨rfl, _⟩ := unitElem_inv hv
                                rw [hrun]
                                have hh : Maps.has (setK ks ks.length) (.string x.data.toList) = true := has_set ks x (List.mem_of_getElem? hx)
                                rw [hh]
                              clear cell1 hx hkey hKw hmapw
                              go_wp2
                              go_roundg (gk - 1)
                              case measure => omega
                              case rel => exact ⟨m + 1, by omega, by go_num, hbw.alloc hbw.size _⟩
                            · go_wp2
                              go_ret
                              exact ⟨rfl, hb7.trans (hbw.mono hb7.size)⟩

end Go.Proofs.Qxb6630526a
