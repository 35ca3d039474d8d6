import Derived.Test.Qxb6628219aDoorWd
namespace Go.Proofs.Qxb6628219aDoor
open Go.RowKit
open Plain

theorem bytes8_long (a : Option Addr) (len cap : Nat) (d : Int) (w : World) (h : 1048576 < len) (hm : len ≤ 9223372036854775807) : Calls Tryd.prog 8 #[.slice a len cap, .int .u8 d] w fun e w' => e = .returned (.bool false) ∧ w = w' := by
  go_enter Tryd.func8, Tryd.ntmps8
  go_wp2
  go_ret
  exact ⟨rfl, rfl⟩
theorem bytes8_short (a : Option Addr) (len cap : Nat) (d : Int) (w : World) (h : len ≤ 1048576) : Calls Tryd.prog 8 #[.slice a len cap, .int .u8 d] w fun e w' => e = .returned (.bool true) ∧ w = w' := by
  go_enter Tryd.func8, Tryd.ntmps8
  go_wp2
  go_ret
  exact ⟨rfl, rfl⟩

set_option maxRecDepth 100000 in
theorem law4_long (l : List UInt8) (a : Option Addr) (cap : Nat) (d : Int) (w : World) (h : 1048576 < l.length) (hm : l.length ≤ 9223372036854775807) :
    Calls Tryd.prog 4 #[.slice a l.length cap, .int .u8 d] w fun e w' => e = .returned (.bool true) ∧ Below w.heap.size w w' := by
  go_enter Tryd.func4, Tryd.ntmps4
  go_wp2_with (go_at_call 8; refine (bytes8_long _ _ _ _ _ h hm).mono ?_; rintro e w' ⟨rfl, rfl⟩)
  go_ret
  exact ⟨rfl, Below.refl _ _⟩

set_option maxRecDepth 100000 in
theorem law4_big (l : List UInt8) (a : Option Addr) (cap : Nat) (d : Int) (w : World) (h : l.length ≤ 1048576) (hd : 9 < d) :
    Calls Tryd.prog 4 #[.slice a l.length cap, .int .u8 d] w fun e w' => e = .returned (.bool true) ∧ Below w.heap.size w w' := by
  go_enter Tryd.func4, Tryd.ntmps4
  go_wp2_with (go_at_call 8; refine (bytes8_short _ _ _ _ _ h).mono ?_; rintro e w' ⟨rfl, rfl⟩)
  go_ret
  exact ⟨rfl, Below.refl _ _⟩

theorem decode_held_none {l : List UInt8} {v : Value} {w : World} (h : Held l v w) (hn : l.length ≤ 1048577) (hV : Vars w) (hd : dec l = none) : Calls Tryd.prog 7 #[v] w fun e w' => Below w.heap.size w w' ∧ ∃ t p, e = .returned (.tuple #[.int .i64 0, .iface t p]) :=
  (decode_held h hn hV).mono fun e w' ⟨hb, hs⟩ => ⟨hb, by
    rcases hs with ⟨_, he⟩ | ⟨m, hm, _⟩
    · exact he
    · rw [hd] at hm; cases hm⟩
theorem decode_held_some {l : List UInt8} {v : Value} {w : World} (h : Held l v w) (hn : l.length ≤ 1048577) (hV : Vars w) (n : Int) (hd : dec l = some n) : Calls Tryd.prog 7 #[v] w fun e w' => Below w.heap.size w w' ∧ e = .returned (.tuple #[.int .i64 n, .nilIface]) :=
  (decode_held h hn hV).mono fun e w' ⟨hb, hs⟩ => ⟨hb, by
    rcases hs with ⟨hm, _⟩ | ⟨m, hm, he⟩
    · rw [hd] at hm; cases hm
    · rw [hd] at hm; injection hm with hm; subst hm; exact he⟩

/-- The new row while the law fills it: k bytes have gone over. -/
structure Part (l : List UInt8) (N k : Nat) (w : World) : Prop where
  size : N < w.heap.size
  done : ∀ j, j < k → w.cell? ⟨N, j, none⟩ = some (.int .u8 (fb l j))
  todo : ∀ j, k ≤ j → j ≤ l.length → ∃ u, w.cell? ⟨N, j, none⟩ = some (.int .u8 u)
  soft : ∀ j, w.frozen? ⟨N, j, none⟩ = false

theorem made_cell (n j : Nat) (h : j < n) : (madeCells #[Value.int .u8 0] n)[j]? = some (.int .u8 0) := by
  unfold madeCells
  rw [Array.getElem?_map, Array.getElem?_range, if_pos h]
  simp [Nat.mod_one]

theorem Part.start (l : List UInt8) (w : World) : Part l w.heap.size 0 (w.alloc (.cells (madeCells #[.int .u8 0] (l.length + 1)) 5)) :=
  ⟨by simp, fun j h => by omega, fun j _ h => ⟨0, by rw [World.cell?_alloc_new]; exact made_cell _ _ (by omega)⟩, fun j => World.frozen?_alloc_at _ _ _ _ rfl⟩

theorem addr_ne (N j k : Nat) (h : j ≠ k) : (⟨N, k, none⟩ : Addr) ≠ ⟨N, j, none⟩ := fun e => h (by injection e with _ e2; exact e2.symm)

theorem Part.put {l : List UInt8} {N k : Nat} {w : World} (h : Part l N k w) (hk : k < l.length) : Part l N (k + 1) (w.setCell ⟨N, k, none⟩ (.int .u8 (fb l k))) := by
  obtain ⟨u, hu⟩ := h.todo k (Nat.le_refl _) (by omega)
  refine ⟨by simpa [World.setCell] using h.size, fun j hj => ?_, fun j hj hj2 => ?_, fun j => ?_⟩
  · by_cases e : j = k
    · subst e; exact World.cell?_setCell_same _ _ _ hu
    · rw [World.cell?_setCell_other (h := addr_ne N j k e)]; exact h.done j (by omega)
  · rw [World.cell?_setCell_other (h := addr_ne N j k (by omega))]; exact h.todo j (by omega) hj2
  · rw [World.frozen?_setCell]; exact h.soft j

theorem fb_snoc_lt (l : List UInt8) (c : UInt8) (k : Nat) (h : k < l.length) : fb (l ++ [c]) k = fb l k := by
  unfold fb
  rw [List.getD_eq_getElem?_getD, List.getD_eq_getElem?_getD, List.getElem?_append_left h]
theorem fb_snoc_end (l : List UInt8) (c : UInt8) : fb (l ++ [c]) l.length = (c.toNat : Int) := by
  unfold fb
  rw [List.getD_eq_getElem?_getD, List.getElem?_append_right (Nat.le_refl _), Nat.sub_self]
  rfl

/-- The last byte behind them. -/
theorem Part.held {l : List UInt8} {N : Nat} {w : World} (h : Part l N l.length w) (c : UInt8) (d : Int) (hc : (c.toNat : Int) = 48 + d) : Held (l ++ [c]) (.slice (some ⟨N, 0, none⟩) (l.length + 1) (l.length + 1)) (w.setCell ⟨N, l.length, none⟩ (.int .u8 (48 + d))) := by
  have e : (l ++ [c]).length = l.length + 1 := by simp
  obtain ⟨u, hu⟩ := h.todo l.length (Nat.le_refl _) (Nat.le_refl _)
  refine Or.inr ⟨N, by rw [e], by simpa [World.setCell] using h.size, fun k hk => ?_⟩
  rw [e] at hk
  by_cases ek : k = l.length
  · subst ek; rw [World.cell?_setCell_same (h := hu), fb_snoc_end, hc]
  · rw [World.cell?_setCell_other (h := addr_ne N k _ ek), h.done k (by omega), fb_snoc_lt _ _ _ (by omega)]

theorem tdiv_low (d : Int) (h9 : d ≤ 9) : (-9223372036854775808 + d).tdiv 10 = -((9223372036854775808 - d) / 10) := by
  rw [show (-9223372036854775808 + d) = -(9223372036854775808 - d) by omega, Int.neg_tdiv, Int.tdiv_eq_ediv_of_nonneg (by omega)]

set_option maxHeartbeats 4000000 in
set_option maxRecDepth 100000 in
theorem law4_short (l : List UInt8) (v : Value) (d : Int) (c : UInt8) (w : World) (hA : Arg l v w) (h : l.length ≤ 1048576) (hV : Vars w) (h2 : 2 ≤ w.heap.size) (hd0 : 0 ≤ d) (hd9 : d ≤ 9) (HC : Hid ((c.toNat : Int) = 48 + d)) :
    Calls Tryd.prog 4 #[v, .int .u8 d] w fun e w' => e = .returned (.bool true) ∧ Below w.heap.size w w' := by
  have hneq := fun (a : Option Addr) (n c : Nat) (wx : World) => run_neq_slice_nil_any (P := Tryd.prog) wx 22 5 a n c 0 0 Tryd.underlying22
  obtain ⟨a, len, cap, rfl, hlen⟩ : ∃ a len cap, v = .slice a len cap ∧ len = l.length := by
    rcases hA with ⟨rfl, rfl⟩ | ⟨a, cap, rfl, _⟩
    · exact ⟨_, _, _, rfl, rfl⟩
    · exact ⟨_, _, _, rfl, rfl⟩
  subst hlen
  go_enter Tryd.func4, Tryd.ntmps4
  go_upto_if 23 with (go_at_call 8; refine (bytes8_short _ _ _ _ _ h).mono ?_; rintro e w' ⟨rfl, rfl⟩)
  go_cut [0] (fun v0 wx => Held l v0 wx ∧ Below w.heap.size w wx)
  case first =>
    rcases hA with ⟨rfl, hv⟩ | ⟨a', cap', hv, hc⟩
    · injection hv with e1 e2 e3
      subst e1 e3
      go_wp2
      go_meet
      case rel => exact ⟨Or.inl ⟨rfl, rfl⟩, Below.refl _ _⟩
    · injection hv with e1 e2 e3
      subst e1 e3
      have hmk := make_any l.length w (by omega)
      have hcp := fun ty => copy_any l a' cap w ty hc
      go_wp2
      go_meet
      case rel => exact ⟨Held.copied l w, (Below.refl _ _).alloc (Nat.le_refl _) _⟩
  case rest =>
    obtain ⟨hH, hb⟩ := hcut
    obtain ⟨w0, rfl⟩ : ∃ w0, w0 = wc := ⟨_, rfl⟩
    have hV1 := hV.below hb h2
    have hz1 : 2 ≤ w0.heap.size := Nat.le_trans h2 hb.size
    clear hneq hA hV
    obtain ⟨a0, n0, c0, rfl, hn0⟩ : ∃ a len cap, u0 = .slice a len cap ∧ len = l.length := by
      rcases hH with ⟨rfl, rfl⟩ | ⟨b, rfl, _⟩
      · exact ⟨_, _, _, rfl, rfl⟩
      · exact ⟨_, _, _, rfl, rfl⟩
    subst hn0
    have hmk : (Instr.makeSlice 22 (.int .i64 ((l.length : Int) + 1)) (.int .i64 ((l.length : Int) + 1))).run Tryd.prog w0 = .ok (.slice (some ⟨w0.heap.size, 0, none⟩) (l.length + 1) (l.length + 1)) (w0.alloc (.cells (madeCells #[.int .u8 0] (l.length + 1)) 5)) := make_any (l.length + 1) w0 (by omega)
    go_upto_block 0 with fail
    go_cut [7] (fun _ wx => Below w0.heap.size w0 wx ∧ Part l w0.heap.size l.length wx)
    case first =>
      rcases hH with ⟨rfl, hv⟩ | ⟨b, hv, hblt, hc⟩
      · go_wp2
        go_loopg [7] 0 (fun _ j wr => j = .int .i64 0 ∧ Below w0.heap.size w0 wr ∧ Part [] w0.heap.size 0 wr)
        case atStart => exact ⟨rfl, (Below.refl _ _).alloc (Nat.le_refl _) _, Part.start [] w0⟩
        case round =>
          obtain ⟨rfl, hb3, hp3⟩ := hrel
          go_wp2
          go_meet
          case rel => exact ⟨hb3, hp3⟩
      · injection hv with e1 e2 e3
        subst e1 e3
        go_wp2
        go_loopg [7] l.length (fun g j wr => ∃ k : Nat, g + k = l.length ∧ j = .int .i64 k ∧ Below w0.heap.size w0 wr ∧ Part l w0.heap.size k wr)
        case atStart => exact ⟨0, by omega, rfl, (Below.refl _ _).alloc (Nat.le_refl _) _, Part.start l w0⟩
        case round =>
          obtain ⟨k, hk, rfl, hb3, hp3⟩ := hrel
          by_cases hkl : k < l.length
          · have hck : wr.cell? ⟨b, k, none⟩ = some (.int .u8 (fb l k)) := by rw [hb3.cell (p := ⟨b, k, none⟩) hblt]; exact hc k hkl
            obtain ⟨u, hu⟩ := hp3.todo k (Nat.le_refl _) (by omega)
            have hfz := hp3.soft k
            go_wp2
            go_roundg (gk - 1)
            case measure => omega
            case rel => exact ⟨k + 1, by omega, by go_num, hb3.setCell (Nat.le_refl _) _, hp3.put hkl⟩
          · have hke : k = l.length := by omega
            go_wp2
            go_meet
            case rel => exact ⟨hb3, by rw [← hke]; exact hp3⟩
    case rest =>
      obtain ⟨hb3, hp3⟩ := hcut
      obtain ⟨u, hu⟩ := hp3.todo l.length (Nat.le_refl _) (Nat.le_refl _)
      have hfz := hp3.soft l.length
      have hbW : Below w0.heap.size w0 (wc.setCell ⟨w0.heap.size, l.length, none⟩ (.int .u8 (48 + d))) := hb3.setCell (Nat.le_refl _) _
      have hH1 := hH.below hbW
      have hL1 := hp3.held c d HC.out
      have hVW := hV1.below hbW hz1
      have hzW := Nat.le_trans hz1 hbW.size
      have hbw := hb.trans (hbW.mono hb.size)
      have hlc : (l ++ [c]).length ≤ 1048577 := by simp; omega
      have hdc : dig c = true := (dig_iff c).2 (by have := HC.out; omega)
      have HE : Hid (((c.toNat - 48 : Nat) : Int) = d) := by have := HC.out; show _ = _; omega
      by_cases hl0 : l = []
      · -- THE EMPTY TEXT
        subst hl0
        have hd1 : dec [] = none := dec_nil
        have hd2 : dec ([] ++ [c]) = some d := by rw [List.nil_append, dec_one c hdc, HE.out]
        have hfz0 : wc.frozen? ⟨w0.heap.size, 0, none⟩ = false := hfz
        have hu0 : wc.cell? ⟨w0.heap.size, 0, none⟩ = some (.int .u8 u) := hu
        have hX1 : Held [] (.slice a0 0 c0) (wc.setCell ⟨w0.heap.size, 0, none⟩ (.int .u8 (48 + d))) := hH1
        have hY1 : Held ([] ++ [c]) (.slice (some ⟨w0.heap.size, 0, none⟩) 1 1) (wc.setCell ⟨w0.heap.size, 0, none⟩ (.int .u8 (48 + d))) := hL1
        have hZ1 : Vars (wc.setCell ⟨w0.heap.size, 0, none⟩ (.int .u8 (48 + d))) := hVW
        go_wp2_with fail
        refine (decode_held_none hX1 (Nat.zero_le _) hZ1 hd1).mono ?_
        rintro e w1 ⟨hb1, t, p, rfl⟩
        have hL2 := hY1.below hb1
        have hV2 := hZ1.below hb1 hzW
        have hbw1 := hbw.trans (hb1.mono hbw.size)
        go_wp2_with fail
        refine (decode_held_some hL2 hlc hV2 d hd2).mono ?_
        rintro e w2 ⟨hb2, rfl⟩
        have hbw2 := hbw1.trans (hb2.mono hbw1.size)
        clear hH1 hL1 hVW hL2 hV2 hd1 hd2 hX1 hY1 hZ1
        go_wp2
        go_ret
        exact ⟨by simp, hbw2⟩
      · obtain ⟨b, hv, hblt, hcb⟩ : ∃ b, Value.slice a0 l.length c0 = .slice (some ⟨b, 0, none⟩) l.length l.length ∧ b < w0.heap.size ∧ ∀ k, k < l.length → w0.cell? ⟨b, k, none⟩ = some (.int .u8 (fb l k)) := by
          rcases hH with ⟨e, _⟩ | h
          · exact absurd e hl0
          · exact h
        injection hv with e1 e2 e3
        subst e1 e3
        have hpos : 0 < l.length := List.length_pos_iff.2 hl0
        have hne : l ≠ [] := hl0
        clear hl0
        have hr0 := fb_range l 0
        go_wp2_with fail
        refine (decode_held hH1 (by omega) hVW).mono ?_
        rintro e w1 ⟨hb1, hs1⟩
        have hL2 := hL1.below hb1
        have hV2 := hVW.below hb1 hzW
        have hbw1 := hbw.trans (hb1.mono hbw.size)
        have hc1 : w1.cell? ⟨b, 0, none⟩ = some (.int .u8 (fb l 0)) := by
          rw [hb1.cell (p := ⟨b, 0, none⟩) (Nat.lt_of_lt_of_le hblt hbW.size), hbW.cell (p := ⟨b, 0, none⟩) hblt]
          exact hcb 0 hpos
        have hblt1 : b < w1.heap.size := Nat.lt_of_lt_of_le hblt (Nat.le_trans hbW.size hb1.size)
        clear hH1 hL1 hVW hu hfz hp3 hb3 hV1 hcb
        rcases hs1 with ⟨hd1, t1, p1, rfl⟩ | ⟨n1, hd1, rfl⟩
        · have HD1 : Hid (dec l = none) := hd1
          clear hd1
          by_cases h1 : l.length ≤ 1
          · by_cases h43 : fb l 0 = 43
            · have hd2 : dec (l ++ [c]) = some d := by rw [(dec_plus l c hdc (by omega) h43).2, HE.out]
              have h43a : 43 ≤ fb l 0 := by omega
              have h43b : fb l 0 ≤ 43 := by omega
              clear h43
              go_wp2_with fail
              refine (decode_held_some hL2 hlc hV2 d hd2).mono ?_
              rintro e w2 ⟨hb2, rfl⟩
              have hc2 : w2.cell? ⟨b, 0, none⟩ = some (.int .u8 (fb l 0)) := by rw [hb2.cell (p := ⟨b, 0, none⟩) hblt1]; exact hc1
              have hbw2 := hbw1.trans (hb2.mono hbw1.size)
              clear hL2 hV2 hd2
              go_wp2
              go_ret
              exact ⟨by simp, hbw2⟩
            · by_cases h45 : fb l 0 = 45
              · have hd2 : dec (l ++ [c]) = some (-d) := by rw [(dec_minus l c hdc (by omega) h45).2, HE.out]
                have h45a : 45 ≤ fb l 0 := by omega
                have h45b : fb l 0 ≤ 45 := by omega
                clear h45 h43
                go_wp2_with fail
                refine (decode_held_some hL2 hlc hV2 (-d) hd2).mono ?_
                rintro e w2 ⟨hb2, rfl⟩
                have hc2 : w2.cell? ⟨b, 0, none⟩ = some (.int .u8 (fb l 0)) := by rw [hb2.cell (p := ⟨b, 0, none⟩) hblt1]; exact hc1
                have hbw2 := hbw1.trans (hb2.mono hbw1.size)
                clear hL2 hV2 hd2
                go_wp2
                go_ret
                exact ⟨by simp, hbw2⟩
              · have hd2 : dec (l ++ [c]) = none := dec_stays l c hne (by omega) HD1.out
                go_wp2_with fail
                refine (decode_held_none hL2 hlc hV2 hd2).mono ?_
                rintro e w2 ⟨hb2, t2, p2, rfl⟩
                have hc2 : w2.cell? ⟨b, 0, none⟩ = some (.int .u8 (fb l 0)) := by rw [hb2.cell (p := ⟨b, 0, none⟩) hblt1]; exact hc1
                have hbw2 := hbw1.trans (hb2.mono hbw1.size)
                clear hL2 hV2 hd2
                go_wp2
                go_ret
                exact ⟨by simp, hbw2⟩
          · have hd2 : dec (l ++ [c]) = none := dec_stays l c hne (by omega) HD1.out
            go_wp2_with fail
            refine (decode_held_none hL2 hlc hV2 hd2).mono ?_
            rintro e w2 ⟨hb2, t2, p2, rfl⟩
            have hc2 : w2.cell? ⟨b, 0, none⟩ = some (.int .u8 (fb l 0)) := by rw [hb2.cell (p := ⟨b, 0, none⟩) hblt1]; exact hc1
            have hbw2 := hbw1.trans (hb2.mono hbw1.size)
            clear hL2 hV2 hd2
            go_wp2
            go_ret
            exact ⟨by simp, hbw2⟩
        · have HD1 : Hid (dec l = some n1) := hd1
          clear hd1
          by_cases h45 : fb l 0 = 45
          · have hdn := dec_neg l c hdc n1 HD1.out h45
            rw [HE.out] at hdn
            have hnn := hdn.1
            have HN : Hid ((-9223372036854775808 ≤ n1 * 10 - d → dec (l ++ [c]) = some (n1 * 10 - d)) ∧ (n1 * 10 - d < -9223372036854775808 → dec (l ++ [c]) = none)) := hdn.2
            have hl1 : 1 < l.length := by
              rcases Nat.lt_or_ge 1 l.length with h | h
              · exact h
              · have := (dec_minus l c hdc (by omega) h45).1
                rw [HD1.out] at this; cases this
            have h45a : 45 ≤ fb l 0 := by omega
            have h45b : fb l 0 ≤ 45 := by omega
            clear h45 hdn
            have htd := tdiv_low d hd9
            by_cases hfit : -9223372036854775808 ≤ n1 * 10 - d
            · have hd2 := HN.out.1 hfit
              have htl : (-9223372036854775808 + d).tdiv 10 ≤ n1 := by rw [htd]; omega
              clear htd
              go_wp2_with fail
              refine (decode_held_some hL2 hlc hV2 _ hd2).mono ?_
              rintro e w2 ⟨hb2, rfl⟩
              have hc2 : w2.cell? ⟨b, 0, none⟩ = some (.int .u8 (fb l 0)) := by rw [hb2.cell (p := ⟨b, 0, none⟩) hblt1]; exact hc1
              have hbw2 := hbw1.trans (hb2.mono hbw1.size)
              clear hL2 hV2 hd2
              go_wp2
              go_ret
              exact ⟨by simp, hbw2⟩
            · have hd2 := HN.out.2 (by omega)
              have htl : ¬ (-9223372036854775808 + d).tdiv 10 ≤ n1 := by rw [htd]; omega
              clear htd
              go_wp2_with fail
              refine (decode_held_none hL2 hlc hV2 hd2).mono ?_
              rintro e w2 ⟨hb2, t2, p2, rfl⟩
              have hc2 : w2.cell? ⟨b, 0, none⟩ = some (.int .u8 (fb l 0)) := by rw [hb2.cell (p := ⟨b, 0, none⟩) hblt1]; exact hc1
              have hbw2 := hbw1.trans (hb2.mono hbw1.size)
              clear hL2 hV2 hd2
              go_wp2
              go_ret
              exact ⟨by simp, hbw2⟩
          · have hdn := dec_pos l c hdc n1 HD1.out h45
            rw [HE.out] at hdn
            have hnn := hdn.1
            have HN : Hid ((n1 * 10 + d ≤ 9223372036854775807 → dec (l ++ [c]) = some (n1 * 10 + d)) ∧ (9223372036854775807 < n1 * 10 + d → dec (l ++ [c]) = none)) := hdn.2
            have HL1 : Hid (l.length ≤ 1 → ¬ fb l 0 = 43) := fun h h43 => by
              have := (dec_plus l c hdc (by omega) h43).1
              rw [HD1.out] at this; cases this
            clear hdn
            by_cases hl1 : l.length ≤ 1
            · have h43 := HL1.out hl1
              by_cases hfit : n1 * 10 + d ≤ 9223372036854775807
              · have hd2 := HN.out.1 hfit
                go_wp2_with fail
                refine (decode_held_some hL2 hlc hV2 _ hd2).mono ?_
                rintro e w2 ⟨hb2, rfl⟩
                have hc2 : w2.cell? ⟨b, 0, none⟩ = some (.int .u8 (fb l 0)) := by rw [hb2.cell (p := ⟨b, 0, none⟩) hblt1]; exact hc1
                have hbw2 := hbw1.trans (hb2.mono hbw1.size)
                clear hL2 hV2 hd2
                go_wp2
                go_ret
                exact ⟨by simp, hbw2⟩
              · have hd2 := HN.out.2 (by omega)
                go_wp2_with fail
                refine (decode_held_none hL2 hlc hV2 hd2).mono ?_
                rintro e w2 ⟨hb2, t2, p2, rfl⟩
                have hc2 : w2.cell? ⟨b, 0, none⟩ = some (.int .u8 (fb l 0)) := by rw [hb2.cell (p := ⟨b, 0, none⟩) hblt1]; exact hc1
                have hbw2 := hbw1.trans (hb2.mono hbw1.size)
                clear hL2 hV2 hd2
                go_wp2
                go_ret
                exact ⟨by simp, hbw2⟩
            · by_cases hfit : n1 * 10 + d ≤ 9223372036854775807
              · have hd2 := HN.out.1 hfit
                go_wp2_with fail
                refine (decode_held_some hL2 hlc hV2 _ hd2).mono ?_
                rintro e w2 ⟨hb2, rfl⟩
                have hc2 : w2.cell? ⟨b, 0, none⟩ = some (.int .u8 (fb l 0)) := by rw [hb2.cell (p := ⟨b, 0, none⟩) hblt1]; exact hc1
                have hbw2 := hbw1.trans (hb2.mono hbw1.size)
                clear hL2 hV2 hd2
                go_wp2
                go_ret
                exact ⟨by simp, hbw2⟩
              · have hd2 := HN.out.2 (by omega)
                go_wp2_with fail
                refine (decode_held_none hL2 hlc hV2 hd2).mono ?_
                rintro e w2 ⟨hb2, t2, p2, rfl⟩
                have hc2 : w2.cell? ⟨b, 0, none⟩ = some (.int .u8 (fb l 0)) := by rw [hb2.cell (p := ⟨b, 0, none⟩) hblt1]; exact hc1
                have hbw2 := hbw1.trans (hb2.mono hbw1.size)
                clear hL2 hV2 hd2
                go_wp2
                go_ret
                exact ⟨by simp, hbw2⟩

theorem law4 (l : List UInt8) (v : Value) (d : Int) (w : World) (hA : Arg l v w) (hm : l.length ≤ 9223372036854775807) (hV : Vars w) (h2 : 2 ≤ w.heap.size) (hd0 : 0 ≤ d) :
    Calls Tryd.prog 4 #[v, .int .u8 d] w fun e w' => e = .returned (.bool true) ∧ Below w.heap.size w w' := by
  obtain ⟨a, cap, rfl⟩ : ∃ a cap, v = .slice a l.length cap := by
    rcases hA with ⟨rfl, rfl⟩ | ⟨a, cap, rfl, -⟩
    · exact ⟨none, 0, rfl⟩
    · exact ⟨_, _, rfl⟩
  by_cases h : l.length ≤ 1048576
  · by_cases hd9 : d ≤ 9
    · refine law4_short l _ d (UInt8.ofNat (48 + d.toNat)) w hA h hV h2 hd0 hd9 ?_
      show _ = _
      rw [UInt8.toNat_ofNat']
      omega
    · exact law4_big l a cap d w h (by omega)
  · exact law4_long l a cap d w (by omega) hm

end Go.Proofs.Qxb6628219aDoor
