import Derived.Test.Qxb6630526aMg
namespace Go.Proofs.Qxb6630526a
open Go.RowKit
open Plain

theorem Try.size45 : (Try.prog.info? 45).map (·.size) = some 2 := by kernel_rfl
theorem Try.bytes45 : (Try.prog.info? 45).map (·.bytes) = some 24 := by kernel_rfl
theorem Try.zero45 : (Try.prog.info? 45).bind (·.zero) = some (.agg #[.string ByteArray.empty, .int .i64 0]) := by kernel_rfl
theorem make43 (n : Nat) (w : World) (hn : n ≤ 262144) : ∃ C, C.size = n * 2 ∧ (Instr.makeSlice 43 (.int .i64 0) (.int .i64 (n : Int))).run Try.prog w = .ok (.slice (some ⟨w.heap.size, 0, none⟩) 0 n) (w.alloc (.cells C 45)) :=
  ⟨_, made_size _ _, make0 43 45 _ 2 24 Try.underlying43 Try.size45 Try.bytes45 Try.zero45 n w hn (by omega)⟩

/-- What zzSortEv hands back. -/
def SortsE (E : List (ByteArray × Int)) (w : World) (e : Ending) (w' : World) : Prop :=
  ∃ (F : List (ByteArray × Int)) (a : Option Addr) (n c : Nat), e = .returned (.slice a n c) ∧ F.length = n ∧ F.Perm E ∧ UpK Prod.fst F ∧ EvRow F a c w' ∧ Below w.heap.size w w'

/-- The loops of the merge. -/
structure Merging (L H : List (ByteArray × Int)) (n Q i j p : Nat) (w0 wr : World) : Prop where
  sum : i + j = p
  lei : i ≤ L.length
  lej : j ≤ H.length
  below : Below Q w0 wr
  row : ∃ O C, Mg Prod.fst L H O i j ∧ OutE O C ∧ Flat C (n * 2) Q wr

theorem Merging.left {L H : List (ByteArray × Int)} {n Q i j p : Nat} {w0 wr : World} (h : Merging L H n Q i j p w0 wr) (hn : L.length + H.length = n) {x : ByteArray × Int} (hx : L[i]? = some x) (hL : UpK Prod.fst L) (hH : ∀ y ∈ H.drop j, leK Prod.fst x y) (m : Nat) (o : Obj) :
    Merging L H n Q (i + 1) j (p + 1) w0 ((((wr.drewN m).setCell ⟨Q, p * 2, none⟩ (.string x.1)).setCell ⟨Q, p * 2 + 1, none⟩ (.int .i64 x.2)).alloc o) := by
  obtain ⟨O, C, hM, hO, hC⟩ := h.row
  have hi : i < L.length := (List.getElem?_eq_some_iff.1 hx).1
  have hs := h.sum
  have hlen := hM.len h.lei h.lej
  have hf := (((hC.drewN m).put (p * 2) (by have := h.lej; omega) (.string x.1)).put (p * 2 + 1) (by have := h.lej; omega) (.int .i64 x.2))
  exact ⟨by omega, hi, h.lej, Below.alloc (((drewN_below h.below m).setCell (p := ⟨Q, p * 2, none⟩) (Nat.le_refl _) _).setCell (p := ⟨Q, p * 2 + 1, none⟩) (Nat.le_refl _) _) (Nat.le_of_lt hf.size) o, ⟨O ++ [x], _, hM.left hx hL hH, hO.snoc (by omega) x, hf.alloc o⟩⟩
theorem Merging.right {L H : List (ByteArray × Int)} {n Q i j p : Nat} {w0 wr : World} (h : Merging L H n Q i j p w0 wr) (hn : L.length + H.length = n) {x : ByteArray × Int} (hx : H[j]? = some x) (hH : UpK Prod.fst H) (hL : ∀ y ∈ L.drop i, leK Prod.fst x y) (m : Nat) (o : Obj) :
    Merging L H n Q i (j + 1) (p + 1) w0 ((((wr.drewN m).setCell ⟨Q, p * 2, none⟩ (.string x.1)).setCell ⟨Q, p * 2 + 1, none⟩ (.int .i64 x.2)).alloc o) := by
  obtain ⟨O, C, hM, hO, hC⟩ := h.row
  have hj : j < H.length := (List.getElem?_eq_some_iff.1 hx).1
  have hs := h.sum
  have hlen := hM.len h.lei h.lej
  have hf := (((hC.drewN m).put (p * 2) (by have := h.lei; omega) (.string x.1)).put (p * 2 + 1) (by have := h.lei; omega) (.int .i64 x.2))
  exact ⟨by omega, h.lei, hj, Below.alloc (((drewN_below h.below m).setCell (p := ⟨Q, p * 2, none⟩) (Nat.le_refl _) _).setCell (p := ⟨Q, p * 2 + 1, none⟩) (Nat.le_refl _) _) (Nat.le_of_lt hf.size) o, ⟨O ++ [x], _, hM.right hx hH hL, hO.snoc (by omega) x, hf.alloc o⟩⟩

set_option maxHeartbeats 1000000 in
set_option maxRecDepth 100000 in
theorem sortEv13 : ∀ (m : Nat) (E : List (ByteArray × Int)) (a : Option Addr) (c n : Nat) (w : World), n ≤ m → E.length = n → n ≤ 262144 → EvRow E a c w → Calls Try.prog 13 #[.slice a n c] w (SortsE E w) := by
  intro m
  induction m with
  | zero =>
    intro E a c n w hm hE hn hR
    have h0 : n = 0 := by omega
    subst h0
    go_enter Try.func13, Try.ntmps13
    go_wp2
    go_ret
    exact ⟨E, a, 0, c, rfl, hE, List.Perm.refl _, by match E, hE with | [], _ => exact List.Pairwise.nil, hR, Below.refl _ _⟩
  | succ m ih =>
    intro E a c n w hm hE hn hR
    by_cases h1 : n ≤ 1
    · go_enter Try.func13, Try.ntmps13
      go_wp2
      go_ret
      exact ⟨E, a, n, c, rfl, hE, List.Perm.refl _, by match E, hE with
        | [], _ => exact List.Pairwise.nil
        | [x], _ => exact List.pairwise_singleton _ _
        | x :: y :: r, hE => rw [List.length_cons, List.length_cons] at hE; omega, hR, Below.refl _ _⟩
    · obtain ⟨b, off, rfl, hlt, hc, hcell⟩ := hR (by omega)
      have hR1 : EvRow (E.take (n / 2)) (some ⟨b, off, none⟩) c w := fun _ => ⟨b, off, rfl, hlt, by rw [List.length_take]; omega, fun k e he => by
        rw [List.getElem?_take] at he
        by_cases hk : k < n / 2
        · rw [if_pos hk] at he; exact hcell k e he
        · rw [if_neg hk] at he; cases he⟩
      have hR2 : EvRow (E.drop (n / 2)) (some ⟨b, off + n / 2 * 2, none⟩) (c - n / 2) w := fun _ => ⟨b, off + n / 2 * 2, rfl, hlt, by rw [List.length_drop]; omega, fun k e he => by
        rw [List.getElem?_drop] at he
        have := hcell (n / 2 + k) e he
        rw [show off + n / 2 * 2 + k * 2 = off + (n / 2 + k) * 2 by omega]
        exact this⟩
      have hl1 : (E.take (n / 2)).length = n / 2 := by rw [List.length_take]; omega
      have hl2 : (E.drop (n / 2)).length = n - n / 2 := by rw [List.length_drop]; omega
      have HE : Hid ((E.take (n / 2) ++ E.drop (n / 2)) = E) := List.take_append_drop _ _
      have hlt2 : n / 2 < n := by omega
      have hlt3 : ¬ n ≤ n / 2 := by omega
      clear hcell hR
      go_enter Try.func13, Try.ntmps13
      go_wp2_with fail
      refine (ih _ _ _ _ w (by omega) hl1 (by omega) hR1).mono ?_
      rintro e w1 ⟨F1, a1, n1, c1, rfl, hF1, hp1, hu1, hr1, hb1⟩
      go_wp2_with fail
      refine (ih _ _ _ _ w1 (by omega) hl2 (by omega) (hR2.keep hb1)).mono ?_
      rintro e w2 ⟨F2, a2, n2, c2, rfl, hF2, hp2, hu2, hr2, hb2⟩
      obtain ⟨Cm, hCm, hmk⟩ := make43 n w2 hn
      have hn1 : n1 + n2 = n := by
        have e1 := hp1.length_eq
        have e2 := hp2.length_eq
        omega
      have hr1' := hr1.keep hb2
      have HP : Hid (∀ O : List (ByteArray × Int), O.Perm (F1 ++ F2) → O.Perm E) := by
        show ∀ O : List (ByteArray × Int), O.Perm (F1 ++ F2) → O.Perm E
        intro O h
        have h2 := h.trans (hp1.append hp2)
        rw [HE.out] at h2
        exact h2
      have hbw : Below w.heap.size w w2 := hb1.trans (hb2.mono hb1.size)
      clear hp1 hp2 hr1 hR1 hR2 hl1 hl2 ih hb1 hb2
      go_upto_block 0 with fail
      rw [show decide ((n : Int) ≤ 1) = false from decide_eq_false (by omega)]
      go_cut [6, 7, 8] (fun o i j wr => ∃ i' j' p : Nat, o = .slice (some ⟨w2.heap.size, 0, none⟩) p n ∧ i = .int .i64 i' ∧ j = .int .i64 j' ∧ (n1 ≤ i' ∨ n2 ≤ j') ∧ Merging F1 F2 n w2.heap.size i' j' p w2 wr)
      case first =>
        go_wp2
        go_loopg [6, 7, 8] n (fun g o i j wr => ∃ i' j' p : Nat, g + p = n ∧ o = .slice (some ⟨w2.heap.size, 0, none⟩) p n ∧ i = .int .i64 i' ∧ j = .int .i64 j' ∧ Merging F1 F2 n w2.heap.size i' j' p w2 wr)
        case atStart =>
          have hf := Flat.start Cm 45 w2
          rw [hCm] at hf
          exact ⟨0, 0, 0, by omega, rfl, rfl, rfl, rfl, Nat.zero_le _, Nat.zero_le _, (Below.refl _ _).alloc (Nat.le_refl _) _, [], _, Mg.start _ _, fun k e he => (by cases he), hf⟩
        case round =>
          obtain ⟨i, j, p, hg, rfl, rfl, rfl, hM⟩ := hrel
          have hsum := hM.sum
          have hlei := hM.lei
          have hlej := hM.lej
          by_cases hin : i < n1 ∧ j < n2
          · obtain ⟨hi, hj⟩ := hin
            obtain ⟨x, hx⟩ : ∃ x, F1[i]? = some x := ⟨_, List.getElem?_eq_getElem (by omega)⟩
            obtain ⟨y, hy⟩ : ∃ y, F2[j]? = some y := ⟨_, List.getElem?_eq_getElem (by omega)⟩
            obtain ⟨b1, o1, rfl, hlt1, hc1, hcell1⟩ := hr1' (by omega)
            obtain ⟨b2, o2, rfl, hlt2, hc2, hcell2⟩ := hr2 (by omega)
            obtain ⟨x1, x2⟩ := hcell1 i x hx
            obtain ⟨y1, y2⟩ := hcell2 j y hy
            rw [← hM.below.cell (p := ⟨b1, o1 + i * 2, none⟩) hlt1] at x1
            rw [← hM.below.cell (p := ⟨b1, o1 + i * 2 + 1, none⟩) hlt1] at x2
            rw [← hM.below.cell (p := ⟨b2, o2 + j * 2, none⟩) hlt2] at y1
            rw [← hM.below.cell (p := ⟨b2, o2 + j * 2 + 1, none⟩) hlt2] at y2
            obtain ⟨O, C, hO⟩ := hM.row
            have q1 := hO.2.2.cell (p * 2) (by omega)
            have q2 := hO.2.2.cell (p * 2 + 1) (by omega)
            have q3 := hO.2.2.soft (p * 2)
            have q4 := hO.2.2.soft (p * 2 + 1)
            have q5 := hO.2.2.size
            clear hcell1 hcell2 hr1' hr2 hO
            have HX : Hid (F1[i]? = some x) := hx
            have HY : Hid (F2[j]? = some y) := hy
            clear hx hy
            rw [hF1] at hlei
            rw [hF2] at hlej
            have HF1 : Hid (F1.length = n1) := hF1
            have HF2 : Hid (F2.length = n2) := hF2
            clear hF1 hF2
            have HG : Hid (∀ wz, Below wr.heap.size wr wz → wz.cell? ⟨b1, o1 + i * 2, none⟩ = some (.string x.1) ∧ wz.cell? ⟨b1, o1 + i * 2 + 1, none⟩ = some (.int .i64 x.2) ∧ wz.cell? ⟨b2, o2 + j * 2, none⟩ = some (.string y.1) ∧ wz.cell? ⟨b2, o2 + j * 2 + 1, none⟩ = some (.int .i64 y.2) ∧
                wz.cell? ⟨w2.heap.size, p * 2, none⟩ = some (C (p * 2)) ∧ wz.cell? ⟨w2.heap.size, p * 2 + 1, none⟩ = some (C (p * 2 + 1)) ∧ wz.frozen? ⟨w2.heap.size, p * 2, none⟩ = false ∧ wz.frozen? ⟨w2.heap.size, p * 2 + 1, none⟩ = false ∧ w2.heap.size < wz.heap.size) := fun wz hz =>
              ⟨by rw [hz.cell (p := ⟨b1, o1 + i * 2, none⟩) (Nat.lt_trans hlt1 q5)]; exact x1, by rw [hz.cell (p := ⟨b1, o1 + i * 2 + 1, none⟩) (Nat.lt_trans hlt1 q5)]; exact x2, by rw [hz.cell (p := ⟨b2, o2 + j * 2, none⟩) (Nat.lt_trans hlt2 q5)]; exact y1, by rw [hz.cell (p := ⟨b2, o2 + j * 2 + 1, none⟩) (Nat.lt_trans hlt2 q5)]; exact y2,
               by rw [hz.cell (p := ⟨w2.heap.size, p * 2, none⟩) q5]; exact q1, by rw [hz.cell (p := ⟨w2.heap.size, p * 2 + 1, none⟩) q5]; exact q2, by rw [hz.frozen (p := ⟨w2.heap.size, p * 2, none⟩) q5]; exact q3, by rw [hz.frozen (p := ⟨w2.heap.size, p * 2 + 1, none⟩) q5]; exact q4, Nat.lt_of_lt_of_le q5 hz.size⟩
            cases t : Op.bytesLess y.1.toList x.1.toList with
            | true =>
              go_wp2
              go_quiet (fail)
              obtain ⟨wq, hwq⟩ : ∃ wq, wq = wr.drewN nq := ⟨_, rfl⟩
              rw [← hwq]
              obtain ⟨z1, z2, z3, z4, z5, z6, z7, z8, z9⟩ := HG.out wq (by rw [hwq]; exact drewN_below (Below.refl _ _) nq)
              have HW : Hid (wq = wr.drewN nq) := hwq
              clear hwq x1 x2 y1 y2 q1 q2 q3 q4
              go_wp2
              go_roundg (gk - 1)
              case measure => omega
              case rel => rw [HW.out]; exact ⟨i, j + 1, p + 1, by omega, rfl, rfl, by go_num, hM.right (by rw [HF1.out, HF2.out]; exact hn1) HY.out hu2 (fun z hz => leK_trans (leK_of (key := Prod.fst) (a := y) (b := x) t) (up_drop hu1 HX.out z hz)) _ _⟩
            | false =>
              go_wp2
              go_quiet (fail)
              obtain ⟨wq, hwq⟩ : ∃ wq, wq = wr.drewN nq := ⟨_, rfl⟩
              rw [← hwq]
              obtain ⟨z1, z2, z3, z4, z5, z6, z7, z8, z9⟩ := HG.out wq (by rw [hwq]; exact drewN_below (Below.refl _ _) nq)
              have HW : Hid (wq = wr.drewN nq) := hwq
              clear hwq x1 x2 y1 y2 q1 q2 q3 q4
              go_wp2
              go_roundg (gk - 1)
              case measure => omega
              case rel => rw [HW.out]; exact ⟨i + 1, j, p + 1, by omega, rfl, by go_num, rfl, hM.left (by rw [HF1.out, HF2.out]; exact hn1) HX.out hu1 (fun z hz => leK_trans (show leK Prod.fst x y from t) (up_drop hu2 HY.out z hz)) _ _⟩
          · have hor : n1 ≤ i ∨ n2 ≤ j := by omega
            by_cases hi0 : i < n1
            · have hj0 : ¬ j < n2 := by omega
              go_wp2
              go_meet
              case rel => exact ⟨i, j, p, rfl, rfl, rfl, hor, hM⟩
            · go_wp2
              go_meet
              case rel => exact ⟨i, j, p, rfl, rfl, rfl, hor, hM⟩
      case rest =>
        obtain ⟨i, j, p, rfl, rfl, rfl, hor, hM⟩ := hcut
        have hi0 := hM.lei
        have hj0 := hM.lej
        rw [hF1] at hi0
        rw [hF2] at hj0
        have HF1 : Hid (F1.length = n1) := hF1
        have HF2 : Hid (F2.length = n2) := hF2
        clear hF1 hF2
        have hlen : F1.length + F2.length = n := by rw [HF1.out, HF2.out]; exact hn1
        go_wp2
        go_loopg [6, 7] (n1 - i) (fun g o i wr => ∃ i' p : Nat, g + i' = n1 ∧ o = .slice (some ⟨w2.heap.size, 0, none⟩) p n ∧ i = .int .i64 i' ∧ (n1 ≤ i' ∨ n2 ≤ j) ∧ Merging F1 F2 n w2.heap.size i' j p w2 wr)
        case atStart => exact ⟨i, p, by omega, rfl, rfl, hor, hM⟩
        case round =>
          clear hM hor hi0
          obtain ⟨i, p, hg, rfl, rfl, hor, hM⟩ := hrel
          have hi0 : i ≤ n1 := by omega
          have hsum := hM.sum
          by_cases hi : i < n1
          · obtain ⟨x, hx⟩ : ∃ x, F1[i]? = some x := ⟨_, List.getElem?_eq_getElem (by rw [HF1.out]; exact hi)⟩
            obtain ⟨b1, o1, rfl, hlt1, hc1, hcell1⟩ := hr1' (by rw [HF1.out]; omega)
            obtain ⟨x1, x2⟩ := hcell1 i x hx
            rw [← hM.below.cell (p := ⟨b1, o1 + i * 2, none⟩) hlt1] at x1
            rw [← hM.below.cell (p := ⟨b1, o1 + i * 2 + 1, none⟩) hlt1] at x2
            obtain ⟨O, C, hO⟩ := hM.row
            have q1 := hO.2.2.cell (p * 2) (by omega)
            have q2 := hO.2.2.cell (p * 2 + 1) (by omega)
            have q3 := hO.2.2.soft (p * 2)
            have q4 := hO.2.2.soft (p * 2 + 1)
            have q5 := hO.2.2.size
            have HX : Hid (F1[i]? = some x) := hx
            have HL : Hid (F1.length + F2.length = n) := hlen
            rw [HF1.out] at hc1
            clear hcell1 hr1' hr2 hO hx hlen
            go_wp2
            go_roundg (gk - 1)
            case measure => omega
            case rel => exact ⟨i + 1, p + 1, by omega, rfl, by go_num, by omega, hM.left HL.out HX.out hu1 (fun z hz => by rw [List.drop_eq_nil_of_le (by rw [HF2.out]; omega)] at hz; exact absurd hz List.not_mem_nil) 0 _⟩
          · go_wp2
            go_loopg [6, 8] (n2 - j) (fun g o j wr => ∃ j' p : Nat, g + j' = n2 ∧ o = .slice (some ⟨w2.heap.size, 0, none⟩) p n ∧ j = .int .i64 j' ∧ Merging F1 F2 n w2.heap.size i j' p w2 wr)
            case atStart => exact ⟨j, p, by omega, rfl, rfl, hM⟩
            case round =>
              clear hM hor hj0 hsum
              obtain ⟨j, p, hg, rfl, rfl, hM⟩ := hrel
              have hj0 : j ≤ n2 := by omega
              have hsum := hM.sum
              by_cases hj : j < n2
              · obtain ⟨y, hy⟩ : ∃ y, F2[j]? = some y := ⟨_, List.getElem?_eq_getElem (by rw [HF2.out]; exact hj)⟩
                obtain ⟨b2, o2, rfl, hlt2, hc2, hcell2⟩ := hr2 (by rw [HF2.out]; omega)
                obtain ⟨y1, y2⟩ := hcell2 j y hy
                rw [← hM.below.cell (p := ⟨b2, o2 + j * 2, none⟩) hlt2] at y1
                rw [← hM.below.cell (p := ⟨b2, o2 + j * 2 + 1, none⟩) hlt2] at y2
                obtain ⟨O, C, hO⟩ := hM.row
                have q1 := hO.2.2.cell (p * 2) (by omega)
                have q2 := hO.2.2.cell (p * 2 + 1) (by omega)
                have q3 := hO.2.2.soft (p * 2)
                have q4 := hO.2.2.soft (p * 2 + 1)
                have q5 := hO.2.2.size
                have HY : Hid (F2[j]? = some y) := hy
                have HL : Hid (F1.length + F2.length = n) := hlen
                rw [HF2.out] at hc2
                clear hcell2 hr1' hr2 hO hy hlen
                go_wp2
                go_roundg (gk - 1)
                case measure => omega
                case rel => exact ⟨j + 1, p + 1, by omega, rfl, by go_num, hM.right HL.out HY.out hu2 (fun z hz => by rw [List.drop_eq_nil_of_le (by rw [HF1.out]; omega)] at hz; exact absurd hz List.not_mem_nil) 0 _⟩
              · have hpn : p = n := by omega
                subst hpn
                obtain ⟨O, C, hO⟩ := hM.row
                obtain ⟨hf1, hf2⟩ := hO.1.fin (by rw [HF1.out]; omega) (by rw [HF2.out]; omega)
                have hlO := hO.1.len hM.lei hM.lej
                go_wp2
                go_ret
                exact ⟨O, _, _, _, rfl, by omega, HP.out O hf1, hf2, fun _ => ⟨w2.heap.size, 0, rfl, hO.2.2.size, by omega, fun k e he => by
                  obtain ⟨e1, e2⟩ := hO.2.1 k e he
                  have hk : k < O.length := (List.getElem?_eq_some_iff.1 he).1
                  rw [← e1, ← e2, Nat.zero_add]
                  exact ⟨hO.2.2.cell _ (by omega), hO.2.2.cell _ (by omega)⟩⟩, hbw.trans (hM.below.mono hbw.size)⟩

end Go.Proofs.Qxb6630526a
