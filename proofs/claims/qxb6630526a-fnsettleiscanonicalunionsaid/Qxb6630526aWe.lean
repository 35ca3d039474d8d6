import Derived.Test.Qxb6630526aWd
import Derived.Deep.RegionLaw
namespace Go.Proofs.Qxb6630526a
open Go.RowKit
open Plain

theorem Try.size42 : (Try.prog.info? 42).map (·.size) = some 2 := by kernel_rfl
theorem Try.bytes42 : (Try.prog.info? 42).map (·.bytes) = some 32 := by kernel_rfl
theorem Try.zero42 : (Try.prog.info? 42).bind (·.zero) = some (.agg #[.string ByteArray.empty, .string ByteArray.empty]) := by kernel_rfl

/-- 'make([]keyRange, 0, n)'. -/
theorem make38 (n : Nat) (w : World) (hn : n ≤ 131072) :
    (Instr.makeSlice 38 (.int .i64 0) (.int .i64 (n : Int))).run Try.prog w = .ok (.slice (some ⟨w.heap.size, 0, none⟩) 0 n) (w.alloc (.cells (madeCells #[.string ByteArray.empty, .string ByteArray.empty] (n * 2)) 42)) := by
  obtain ⟨i, hi, h1⟩ := Option.map_eq_some_iff.1 Try.size42
  have hy := Try.bytes42
  have hz := Try.zero42
  rw [hi] at hy hz
  have h2' : i.bytes = 32 := by simpa using hy
  have h3' : i.zero = some (.agg #[.string ByteArray.empty, .string ByteArray.empty]) := by simpa using hz
  have h := run_make (P := Try.prog) w 38 42 i _ Try.underlying38 hi h3' .i64 .i64 0 (n : Int) (by omega) (by omega) (by rw [h2']; omega) (by omega)
  rw [h1] at h
  rw [show (Value.agg #[.string ByteArray.empty, .string ByteArray.empty]).cells = #[.string ByteArray.empty, .string ByteArray.empty] from rfl] at h
  simpa using h

theorem made2 (n j : Nat) (h : j < n * 2) : (madeCells #[.string ByteArray.empty, .string ByteArray.empty] (n * 2))[j]? = some (.string ByteArray.empty) := by
  unfold madeCells
  rw [Array.getElem?_map, Array.getElem?_range, if_pos h]
  rcases Nat.mod_two_eq_zero_or_one j with e | e <;> simp [e]

theorem All.start (n : Nat) (w : World) : All (fun _ => (ByteArray.empty, ByteArray.empty)) n w.heap.size (w.alloc (.cells (madeCells #[.string ByteArray.empty, .string ByteArray.empty] (n * 2)) 42)) :=
  ⟨by simp, fun k hk => by rw [World.cell?_alloc_new, World.cell?_alloc_new, made2 n _ (by omega), made2 n _ (by omega)]; exact ⟨rfl, rfl⟩, fun j => World.frozen?_alloc_at _ _ _ _ rfl⟩

theorem All.other {A : Nat → ByteArray × ByteArray} {n Q : Nat} {w : World} (h : All A n Q w) {x : Addr} (hx : x.block ≠ Q) (v : Value) : All A n Q (w.setCell x v) :=
  ⟨by simpa [World.setCell] using h.size, fun k hk => by rw [World.cell?_setCell_other (h := fun e => hx (by rw [e])), World.cell?_setCell_other (h := fun e => hx (by rw [e]))]; exact h.cell k hk, fun j => by rw [World.frozen?_setCell]; exact h.soft j⟩

/-- The elements of a list, by place. -/
def atOf (J : List (ByteArray × ByteArray)) (k : Nat) : ByteArray × ByteArray := J[k]?.getD (ByteArray.empty, ByteArray.empty)
theorem atOf_get (J : List (ByteArray × ByteArray)) (k : Nat) (h : k < J.length) : atOf J k = J[k] := by
  unfold atOf
  rw [List.getElem?_eq_getElem h]
  rfl
theorem listOf_atOf (J : List (ByteArray × ByteArray)) : listOf (atOf J) J.length = J := by
  refine List.ext_getElem (listOf_length _ _) fun k h1 h2 => ?_
  rw [listOf_get, atOf_get J k h2]

theorem makeMap29 (k : Int) (w : World) : (Instr.makeMap 29 (some (.int .i64 k))).run Try.prog w = .ok (.map (some w.heap.size)) (w.alloc (.map #[] 0)) := by
  simp [Instr.makeMap, asInt, asIntOf, Result.andThen]

/-- The record that ZZsettle lays, ahead of its ranges. -/
structure Pre (w wr : World) : Prop where
  size : wr.heap.size = w.heap.size + 2
  c0 : wr.cell? ⟨w.heap.size + 1, 0, none⟩ = some (.map (some w.heap.size))
  c1 : wr.cell? ⟨w.heap.size + 1, 1, none⟩ = some (.slice none 0 0)
  soft : ∀ j, wr.frozen? ⟨w.heap.size + 1, j, none⟩ = false
  below : Below w.heap.size w wr

theorem Pre.start (w : World) : Pre w ((w.alloc (.map #[] 0)).alloc (.cells #[.map (some w.heap.size), .slice none 0 0] 40)) := by
  have e : w.heap.size + 1 = (w.alloc (.map #[] 0)).heap.size := by simp
  refine ⟨by simp, ?_, ?_, fun j => ?_, ((Below.refl _ _).alloc (Nat.le_refl _) _).alloc (by simp) _⟩
  · rw [e, World.cell?_alloc_new]; rfl
  · rw [e, World.cell?_alloc_new]; rfl
  · rw [e]; exact World.frozen?_alloc_at _ _ _ _ rfl

/-- While the ranges are laid. -/
structure Laid (A : Nat → ByteArray × ByteArray) (n P Q j : Nat) (w0 wr : World) : Prop where
  row : ∃ B, All B n Q wr ∧ ∀ k, k < j → B k = A k
  c1 : wr.cell? ⟨P, 1, none⟩ = some (.slice (some ⟨Q, 0, none⟩) j n)
  soft : wr.frozen? ⟨P, 1, none⟩ = false
  c0 : wr.cell? ⟨P, 0, none⟩ = w0.cell? ⟨P, 0, none⟩
  below : Below P w0 wr

theorem Laid.step {A : Nat → ByteArray × ByteArray} {n P Q j : Nat} {w0 wr : World} (h : Laid A n P Q j w0 wr) (hj : j < n) (hPQ : P < Q) (o : Obj) :
    Laid A n P Q (j + 1) w0 ((((wr.setCell ⟨Q, j * 2, none⟩ (.string (A j).1)).setCell ⟨Q, j * 2 + 1, none⟩ (.string (A j).2)).setCell ⟨P, 1, none⟩ (.slice (some ⟨Q, 0, none⟩) (j + 1) n)).alloc o).drew := by
  obtain ⟨B, hB, hBA⟩ := h.row
  have hne : ∀ i k, (⟨Q, i, none⟩ : Addr) ≠ ⟨P, k, none⟩ := fun i k e => by injection e with e1; omega
  have hput : All (upd B j (A j)) n Q ((wr.setCell ⟨Q, j * 2, none⟩ (.string (A j).1)).setCell ⟨Q, j * 2 + 1, none⟩ (.string (A j).2)) := hB.put j hj (A j)
  have hw2 : ∀ k, ((wr.setCell ⟨Q, j * 2, none⟩ (.string (A j).1)).setCell ⟨Q, j * 2 + 1, none⟩ (.string (A j).2)).cell? ⟨P, k, none⟩ = wr.cell? ⟨P, k, none⟩ := fun k => by
    rw [World.cell?_setCell_other (h := hne (j * 2 + 1) k), World.cell?_setCell_other (h := hne (j * 2) k)]
  have h3 := hput.other (x := ⟨P, 1, none⟩) (by show P ≠ Q; omega) (.slice (some ⟨Q, 0, none⟩) (j + 1) n)
  have hlast : Below Q (((wr.setCell ⟨Q, j * 2, none⟩ (.string (A j).1)).setCell ⟨Q, j * 2 + 1, none⟩ (.string (A j).2)).setCell ⟨P, 1, none⟩ (.slice (some ⟨Q, 0, none⟩) (j + 1) n)) ((((wr.setCell ⟨Q, j * 2, none⟩ (.string (A j).1)).setCell ⟨Q, j * 2 + 1, none⟩ (.string (A j).2)).setCell ⟨P, 1, none⟩ (.slice (some ⟨Q, 0, none⟩) (j + 1) n)).alloc o).drew :=
    ((Below.refl _ _).alloc (Nat.le_of_lt h3.size) o).drew
  refine ⟨⟨_, (h3.alloc o).keep (Below.refl _ _).drew, fun k hk => ?_⟩, ?_, ?_, ?_, ?_⟩
  · by_cases e : k = j
    · rw [e, upd_same]
    · rw [upd_other _ _ _ _ e]; exact hBA k (by omega)
  · rw [hlast.cell (p := ⟨P, 1, none⟩) hPQ]; exact World.cell?_setCell_same _ _ _ ((hw2 1).trans h.c1)
  · rw [hlast.frozen (p := ⟨P, 1, none⟩) hPQ, World.frozen?_setCell, World.frozen?_setCell, World.frozen?_setCell]; exact h.soft
  · rw [hlast.cell (p := ⟨P, 0, none⟩) hPQ, World.cell?_setCell_other (h := addr_ne P 0 1 (by omega)), hw2 0]; exact h.c0
  · exact (((h.below.setCell (p := ⟨Q, j * 2, none⟩) (Nat.le_of_lt hPQ) _).setCell (p := ⟨Q, j * 2 + 1, none⟩) (Nat.le_of_lt hPQ) _).setCell (p := ⟨P, 1, none⟩) (Nat.le_refl _) _).trans (hlast.mono (Nat.le_of_lt hPQ))

/-- What ZZsettle hands back, the keys apart. -/
def Gives (A : Nat → ByteArray × ByteArray) (n : Nat) (w : World) (e : Ending) (w' : World) : Prop :=
  ∃ (mb b1 b2 : Nat) (S J : List (ByteArray × ByteArray)) (R : Nat → ByteArray × ByteArray), e = .returned (.tuple #[.map (some mb), .slice (some ⟨b1, 0, none⟩) J.length J.length, .slice (some ⟨b2, 0, none⟩) J.length J.length]) ∧ S.Perm (listOf A n) ∧ UpS S ∧ J = settleS S ∧ listOf R J.length = J ∧
    Fresh (str (fst R)) J.length b1 w.heap.size w' ∧ Fresh (str (snd R)) J.length b2 w.heap.size w' ∧ Below w.heap.size w w'

set_option maxHeartbeats 1000000 in
set_option maxRecDepth 100000 in
theorem settle7 (A : Nat → ByteArray × ByteArray) (n b1 b2 : Nat) (w : World) (h1 : Fresh (str (fst A)) n b1 0 w) (h2 : Fresh (str (snd A)) n b2 0 w) (hn : n ≤ 131072) :
    Calls Try.prog 7 #[.slice none 0 0, .slice (some ⟨b1, 0, none⟩) n n, .slice (some ⟨b2, 0, none⟩) n n] w (Gives A n w) := by
  have hmm := makeMap29
  have hmk := fun wx => make38 n wx hn
  go_enter Try.func7, Try.ntmps7
  go_wp2
  go_loopg [23] 0 (fun g i wr => i = .int .i64 0 ∧ Pre w wr)
  case atStart => exact ⟨rfl, Pre.start w⟩
  case round =>
    obtain ⟨rfl, hpre⟩ := hrel
    have hp0 := hpre.c0
    have hp1 := hpre.c1
    have hpf := hpre.soft 1
    have hpQ : w.heap.size + 1 < wr.heap.size := by rw [hpre.size]; omega
    obtain ⟨wa, hwa⟩ : ∃ wa, wa = wr := ⟨_, rfl⟩
    subst hwa
    have hQ := hpre.size
    go_wp2
    go_loopg [44] n (fun g i wr => ∃ j : Nat, g + j = n ∧ i = .int .i64 j ∧ Laid A n (w.heap.size + 1) (w.heap.size + 2) j wa wr)
    case atStart =>
      have hA0 := All.start n (wa.setCell ⟨w.heap.size + 1, 1, none⟩ (.slice (some ⟨w.heap.size + 2, 0, none⟩) 0 n))
      rw [show (wa.setCell ⟨w.heap.size + 1, 1, none⟩ (.slice (some ⟨w.heap.size + 2, 0, none⟩) 0 n)).heap.size = w.heap.size + 2 by simpa [World.setCell] using hQ] at hA0
      have hbl : Below (w.heap.size + 2) (wa.setCell ⟨w.heap.size + 1, 1, none⟩ (.slice (some ⟨w.heap.size + 2, 0, none⟩) 0 n)) ((wa.setCell ⟨w.heap.size + 1, 1, none⟩ (.slice (some ⟨w.heap.size + 2, 0, none⟩) 0 n)).alloc (.cells (madeCells #[.string ByteArray.empty, .string ByteArray.empty] (n * 2)) 42)) := (Below.refl _ _).alloc (by simp [World.setCell, hQ]) _
      refine ⟨0, by omega, rfl, ⟨_, hA0, fun k hk => by omega⟩, ?_, ?_, ?_, ?_⟩
      · rw [hbl.cell (p := ⟨w.heap.size + 1, 1, none⟩) (Nat.lt_succ_self _)]; exact World.cell?_setCell_same _ _ _ hp1
      · rw [hbl.frozen (p := ⟨w.heap.size + 1, 1, none⟩) (Nat.lt_succ_self _), World.frozen?_setCell]; exact hpf
      · rw [hbl.cell (p := ⟨w.heap.size + 1, 0, none⟩) (Nat.lt_succ_self _)]; exact World.cell?_setCell_other (h := addr_ne (w.heap.size + 1) 0 1 (by omega)) ..
      · exact ((Below.refl (w.heap.size + 1) _).setCell (p := ⟨w.heap.size + 1, 1, none⟩) (Nat.le_refl _) _).trans (hbl.mono (Nat.le_succ _))
    case round =>
      obtain ⟨j, hg, rfl, hL⟩ := hrel
      by_cases hj : j < n
      · obtain ⟨B, hB, hBA⟩ := hL.row
        have hP1 := hL.c1
        have hPf := hL.soft
        have hQs := hB.size
        obtain ⟨hc1, hc2⟩ := hB.cell j hj
        have hf1 := hB.soft (j * 2)
        have hf2 := hB.soft (j * 2 + 1)
        have hk1 : wr.cell? ⟨b1, j, none⟩ = some (.string (A j).1) := by
          rw [hL.below.cell (p := ⟨b1, j, none⟩) (Nat.lt_succ_of_lt h1.size), hpre.below.cell (p := ⟨b1, j, none⟩) h1.size]; exact h1.cell j hj
        have hk2 : wr.cell? ⟨b2, j, none⟩ = some (.string (A j).2) := by
          rw [hL.below.cell (p := ⟨b2, j, none⟩) (Nat.lt_succ_of_lt h2.size), hpre.below.cell (p := ⟨b2, j, none⟩) h2.size]; exact h2.cell j hj
        have hPs : w.heap.size + 1 < wr.heap.size := by omega
        have hb1s : b1 < wr.heap.size := by have := h1.size; omega
        have hb2s : b2 < wr.heap.size := by have := h2.size; omega
        clear hp0 hp1 hpf
        go_wp2
        go_region
        go_wp2
        go_roundg (gk - 1)
        case measure => omega
        case rel => exact ⟨j + 1, by omega, by go_num, hL.step hj (by omega) _⟩
      · have hje : j = n := by omega
        subst hje
        obtain ⟨B, hB, hBA⟩ := hL.row
        go_wp2_with fail
        refine (settle12 A _ _ _ _ (hB.congr hBA) (by omega) hL.c1 hL.soft hn).mono ?_
        rintro e ws ⟨rfl, J, hJ⟩
        obtain ⟨S, hperm, hup, hJS⟩ := hJ.sorted
        have hlen : J.length ≤ j := by rw [hJS]; exact Nat.le_trans (law_len S) (by rw [hperm.length_eq, listOf_length]; exact Nat.le_refl _)
        have HJS : Hid (J = settleS S) := hJS
        clear hJS
        have hfield := hJ.field
        have hmk := make22 J.length ws (by omega)
        have hmk2 := fun o => make22 J.length (ws.alloc o) (by omega)
        have hPsz : w.heap.size + 1 < ws.heap.size := by have := hJ.below.size; have := hB.size; omega
        have hQsz : w.heap.size + 2 < ws.heap.size := by have := hJ.below.size; have := hB.size; omega
        have hbw : Below w.heap.size w ws := (hpre.below.trans (hL.below.mono (Nat.le_succ _))).trans (hJ.below.mono (Nat.le_succ _))
        have hfield2 : ∀ o o', ((ws.alloc o).alloc o').cell? ⟨w.heap.size + 1, 1, none⟩ = some (.slice (some ⟨w.heap.size + 2, 0, none⟩) J.length j) := fun o o' => by
          rw [(((Below.refl _ ws).alloc (Nat.le_refl _) o).alloc (by simp) o').cell (p := ⟨w.heap.size + 1, 1, none⟩) hPsz]; exact hfield
        have hmap : ws.cell? ⟨w.heap.size + 1, 0, none⟩ = some (.map (some w.heap.size)) := by rw [hJ.map, hL.c0]; exact hp0
        go_wp2
        go_loopg [85] J.length (fun g i wr => ∃ k : Nat, g + k = J.length ∧ i = .int .i64 k ∧ Below ws.heap.size ws wr ∧ Part (str (fst (atOf J))) (fun k => k) J.length ws.heap.size k wr ∧ Part (str (snd (atOf J))) (fun k => k) J.length (ws.heap.size + 1) k wr)
        case atStart =>
          refine ⟨0, by omega, rfl, ((Below.refl _ _).alloc (Nat.le_refl _) _).alloc (by simp) _, ?_, ?_⟩
          · exact (Part.start (str (fst (atOf J))) (fun k => k) J.length _ J.length 9 ws (fun k hk => hk)).below ((Below.refl _ _).alloc (Nat.le_refl _) _) (by simp)
          · have h := Part.start (str (snd (atOf J))) (fun k => k) J.length #[.string ByteArray.empty] J.length 9 (ws.alloc (.cells (madeCells #[.string ByteArray.empty] J.length) 9)) (fun k hk => hk)
            simpa using h
        case round =>
          obtain ⟨k, hgk, rfl, hb, hp, hq⟩ := hrel
          have hfr : wr.cell? ⟨w.heap.size + 1, 1, none⟩ = some (.slice (some ⟨w.heap.size + 2, 0, none⟩) J.length j) := by rw [hb.cell (p := ⟨w.heap.size + 1, 1, none⟩) hPsz]; exact hfield
          by_cases hk : k < J.length
          · obtain ⟨r1, r2⟩ := hJ.row k hk
            rw [← atOf_get J k hk] at r1 r2
            have hc1 : wr.cell? ⟨w.heap.size + 2, k * 2, none⟩ = some (.string (fst (atOf J) k)) := by rw [hb.cell (p := ⟨w.heap.size + 2, k * 2, none⟩) hQsz]; exact r1
            have hc2 : ∀ v, (wr.setCell ⟨ws.heap.size, k, none⟩ v).cell? ⟨w.heap.size + 2, k * 2 + 1, none⟩ = some (.string (snd (atOf J) k)) := fun v => by
              rw [World.cell?_setCell_other (h := fun e => by injection e with e1 _; omega), hb.cell (p := ⟨w.heap.size + 2, k * 2 + 1, none⟩) hQsz]; exact r2
            have hfr2 : ∀ v, (wr.setCell ⟨ws.heap.size, k, none⟩ v).cell? ⟨w.heap.size + 1, 1, none⟩ = some (.slice (some ⟨w.heap.size + 2, 0, none⟩) J.length j) := fun v => by
              rw [World.cell?_setCell_other (h := fun e => by injection e with e1 _; omega)]; exact hfr
            obtain ⟨u, hu⟩ := hp.todo k (Nat.le_refl _) hk
            obtain ⟨u2, hu2⟩ := hq.todo k (Nat.le_refl _) hk
            have hu' : wr.cell? ⟨ws.heap.size, k, none⟩ = some u := hu
            have hu2' : ∀ v, (wr.setCell ⟨ws.heap.size, k, none⟩ v).cell? ⟨ws.heap.size + 1, k, none⟩ = some u2 := fun v => by
              rw [World.cell?_setCell_other (h := fun e => by injection e with e1 _; omega)]; exact hu2
            have hfz := hp.soft k
            have hfz2 := hq.soft k
            clear hu hu2
            go_wp2
            go_roundg (gk - 1)
            case measure => omega
            case rel => exact ⟨k + 1, by omega, by go_num, (hb.setCell (Nat.le_refl _) _).setCell (by simp) _, (hp.put hk (fun _ _ e => e)).other (by simp) _, (hq.other (by simp) _).put hk (fun _ _ e => e)⟩
          · have hke : k = J.length := by omega
            subst hke
            have hmr : wr.cell? ⟨w.heap.size + 1, 0, none⟩ = some (.map (some w.heap.size)) := by rw [hb.cell (p := ⟨w.heap.size + 1, 0, none⟩) hPsz]; exact hmap
            go_wp2
            go_ret3
            exact ⟨_, _, _, S, J, atOf J, rfl, hperm, hup, HJS.out, listOf_atOf J, hp.fresh (by omega), hq.fresh (by omega), hbw.trans (hb.mono (by omega))⟩

end Go.Proofs.Qxb6630526a
