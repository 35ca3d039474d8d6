import Derived.Test.Qxb6630526aWi
import Derived.Maps.OwnSet
namespace Go.Proofs.Qxb6630526a
open Go.RowKit
open Plain

theorem law9 : Maps.Keyed Try.prog 9 := Maps.string_keyed Try.underlying9

/-- A key as the map reads it. -/
def lit (x : ByteArray) : Lit := .string x.data.toList
/-- The set of the first j keys. -/
def setK (ks : List ByteArray) (j : Nat) : DataW Unit := Maps.setOf (.agg []) ((ks.take j).map lit)
structure Holds (ks : List ByteArray) (j b : Nat) (w : World) : Prop where
  own : w.ownsMap Try.prog 9 (unitElem (H := Unit)) b j (setK ks j)

theorem Holds.start (ks : List ByteArray) (w : World) : Holds ks 0 w.heap.size ((w.alloc (.map #[] 0)).alloc (.cells #[.map (some w.heap.size), .slice none 0 0] 40)) := by
  have h : ((w.alloc (.map #[] 0))).ownsMap Try.prog 9 (unitElem (H := Unit)) w.heap.size 0 (setK ks 0) := World.ownsMap_made _ _ _ _
  exact ⟨h.alloc _⟩
theorem Holds.next {ks : List ByteArray} {j b : Nat} {w : World} {x : ByteArray} (hx : ks[j]? = some x) (h : w.ownsMap Try.prog 9 (unitElem (H := Unit)) b (j + 1) ((setK ks j).put (lit x) (.agg []))) : Holds ks (j + 1) b w := by
  refine ⟨?_⟩
  have e : setK ks (j + 1) = (setK ks j).put (lit x) (.agg []) := by
    unfold setK
    rw [← Maps.setOf_snoc, List.take_add_one, hx, List.map_append]
    rfl
  rw [e]
  exact h
theorem Holds.block {ks : List ByteArray} {j b : Nat} {w w' : World} (h : Holds ks j b w) (hb : w'.heap[b]? = w.heap[b]?) : Holds ks j b w' := by
  obtain ⟨es, clock, h1, r⟩ := h.own
  exact ⟨⟨es, clock, by rw [hb]; exact h1, r⟩⟩

theorem Pre.turned {w wr wt : World} (h : Pre w wr) (ht : wr.mapTurned wt w.heap.size) : Pre w wt := by
  have hg := ht.grown
  have hsz : wt.heap.size = wr.heap.size := by
    obtain ⟨es, clock, es', clock', _, e⟩ := ht
    rw [e]
    simp [ChangeMaps.setBlock]
  have hbl : ∀ k, k ≠ w.heap.size → k < wr.heap.size → wt.heap[k]? = wr.heap[k]? := fun k hk hlt => hg.block k hlt (fun e => hk (Option.some.inj e))
  have hP := hbl (w.heap.size + 1) (by omega) (by rw [h.size]; omega)
  refine ⟨hsz.trans h.size, ?_, ?_, fun j => ?_, ?_⟩
  · rw [World.cell?_of_block (w := wr) hP]; exact h.c0
  · rw [World.cell?_of_block (w := wr) hP]; exact h.c1
  · rw [World.frozen?_of_block (w := wr) hP]; exact h.soft j
  · refine h.below.trans ⟨hg.os, hg.tape, hg.output, hg.size, fun k hk => hbl k (by omega) (by rw [h.size]; omega)⟩

/-- What ZZsettle hands back. -/
def GivesK (ks : List ByteArray) (A : Nat → ByteArray × ByteArray) (n : Nat) (w : World) (e : Ending) (w' : World) : Prop :=
  ∃ (mb b1 b2 : Nat) (S J : List (ByteArray × ByteArray)) (R : Nat → ByteArray × ByteArray), e = .returned (.tuple #[.map (some mb), .slice (some ⟨b1, 0, none⟩) J.length J.length, .slice (some ⟨b2, 0, none⟩) J.length J.length]) ∧ (Holds ks ks.length mb w' ∧ w.heap.size ≤ mb ∧ mb < w'.heap.size) ∧ S.Perm (listOf A n) ∧ UpS S ∧ J = settleS S ∧ listOf R J.length = J ∧
    Fresh (str (fst R)) J.length b1 w.heap.size w' ∧ Fresh (str (snd R)) J.length b2 w.heap.size w' ∧ Below w.heap.size w w'

set_option maxHeartbeats 1000000 in
set_option maxRecDepth 100000 in
theorem settle7k (ks : List ByteArray) (ka : Option Addr) (kc nk : Nat) (A : Nat → ByteArray × ByteArray) (n b1 b2 : Nat) (w : World) (hK : StRow ks ka kc w) (hnk : ks.length = nk) (hks : ∀ x ∈ ks, x.size ≤ maxLen) (hnk2 : nk ≤ 131072) (h1 : Fresh (str (fst A)) n b1 0 w) (h2 : Fresh (str (snd A)) n b2 0 w) (hn : n ≤ 131072) :
    Calls Try.prog 7 #[.slice ka nk kc, .slice (some ⟨b1, 0, none⟩) n n, .slice (some ⟨b2, 0, none⟩) n n] w (GivesK ks A n w) := by
  have hmm := makeMap29
  have hmk := fun wx => make38 n wx hn
  go_enter Try.func7, Try.ntmps7
  go_wp2
  go_loopg [23] nk (fun g i wr => ∃ j : Nat, g + j = nk ∧ i = .int .i64 j ∧ Pre w wr ∧ Holds ks j w.heap.size wr)
  case atStart => exact ⟨0, by omega, rfl, Pre.start w, Holds.start ks w⟩
  case round =>
   obtain ⟨kj, hkg, rfl, hpre, hmap0⟩ := hrel
   by_cases hkj : kj < nk
   · have hp0 := hpre.c0
     have hpQ : w.heap.size + 1 < wr.heap.size := by rw [hpre.size]; omega
     obtain ⟨x, hx⟩ : ∃ x, ks[kj]? = some x := ⟨_, List.getElem?_eq_getElem (by omega)⟩
     obtain ⟨b, off, rfl, hlt, hc, hcell⟩ := hK (by omega)
     have hcx := hcell kj x hx
     rw [← hpre.below.cell (p := ⟨b, off + kj, none⟩) hlt] at hcx
     have hkey : keyOf Try.prog 9 (.string x) = some (.string x.data.toList) := WideMaps.keyOf_string_mk Try.underlying9 (hks x (List.mem_of_getElem? hx))
     have HX : Hid (ks[kj]? = some x) := hx
     rw [hnk] at hc
     have HN : Hid (ks.length = nk) := hnk
     clear hcell hx hnk hK
     have hmm0 := hmap0.own
     go_wp2_with (at_mapUpdate; refine wpList_mapUpdate_in _ rfl _ _ _ 29 rfl 9 33 law9 Try.underlying29 (unitElem (H := Unit)) w.heap.size kj _ rfl hmm0 (by unfold maxLen; omega) _ _ _ rfl rfl hkey _ [] unitElem_mk ?_; intro wt hown1 hturn1)
     go_roundg (gk - 1)
     case measure => omega
     case rel => exact ⟨kj + 1, by omega, by go_num, hpre.turned hturn1, Holds.next HX.out hown1⟩
   · have hkje : kj = nk := by omega
     have hp0 := hpre.c0
     have hp1 := hpre.c1
     have hpf := hpre.soft 1
     have hpQ : w.heap.size + 1 < wr.heap.size := by rw [hpre.size]; omega
     obtain ⟨wa, hwa⟩ : ∃ wa, wa = wr := ⟨_, rfl⟩
     subst hwa
     have hQ := hpre.size
     go_wp2
     go_loopg [44] n (fun g i wr => ∃ j : Nat, g + j = n ∧ i = .int .i64 j ∧ Laid A n (w.heap.size + 1) (w.heap.size + 2) j wa wr)
     case atStart =>
       have hA0 := All.start n (wa.setCell ⟨w.heap.size + 1, 1, none⟩ (.slice (some ⟨w.heap.size + 2, 0, none⟩) 0 n))
       rw [show (wa.setCell ⟨w.heap.size + 1, 1, none⟩ (.slice (some ⟨w.heap.size + 2, 0, none⟩) 0 n)).heap.size = w.heap.size + 2 by simpa [World.setCell] using hQ] at hA0
       have hbl : Below (w.heap.size + 2) (wa.setCell ⟨w.heap.size + 1, 1, none⟩ (.slice (some ⟨w.heap.size + 2, 0, none⟩) 0 n)) ((wa.setCell ⟨w.heap.size + 1, 1, none⟩ (.slice (some ⟨w.heap.size + 2, 0, none⟩) 0 n)).alloc (.cells (madeCells #[.string ByteArray.empty, .string ByteArray.empty] (n * 2)) 42)) := (Below.refl _ _).alloc (by simp [World.setCell, hQ]) _
       refine ⟨0, by omega, rfl, ⟨_, hA0, fun k hk => by omega⟩, ?_, ?_, ?_, ?_⟩
       · rw [hbl.cell (p := ⟨w.heap.size + 1, 1, none⟩) (Nat.lt_succ_self _)]; exact World.cell?_setCell_same _ _ _ hp1
       · rw [hbl.frozen (p := ⟨w.heap.size + 1, 1, none⟩) (Nat.lt_succ_self _), World.frozen?_setCell]; exact hpf
       · rw [hbl.cell (p := ⟨w.heap.size + 1, 0, none⟩) (Nat.lt_succ_self _)]; exact World.cell?_setCell_other (h := addr_ne (w.heap.size + 1) 0 1 (by omega)) ..
       · exact ((Below.refl (w.heap.size + 1) _).setCell (p := ⟨w.heap.size + 1, 1, none⟩) (Nat.le_refl _) _).trans (hbl.mono (Nat.le_succ _))
     case round =>
       obtain ⟨j, hg, rfl, hL⟩ := hrel
       by_cases hj : j < n
       · obtain ⟨B, hB, hBA⟩ := hL.row
         have hP1 := hL.c1
         have hPf := hL.soft
         have hQs := hB.size
         obtain ⟨hc1, hc2⟩ := hB.cell j hj
         have hf1 := hB.soft (j * 2)
         have hf2 := hB.soft (j * 2 + 1)
         have hk1 : wr.cell? ⟨b1, j, none⟩ = some (.string (A j).1) := by
           rw [hL.below.cell (p := ⟨b1, j, none⟩) (Nat.lt_succ_of_lt h1.size), hpre.below.cell (p := ⟨b1, j, none⟩) h1.size]; exact h1.cell j hj
         have hk2 : wr.cell? ⟨b2, j, none⟩ = some (.string (A j).2) := by
           rw [hL.below.cell (p := ⟨b2, j, none⟩) (Nat.lt_succ_of_lt h2.size), hpre.below.cell (p := ⟨b2, j, none⟩) h2.size]; exact h2.cell j hj
         have hPs : w.heap.size + 1 < wr.heap.size := by omega
         have hb1s : b1 < wr.heap.size := by have := h1.size; omega
         have hb2s : b2 < wr.heap.size := by have := h2.size; omega
         clear hp0 hp1 hpf
         go_wp2
         go_region
         go_wp2
         go_roundg (gk - 1)
         case measure => omega
         case rel => exact ⟨j + 1, by omega, by go_num, hL.step hj (by omega) _⟩
       · have hje : j = n := by omega
         subst hje
         obtain ⟨B, hB, hBA⟩ := hL.row
         go_wp2_with fail
         refine (settle12 A _ _ _ _ (hB.congr hBA) (by omega) hL.c1 hL.soft hn).mono ?_
         rintro e ws ⟨rfl, J, hJ⟩
         obtain ⟨S, hperm, hup, hJS⟩ := hJ.sorted
         have hlen : J.length ≤ j := by rw [hJS]; exact Nat.le_trans (law_len S) (by rw [hperm.length_eq, listOf_length]; exact Nat.le_refl _)
         have HJS : Hid (J = settleS S) := hJS
         clear hJS
         have hfield := hJ.field
         have hmk := make22 J.length ws (by omega)
         have hmk2 := fun o => make22 J.length (ws.alloc o) (by omega)
         have hPsz : w.heap.size + 1 < ws.heap.size := by have := hJ.below.size; have := hB.size; omega
         have hQsz : w.heap.size + 2 < ws.heap.size := by have := hJ.below.size; have := hB.size; omega
         have hbw : Below w.heap.size w ws := (hpre.below.trans (hL.below.mono (Nat.le_succ _))).trans (hJ.below.mono (Nat.le_succ _))
         have hfield2 : ∀ o o', ((ws.alloc o).alloc o').cell? ⟨w.heap.size + 1, 1, none⟩ = some (.slice (some ⟨w.heap.size + 2, 0, none⟩) J.length j) := fun o o' => by
           rw [(((Below.refl _ ws).alloc (Nat.le_refl _) o).alloc (by simp) o').cell (p := ⟨w.heap.size + 1, 1, none⟩) hPsz]; exact hfield
         have hmap : ws.cell? ⟨w.heap.size + 1, 0, none⟩ = some (.map (some w.heap.size)) := by rw [hJ.map, hL.c0]; exact hp0
         go_wp2
         go_loopg [85] J.length (fun g i wr => ∃ k : Nat, g + k = J.length ∧ i = .int .i64 k ∧ Below ws.heap.size ws wr ∧ Part (str (fst (atOf J))) (fun k => k) J.length ws.heap.size k wr ∧ Part (str (snd (atOf J))) (fun k => k) J.length (ws.heap.size + 1) k wr)
         case atStart =>
           refine ⟨0, by omega, rfl, ((Below.refl _ _).alloc (Nat.le_refl _) _).alloc (by simp) _, ?_, ?_⟩
           · exact (Part.start (str (fst (atOf J))) (fun k => k) J.length _ J.length 9 ws (fun k hk => hk)).below ((Below.refl _ _).alloc (Nat.le_refl _) _) (by simp)
           · have h := Part.start (str (snd (atOf J))) (fun k => k) J.length #[.string ByteArray.empty] J.length 9 (ws.alloc (.cells (madeCells #[.string ByteArray.empty] J.length) 9)) (fun k hk => hk)
             simpa using h
         case round =>
           obtain ⟨k, hgk, rfl, hb, hp, hq⟩ := hrel
           have hfr : wr.cell? ⟨w.heap.size + 1, 1, none⟩ = some (.slice (some ⟨w.heap.size + 2, 0, none⟩) J.length j) := by rw [hb.cell (p := ⟨w.heap.size + 1, 1, none⟩) hPsz]; exact hfield
           by_cases hk : k < J.length
           · obtain ⟨r1, r2⟩ := hJ.row k hk
             rw [← atOf_get J k hk] at r1 r2
             have hc1 : wr.cell? ⟨w.heap.size + 2, k * 2, none⟩ = some (.string (fst (atOf J) k)) := by rw [hb.cell (p := ⟨w.heap.size + 2, k * 2, none⟩) hQsz]; exact r1
             have hc2 : ∀ v, (wr.setCell ⟨ws.heap.size, k, none⟩ v).cell? ⟨w.heap.size + 2, k * 2 + 1, none⟩ = some (.string (snd (atOf J) k)) := fun v => by
               rw [World.cell?_setCell_other (h := fun e => by injection e with e1 _; omega), hb.cell (p := ⟨w.heap.size + 2, k * 2 + 1, none⟩) hQsz]; exact r2
             have hfr2 : ∀ v, (wr.setCell ⟨ws.heap.size, k, none⟩ v).cell? ⟨w.heap.size + 1, 1, none⟩ = some (.slice (some ⟨w.heap.size + 2, 0, none⟩) J.length j) := fun v => by
               rw [World.cell?_setCell_other (h := fun e => by injection e with e1 _; omega)]; exact hfr
             obtain ⟨u, hu⟩ := hp.todo k (Nat.le_refl _) hk
             obtain ⟨u2, hu2⟩ := hq.todo k (Nat.le_refl _) hk
             have hu' : wr.cell? ⟨ws.heap.size, k, none⟩ = some u := hu
             have hu2' : ∀ v, (wr.setCell ⟨ws.heap.size, k, none⟩ v).cell? ⟨ws.heap.size + 1, k, none⟩ = some u2 := fun v => by
               rw [World.cell?_setCell_other (h := fun e => by injection e with e1 _; omega)]; exact hu2
             have hfz := hp.soft k
             have hfz2 := hq.soft k
             clear hu hu2
             go_wp2
             go_roundg (gk - 1)
             case measure => omega
             case rel => exact ⟨k + 1, by omega, by go_num, (hb.setCell (Nat.le_refl _) _).setCell (by simp) _, (hp.put hk (fun _ _ e => e)).other (by simp) _, (hq.other (by simp) _).put hk (fun _ _ e => e)⟩
           · have hke : k = J.length := by omega
             subst hke
             have hmapF : Holds ks ks.length w.heap.size wr ∧ w.heap.size ≤ w.heap.size ∧ w.heap.size < wr.heap.size := by
               rw [hnk, ← hkje]
               refine ⟨hmap0.block ?_, Nat.le_refl _, by have := hb.size; omega⟩
               rw [hb.block w.heap.size (by omega), hJ.below.block w.heap.size (Nat.lt_succ_self _), hL.below.block w.heap.size (Nat.lt_succ_self _)]
             have hmr : wr.cell? ⟨w.heap.size + 1, 0, none⟩ = some (.map (some w.heap.size)) := by rw [hb.cell (p := ⟨w.heap.size + 1, 0, none⟩) hPsz]; exact hmap
             go_wp2
             go_ret3
             exact ⟨_, _, _, S, J, atOf J, rfl, hmapF, hperm, hup, HJS.out, listOf_atOf J, hp.fresh (by omega), hq.fresh (by omega), hbw.trans (hb.mono (by omega))⟩

end Go.Proofs.Qxb6630526a
