import Derived.Test.Qxb6630526aWh
import Derived.Test.Qxb6630526aSweep
import Derived.Maps.AppendAt
import Derived.OwnWalk
namespace Go.Proofs.Qxb6630526a
open Go.RowKit
open Plain

/-! ### The events -/

def ev1 (p : ByteArray × ByteArray) : List (ByteArray × Int) := if p.2.toList.isEmpty = true then [(p.1, 1)] else [(p.1, 1), (p.2, -1)]
theorem evS_snoc : ∀ (l : List (ByteArray × ByteArray)) (p : ByteArray × ByteArray), evS (l ++ [p]) = evS l ++ ev1 p := by
  intro l
  induction l with
  | nil =>
    intro p
    rw [List.nil_append, evS, evS, ev1]
    by_cases h : p.2.toList.isEmpty = true
    · rw [if_pos h, if_pos h]; rfl
    · rw [if_neg h, if_neg h]; rfl
  | cons q r ih =>
    intro p
    rw [List.cons_append, evS, evS, ih p]
    by_cases h : q.2.toList.isEmpty = true
    · rw [if_pos h, if_pos h]; rfl
    · rw [if_neg h, if_neg h]; rfl
theorem listOf_succ (R : Nat → ByteArray × ByteArray) (k : Nat) : listOf R (k + 1) = listOf R k ++ [R k] := by
  unfold listOf
  rw [List.range_succ, List.map_append]
  rfl
theorem evS_one : ∀ (l : List (ByteArray × ByteArray)), ∀ e ∈ evS l, -1 ≤ e.2 ∧ e.2 ≤ 1 := by
  intro l
  induction l with
  | nil => intro e he; exact absurd he List.not_mem_nil
  | cons p r ih =>
    intro e he
    rw [evS] at he
    by_cases h : p.2.toList.isEmpty = true
    · rw [if_pos h] at he
      rcases List.mem_cons.1 he with rfl | he
      · exact ⟨by omega, by omega⟩
      · exact ih e he
    · rw [if_neg h] at he
      rcases List.mem_cons.1 he with rfl | he
      · exact ⟨by omega, by omega⟩
      · rcases List.mem_cons.1 he with rfl | he
        · exact ⟨by omega, by omega⟩
        · exact ih e he

/-- While the events are laid: O so far, p of them. -/
structure Lay (O : List (ByteArray × Int)) (n Q p : Nat) (w0 wr : World) : Prop where
  len : O.length = p
  below : Below Q w0 wr
  row : ∃ C, OutE O C ∧ Flat C (2 * n * 2) Q wr
theorem Lay.snoc {O : List (ByteArray × Int)} {n Q p : Nat} {w0 wr : World} (h : Lay O n Q p w0 wr) (hp : p < 2 * n) (e : ByteArray × Int) (o : Obj) :
    Lay (O ++ [e]) n Q (p + 1) w0 (((wr.setCell ⟨Q, p * 2, none⟩ (.string e.1)).setCell ⟨Q, p * 2 + 1, none⟩ (.int .i64 e.2)).alloc o) := by
  obtain ⟨C, hO, hC⟩ := h.row
  have hf := (hC.put (p * 2) (by omega) (.string e.1)).put (p * 2 + 1) (by omega) (.int .i64 e.2)
  exact ⟨by rw [List.length_append, h.len]; rfl, Below.alloc ((h.below.setCell (p := ⟨Q, p * 2, none⟩) (Nat.le_refl _) _).setCell (p := ⟨Q, p * 2 + 1, none⟩) (Nat.le_refl _) _) (Nat.le_of_lt hf.size) o, _, hO.snoc h.len e, hf.alloc o⟩

theorem own_mono {w : World} {base base' n : Nat} {v : Value} {xs : List Value} (h : w.ownsRow base 9 1 v n xs) (hb : base' ≤ base) : w.ownsRow base' 9 1 v n xs := by
  obtain ⟨h1, h2 | ⟨g, cap, cur, e, hg, r⟩⟩ := h
  · exact ⟨h1, Or.inl h2⟩
  · exact ⟨h1, Or.inr ⟨g, cap, cur, e, Nat.le_trans hb hg, r⟩⟩

/-- The two rows that the sweep gathers. -/
structure Outs (O : List (ByteArray × ByteArray)) (v1 v2 : Value) (w1 wr : World) : Prop where
  r1 : wr.ownsRow w1.heap.size 9 1 v1 O.length (O.map fun p => .string p.1)
  r2 : wr.ownsRow w1.heap.size 9 1 v2 O.length (O.map fun p => .string p.2)
  apart : ∀ k, v1.ownBlock = some k → v2.ownBlock ≠ some k
  below : Below w1.heap.size w1 wr
theorem Outs.start (w1 : World) : Outs [] (.slice none 0 0) (.slice none 0 0) w1 w1 :=
  ⟨World.ownsRow_nil _ _ _ _, World.ownsRow_nil _ _ _ _, fun k h => (by cases h), Below.refl _ _⟩
/-- The first row has one more. -/
structure Half (O : List (ByteArray × ByteArray)) (x : ByteArray) (v1 v2 : Value) (w1 wr : World) : Prop where
  r1 : wr.ownsRow w1.heap.size 9 1 v1 (O.length + 1) ((O.map fun p => .string p.1) ++ [.string x])
  r2 : wr.ownsRow w1.heap.size 9 1 v2 O.length (O.map fun p => .string p.2)
  apart : ∀ k, v1.ownBlock = some k → v2.ownBlock ≠ some k
  below : Below w1.heap.size w1 wr

theorem Outs.half {O : List (ByteArray × ByteArray)} {v1 v2 v1' : Value} {w1 wr w2 : World} {o : Obj} {x : ByteArray} (h : Outs O v1 v2 w1 wr)
    (hown : w2.ownsRow w1.heap.size 9 1 v1' (O.length + 1) ((O.map fun p => .string p.1) ++ [.string x])) (hg : (wr.alloc o).grownBy w2 v1.ownBlock) (hb : v1'.ownBlock = v1.ownBlock ∨ v1'.ownBlock = some (wr.heap.size + 1)) : Half O x v1' v2 w1 w2 := by
  have hs : w1.heap.size ≤ wr.heap.size := h.below.size
  refine ⟨hown, (h.r2.alloc o).kept hg ?_, fun k hk => ?_, (h.below.alloc hs o).grown hg (by simp; omega) fun k hk => (h.r1.lt k hk).1⟩
  · cases e : v2.ownBlock with
    | none => exact Or.inl rfl
    | some k => exact Or.inr fun e2 => h.apart k e2.symm e
  · rcases hb with hb | hb
    · rw [hb] at hk; exact h.apart k hk
    · intro e
      have := (h.r2.lt k e).2
      rw [hb] at hk
      have hk' := Option.some.inj hk
      omega
theorem Half.full {O : List (ByteArray × ByteArray)} {v1 v2 v2' : Value} {w1 wr w2 : World} {o : Obj} {x y : ByteArray} (h : Half O x v1 v2 w1 wr)
    (hown : w2.ownsRow w1.heap.size 9 1 v2' (O.length + 1) ((O.map fun p => .string p.2) ++ [.string y])) (hg : (wr.alloc o).grownBy w2 v2.ownBlock) (hb : v2'.ownBlock = v2.ownBlock ∨ v2'.ownBlock = some (wr.heap.size + 1)) : Outs (O ++ [(x, y)]) v1 v2' w1 w2 := by
  have hs : w1.heap.size ≤ wr.heap.size := h.below.size
  refine ⟨?_, ?_, fun k hk => ?_, (h.below.alloc hs o).grown hg (by simp; omega) fun k hk => (h.r2.lt k hk).1⟩
  · rw [List.length_append, List.map_append]
    refine (h.r1.alloc o).kept hg ?_
    cases e : v1.ownBlock with
    | none => exact Or.inl rfl
    | some k => exact Or.inr fun e2 => h.apart k e e2.symm
  · rw [List.length_append, List.map_append]; exact hown
  · rcases hb with hb | hb
    · rw [hb]; exact h.apart k hk
    · rw [hb]
      intro e
      have := (h.r1.lt k hk).2
      have hk' := Option.some.inj e
      omega

theorem Try.info9 : (Try.prog.info? 9).map (fun i => (i.zero, i.size, i.bytes)) = some (some (.string ByteArray.empty), 1, 16) := by kernel_rfl

/-- What zzSweepUnion hands back. -/
def Sweeps (R : Nat → ByteArray × ByteArray) (n : Nat) (w : World) (e : Ending) (w' : World) : Prop :=
  ∃ (E : List (ByteArray × Int)) (T : List (ByteArray × ByteArray)) (v1 v2 : Value), e = .returned (.tuple #[v1, v2]) ∧ E.Perm (evS (listOf R n)) ∧ UpK Prod.fst E ∧ T = swAt nothing 0 nothing E ∧
    w'.ownsRow w.heap.size 9 1 v1 T.length (T.map fun p => .string p.1) ∧ w'.ownsRow w.heap.size 9 1 v2 T.length (T.map fun p => .string p.2) ∧ Below w.heap.size w w'

set_option maxHeartbeats 1000000 in
set_option maxRecDepth 100000 in
theorem sweep8 (R : Nat → ByteArray × ByteArray) (n : Nat) (a : Option Addr) (c : Nat) (w : World) (hR : Row2 R n a c w) (hn : n ≤ 65536) :
    Calls Try.prog 8 #[.slice a n c] w (Sweeps R n w) := by
  obtain ⟨Cm, hCm, hmk0⟩ := make43 (2 * n) w (by omega)
  have hmk : (Instr.makeSlice 43 (.int .i64 0) (.int .i64 (2 * (n : Int)))).run Try.prog w = .ok (.slice (some ⟨w.heap.size, 0, none⟩) 0 (2 * n)) (w.alloc (.cells Cm 45)) := by
    rw [← hmk0]; congr 3
  clear hmk0
  go_enter Try.func8, Try.ntmps8
  go_wp2
  go_loopg [4, 5] n (fun g s i wr => ∃ k p : Nat, g + k = n ∧ i = .int .i64 k ∧ s = .slice (some ⟨w.heap.size, 0, none⟩) p (2 * n) ∧ p ≤ 2 * k ∧ Lay (evS (listOf R k)) n w.heap.size p w wr)
  case atStart =>
    have hf := Flat.start Cm 45 w
    rw [hCm] at hf
    exact ⟨0, 0, by omega, rfl, rfl, by omega, rfl, (Below.refl _ _).alloc (Nat.le_refl _) _, _, fun k e he => (by cases he), hf⟩
  case round =>
    obtain ⟨k, p, hg, rfl, rfl, hcap, hE⟩ := hrel
    by_cases hk : k < n
    · obtain ⟨b, off, rfl, hlt, hc, hcell⟩ := hR (by omega)
      obtain ⟨hc1, hc2⟩ := hcell k hk
      have HC2 : Hid (w.cell? ⟨b, off + k * 2 + 1, none⟩ = some (.string (R k).2)) := hc2
      rw [← hE.below.cell (p := ⟨b, off + k * 2, none⟩) hlt] at hc1
      obtain ⟨C, hO, hC⟩ := hE.row
      have q1 := hC.cell (p * 2) (by omega)
      have q2 := hC.cell (p * 2 + 1) (by omega)
      have q3 := hC.soft (p * 2)
      have q4 := hC.soft (p * 2 + 1)
      have q5 := hC.size
      clear hcell hc2 hC hO
      go_upto_region 6 with fail
      obtain ⟨wq, hwq⟩ : ∃ wq, wq = ((wr.setCell ⟨w.heap.size, p * 2, none⟩ (.string (R k).1)).setCell ⟨w.heap.size, p * 2 + 1, none⟩ (.int .i64 1)).alloc (.cells #[.string (R k).1, .int .i64 1] 45) := ⟨_, rfl⟩
      rw [← hwq]
      have hE2 : Lay (evS (listOf R k) ++ [((R k).1, 1)]) n w.heap.size (p + 1) w wq := by rw [hwq]; exact hE.snoc (by omega) ((R k).1, 1) _
      clear hwq q1 q2 q3 q4 q5 hc1
      have hc3 : wq.cell? ⟨b, off + k * 2 + 1, none⟩ = some (.string (R k).2) := by rw [hE2.below.cell (p := ⟨b, off + k * 2 + 1, none⟩) hlt]; exact HC2.out
      obtain ⟨C, hO, hC⟩ := hE2.row
      have q5 := hC.size
      cases t : (R k).2.toList.isEmpty with
      | true =>
        go_wp2
        go_roundg (gk - 1)
        case measure => omega
        case rel => exact ⟨k + 1, p + 1, by omega, by go_num, rfl, by omega, by rw [listOf_succ, evS_snoc, ev1, if_pos t]; exact hE2⟩
      | false =>
        have q6 := hC.cell ((p + 1) * 2) (by omega)
        have q7 := hC.cell ((p + 1) * 2 + 1) (by omega)
        have q8 := hC.soft ((p + 1) * 2)
        have q9 := hC.soft ((p + 1) * 2 + 1)
        clear hC hO
        go_wp2
        go_roundg (gk - 1)
        case measure => omega
        case rel => exact ⟨k + 1, p + 1 + 1, by omega, by go_num, rfl, by omega, by
          have h := hE2.snoc (by omega) ((R k).2, -1) (.cells #[.string (R k).2, .int .i64 (-1)] 45)
          rw [listOf_succ, evS_snoc, ev1, if_neg (by rw [t]; exact Bool.noConfusion)]
          rw [List.append_assoc] at h
          exact h⟩
    · have hkn : k = n := by omega
      subst hkn
      obtain ⟨C, hO, hC⟩ := hE.row
      have hlen := hE.len
      have hrow : EvRow (evS (listOf R k)) (some ⟨w.heap.size, 0, none⟩) (2 * k) wr := fun _ => ⟨w.heap.size, 0, rfl, hC.size, by omega, fun j e he => by
        obtain ⟨e1, e2⟩ := hO j e he
        have hj : j < (evS (listOf R k)).length := (List.getElem?_eq_some_iff.1 he).1
        rw [← e1, ← e2, Nat.zero_add]
        exact ⟨hC.cell _ (by omega), hC.cell _ (by omega)⟩⟩
      have hb0 := hE.below
      clear hO hC hE
      go_wp2_with fail
      refine (sortEv13 p _ _ _ p wr (Nat.le_refl _) hlen (by omega) hrow).mono ?_
      rintro e w1 ⟨E, a1, n1, c1, rfl, hE1, hp1, hu1, hr1, hb1⟩
      have HE : Hid (E.length = n1) := hE1
      have hn1 : n1 ≤ 131072 := by have := hp1.length_eq; omega
      have HP : Hid (E.Perm (evS (listOf R k))) := hp1
      have HD : Hid (∀ (i : Nat) (e : ByteArray × Int), E[i]? = some e → -1 ≤ e.2 ∧ e.2 ≤ 1) := fun i e he => evS_one _ e (HP.out.mem_iff.1 (List.mem_of_getElem? he))
      have hbw : Below w.heap.size w w1 := hb0.trans (hb1.mono hb0.size)
      clear hE1 hp1 hrow hb0 hb1 hlen
      obtain ⟨i0, hi0, hz0, hz1, hz2⟩ := info_parts Try.info9
      go_wp2
      go_loopg [6, 7, 8, 9, 10] n1 (fun g v1 v2 cv sv iv wr => ∃ (i : Nat) (cc : Int) (start : ByteArray) (O : List (ByteArray × ByteArray)), g + i = n1 ∧ iv = .int .i64 i ∧ cv = .int .i64 cc ∧ sv = .string start ∧ -(i : Int) ≤ cc ∧ cc ≤ i ∧ O.length ≤ i ∧ Outs O v1 v2 w1 wr ∧ Hid (swAt nothing 0 nothing E = O ++ swAt nothing cc start (E.drop i)))
      case atStart => exact ⟨0, 0, nothing, [], by omega, rfl, rfl, rfl, by omega, by omega, Nat.le_refl _, Outs.start w1, rfl⟩
      case round =>
        obtain ⟨i, cc, start, O, hgi, rfl, rfl, rfl, hlo, hhi, hOl, hOut, HSw⟩ := hrel
        by_cases hi : i < n1
        · obtain ⟨e, he⟩ : ∃ e, E[i]? = some e := ⟨_, List.getElem?_eq_getElem (by rw [HE.out]; exact hi)⟩
          obtain ⟨b, off, rfl, hlt, hc, hcell⟩ := hr1 (by rw [HE.out]; omega)
          have hx1 := (hcell i e he).1
          rw [← hOut.below.cell (p := ⟨b, off + i * 2, none⟩) hlt] at hx1
          rw [HE.out] at hc
          have HCell : Hid (∀ j x, E[j]? = some x → wr.cell? ⟨b, off + j * 2, none⟩ = some (.string x.1) ∧ wr.cell? ⟨b, off + j * 2 + 1, none⟩ = some (.int .i64 x.2)) := fun j x hx => by
            rw [hOut.below.cell (p := ⟨b, off + j * 2, none⟩) hlt, hOut.below.cell (p := ⟨b, off + j * 2 + 1, none⟩) hlt]; exact hcell j x hx
          have HX : Hid (E[i]? = some e) := he
          clear hcell he hr1 hR
          obtain ⟨kk, hkk⟩ : ∃ kk, kk = e.1 := ⟨_, rfl⟩
          have HK : Hid (kk = e.1) := hkk
          rw [← hkk] at hx1
          clear hkk
          go_upto_block 4 with fail
          go_cut [8, 10] (fun cv iv wx => ∃ (i' : Nat) (c' : Int), iv = .int .i64 i' ∧ cv = .int .i64 c' ∧ i < i' ∧ i' ≤ n1 ∧ -(i' : Int) ≤ c' ∧ c' ≤ i' ∧ wr = wx ∧ Hid (swAt nothing 0 nothing E = O ++ (outs cc c' start kk ++ swAt nothing c' (st cc c' start kk) (E.drop i'))))
          case first =>
            obtain ⟨wz, hwz⟩ : ∃ wz, wz = wr := ⟨_, rfl⟩
            subst hwz
            go_wp2
            go_loopg [8, 10] (n1 - i) (fun g cv iv wx => ∃ (i' : Nat) (c' : Int), g + i' = n1 ∧ iv = .int .i64 i' ∧ cv = .int .i64 c' ∧ i ≤ i' ∧ -(i' : Int) ≤ c' ∧ c' ≤ i' ∧ wz = wx ∧ Hid (swAt nothing 0 nothing E = O ++ swIn nothing kk cc c' start (E.drop i')))
            case atStart => exact ⟨i, cc, by omega, rfl, rfl, Nat.le_refl _, hlo, hhi, rfl, by
              show swAt nothing 0 nothing E = _
              rw [HSw.out, drop_some HX.out, HK.out]
              exact congrArg _ (swAt_start nothing cc start e.1 e.2 _)⟩
            case round =>
              obtain ⟨i', c', hg', rfl, rfl, hii, hl', hh', rfl, HS'⟩ := hrel
              by_cases hi' : i' < n1
              · obtain ⟨x, hx⟩ : ∃ x, E[i']? = some x := ⟨_, List.getElem?_eq_getElem (by rw [HE.out]; exact hi')⟩
                obtain ⟨y1, y2⟩ := HCell.out i' x hx
                obtain ⟨d1, d2⟩ := HD.out i' x hx
                have HX' : Hid (E[i']? = some x) := hx
                clear hx
                cases t : (x.1.toList == kk.toList) with
                | true =>
                  have hxk : x.1 = kk := list_inj (beq_iff_eq.1 t)
                  have HXK : Hid (x.1 = kk) := hxk
                  clear hxk
                  go_wp2
                  go_roundg (gk - 1)
                  case measure => omega
                  case rel => exact ⟨i' + 1, c' + x.2, by omega, by go_num, rfl, by omega, by omega, by omega, rfl, by
                    show swAt nothing 0 nothing E = _
                    rw [HS'.out, drop_some HX'.out, show x = (kk, x.2) from Prod.ext HXK.out rfl, swIn_same]⟩
                | false =>
                  have hne : i < i' ∧ x.1 ≠ kk := by
                    have h1 : x.1 ≠ kk := fun e1 => by rw [e1, beq_self_eq_true] at t; cases t
                    refine ⟨?_, h1⟩
                    rcases Nat.lt_or_ge i i' with h2 | h2
                    · exact h2
                    · have h3 : i' = i := by omega
                      have h4 := HX'.out
                      rw [h3, HX.out] at h4
                      have h5 : e = x := Option.some.inj h4
                      exact absurd (by rw [← h5]; exact HK.out.symm) h1
                  obtain ⟨hlt', hnk⟩ := hne
                  have HNK : Hid (x.1 ≠ kk) := hnk
                  clear hnk
                  go_wp2
                  go_meet
                  case rel => exact ⟨i', c', rfl, rfl, hlt', by omega, hl', hh', rfl, by
                    show swAt nothing 0 nothing E = _
                    rw [HS'.out, swIn_end nothing kk cc c' start _ (fun e' r' he' => by rw [drop_some HX'.out] at he'; injection he' with h1 h2; rw [← h1]; exact HNK.out)]⟩
              · go_wp2
                go_meet
                case rel => exact ⟨i', c', rfl, rfl, by omega, by omega, hl', hh', rfl, by
                  show swAt nothing 0 nothing E = _
                  rw [HS'.out, swIn_end nothing kk cc c' start _ (fun e' r' he' => by rw [List.drop_eq_nil_of_le (by rw [HE.out]; omega)] at he'; cases he')]⟩
          case rest =>
            obtain ⟨i', c', rfl, rfl, hii, hin, hl', hh', rfl, HS'⟩ := hcut
            clear HCell hx1
            by_cases hA : cc = 0 ∧ 0 < c'
            · obtain ⟨hA1, hA2⟩ := hA
              have HT : Hid (swAt nothing 0 nothing E = O ++ swAt nothing c' kk (E.drop i')) := by
                show swAt nothing 0 nothing E = _
                rw [HS'.out, outs, if_neg (by omega), st, if_pos ⟨hA1, hA2⟩, List.nil_append]
              go_wp2
              go_roundg (n1 - i')
              case measure => omega
              case rel => exact ⟨i', c', kk, O, by omega, rfl, rfl, rfl, hl', hh', by omega, hOut, HT⟩
            · by_cases hB : 0 < cc ∧ c' = 0
              · obtain ⟨hB1, hB2⟩ := hB
                have HT : Hid (swAt nothing 0 nothing E = (O ++ [(start, kk)]) ++ swAt nothing c' start (E.drop i')) := by
                  show swAt nothing 0 nothing E = _
                  rw [HS'.out, outs, if_pos ⟨hB1, hB2⟩, st, if_neg hA, List.append_assoc]
                go_wp2_with (at_builtin; refine wpList_append_own_at _ rfl _ _ 22 rfl w1.heap.size 9 i0 (.string ByteArray.empty) 1 16 Try.underlying22 hi0 hz0 hz1 hz2 rfl (by decide) _ _ _ rfl (hOut.r1.alloc _) ⟨wr.heap.size, 0, none⟩ 1 1 [.string start] rfl rfl ?c1 ?c2 ?c3 ?c4 ?c5 ?_)
                case c1 =>
                  intro j u hj
                  match j, hj with
                  | 0, hj => simp at hj; subst hj; simp [Addr.add]
                case c2 => intro u hu; simp at hu; subst hu; rfl
                case c3 => unfold maxLen; omega
                case c4 => omega
                case c5 => have := hOut.below.size; simp; omega
                intro v1' w2 hown hgrow _ hblk
                have hHalf := hOut.half hown hgrow hblk
                clear hown hgrow hblk hOut
                go_wp2_with (at_builtin; refine wpList_append_own_at _ rfl _ _ 22 rfl w1.heap.size 9 i0 (.string ByteArray.empty) 1 16 Try.underlying22 hi0 hz0 hz1 hz2 rfl (by decide) _ _ _ rfl (hHalf.r2.alloc _) ⟨w2.heap.size, 0, none⟩ 1 1 [.string kk] rfl rfl ?c1 ?c2 ?c3 ?c4 ?c5 ?_)
                case c1 =>
                  intro j u hj
                  match j, hj with
                  | 0, hj => simp at hj; subst hj; simp [Addr.add]
                case c2 => intro u hu; simp at hu; subst hu; rfl
                case c3 => unfold maxLen; omega
                case c4 => omega
                case c5 => have := hHalf.below.size; simp; omega
                intro v2' w3 hown hgrow _ hblk
                have hOut := hHalf.full hown hgrow hblk
                clear hown hgrow hblk hHalf
                go_wp2
                go_roundg (n1 - i')
                case measure => omega
                case rel => exact ⟨i', 0, start, O ++ [(start, kk)], by omega, rfl, rfl, rfl, by omega, by omega, by rw [List.length_append]; simp; omega, hOut, by have h := HT.out; rw [hB2] at h; exact h⟩
              · have HT : Hid (swAt nothing 0 nothing E = O ++ swAt nothing c' start (E.drop i')) := by
                  show swAt nothing 0 nothing E = _
                  rw [HS'.out, outs, if_neg hB, st, if_neg hA, List.nil_append]
                by_cases hc0 : cc = 0
                · have hcc : ¬ 0 < c' := by omega
                  go_wp2
                  go_roundg (n1 - i')
                  case measure => omega
                  case rel => exact ⟨i', c', start, O, by omega, rfl, rfl, rfl, hl', hh', by omega, hOut, HT⟩
                · by_cases hc1 : 0 < cc
                  · have hcc : ¬ c' = 0 := by omega
                    go_wp2
                    go_roundg (n1 - i')
                    case measure => omega
                    case rel => exact ⟨i', c', start, O, by omega, rfl, rfl, rfl, hl', hh', by omega, hOut, HT⟩
                  · go_wp2
                    go_roundg (n1 - i')
                    case measure => omega
                    case rel => exact ⟨i', c', start, O, by omega, rfl, rfl, rfl, hl', hh', by omega, hOut, HT⟩
        · have hend : swAt nothing 0 nothing E = O ++ (if 0 < cc then [(start, nothing)] else []) := by
            rw [HSw.out, List.drop_eq_nil_of_le (by rw [HE.out]; omega)]; rfl
          by_cases hc0 : 0 < cc
          · rw [if_pos hc0] at hend
            have HT : Hid (swAt nothing 0 nothing E = O ++ [(start, nothing)]) := hend
            clear hend
            go_wp2_with (at_builtin; refine wpList_append_own_at _ rfl _ _ 22 rfl w1.heap.size 9 i0 (.string ByteArray.empty) 1 16 Try.underlying22 hi0 hz0 hz1 hz2 rfl (by decide) _ _ _ rfl (hOut.r1.alloc _) ⟨wr.heap.size, 0, none⟩ 1 1 [.string start] rfl rfl ?c1 ?c2 ?c3 ?c4 ?c5 ?_)
            case c1 =>
              intro j u hj
              match j, hj with
              | 0, hj => simp at hj; subst hj; simp [Addr.add]
            case c2 => intro u hu; simp at hu; subst hu; rfl
            case c3 => unfold maxLen; omega
            case c4 => omega
            case c5 => have := hOut.below.size; simp; omega
            intro v1' w2 hown hgrow _ hblk
            have hHalf := hOut.half hown hgrow hblk
            clear hown hgrow hblk hOut
            go_wp2_with (at_builtin; refine wpList_append_own_at _ rfl _ _ 22 rfl w1.heap.size 9 i0 (.string ByteArray.empty) 1 16 Try.underlying22 hi0 hz0 hz1 hz2 rfl (by decide) _ _ _ rfl (hHalf.r2.alloc _) ⟨w2.heap.size, 0, none⟩ 1 1 [.string nothing] rfl rfl ?c1 ?c2 ?c3 ?c4 ?c5 ?_)
            case c1 =>
              intro j u hj
              match j, hj with
              | 0, hj => simp at hj; subst hj; simp [Addr.add, nothing]
            case c2 => intro u hu; simp at hu; subst hu; rfl
            case c3 => unfold maxLen; omega
            case c4 => omega
            case c5 => have := hHalf.below.size; simp; omega
            intro v2' w3 hown hgrow _ hblk
            have hOut := hHalf.full hown hgrow hblk
            clear hown hgrow hblk hHalf
            go_wp2
            go_ret2
            exact ⟨E, O ++ [(start, nothing)], _, _, rfl, HP.out, hu1, HT.out.symm, own_mono hOut.r1 hbw.size, own_mono hOut.r2 hbw.size, hbw.trans (hOut.below.mono hbw.size)⟩
          · rw [if_neg hc0, List.append_nil] at hend
            have HT : Hid (swAt nothing 0 nothing E = O) := hend
            clear hend
            go_wp2
            go_ret2
            exact ⟨E, O, _, _, rfl, HP.out, hu1, HT.out.symm, own_mono hOut.r1 hbw.size, own_mono hOut.r2 hbw.size, hbw.trans (hOut.below.mono hbw.size)⟩

end Go.Proofs.Qxb6630526a
