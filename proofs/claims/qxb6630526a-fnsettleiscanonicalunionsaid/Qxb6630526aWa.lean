import Derived.Test.Qxb6630526aProg
import Derived.Test.Qxb6630526aRank
import Derived.WalkKit
import Derived.WalkSpells
import Derived.WalkLawsBesides
import Derived.Deep.DeepCutAuto
import Derived.Deep.CutBlock
import Derived.Deep.QuietTactic
import Derived.BigQuiet
import Derived.Deep.Light
namespace Go.Proofs.Qxb6630526a
open Go.RowKit
open Plain

/-- A slice of n elements of one cell: element k reads 'enc k'. -/
def Row (enc : Nat → Value) (n : Nat) (a : Option Addr) (c : Nat) (w : World) : Prop :=
  0 < n → ∃ b off, a = some ⟨b, off, none⟩ ∧ b < w.heap.size ∧ n ≤ c ∧ ∀ k, k < n → w.cell? ⟨b, off + k, none⟩ = some (enc k)

theorem Row.below {enc : Nat → Value} {n c : Nat} {a : Option Addr} {w w' : World} (h : Row enc n a c w) {B : Nat} (hb : Below B w w') (hB : ∀ b off, a = some ⟨b, off, none⟩ → b < B) : Row enc n a c w' := fun hn => by
  obtain ⟨b, off, rfl, hlt, hc, hk⟩ := h hn
  exact ⟨b, off, rfl, Nat.lt_of_lt_of_le hlt hb.size, hc, fun k hk' => by rw [hb.cell (p := ⟨b, off + k, none⟩) (hB b off rfl)]; exact hk k hk'⟩

/-- Strings. -/
def str (S : Nat → ByteArray) (k : Nat) : Value := .string (S k)

/-- A test that only reads: some bool; where it is true, p. -/
def Asks (p : Prop) (w : World) (e : Ending) (w' : World) : Prop := ∃ r, e = .returned (.bool r) ∧ w = w' ∧ (r = true → p)
theorem Asks.no {p : Prop} {w : World} : Asks p w (.returned (.bool false)) w := ⟨false, rfl, rfl, fun e => by cases e⟩
theorem Asks.yes {p : Prop} {w : World} (h : p) : Asks p w (.returned (.bool true)) w := ⟨true, rfl, rfl, fun _ => h⟩

theorem Try.size9 : (Try.prog.info? 9).map (·.size) = some 1 := by kernel_rfl
theorem Try.bytes9 : (Try.prog.info? 9).map (·.bytes) = some 16 := by kernel_rfl
theorem Try.zero9 : (Try.prog.info? 9).bind (·.zero) = some (.string ByteArray.empty) := by kernel_rfl

/-- 'make([]E, n)'. -/
theorem make_gen (t e : TypeId) (z : Value) (s y : Nat) (ht : Try.prog.underlying t = some (.slice e)) (hs : (Try.prog.info? e).map (·.size) = some s) (hy : (Try.prog.info? e).map (·.bytes) = some y) (hz : (Try.prog.info? e).bind (·.zero) = some z)
    (n : Nat) (w : World) (hn : n ≤ 131072) (hyb : y ≤ 65536) :
    (Instr.makeSlice t (.int .i64 (n : Int)) (.int .i64 (n : Int))).run Try.prog w = .ok (.slice (some ⟨w.heap.size, 0, none⟩) n n) (w.alloc (.cells (madeCells z.cells (n * s)) e)) := by
  obtain ⟨i, hi, h1⟩ := Option.map_eq_some_iff.1 hs
  rw [hi] at hy hz
  have h2' : i.bytes = y := by simpa using hy
  have h3' : i.zero = some z := by simpa using hz
  have hb : (i.bytes : Int) * (n : Int) ≤ 281474976710656 := by
    have : i.bytes * n ≤ 65536 * 131072 := Nat.mul_le_mul (by omega) hn
    omega
  have h := run_make (P := Try.prog) w t e i z ht hi h3' .i64 .i64 (n : Int) (n : Int) (by omega) (Int.le_refl _) hb (by omega)
  rw [h1] at h
  simpa using h

theorem make22 (n : Nat) (w : World) (hn : n ≤ 131072) : (Instr.makeSlice 22 (.int .i64 (n : Int)) (.int .i64 (n : Int))).run Try.prog w = .ok (.slice (some ⟨w.heap.size, 0, none⟩) n n) (w.alloc (.cells (madeCells #[.string ByteArray.empty] n) 9)) := by
  have h := make_gen 22 9 _ 1 16 Try.underlying22 Try.size9 Try.bytes9 Try.zero9 n w hn (by omega)
  rw [Nat.mul_one] at h
  simpa [Value.cells] using h
/-- A new row while it is filled: k elements have gone over; element j lies at 'place j'. -/
structure Part (enc : Nat → Value) (place : Nat → Nat) (n N k : Nat) (w : World) : Prop where
  size : N < w.heap.size
  done : ∀ j, j < k → w.cell? ⟨N, place j, none⟩ = some (enc j)
  todo : ∀ j, k ≤ j → j < n → ∃ u, w.cell? ⟨N, place j, none⟩ = some u
  soft : ∀ j, w.frozen? ⟨N, j, none⟩ = false

theorem made_cell (z : Array Value) (n j : Nat) (h : j < n) : ∃ u, (madeCells z n)[j]? = some u := by
  unfold madeCells
  rw [Array.getElem?_map, Array.getElem?_range, if_pos h]
  exact ⟨_, rfl⟩

theorem Part.start (enc : Nat → Value) (place : Nat → Nat) (n : Nat) (z : Array Value) (N t : Nat) (w : World) (h : ∀ j, j < n → place j < N) : Part enc place n w.heap.size 0 (w.alloc (.cells (madeCells z N) t)) :=
  ⟨by simp, fun j h => by omega, fun j _ hj => by rw [World.cell?_alloc_new]; exact made_cell _ _ _ (h j hj), fun j => World.frozen?_alloc_at _ _ _ _ rfl⟩

theorem Part.start' (enc : Nat → Value) (place : Nat → Nat) (n : Nat) (C : Array Value) (t : Nat) (w : World) (h : ∀ j, j < n → place j < C.size) : Part enc place n w.heap.size 0 (w.alloc (.cells C t)) :=
  ⟨by simp, fun j h => by omega, fun j _ hj => by rw [World.cell?_alloc_new]; exact ⟨_, Array.getElem?_eq_getElem (h j hj)⟩, fun j => World.frozen?_alloc_at _ _ _ _ rfl⟩

theorem addr_ne (N j k : Nat) (h : j ≠ k) : (⟨N, k, none⟩ : Addr) ≠ ⟨N, j, none⟩ := fun e => h (by injection e with _ e2; exact e2.symm)

theorem Part.put {enc : Nat → Value} {place : Nat → Nat} {n N k : Nat} {w : World} (h : Part enc place n N k w) (hk : k < n) (hi : ∀ i j, place i = place j → i = j) : Part enc place n N (k + 1) (w.setCell ⟨N, place k, none⟩ (enc k)) := by
  obtain ⟨u, hu⟩ := h.todo k (Nat.le_refl _) hk
  refine ⟨by simpa [World.setCell] using h.size, fun j hj => ?_, fun j hj hj2 => ?_, fun j => ?_⟩
  · by_cases e : j = k
    · subst e; exact World.cell?_setCell_same _ _ _ hu
    · rw [World.cell?_setCell_other (h := addr_ne N _ _ (fun e2 => e (hi _ _ e2)))]; exact h.done j (by omega)
  · rw [World.cell?_setCell_other (h := addr_ne N _ _ (fun e2 => by have := hi _ _ e2; omega))]; exact h.todo j (by omega) hj2
  · rw [World.frozen?_setCell]; exact h.soft j

/-- A row that the call itself has made, whole. -/
structure Fresh (enc : Nat → Value) (n b lo : Nat) (w : World) : Prop where
  lo : lo ≤ b
  size : b < w.heap.size
  cell : ∀ k, k < n → w.cell? ⟨b, k, none⟩ = some (enc k)
  soft : ∀ k, w.frozen? ⟨b, k, none⟩ = false

theorem Part.fresh {enc : Nat → Value} {n N lo : Nat} {w : World} (h : Part enc (fun j => j) n N n w) (hlo : lo ≤ N) : Fresh enc n N lo w := ⟨hlo, h.size, h.done, h.soft⟩

theorem Fresh.row {enc : Nat → Value} {n b lo : Nat} {w : World} (h : Fresh enc n b lo w) : Row enc n (some ⟨b, 0, none⟩) n w := fun _ => ⟨b, 0, rfl, h.size, Nat.le_refl _, fun k hk => by rw [Nat.zero_add]; exact h.cell k hk⟩

theorem Fresh.below {enc : Nat → Value} {n b lo B : Nat} {w w' : World} (h : Fresh enc n b lo w) (hb : Below B w w') (hB : b < B) : Fresh enc n b lo w' :=
  ⟨h.lo, Nat.lt_of_lt_of_le h.size hb.size, fun k hk => by rw [hb.cell (p := ⟨b, k, none⟩) hB]; exact h.cell k hk, fun k => by rw [hb.frozen (p := ⟨b, k, none⟩) hB]; exact h.soft k⟩

/-- A slice of ranges: two cells an element. -/
def Row2 (R : Nat → ByteArray × ByteArray) (n : Nat) (a : Option Addr) (c : Nat) (w : World) : Prop :=
  0 < n → ∃ b off, a = some ⟨b, off, none⟩ ∧ b < w.heap.size ∧ n ≤ c ∧ ∀ k, k < n → w.cell? ⟨b, off + k * 2, none⟩ = some (.string (R k).1) ∧ w.cell? ⟨b, off + k * 2 + 1, none⟩ = some (.string (R k).2)

theorem Part.below {enc : Nat → Value} {place : Nat → Nat} {n N k B : Nat} {w w' : World} (h : Part enc place n N k w) (hb : Below B w w') (hB : N < B) : Part enc place n N k w' :=
  ⟨Nat.lt_of_lt_of_le h.size hb.size, fun j hj => by rw [hb.cell (p := ⟨N, place j, none⟩) hB]; exact h.done j hj, fun j h1 h2 => by rw [hb.cell (p := ⟨N, place j, none⟩) hB]; exact h.todo j h1 h2, fun j => by rw [hb.frozen (p := ⟨N, j, none⟩) hB]; exact h.soft j⟩
theorem Part.other {enc : Nat → Value} {place : Nat → Nat} {n N k : Nat} {w : World} (h : Part enc place n N k w) {x : Addr} (hx : x.block ≠ N) (v : Value) : Part enc place n N k (w.setCell x v) :=
  ⟨by simpa [World.setCell] using h.size, fun j hj => by rw [World.cell?_setCell_other (h := fun e => hx (by rw [e]))]; exact h.done j hj, fun j h1 h2 => by rw [World.cell?_setCell_other (h := fun e => hx (by rw [e]))]; exact h.todo j h1 h2, fun j => by rw [World.frozen?_setCell]; exact h.soft j⟩

def fst (R : Nat → ByteArray × ByteArray) (k : Nat) : ByteArray := (R k).1
def snd (R : Nat → ByteArray × ByteArray) (k : Nat) : ByteArray := (R k).2

set_option maxHeartbeats 400000 in
set_option maxRecDepth 100000 in
theorem split6 (R : Nat → ByteArray × ByteArray) (n : Nat) (a : Option Addr) (c : Nat) (w : World) (hR : Row2 R n a c w) (hn : n ≤ 131072) :
    Calls Try.prog 6 #[.slice a n c] w fun e w' => ∃ b1 b2, e = .returned (.tuple #[.slice (some ⟨b1, 0, none⟩) n n, .slice (some ⟨b2, 0, none⟩) n n]) ∧ Fresh (str (fst R)) n b1 w.heap.size w' ∧ Fresh (str (snd R)) n b2 w.heap.size w' ∧ Below w.heap.size w w' := by
  have hmk := make22 n w hn
  have hmk2 := fun o => make22 n (w.alloc o) hn
  go_enter Try.func6, Try.ntmps6
  go_wp2
  go_loopg [6] n (fun g i wr => ∃ j : Nat, g + j = n ∧ i = .int .i64 j ∧ Below w.heap.size w wr ∧ Part (str (fst R)) (fun j => j) n w.heap.size j wr ∧ Part (str (snd R)) (fun j => j) n (w.heap.size + 1) j wr)
  case atStart =>
    refine ⟨0, by omega, rfl, ((Below.refl _ _).alloc (Nat.le_refl _) _).alloc (by simp) _, ?_, ?_⟩
    · exact (Part.start (str (fst R)) (fun j => j) n _ n 9 w (fun j hj => hj)).below ((Below.refl _ _).alloc (Nat.le_refl _) _) (by simp)
    · have h := Part.start (str (snd R)) (fun j => j) n #[.string ByteArray.empty] n 9 (w.alloc (.cells (madeCells #[.string ByteArray.empty] n) 9)) (fun j hj => hj)
      simpa using h
  case round =>
    obtain ⟨j, hg, rfl, hb, hp, hq⟩ := hrel
    by_cases hj : j < n
    · obtain ⟨b, off, rfl, hlt, hc, hcell⟩ := hR (by omega)
      have hc1 : wr.cell? ⟨b, off + j * 2, none⟩ = some (.string (R j).1) := by rw [hb.cell (p := ⟨b, off + j * 2, none⟩) hlt]; exact (hcell j hj).1
      have hc2 : ∀ v, (wr.setCell ⟨w.heap.size, j, none⟩ v).cell? ⟨b, off + j * 2 + 1, none⟩ = some (.string (R j).2) := fun v => by
        rw [World.cell?_setCell_other (h := fun e => by injection e with e1 _; omega), hb.cell (p := ⟨b, off + j * 2 + 1, none⟩) hlt]; exact (hcell j hj).2
      obtain ⟨u, hu⟩ := hp.todo j (Nat.le_refl _) hj
      obtain ⟨u2, hu2⟩ := hq.todo j (Nat.le_refl _) hj
      have hu' : wr.cell? ⟨w.heap.size, j, none⟩ = some u := hu
      have hu2' : ∀ v, (wr.setCell ⟨w.heap.size, j, none⟩ v).cell? ⟨w.heap.size + 1, j, none⟩ = some u2 := fun v => by
        rw [World.cell?_setCell_other (h := fun e => by injection e with e1 _; omega)]; exact hu2
      have hfz := hp.soft j
      have hfz2 := hq.soft j
      clear hcell hR hu hu2
      go_wp2
      go_roundg (gk - 1)
      case measure => omega
      case rel => exact ⟨j + 1, by omega, by go_num, (hb.setCell (Nat.le_refl _) _).setCell (by simp) _, (hp.put hj (fun _ _ e => e)).other (by simp) _, (hq.other (by simp) _).put hj (fun _ _ e => e)⟩
    · have hje : j = n := by omega
      subst hje
      go_wp2
      go_ret2
      exact ⟨_, _, rfl, hp.fresh (Nat.le_refl _), hq.fresh (by omega), hb⟩

/-- The ranges up to n. -/
def listOf (R : Nat → ByteArray × ByteArray) (n : Nat) : List (ByteArray × ByteArray) := (List.range n).map R

theorem any_upto (R : Nat → ByteArray × ByteArray) (x : ByteArray) (n j : Nat) (hj : j < n) (h : covS x (R j) = true) : inAnyS x (listOf R n) = true := by
  unfold inAnyS listOf
  rw [List.any_eq_true]
  exact ⟨R j, List.mem_map_of_mem (List.mem_range.2 hj), h⟩
theorem any_none (R : Nat → ByteArray × ByteArray) (x : ByteArray) (n : Nat) (h : ∀ j, j < n → covS x (R j) = false) : inAnyS x (listOf R n) = false := by
  cases e : inAnyS x (listOf R n) with
  | false => rfl
  | true =>
    unfold inAnyS listOf at e
    rw [List.any_eq_true] at e
    obtain ⟨y, hy, hc⟩ := e
    obtain ⟨j, hj, rfl⟩ := List.mem_map.1 hy
    rw [h j (List.mem_range.1 hj)] at hc
    cases hc

theorem ret_bool {a b : Bool} (h : a = b) : Ending.returned (.bool a) = .returned (.bool b) := by rw [h]

set_option maxHeartbeats 400000 in
set_option maxRecDepth 100000 in
theorem inAny11 (R : Nat → ByteArray × ByteArray) (x : ByteArray) (n : Nat) (a1 a2 : Option Addr) (c1 c2 m : Nat) (w : World) (h1 : Row (str (fst R)) n a1 c1 w) (h2 : Row (str (snd R)) n a2 c2 w) (hn : n ≤ 131072) (hm : m = n) :
    Calls Try.prog 11 #[.string x, .slice a1 n c1, .slice a2 m c2] w fun e w' => e = .returned (.bool (inAnyS x (listOf R n))) ∧ w = w' := by
  subst hm
  go_enter Try.func11, Try.ntmps11
  go_wp2
  go_loopg [7] m (fun g i wr => ∃ j : Nat, g + j = m ∧ i = .int .i64 j ∧ w = wr ∧ Hid (∀ k, k < j → covS x (R k) = false))
  case atStart => exact ⟨0, by omega, rfl, rfl, fun k hk => by omega⟩
  case round =>
    obtain ⟨j, hg, rfl, rfl, HJ⟩ := hrel
    by_cases hj : j < m
    · obtain ⟨b, off, rfl, hlt, hc, hcell⟩ := h1 (by omega)
      obtain ⟨b', off', rfl, hlt', hc', hcell'⟩ := h2 (by omega)
      have hc1 : w.cell? ⟨b, off + j, none⟩ = some (.string (R j).1) := hcell j hj
      have hc2 : w.cell? ⟨b', off' + j, none⟩ = some (.string (R j).2) := hcell' j hj
      clear hcell hcell' h1 h2
      cases e1 : Op.bytesLess x.toList (R j).1.toList with
      | true =>
        have HN : Hid (covS x (R j) = false) := by
          show covS x (R j) = false
          unfold covS lts; rw [e1]; rfl
        go_wp2
        go_roundg (gk - 1)
        case measure => omega
        case rel => exact ⟨j + 1, by omega, by go_num, rfl, fun k hk => by
          by_cases e : k = j
          · rw [e]; exact HN.out
          · exact HJ.out k (by omega)⟩
      | false =>
        cases e2 : (R j).2.toList.isEmpty with
        | true =>
          have HY : Hid (covS x (R j) = true) := by
            show covS x (R j) = true
            unfold covS lts; rw [e1, e2]; rfl
          go_wp2
          go_ret
          exact ⟨ret_bool (any_upto R x m j hj HY.out).symm, rfl⟩
        | false =>
          cases e3 : Op.bytesLess x.toList (R j).2.toList with
          | true =>
            have HY : Hid (covS x (R j) = true) := by
              show covS x (R j) = true
              unfold covS lts; rw [e1, e2, e3]; rfl
            go_wp2
            go_ret
            exact ⟨ret_bool (any_upto R x m j hj HY.out).symm, rfl⟩
          | false =>
            have HN : Hid (covS x (R j) = false) := by
              show covS x (R j) = false
              unfold covS lts; rw [e1, e2, e3]; rfl
            go_wp2
            go_roundg (gk - 1)
            case measure => omega
            case rel => exact ⟨j + 1, by omega, by go_num, rfl, fun k hk => by
              by_cases e : k = j
              · rw [e]; exact HN.out
              · exact HJ.out k (by omega)⟩
    · go_wp2
      go_ret
      exact ⟨ret_bool (any_none R x m (fun k hk => HJ.out k (by omega))).symm, rfl⟩

/-- What the bound has seen where it says true. -/
def Small (R : Nat → ByteArray × ByteArray) (n : Nat) : Prop := n ≤ 1048576 ∧ ∀ k, k < n → (R k).1.size ≤ 1048576 ∧ (R k).2.size ≤ 1048576

set_option maxHeartbeats 400000 in
set_option maxRecDepth 100000 in
theorem bytes10 (R : Nat → ByteArray × ByteArray) (n : Nat) (a : Option Addr) (c : Nat) (w : World) (hR : Row2 R n a c w) (hS : ∀ k, k < n → (R k).1.size ≤ maxLen ∧ (R k).2.size ≤ maxLen) (hn : n ≤ maxLen) :
    Calls Try.prog 10 #[.slice a n c] w fun e w' => Asks (Small R n) w e w' := by
  unfold maxLen at hn hS
  by_cases h1 : n ≤ 1048576
  · go_enter Try.func10, Try.ntmps10
    go_wp2
    go_loopg [3, 4] n (fun g t i wr => ∃ (j : Nat) (s : Int), g + j = n ∧ i = .int .i64 j ∧ t = .int .i64 s ∧ 0 ≤ s ∧ s ≤ 1048576 ∧ w = wr ∧ Hid (∀ k, k < j → (R k).1.size ≤ 1048576 ∧ (R k).2.size ≤ 1048576))
    case atStart => exact ⟨0, n, by omega, rfl, rfl, by omega, by omega, rfl, fun k hk => by omega⟩
    case round =>
      obtain ⟨j, s, hg, rfl, rfl, hs0, hs1, rfl, HJ⟩ := hrel
      by_cases hj : j < n
      · obtain ⟨b, off, rfl, hlt, hc, hcell⟩ := hR (by omega)
        obtain ⟨hc1, hc2⟩ := hcell j hj
        obtain ⟨hS1, hS2⟩ := hS j hj
        clear hcell hR
        by_cases h2 : (R j).1.size ≤ 1048576
        · by_cases h3 : s + (R j).1.size ≤ 1048576
          · by_cases h4 : (R j).2.size ≤ 1048576
            · by_cases h5 : s + (R j).1.size + (R j).2.size ≤ 1048576
              · go_wp2
                go_roundg (gk - 1)
                case measure => omega
                case rel => exact ⟨j + 1, s + (R j).1.size + (R j).2.size, by omega, by go_num, rfl, by omega, h5, rfl, fun k hk => by
                  by_cases e : k = j
                  · rw [e]; exact ⟨h2, h4⟩
                  · exact HJ.out k (by omega)⟩
              · go_wp2
                go_ret
                exact Asks.no
            · go_wp2
              go_ret
              exact Asks.no
          · go_wp2
            go_ret
            exact Asks.no
        · go_wp2
          go_ret
          exact Asks.no
      · go_wp2
        go_ret
        exact Asks.yes ⟨h1, fun k hk => HJ.out k (by omega)⟩
  · go_enter Try.func10, Try.ntmps10
    go_wp2
    go_ret
    exact Asks.no

end Go.Proofs.Qxb6630526a
