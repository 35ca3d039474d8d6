import Derived.Test.Qxb6628260aWa
namespace Go.Proofs.Qxb6628260a
open Go.RowKit

theorem Try.size9 : (Try.prog.info? 9).map (·.size) = some 1 := by kernel_rfl
theorem Try.bytes9 : (Try.prog.info? 9).map (·.bytes) = some 16 := by kernel_rfl
theorem Try.zero9 : (Try.prog.info? 9).bind (·.zero) = some (.string ByteArray.empty) := by kernel_rfl
theorem Try.size3 : (Try.prog.info? 3).map (·.size) = some 1 := by kernel_rfl
theorem Try.bytes3 : (Try.prog.info? 3).map (·.bytes) = some 8 := by kernel_rfl
theorem Try.zero3 : (Try.prog.info? 3).bind (·.zero) = some (.int .i64 0) := by kernel_rfl

/-- 'make([]E, n)'. -/
theorem make_gen (t e : TypeId) (z : Value) (s y : Nat) (ht : Try.prog.underlying t = some (.slice e)) (hs : (Try.prog.info? e).map (·.size) = some s) (hy : (Try.prog.info? e).map (·.bytes) = some y) (hz : (Try.prog.info? e).bind (·.zero) = some z)
    (n : Nat) (w : World) (hn : n ≤ 131072) (hyb : y ≤ 65536) :
    (Instr.makeSlice t (.int .i64 (n : Int)) (.int .i64 (n : Int))).run Try.prog w = .ok (.slice (some ⟨w.heap.size, 0, none⟩) n n) (w.alloc (.cells (madeCells z.cells (n * s)) e)) := by
  obtain ⟨i, hi, h1⟩ := Option.map_eq_some_iff.1 hs
  rw [hi] at hy hz
  have h2' : i.bytes = y := by simpa using hy
  have h3' : i.zero = some z := by simpa using hz
  have hb : (i.bytes : Int) * (n : Int) ≤ 281474976710656 := by
    have : i.bytes * n ≤ 65536 * 131072 := Nat.mul_le_mul (by omega) hn
    omega
  have h := run_make (P := Try.prog) w t e i z ht hi h3' .i64 .i64 (n : Int) (n : Int) (by omega) (Int.le_refl _) hb (by omega)
  rw [h1] at h
  simpa using h

theorem make22 (n : Nat) (w : World) (hn : n ≤ 131072) : (Instr.makeSlice 22 (.int .i64 (n : Int)) (.int .i64 (n : Int))).run Try.prog w = .ok (.slice (some ⟨w.heap.size, 0, none⟩) n n) (w.alloc (.cells (madeCells #[.string ByteArray.empty] n) 9)) := by
  have h := make_gen 22 9 _ 1 16 Try.underlying22 Try.size9 Try.bytes9 Try.zero9 n w hn (by omega)
  rw [Nat.mul_one] at h
  simpa [Value.cells] using h
theorem make23 (n : Nat) (w : World) (hn : n ≤ 131072) : (Instr.makeSlice 23 (.int .i64 (n : Int)) (.int .i64 (n : Int))).run Try.prog w = .ok (.slice (some ⟨w.heap.size, 0, none⟩) n n) (w.alloc (.cells (madeCells #[.int .i64 0] n) 3)) := by
  have h := make_gen 23 3 _ 1 8 Try.underlying23 Try.size3 Try.bytes3 Try.zero3 n w hn (by omega)
  rw [Nat.mul_one] at h
  simpa [Value.cells] using h

/-- A new row while it is filled: k elements have gone over; element j lies at 'place j'. -/
structure Part (enc : Nat → Value) (place : Nat → Nat) (n N k : Nat) (w : World) : Prop where
  size : N < w.heap.size
  done : ∀ j, j < k → w.cell? ⟨N, place j, none⟩ = some (enc j)
  todo : ∀ j, k ≤ j → j < n → ∃ u, w.cell? ⟨N, place j, none⟩ = some u
  soft : ∀ j, w.frozen? ⟨N, j, none⟩ = false

theorem made_cell (z : Array Value) (n j : Nat) (h : j < n) : ∃ u, (madeCells z n)[j]? = some u := by
  unfold madeCells
  rw [Array.getElem?_map, Array.getElem?_range, if_pos h]
  exact ⟨_, rfl⟩

theorem Part.start (enc : Nat → Value) (place : Nat → Nat) (n : Nat) (z : Array Value) (N t : Nat) (w : World) (h : ∀ j, j < n → place j < N) : Part enc place n w.heap.size 0 (w.alloc (.cells (madeCells z N) t)) :=
  ⟨by simp, fun j h => by omega, fun j _ hj => by rw [World.cell?_alloc_new]; exact made_cell _ _ _ (h j hj), fun j => World.frozen?_alloc_at _ _ _ _ rfl⟩

theorem Part.start' (enc : Nat → Value) (place : Nat → Nat) (n : Nat) (C : Array Value) (t : Nat) (w : World) (h : ∀ j, j < n → place j < C.size) : Part enc place n w.heap.size 0 (w.alloc (.cells C t)) :=
  ⟨by simp, fun j h => by omega, fun j _ hj => by rw [World.cell?_alloc_new]; exact ⟨_, Array.getElem?_eq_getElem (h j hj)⟩, fun j => World.frozen?_alloc_at _ _ _ _ rfl⟩

theorem addr_ne (N j k : Nat) (h : j ≠ k) : (⟨N, k, none⟩ : Addr) ≠ ⟨N, j, none⟩ := fun e => h (by injection e with _ e2; exact e2.symm)

theorem Part.put {enc : Nat → Value} {place : Nat → Nat} {n N k : Nat} {w : World} (h : Part enc place n N k w) (hk : k < n) (hi : ∀ i j, place i = place j → i = j) : Part enc place n N (k + 1) (w.setCell ⟨N, place k, none⟩ (enc k)) := by
  obtain ⟨u, hu⟩ := h.todo k (Nat.le_refl _) hk
  refine ⟨by simpa [World.setCell] using h.size, fun j hj => ?_, fun j hj hj2 => ?_, fun j => ?_⟩
  · by_cases e : j = k
    · subst e; exact World.cell?_setCell_same _ _ _ hu
    · rw [World.cell?_setCell_other (h := addr_ne N _ _ (fun e2 => e (hi _ _ e2)))]; exact h.done j (by omega)
  · rw [World.cell?_setCell_other (h := addr_ne N _ _ (fun e2 => by have := hi _ _ e2; omega))]; exact h.todo j (by omega) hj2
  · rw [World.frozen?_setCell]; exact h.soft j

/-- A row that the call itself has made, whole. -/
structure Fresh (enc : Nat → Value) (n b lo : Nat) (w : World) : Prop where
  lo : lo ≤ b
  size : b < w.heap.size
  cell : ∀ k, k < n → w.cell? ⟨b, k, none⟩ = some (enc k)
  soft : ∀ k, w.frozen? ⟨b, k, none⟩ = false

theorem Part.fresh {enc : Nat → Value} {n N lo : Nat} {w : World} (h : Part enc (fun j => j) n N n w) (hlo : lo ≤ N) : Fresh enc n N lo w := ⟨hlo, h.size, h.done, h.soft⟩

theorem Fresh.row {enc : Nat → Value} {n b lo : Nat} {w : World} (h : Fresh enc n b lo w) : Row enc n (some ⟨b, 0, none⟩) n w := fun _ => ⟨b, 0, rfl, h.size, Nat.le_refl _, fun k hk => by rw [Nat.zero_add]; exact h.cell k hk⟩

theorem Fresh.below {enc : Nat → Value} {n b lo B : Nat} {w w' : World} (h : Fresh enc n b lo w) (hb : Below B w w') (hB : b < B) : Fresh enc n b lo w' :=
  ⟨h.lo, Nat.lt_of_lt_of_le h.size hb.size, fun k hk => by rw [hb.cell (p := ⟨b, k, none⟩) hB]; exact h.cell k hk, fun k => by rw [hb.frozen (p := ⟨b, k, none⟩) hB]; exact h.soft k⟩

theorem copy8_nil (w : World) : Calls Try.prog 8 #[.slice none 0 0] w fun e w' => e = .returned (.slice none 0 0) ∧ w = w' := by
  have heq := fun (a : Option Addr) (n c : Nat) (wx : World) => Lib.run_eql_slice_nil (P := Try.prog) wx 22 9 a n c 0 0 Try.underlying22
  go_enter Try.func8, Try.ntmps8
  go_wp2
  go_ret
  exact ⟨rfl, rfl⟩

set_option maxHeartbeats 400000 in
theorem copy8_some (S : Nat → ByteArray) (n : Nat) (x : Addr) (c : Nat) (w : World) (hR : Row (str S) n (some x) c w) (hn : n ≤ 131072) :
    Calls Try.prog 8 #[.slice (some x) n c] w fun e w' => ∃ b, e = .returned (.slice (some ⟨b, 0, none⟩) n n) ∧ Fresh (str S) n b w.heap.size w' ∧ Below w.heap.size w w' := by
  have heq := fun (a : Option Addr) (n c : Nat) (wx : World) => Lib.run_eql_slice_nil (P := Try.prog) wx 22 9 a n c 0 0 Try.underlying22
  have hmk := make22 n w hn
  go_enter Try.func8, Try.ntmps8
  go_wp2
  go_loopg [4] n (fun g i wr => ∃ j : Nat, g + j = n ∧ i = .int .i64 j ∧ Below w.heap.size w wr ∧ Part (str S) (fun j => j) n w.heap.size j wr)
  case atStart => exact ⟨0, by omega, rfl, (Below.refl _ _).alloc (Nat.le_refl _) _, Part.start _ _ _ _ _ _ _ (fun j hj => hj)⟩
  case round =>
    obtain ⟨j, hg, rfl, hb, hp⟩ := hrel
    by_cases hj : j < n
    · obtain ⟨b, off, e, hlt, hc, hcell⟩ := hR (by omega)
      injection e with e
      subst e
      have hcj : wr.cell? ⟨b, off + j, none⟩ = some (.string (S j)) := by rw [hb.cell (p := ⟨b, off + j, none⟩) hlt]; exact hcell j hj
      obtain ⟨u, hu⟩ := hp.todo j (Nat.le_refl _) hj
      have hu' : wr.cell? ⟨w.heap.size, j, none⟩ = some u := hu
      have hfz := hp.soft j
      clear hcell hR hu
      go_wp2
      go_roundg (gk - 1)
      case measure => omega
      case rel => exact ⟨j + 1, by omega, by go_num, hb.setCell (Nat.le_refl _) _, hp.put hj (fun _ _ e => e)⟩
    · have hje : j = n := by omega
      subst hje
      go_wp2
      go_ret
      exact ⟨w.heap.size, rfl, hp.fresh (Nat.le_refl _), hb⟩

theorem copy9_nil (w : World) : Calls Try.prog 9 #[.slice none 0 0] w fun e w' => e = .returned (.slice none 0 0) ∧ w = w' := by
  have heq := fun (a : Option Addr) (n c : Nat) (wx : World) => Lib.run_eql_slice_nil (P := Try.prog) wx 23 3 a n c 0 0 Try.underlying23
  go_enter Try.func9, Try.ntmps9
  go_wp2
  go_ret
  exact ⟨rfl, rfl⟩

set_option maxHeartbeats 400000 in
theorem copy9_some (Z : Nat → Int) (n : Nat) (x : Addr) (c : Nat) (w : World) (hR : Row (num Z) n (some x) c w) (hn : n ≤ 131072) :
    Calls Try.prog 9 #[.slice (some x) n c] w fun e w' => ∃ b, e = .returned (.slice (some ⟨b, 0, none⟩) n n) ∧ Fresh (num Z) n b w.heap.size w' ∧ Below w.heap.size w w' := by
  have heq := fun (a : Option Addr) (n c : Nat) (wx : World) => Lib.run_eql_slice_nil (P := Try.prog) wx 23 3 a n c 0 0 Try.underlying23
  have hmk := make23 n w hn
  go_enter Try.func9, Try.ntmps9
  go_wp2
  go_loopg [4] n (fun g i wr => ∃ j : Nat, g + j = n ∧ i = .int .i64 j ∧ Below w.heap.size w wr ∧ Part (num Z) (fun j => j) n w.heap.size j wr)
  case atStart => exact ⟨0, by omega, rfl, (Below.refl _ _).alloc (Nat.le_refl _) _, Part.start _ _ _ _ _ _ _ (fun j hj => hj)⟩
  case round =>
    obtain ⟨j, hg, rfl, hb, hp⟩ := hrel
    by_cases hj : j < n
    · obtain ⟨b, off, e, hlt, hc, hcell⟩ := hR (by omega)
      injection e with e
      subst e
      have hcj : wr.cell? ⟨b, off + j, none⟩ = some (.int .i64 (Z j)) := by rw [hb.cell (p := ⟨b, off + j, none⟩) hlt]; exact hcell j hj
      obtain ⟨u, hu⟩ := hp.todo j (Nat.le_refl _) hj
      have hu' : wr.cell? ⟨w.heap.size, j, none⟩ = some u := hu
      have hfz := hp.soft j
      clear hcell hR hu
      go_wp2
      go_roundg (gk - 1)
      case measure => omega
      case rel => exact ⟨j + 1, by omega, by go_num, hb.setCell (Nat.le_refl _) _, hp.put hj (fun _ _ e => e)⟩
    · have hje : j = n := by omega
      subst hje
      go_wp2
      go_ret
      exact ⟨w.heap.size, rfl, hp.fresh (Nat.le_refl _), hb⟩


theorem Try.size34 : (Try.prog.info? 34).map (·.size) = some 10 := by kernel_rfl
theorem Try.bytes34 : (Try.prog.info? 34).map (·.bytes) = some 120 := by kernel_rfl
theorem Try.zero34 : ∃ z, (Try.prog.info? 34).bind (·.zero) = some z := by
  have h : ((Try.prog.info? 34).bind (·.zero)).isSome = true := by kernel_rfl
  exact Option.isSome_iff_exists.1 h

/-- The lines: element j's first field lies ten cells on a line. -/
def ten (j : Nat) : Nat := j * 10

set_option maxHeartbeats 400000 in
theorem lines10 (S : Nat → ByteArray) (n : Nat) (a : Option Addr) (c : Nat) (w : World) (hR : Row (str S) n a c w) (hn : n ≤ 131072) :
    Calls Try.prog 10 #[.slice a n c] w fun e w' => ∃ b, e = .returned (.slice (some ⟨b, 0, none⟩) n n) ∧ Part (str S) ten n b n w' ∧ w.heap.size ≤ b ∧ Below w.heap.size w w' := by
  obtain ⟨z, hz⟩ := Try.zero34
  have hmk := make_gen 28 34 z 10 120 Try.underlying28 Try.size34 Try.bytes34 hz n w hn (by omega)
  obtain ⟨C, hC, hCs⟩ : ∃ C, C = madeCells z.cells (n * 10) ∧ C.size = n * 10 := ⟨_, rfl, size_madeCells _ _⟩
  rw [← hC] at hmk
  have HC : Hid (C.size = n * 10) := hCs
  clear hC hCs hz
  go_enter Try.func10, Try.ntmps10
  go_wp2
  go_loopg [4] n (fun g i wr => ∃ j : Nat, g + j = n ∧ i = .int .i64 j ∧ Below w.heap.size w wr ∧ Part (str S) ten n w.heap.size j wr)
  case atStart => exact ⟨0, by omega, rfl, (Below.refl _ _).alloc (Nat.le_refl _) _, Part.start' _ _ _ _ _ _ (fun j hj => by rw [HC.out]; unfold ten; omega)⟩
  case round =>
    obtain ⟨j, hg, rfl, hb, hp⟩ := hrel
    by_cases hj : j < n
    · obtain ⟨b, off, rfl, hlt, hc, hcell⟩ := hR (by omega)
      have hcj : wr.cell? ⟨b, off + j, none⟩ = some (.string (S j)) := by rw [hb.cell (p := ⟨b, off + j, none⟩) hlt]; exact hcell j hj
      obtain ⟨u, hu⟩ := hp.todo j (Nat.le_refl _) hj
      have hu' : wr.cell? ⟨w.heap.size, j * 10, none⟩ = some u := hu
      have hfz := hp.soft (j * 10)
      clear hcell hR hu
      go_wp2
      go_roundg (gk - 1)
      case measure => omega
      case rel => exact ⟨j + 1, by omega, by go_num, hb.setCell (Nat.le_refl _) _, hp.put hj (fun i j e => by unfold ten at e; omega)⟩
    · have hje : j = n := by omega
      subst hje
      go_wp2
      go_ret
      exact ⟨w.heap.size, rfl, hp, Nat.le_refl _, hb⟩

theorem table11 (a1 a2 : Option Addr) (n1 c1 n2 c2 : Nat) (w : World) :
    Calls Try.prog 11 #[.slice a1 n1 c1, .slice a2 n2 c2] w fun e w' => e = .returned (.pointer (some ⟨w.heap.size, 0, none⟩)) ∧ w'.cell? ⟨w.heap.size, 2, none⟩ = some (.slice a1 n1 c1) ∧ w'.cell? ⟨w.heap.size, 7, none⟩ = some (.slice a2 n2 c2) ∧ Below w.heap.size w w' ∧ w.heap.size < w'.heap.size := by
  go_enter Try.func11, Try.ntmps11
  go_wp2
  go_ret
  exact ⟨rfl, by simp, by simp, (Below.refl _ _).alloc (Nat.le_refl _) _, by simp⟩

/-- What the rows of a table show. -/
def shows (S : Nat → ByteArray) (Z : Nat → Int) (k : Nat) : Value := .string (S (Z k).toNat)

set_option maxHeartbeats 400000 in
theorem codes12 (S : Nat → ByteArray) (Z : Nat → Int) (n m T L : Nat) (a : Option Addr) (c : Nat) (w : World) (hT2 : w.cell? ⟨T, 2, none⟩ = some (.slice (some ⟨L, 0, none⟩) n n)) (hT7 : w.cell? ⟨T, 7, none⟩ = some (.slice a m c)) (hT : T < w.heap.size)
    (hL : Part (str S) ten n L n w) (hZ : Row (num Z) m a c w) (hr : InRange Z n m) (_hn : n ≤ 131072) (hm : m ≤ 131072) :
    Calls Try.prog 12 #[.pointer (some ⟨T, 0, none⟩)] w fun e w' => ∃ b, e = .returned (.slice (some ⟨b, 0, none⟩) m m) ∧ Fresh (shows S Z) m b w.heap.size w' ∧ Below w.heap.size w w' := by
  have hmk := make22 m w hm
  go_enter Try.func12, Try.ntmps12
  go_wp2
  go_loopg [17] m (fun g i wr => ∃ j : Nat, g + j = m ∧ i = .int .i64 j ∧ Below w.heap.size w wr ∧ Part (shows S Z) (fun j => j) m w.heap.size j wr)
  case atStart => exact ⟨0, by omega, rfl, (Below.refl _ _).alloc (Nat.le_refl _) _, Part.start _ _ _ _ _ _ _ (fun j hj => hj)⟩
  case round =>
    obtain ⟨j, hg, rfl, hb, hp⟩ := hrel
    by_cases hj : j < m
    · obtain ⟨b, off, rfl, hlt, hc, hcell⟩ := hZ (by omega)
      have hcj : wr.cell? ⟨b, off + j, none⟩ = some (.int .i64 (Z j)) := by rw [hb.cell (p := ⟨b, off + j, none⟩) hlt]; exact hcell j hj
      obtain ⟨u, hu⟩ := hp.todo j (Nat.le_refl _) hj
      have hu' : wr.cell? ⟨w.heap.size, j, none⟩ = some u := hu
      have hfz := hp.soft j
      have hc2 : wr.cell? ⟨T, 2, none⟩ = some (.slice (some ⟨L, 0, none⟩) n n) := by rw [hb.cell (p := ⟨T, 2, none⟩) hT]; exact hT2
      obtain ⟨h0, h1⟩ := hr j hj
      obtain ⟨q, hq⟩ : ∃ q : Nat, Z j = q := ⟨(Z j).toNat, by omega⟩
      have hqn : q < n := by omega
      have hcl : wr.cell? ⟨L, q * 10, none⟩ = some (.string (S q)) := by rw [hb.cell (p := ⟨L, q * 10, none⟩) hL.size]; exact hL.done q hqn
      rw [hq] at hcj
      have HQ : Hid (shows S Z j = .string (S q)) := by show Value.string (S (Z j).toNat) = _; rw [hq]; rfl
      clear hcell hZ hu hq h0 h1
      go_wp2
      go_roundg (gk - 1)
      case measure => omega
      case rel => exact ⟨j + 1, by omega, by go_num, hb.setCell (Nat.le_refl _) _, by rw [← HQ.out]; exact hp.put hj (fun _ _ e => e)⟩
    · have hje : j = m := by omega
      subst hje
      go_wp2
      go_ret
      exact ⟨w.heap.size, rfl, hp.fresh (Nat.le_refl _), hb⟩

end Go.Proofs.Qxb6628260a
