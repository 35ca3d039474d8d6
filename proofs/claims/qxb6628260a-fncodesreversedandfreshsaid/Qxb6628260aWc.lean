import Derived.Test.Qxb6628260aWb
namespace Go.Proofs.Qxb6628260a
open Go.RowKit

/-- A slice that came in: nil, or a row. -/
def Arg (enc : Nat → Value) (n : Nat) (v : Value) (w : World) : Prop := (n = 0 ∧ v = .slice none 0 0) ∨ ∃ x c, v = .slice (some x) n c ∧ Row enc n (some x) c w

/-- A slice of the call's own: nil, or a new row. -/
def Own (enc : Nat → Value) (n : Nat) (a : Option Addr) (c lo : Nat) (w : World) : Prop := (n = 0 ∧ a = none ∧ c = 0) ∨ ∃ b, a = some ⟨b, 0, none⟩ ∧ c = n ∧ Fresh enc n b lo w

theorem Own.row {enc : Nat → Value} {n c lo : Nat} {a : Option Addr} {w : World} (h : Own enc n a c lo w) : Row enc n a c w := by
  rcases h with ⟨rfl, rfl, rfl⟩ | ⟨b, rfl, rfl, hf⟩
  · intro h; exact absurd h (Nat.lt_irrefl _)
  · exact hf.row
theorem Own.arg {enc : Nat → Value} {n c lo : Nat} {a : Option Addr} {w : World} (h : Own enc n a c lo w) : Arg enc n (.slice a n c) w := by
  rcases h with ⟨rfl, rfl, rfl⟩ | ⟨b, rfl, rfl, hf⟩
  · exact Or.inl ⟨rfl, rfl⟩
  · exact Or.inr ⟨_, _, rfl, hf.row⟩
theorem Own.keep {enc : Nat → Value} {n c lo : Nat} {a : Option Addr} {w w' : World} (h : Own enc n a c lo w) (hb : Below w.heap.size w w') : Own enc n a c lo w' := by
  rcases h with h | ⟨b, rfl, rfl, hf⟩
  · exact Or.inl h
  · exact Or.inr ⟨b, rfl, rfl, hf.below hb hf.size⟩
theorem Part.keep {enc : Nat → Value} {place : Nat → Nat} {n N k : Nat} {w w' : World} (h : Part enc place n N k w) (hb : Below w.heap.size w w') : Part enc place n N k w' :=
  ⟨Nat.lt_of_lt_of_le h.size hb.size, fun j hj => by rw [hb.cell (p := ⟨N, place j, none⟩) h.size]; exact h.done j hj, fun j h1 h2 => by rw [hb.cell (p := ⟨N, place j, none⟩) h.size]; exact h.todo j h1 h2, fun j => by rw [hb.frozen (p := ⟨N, j, none⟩) h.size]; exact h.soft j⟩
theorem Fresh.keep {enc : Nat → Value} {n b lo : Nat} {w w' : World} (h : Fresh enc n b lo w) (hb : Below w.heap.size w w') : Fresh enc n b lo w' := h.below hb h.size

/-- What a copy hands back. -/
def Copied (enc : Nat → Value) (n : Nat) (w : World) (e : Ending) (w' : World) : Prop := ∃ a c, e = .returned (.slice a n c) ∧ Own enc n a c w.heap.size w' ∧ Below w.heap.size w w'

theorem copy8 (S : Nat → ByteArray) (n : Nat) (v : Value) (w : World) (h : Arg (str S) n v w) (hn : n ≤ 131072) : Calls Try.prog 8 #[v] w fun e w' => Copied (str S) n w e w' := by
  rcases h with ⟨rfl, rfl⟩ | ⟨x, c, rfl, hR⟩
  · exact (copy8_nil w).mono fun e w' ⟨he, hw⟩ => ⟨none, 0, he, Or.inl ⟨rfl, rfl, rfl⟩, by rw [← hw]; exact Below.refl _ _⟩
  · exact (copy8_some S n x c w hR hn).mono fun e w' ⟨b, he, hf, hb⟩ => ⟨_, _, he, Or.inr ⟨b, rfl, rfl, hf⟩, hb⟩
theorem copy9 (Z : Nat → Int) (n : Nat) (v : Value) (w : World) (h : Arg (num Z) n v w) (hn : n ≤ 131072) : Calls Try.prog 9 #[v] w fun e w' => Copied (num Z) n w e w' := by
  rcases h with ⟨rfl, rfl⟩ | ⟨x, c, rfl, hR⟩
  · exact (copy9_nil w).mono fun e w' ⟨he, hw⟩ => ⟨none, 0, he, Or.inl ⟨rfl, rfl, rfl⟩, by rw [← hw]; exact Below.refl _ _⟩
  · exact (copy9_some Z n x c w hR hn).mono fun e w' ⟨b, he, hf, hb⟩ => ⟨_, _, he, Or.inr ⟨b, rfl, rfl, hf⟩, hb⟩

theorem Try.elem23 : Try.prog.underlying 23 = some (.slice (Try.prog.elem 23)) := by kernel_rfl
theorem size23 (w : World) : (sizeOf (Try.prog.elem 23)).run Try.prog w = .ok 1 w := by kernel_rfl

/-- 'shown[:k]'. -/
theorem slice_head (Z : Nat → Int) (m : Nat) (a : Option Addr) (c lo : Nat) (w : World) (h : Own (num Z) m a c lo w) (k : Nat) (hk : k ≤ m) :
    ∃ v, (∀ wx, (Instr.slice 23 (.slice a m c) none (some (.int .i64 (k : Int))) none).run Try.prog wx = .ok v wx) ∧ Arg (num Z) k v w := by
  have hc : k ≤ c := by
    rcases h with ⟨rfl, rfl, rfl⟩ | ⟨b, rfl, rfl, hf⟩
    · omega
    · omega
  refine ⟨sliced a 0 k c 1, fun wx => ?_, ?_⟩
  · rw [run_slice_h wx 23 a m c Try.elem23 .i64 (k : Int) (by omega) (by omega), size23]
    simp [Result.andThen]
  · rcases h with ⟨rfl, rfl, rfl⟩ | ⟨b, rfl, rfl, hf⟩
    · obtain rfl : k = 0 := by omega
      exact Or.inl ⟨rfl, rfl⟩
    · refine Or.inr ⟨⟨b, 0, none⟩, c, ?_, fun hk0 => ⟨b, 0, rfl, hf.size, by omega, fun j hj => by rw [Nat.zero_add]; exact hf.cell j (by omega)⟩⟩
      unfold sliced
      simp [Addr.add]

/-- 'shown[k:]'. -/
theorem slice_tail (Z : Nat → Int) (m : Nat) (a : Option Addr) (c lo : Nat) (w : World) (h : Own (num Z) m a c lo w) (k : Nat) (hk : k ≤ m) :
    ∃ v, (∀ wx, (Instr.slice 23 (.slice a m c) (some (.int .i64 (k : Int))) none none).run Try.prog wx = .ok v wx) ∧ Arg (num fun j => Z (k + j)) (m - k) v w := by
  refine ⟨sliced a k m c 1, fun wx => ?_, ?_⟩
  · rw [run_slice_l wx 23 a m c Try.elem23 .i64 (k : Int) (by omega) (by omega), size23]
    simp [Result.andThen]
  · rcases h with ⟨rfl, rfl, rfl⟩ | ⟨b, rfl, rfl, hf⟩
    · obtain rfl : k = 0 := by omega
      exact Or.inl ⟨rfl, rfl⟩
    · by_cases e : c = k
      · subst e
        refine Or.inr ⟨⟨b, 0, none⟩, 0, by unfold sliced; simp, fun h0 => by omega⟩
      · refine Or.inr ⟨⟨b, k, none⟩, c - k, ?_, fun h0 => ⟨b, k, rfl, hf.size, Nat.le_refl _, fun j hj => hf.cell (k + j) (by omega)⟩⟩
        unfold sliced
        rw [if_neg e]
        by_cases e0 : k = 0
        · subst e0; simp [Addr.add]
        · simp [Addr.add, e0]

/-- What Codes hands back. -/
def Coded (enc : Nat → Value) (m : Nat) (w : World) (e : Ending) (w' : World) : Prop := ∃ b, e = .returned (.slice (some ⟨b, 0, none⟩) m m) ∧ Fresh enc m b w.heap.size w' ∧ Below w.heap.size w w'
/-- A table. -/
structure Table (T : Nat) (v2 v7 : Value) (w : World) : Prop where
  size : T < w.heap.size
  two : w.cell? ⟨T, 2, none⟩ = some v2
  seven : w.cell? ⟨T, 7, none⟩ = some v7
theorem Table.keep {T : Nat} {v2 v7 : Value} {w w' : World} (h : Table T v2 v7 w) (hb : Below w.heap.size w w') : Table T v2 v7 w' :=
  ⟨Nat.lt_of_lt_of_le h.size hb.size, by rw [hb.cell (p := ⟨T, 2, none⟩) h.size]; exact h.two, by rw [hb.cell (p := ⟨T, 7, none⟩) h.size]; exact h.seven⟩
def Tabled (v2 v7 : Value) (w : World) (e : Ending) (w' : World) : Prop := ∃ T, e = .returned (.pointer (some ⟨T, 0, none⟩)) ∧ w.heap.size ≤ T ∧ Table T v2 v7 w' ∧ Below w.heap.size w w'

theorem table (a1 a2 : Option Addr) (n1 c1 n2 c2 : Nat) (w : World) : Calls Try.prog 11 #[.slice a1 n1 c1, .slice a2 n2 c2] w fun e w' => Tabled (.slice a1 n1 c1) (.slice a2 n2 c2) w e w' :=
  (table11 a1 a2 n1 c1 n2 c2 w).mono fun _ _ ⟨he, h2, h7, hb, hs⟩ => ⟨_, he, Nat.le_refl _, ⟨hs, h2, h7⟩, hb⟩

theorem codes (S : Nat → ByteArray) (Z : Nat → Int) (n m T L : Nat) (a : Option Addr) (c : Nat) (w : World) (hT : Table T (.slice (some ⟨L, 0, none⟩) n n) (.slice a m c) w) (hL : Part (str S) ten n L n w) (hZ : Row (num Z) m a c w) (hr : InRange Z n m) (hn : n ≤ 131072) (hm : m ≤ 131072) :
    Calls Try.prog 12 #[.pointer (some ⟨T, 0, none⟩)] w fun e w' => Coded (shows S Z) m w e w' :=
  codes12 S Z n m T L a c w hT.two hT.seven hT.size hL hZ hr hn hm

end Go.Proofs.Qxb6628260a
