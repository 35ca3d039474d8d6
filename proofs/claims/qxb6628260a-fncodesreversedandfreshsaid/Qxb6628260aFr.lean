import Derived.Test.Qxb6628260aRows
import Derived.Test.Qxb6628260aWf
import Derived.ProofKit
import Derived.OpenShut
import Derived.SliceStrings
namespace Go.Proofs.Qxb6628260a
open Go.ChangeShapes Go.WideShapes Go.ChangeAt Go.RowKit

theorem own : ownKnob Try.prog.godebug = none := by kernel_rfl
theorem laidOut : laidOutB Try.prog = true := by kernel_rfl

theorem lt_of_cell {w : World} {a : Addr} {v : Value} (h : w.cell? a = some v) : a.block < w.heap.size := by
  rcases Nat.lt_or_ge a.block w.heap.size with h1 | h1
  · exact h1
  · unfold World.cell? at h
    rw [Array.getElem?_eq_none h1] at h
    cases h

/-- A row that was read: its cells as the walks hold them. -/
theorem row_of_cells {W : World} {enc : Nat → Value} {x : Addr} {n c : Nat} (hc : n ≤ c) (h : ∀ i, i < n → W.cell? (x.add i) = some (enc i)) : Row enc n (some x) c W := fun hn => by
  obtain ⟨b, off, spot⟩ := x
  have h0 := h 0 hn
  have hs : spot = none := by simpa [Addr.add] using World.cell?_spot h0
  subst hs
  exact ⟨b, off, rfl, by have := lt_of_cell h0; simpa [Addr.add] using this, hc, fun k hk => by rw [← Go.WideShapes.add_plain]; exact h k hk⟩

/-- The strings that came in. -/
theorem strings_in {H : Type} {enc : TypeId × Value → H} {W : World} {base : Nat} {sp : Nat → Bool} {held : Bool} {fuel : Nat} {v : Value} {x : DataW H × List MemPlace} (hsp : ∀ b, sp b = true) (h : DataW.trod enc Try.prog W base sp held fuel 22 v.cells.toList = some x) (hv : ∃ a l c, v = .slice a l c) :
    ∃ (S : Nat → ByteArray) (n : Nat), Arg (str S) n v W ∧ (∀ k, k < n → (S k).size ≤ maxLen) ∧ n ≤ maxLen := by
  obtain ⟨a0, l0, c0, rfl⟩ := hv
  rcases open_strings Try.underlying22 Try.underlying9 (by kernel_rfl) h with ⟨hcs, _⟩ | ⟨a, l, c, ss, hcs, _, hl, hm, hz, _, hcell, hws⟩
  · simp [Value.cells] at hcs
    obtain ⟨rfl, rfl, rfl⟩ := hcs
    exact ⟨fun _ => ByteArray.empty, 0, Or.inl ⟨rfl, rfl⟩, fun k hk => by omega, Nat.zero_le _⟩
  · simp [Value.cells] at hcs
    obtain ⟨rfl, rfl, rfl⟩ := hcs
    rw [hsp, if_pos rfl] at hz
    refine ⟨fun k => ss.getD k ByteArray.empty, l0, Or.inr ⟨a, c0, rfl, row_of_cells hl fun i hi => hcell i (by omega)⟩, fun k hk => ?_, Nat.le_trans hl hm⟩
    have hk' : k < ss.length := by omega
    show (ss.getD k ByteArray.empty).size ≤ maxLen
    rw [List.getD_eq_getElem?_getD, List.getElem?_eq_getElem hk', Option.getD_some]
    exact hws _ (List.getElem_mem hk')

/-- The numbers that came in. -/
theorem ints_in {H : Type} {enc : TypeId × Value → H} {W : World} {base : Nat} {sp : Nat → Bool} {held : Bool} {fuel : Nat} {v : Value} {x : DataW H × List MemPlace} (hsp : ∀ b, sp b = true) (h : DataW.trod enc Try.prog W base sp held fuel 23 v.cells.toList = some x) (hv : ∃ a l c, v = .slice a l c) :
    ∃ (Z : Nat → Int) (n : Nat), Arg (num Z) n v W ∧ n ≤ maxLen := by
  obtain ⟨a0, l0, c0, rfl⟩ := hv
  rcases open_ints Try.underlying23 Try.underlying3 (by kernel_rfl) h with ⟨hcs, _⟩ | ⟨a, l, c, zs, hcs, _, hl, hm, hz, _, hcell, _⟩
  · simp [Value.cells] at hcs
    obtain ⟨rfl, rfl, rfl⟩ := hcs
    exact ⟨fun _ => 0, 0, Or.inl ⟨rfl, rfl⟩, Nat.zero_le _⟩
  · simp [Value.cells] at hcs
    obtain ⟨rfl, rfl, rfl⟩ := hcs
    rw [hsp, if_pos rfl] at hz
    exact ⟨fun k => zs.getD k 0, l0, Or.inr ⟨a, c0, rfl, row_of_cells hl fun i hi => hcell i (by omega)⟩, Nat.le_trans hl hm⟩

end Go.Proofs.Qxb6628260a
