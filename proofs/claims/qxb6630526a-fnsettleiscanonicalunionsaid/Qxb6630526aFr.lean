import Derived.Test.Qxb6630526aRows
import Derived.Test.Qxb6630526aWf
import Derived.ProofKit
import Derived.OpenShut
import Derived.SliceStrings
import Derived.Deep.SlicePairs
namespace Go.Proofs.Qxb6630526a
open Go.ChangeShapes Go.WideShapes Go.ChangeAt Go.RowKit

theorem own : ownKnob Try.prog.godebug = none := by kernel_rfl
theorem laidOut : laidOutB Try.prog = true := by kernel_rfl

theorem lt_of_cell {w : World} {a : Addr} {v : Value} (h : w.cell? a = some v) : a.block < w.heap.size := by
  rcases Nat.lt_or_ge a.block w.heap.size with h1 | h1
  · exact h1
  · unfold World.cell? at h
    rw [Array.getElem?_eq_none h1] at h
    cases h

/-- A row of ranges that was read: its cells as the walks hold them. -/
theorem row2_of_cells {W : World} {R : Nat → ByteArray × ByteArray} {x : Addr} {n c : Nat} (hc : n ≤ c) (h : ∀ i, i < n → W.cell? (x.add (i * 2)) = some (.string (R i).1) ∧ W.cell? (x.add (i * 2 + 1)) = some (.string (R i).2)) : Row2 R n (some x) c W := fun hn => by
  obtain ⟨b, off, spot⟩ := x
  have h0 := (h 0 hn).1
  have hs : spot = none := by simpa [Addr.add] using World.cell?_spot h0
  subst hs
  refine ⟨b, off, rfl, by have := lt_of_cell h0; simpa [Addr.add] using this, hc, fun k hk => ?_⟩
  obtain ⟨h1, h2⟩ := h k hk
  rw [Go.WideShapes.add_plain] at h1 h2
  exact ⟨h1, h2⟩

/-- The ranges that came in. -/
theorem ranges_in {H : Type} {enc : TypeId × Value → H} {W : World} {base : Nat} {sp : Nat → Bool} {held : Bool} {fuel : Nat} {v : Value} {x : DataW H × List MemPlace} (h : DataW.trod enc Try.prog W base sp held fuel 23 v.cells.toList = some x) (hv : ∃ a l c, v = .slice a l c) :
    ∃ (R : Nat → ByteArray × ByteArray) (n : Nat) (a : Option Addr) (c : Nat), v = .slice a n c ∧ Row2 R n a c W ∧ (∀ k, k < n → (R k).1.size ≤ maxLen ∧ (R k).2.size ≤ maxLen) ∧ n ≤ maxLen := by
  obtain ⟨a0, l0, c0, rfl⟩ := hv
  rcases Deep.open_slice_pairs Try.underlying23 Try.underlying26 (by kernel_rfl) rfl rfl (by kernel_rfl) (by kernel_rfl) h with ⟨hcs, _⟩ | ⟨a, l, c, m, n, V0, V1, D0, D1, P0, P1, hcs, _, hl, hm, hmm, _, hall⟩
  · simp [Value.cells] at hcs
    obtain ⟨rfl, rfl, rfl⟩ := hcs
    exact ⟨fun _ => (ByteArray.empty, ByteArray.empty), 0, none, 0, rfl, fun h => by omega, fun k hk => by omega, Nat.zero_le _⟩
  · simp [Value.cells] at hcs
    obtain ⟨rfl, rfl, rfl⟩ := hcs
    have hlm : l0 ≤ m := by rw [hmm]; split <;> omega
    have he : ∀ i, i < l0 → ∃ p : ByteArray × ByteArray, (W.cell? (a.add (i * 2)) = some (.string p.1) ∧ W.cell? (a.add (i * 2 + 1)) = some (.string p.2)) ∧ p.1.size ≤ maxLen ∧ p.2.size ≤ maxLen := fun i hi => by
      obtain ⟨g1, g2, g3, g4⟩ := hall i (by omega)
      obtain ⟨s1, e1, _, z1⟩ := DataW.trod_string Try.underlying9 g3
      obtain ⟨s2, e2, _, z2⟩ := DataW.trod_string Try.underlying9 g4
      injection e1 with e1 _
      injection e2 with e2 _
      exact ⟨(s1, s2), ⟨by rw [g1, e1], by rw [g2, e2]⟩, z1, z2⟩
    obtain ⟨R, hR⟩ : ∃ R : Nat → ByteArray × ByteArray, ∀ i, i < l0 → (W.cell? (a.add (i * 2)) = some (.string (R i).1) ∧ W.cell? (a.add (i * 2 + 1)) = some (.string (R i).2)) ∧ (R i).1.size ≤ maxLen ∧ (R i).2.size ≤ maxLen := by
      refine ⟨fun i => if h : i < l0 then Classical.choose (he i h) else (ByteArray.empty, ByteArray.empty), fun i hi => ?_⟩
      simp only [dif_pos hi]
      exact Classical.choose_spec (he i hi)
    exact ⟨R, l0, some a, c0, rfl, row2_of_cells hl (fun i hi => (hR i hi).1), fun k hk => (hR k hk).2, Nat.le_trans hl hm⟩

end Go.Proofs.Qxb6630526a
