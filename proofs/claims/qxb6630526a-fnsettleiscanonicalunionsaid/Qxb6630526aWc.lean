import Derived.Test.Qxb6630526aWb
import Derived.ArgAppend
namespace Go.Proofs.Qxb6630526a
open Go.RowKit
open Plain

/-- A row of n ranges of the call's own: what each place holds; it may be written. -/
structure All (A : Nat → ByteArray × ByteArray) (n Q : Nat) (w : World) : Prop where
  size : Q < w.heap.size
  cell : ∀ k, k < n → w.cell? ⟨Q, k * 2, none⟩ = some (.string (A k).1) ∧ w.cell? ⟨Q, k * 2 + 1, none⟩ = some (.string (A k).2)
  soft : ∀ j, w.frozen? ⟨Q, j, none⟩ = false

theorem All.below {A : Nat → ByteArray × ByteArray} {n Q B : Nat} {w w' : World} (h : All A n Q w) (hb : Below B w w') (hB : Q < B) : All A n Q w' :=
  ⟨Nat.lt_of_lt_of_le h.size hb.size, fun k hk => by rw [hb.cell (p := ⟨Q, k * 2, none⟩) hB, hb.cell (p := ⟨Q, k * 2 + 1, none⟩) hB]; exact h.cell k hk, fun j => by rw [hb.frozen (p := ⟨Q, j, none⟩) hB]; exact h.soft j⟩
theorem All.keep {A : Nat → ByteArray × ByteArray} {n Q : Nat} {w w' : World} (h : All A n Q w) (hb : Below w.heap.size w w') : All A n Q w' := h.below hb h.size
theorem All.congr {A B : Nat → ByteArray × ByteArray} {n Q : Nat} {w : World} (h : All A n Q w) (e : ∀ k, k < n → A k = B k) : All B n Q w :=
  ⟨h.size, fun k hk => by rw [← e k hk]; exact h.cell k hk, h.soft⟩

/-- One place turned. -/
def upd (A : Nat → ByteArray × ByteArray) (k : Nat) (p : ByteArray × ByteArray) (j : Nat) : ByteArray × ByteArray := if j = k then p else A j
theorem upd_same (A : Nat → ByteArray × ByteArray) (k : Nat) (p : ByteArray × ByteArray) : upd A k p k = p := by unfold upd; rw [if_pos rfl]
theorem upd_other (A : Nat → ByteArray × ByteArray) (k : Nat) (p : ByteArray × ByteArray) (j : Nat) (h : j ≠ k) : upd A k p j = A j := by unfold upd; rw [if_neg h]

theorem All.put2 {A : Nat → ByteArray × ByteArray} {n Q : Nat} {w : World} (h : All A n Q w) (k : Nat) (hk : k < n) (t : ByteArray) : All (upd A k ((A k).1, t)) n Q (w.setCell ⟨Q, k * 2 + 1, none⟩ (.string t)) := by
  refine ⟨by simpa [World.setCell] using h.size, fun j hj => ?_, fun j => by rw [World.frozen?_setCell]; exact h.soft j⟩
  by_cases e : j = k
  · subst e
    rw [upd_same, World.cell?_setCell_other (h := addr_ne Q _ _ (by omega)), World.cell?_setCell_same _ _ _ (h.cell j hj).2]
    exact ⟨(h.cell j hj).1, rfl⟩
  · rw [upd_other _ _ _ _ e, World.cell?_setCell_other (h := addr_ne Q _ _ (by omega)), World.cell?_setCell_other (h := addr_ne Q _ _ (by omega))]
    exact h.cell j hj
theorem All.put1 {A : Nat → ByteArray × ByteArray} {n Q : Nat} {w : World} (h : All A n Q w) (k : Nat) (hk : k < n) (f : ByteArray) : All (upd A k (f, (A k).2)) n Q (w.setCell ⟨Q, k * 2, none⟩ (.string f)) := by
  refine ⟨by simpa [World.setCell] using h.size, fun j hj => ?_, fun j => by rw [World.frozen?_setCell]; exact h.soft j⟩
  by_cases e : j = k
  · subst e
    rw [upd_same, World.cell?_setCell_same _ _ _ (h.cell j hj).1, World.cell?_setCell_other (h := addr_ne Q _ _ (by omega))]
    exact ⟨rfl, (h.cell j hj).2⟩
  · rw [upd_other _ _ _ _ e, World.cell?_setCell_other (h := addr_ne Q _ _ (by omega)), World.cell?_setCell_other (h := addr_ne Q _ _ (by omega))]
    exact h.cell j hj
/-- An append with room. -/
theorem All.put {A : Nat → ByteArray × ByteArray} {n Q : Nat} {w : World} (h : All A n Q w) (k : Nat) (hk : k < n) (p : ByteArray × ByteArray) : All (upd A k p) n Q (w.setCells Q (k * 2) [.string p.1, .string p.2]) := by
  have h1 := (h.put1 k hk p.1).put2 k hk p.2
  have e : w.setCells Q (k * 2) [.string p.1, .string p.2] = (w.setCell ⟨Q, k * 2, none⟩ (.string p.1)).setCell ⟨Q, k * 2 + 1, none⟩ (.string p.2) := rfl
  rw [e]
  refine h1.congr fun j _ => ?_
  by_cases ej : j = k
  · subst ej; rw [upd_same, upd_same, upd_same]
  · rw [upd_other _ _ _ _ ej, upd_other _ _ _ _ ej, upd_other _ _ _ _ ej]

theorem listOf_length (A : Nat → ByteArray × ByteArray) (n : Nat) : (listOf A n).length = n := by unfold listOf; simp
theorem listOf_get (A : Nat → ByteArray × ByteArray) (n k : Nat) (h : k < (listOf A n).length) : (listOf A n)[k] = A k := by
  have e : (listOf A n)[k]? = some (A k) := by
    rw [listOf_length] at h
    unfold listOf
    rw [List.getElem?_map, List.getElem?_range h]
    rfl
  rw [List.getElem?_eq_getElem h] at e
  exact Option.some.inj e
theorem listOf_drop (A : Nat → ByteArray × ByteArray) (n k : Nat) (h : k < n) : (listOf A n).drop k = A k :: (listOf A n).drop (k + 1) := by
  have hk : k < (listOf A n).length := by rw [listOf_length]; exact h
  rw [List.drop_eq_getElem_cons hk, listOf_get]
theorem listOf_end (A : Nat → ByteArray × ByteArray) (n k : Nat) (h : n ≤ k) : (listOf A n).drop k = [] := List.drop_eq_nil_of_le (by rw [listOf_length]; exact h)

end Go.Proofs.Qxb6630526a
