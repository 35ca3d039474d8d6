import Derived.Test.Qxb6630526aWc
import Derived.Test.Qxb6630526aShelf
namespace Go.Proofs.Qxb6630526a
open Go.RowKit Go.Sort Go.Shelf
open Plain

/-- A range's two cells. -/
def encR (x : ByteArray × ByteArray) : List Value := [.string x.1, .string x.2]

theorem lts_ntrans {x y z : ByteArray} (h1 : lts x y = false) (h2 : lts y z = false) : lts x z = false := by
  cases h : lts x z with
  | false => rfl
  | true =>
    cases h3 : lts y x with
    | true => rw [lts_trans h3 h] at h2; cases h2
    | false => rw [lts_tri h1 h3] at h; rw [h] at h2; cases h2

theorem ltR (x y : ByteArray × ByteArray) : ltOf (fun x y : ByteArray × ByteArray => cmpS x.1 y.1) x y = lts x.1 y.1 := by
  show decide ((if lts x.1 y.1 = true then (-1 : Int) else if leqS x.1 y.1 = true then 0 else 1) < 0) = lts x.1 y.1
  cases h1 : lts x.1 y.1 with
  | true => rfl
  | false => cases h2 : leqS x.1 y.1 <;> rfl

theorem swoR : SWO (ltOf fun x y : ByteArray × ByteArray => cmpS x.1 y.1) := {
  irrefl := fun x => by rw [ltR]; exact lts_irrefl _
  trans := fun x y z h1 h2 => by rw [ltR] at *; exact lts_trans h1 h2
  ntrans := fun x y z h1 h2 => by rw [ltR] at *; exact lts_ntrans h1 h2 }

theorem cmpLays15 (blk off size : Nat) (w : World) : CmpLays Try.prog 15 #[] encR 2 (fun x y => cmpS x.1 y.1) blk off size w :=
  fun _ _ _ _ x y => closure15 x y _

/-- The row as an array. -/
def arr (A : Nat → ByteArray × ByteArray) (n : Nat) : Array (ByteArray × ByteArray) := (listOf A n).toArray
theorem arr_size (A : Nat → ByteArray × ByteArray) (n : Nat) : (arr A n).size = n := by unfold arr; rw [List.size_toArray, listOf_length]
theorem arr_get (A : Nat → ByteArray × ByteArray) (n k : Nat) (h : k < n) : (arr A n)[k]! = A k := by
  have hk : k < (arr A n).size := by rw [arr_size]; exact h
  rw [getElem!_pos (arr A n) k hk]
  exact listOf_get A n k (by rw [listOf_length]; exact h)

theorem holdsR (A : Nat → ByteArray × ByteArray) (n Q : Nat) (w : World) (h : All A n Q w) : HoldsK encR 2 w Q 0 (arr A n) := by
  intro j hj
  rw [size_flatK, arr_size] at hj
  rw [get_flatK _ _ _ _ (by rw [arr_size]; exact hj), arr_get A n _ (by omega)]
  refine ⟨?_, h.soft _⟩
  obtain ⟨h1, h2⟩ := h.cell (j / 2) (by omega)
  rw [Nat.zero_add]
  rcases Nat.mod_two_eq_zero_or_one j with e | e
  · rw [e]
    have : j / 2 * 2 = j := by omega
    rw [this] at h1
    exact h1
  · rw [e]
    have : j / 2 * 2 + 1 = j := by omega
    rw [this] at h2
    exact h2

theorem below_grow {B : Nat} {a w : World} (h : Below B a w) (hB : B ≤ w.heap.size) (os : Array Obj) : Below B a (grow w os) :=
  ⟨h.os, h.tape, h.output, Nat.le_trans h.size (by rw [size_grow]; omega), fun k hk => by rw [heap_grow_old w os (by omega)]; exact h.block k hk⟩
theorem below_putRow (w : World) (Q m : Nat) (F : Array Value) : Below Q w (putRow id (Sort.ahead w m) Q 0 F) :=
  ⟨rfl, rfl, rfl, by rw [size_putRow]; exact Nat.le_refl _, fun k hk => by
    unfold putRow mapBlock
    show ((Sort.ahead w m).heap.modify Q _)[k]? = _
    rw [Array.getElem?_modify, if_neg (by omega)]
    rfl⟩

set_option maxHeartbeats 1000000 in
theorem sort14 (A : Nat → ByteArray × ByteArray) (n Q cap : Nat) (w : World) (hA : All A n Q w) (hn : n ≤ 131072) :
    Calls Try.prog 14 #[.slice (some ⟨Q, 0, none⟩) n cap, .func (.func 15) #[] #[]] w fun e w' => e = .returned (.tuple #[]) ∧ ∃ A', (listOf A' n).Perm (listOf A n) ∧ UpS (listOf A' n) ∧ All A' n Q w' ∧ Below Q w w' := by
  have eg : ∀ args w, (callFunc 15 args).run Try.prog w = .ok (.enter 15 args) w := enters_of Try.func15 (by kernel_rfl) rfl
  have hH := holdsR A n Q w hA
  have hcon := AnyQ.slices_SortFunc Try.sortR 2 Try.isAgg42 Try.sizeOf42 encR (fun _ => rfl) (fun x v hv => by simp [encR] at hv; rcases hv with rfl | rfl <;> rfl) (fun x y => cmpS x.1 y.1) swoR 15 #[] Q 0 cap (arr A n) w eg (cmpLays15 Q 0 _ w) hH hA.size (by rw [arr_size]; omega)
  change Calls Try.prog 14 _ _ _ at hcon
  rw [arr_size] at hcon
  refine hcon.mono ?_
  rintro e w' ⟨rfl, d', m, os, hp, hs, rfl⟩
  have hsz : d'.size = n := by rw [hp.1, arr_size]
  have hlist : listOf (fun k => d'[k]!) n = d'.toList := by
    refine List.ext_getElem ?_ fun k h1 h2 => ?_
    · rw [listOf_length, Array.length_toList, hsz]
    · rw [listOf_get]
      rw [listOf_length] at h1
      show d'[k]! = _
      rw [getElem!_pos d' k (by omega), Array.getElem_toList]
  refine ⟨rfl, fun k => d'[k]!, ?_, ?_, ?_, ?_⟩
  · have h3 := hp.2.2
    rw [hlist]
    have e1 : d'.extract 0 n = d' := by rw [← hsz]; exact Array.extract_size
    have e2 : (arr A n).extract 0 n = arr A n := by conv => lhs; rw [show n = (arr A n).size from (arr_size A n).symm]
                                                    simp [arr_size]
    rw [e1, e2] at h3
    exact h3
  · unfold UpS
    rw [List.pairwise_iff_getElem]
    intro i j hi hj hij
    rw [listOf_get, listOf_get]
    rw [listOf_length] at hi hj
    have := hs i j (Nat.zero_le _) hij hj
    rw [ltR] at this
    exact this
  · have hput := holdsK_putRowK encR 2 (Sort.ahead w m) Q 0 (arr A n) d' hH (by rw [hsz, arr_size])
    have hsize : Q < (putRowK encR 2 (Sort.ahead w m) Q 0 d').heap.size := by unfold putRowK; rw [size_putRow]; exact hA.size
    have hg := holdsK_grow encR 2 _ os Q 0 d' hsize hput
    refine ⟨?_, fun k hk => ?_, fun j => ?_⟩
    · show Q < (grow _ os).heap.size
      rw [size_grow]; omega
    · have c0 := (hg.cell (i := k) (c := 0) (by omega) (by omega)).1
      have c1 := (hg.cell (i := k) (c := 1) (by omega) (by omega)).1
      rw [Nat.zero_add] at c0 c1
      exact ⟨c0, c1⟩
    · show (grow (putRowK encR 2 (Sort.ahead w m) Q 0 d') os).frozen? _ = _
      rw [frozen?_grow _ _ _ hsize]
      unfold putRowK
      rw [frozen?_putRow]
      exact hA.soft j
  · exact below_grow (below_putRow w Q m _) (Nat.le_of_lt (by rw [size_putRow]; exact hA.size)) os

end Go.Proofs.Qxb6630526a
