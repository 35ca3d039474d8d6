import Derived.Test.Qxb6630526aWj
import Derived.Deep.WholeRow
namespace Go.Proofs.Qxb6630526a
open Go.RowKit
open Plain

/-- 'make([]string, n)' ahead of the law's own bounds. -/
theorem make22w (n : Nat) (w : World) (hn : n ≤ 1048576) : (Instr.makeSlice 22 (.int .i64 (n : Int)) (.int .i64 (n : Int))).run Try.prog w = .ok (.slice (some ⟨w.heap.size, 0, none⟩) n n) (w.alloc (.cells (madeCells #[.string ByteArray.empty] n) 9)) := by
  obtain ⟨i, hi, h1⟩ := Option.map_eq_some_iff.1 Try.size9
  have h2 := Try.bytes9
  have h3 := Try.zero9
  rw [hi] at h2 h3
  have h2' : i.bytes = 16 := by simpa using h2
  have h3' : i.zero = some (.string ByteArray.empty) := by simpa using h3
  have h := run_make (P := Try.prog) w 22 9 i (.string ByteArray.empty) Try.underlying22 hi h3' .i64 .i64 (n : Int) (n : Int) (by omega) (Int.le_refl _) (by rw [h2']; omega) (by omega)
  rw [h1, Nat.mul_one] at h
  simpa [Value.cells] using h

/-- The keys as cells. -/
def cellsK (ks : List ByteArray) : List Value := ks.map fun x => .string x
theorem cellsK_length (ks : List ByteArray) : (cellsK ks).length = ks.length := by simp [cellsK]
theorem cellsK_get (ks : List ByteArray) (k : Nat) : (cellsK ks)[k]? = (ks[k]?).map fun x => .string x := by unfold cellsK; rw [List.getElem?_map]

/-- 'copy(zzc, keys)'. -/
theorem copyK (ks : List ByteArray) (n : Nat) (hn : ks.length = n) (a : Addr) (cap : Nat) (w : World) (ty : TypeId) (hc : ∀ k x, ks[k]? = some x → w.cell? (a.add k) = some (.string x)) :
    (Builtin.copy_ #[22, 22] ty #[.slice (some ⟨w.heap.size, 0, none⟩) n n, .slice (some a) n cap]).run Try.prog (w.alloc (.cells (madeCells #[.string ByteArray.empty] n) 9)) = .ok (goInt n) (w.alloc (.cells (cellsK ks).toArray 9)) := by
  subst hn
  have h := run_copy_row (P := Try.prog) (w.alloc (.cells (madeCells #[.string ByteArray.empty] ks.length) 9)) 22 22 ty 9 w.heap.size 0 ks.length ks.length a ks.length cap (madeCells #[.string ByteArray.empty] ks.length) 9 (cellsK ks) Try.underlying22 Try.size9
    (heap_alloc_last w _) (by rw [cellsK_length]; exact (Nat.min_self _).symm)
    (fun j v hj => by
      rw [cellsK_get] at hj
      obtain ⟨x, hx, rfl⟩ := Option.map_eq_some_iff.1 hj
      rw [Lib.cell?_alloc_some _ (hc j x hx)])
    (by rw [cellsK_length, size_madeCells]; omega) (fun v hv => by
      simp only [cellsK, List.mem_map] at hv
      obtain ⟨x, _, rfl⟩ := hv
      rfl)
  rw [h, World.setRow_alloc_new, cellsK_length]
  have e : (madeCells #[Value.string ByteArray.empty] ks.length).toList.drop (0 + ks.length) = [] := by
    rw [Nat.zero_add]
    exact List.drop_eq_nil_of_le (by rw [Array.length_toList, size_madeCells]; exact Nat.le_refl _)
  rw [e, List.take_zero, List.nil_append, List.append_nil]

theorem copied_row (ks : List ByteArray) (n : Nat) (hn : ks.length = n) (w : World) : StRow ks (some ⟨w.heap.size, 0, none⟩) n (w.alloc (.cells (cellsK ks).toArray 9)) := fun _ =>
  ⟨_, _, rfl, by simp, by omega, fun k x hx => by rw [Nat.zero_add, World.cell?_alloc_new, List.getElem?_toArray, cellsK_get, hx]; rfl⟩

/-- What the bound has seen where it says true. -/
def SmallK (ks : List ByteArray) (nk : Nat) (R : Nat → ByteArray × ByteArray) (n : Nat) : Prop := (nk ≤ 1048576 ∧ ∀ (k : Nat) (x : ByteArray), ks[k]? = some x → x.size ≤ 1048576) ∧ Small R n

set_option maxHeartbeats 1000000 in
set_option maxRecDepth 100000 in
theorem bytes5 (ks : List ByteArray) (ka : Option Addr) (kc nk : Nat) (R : Nat → ByteArray × ByteArray) (n : Nat) (a : Option Addr) (c : Nat) (w : World) (hK : StRow ks ka kc w) (hnk : ks.length = nk) (hks : ∀ (k : Nat) (x : ByteArray), ks[k]? = some x → x.size ≤ maxLen) (hnm : nk ≤ maxLen)
    (hR : Row2 R n a c w) (hS : ∀ k, k < n → (R k).1.size ≤ maxLen ∧ (R k).2.size ≤ maxLen) (hn : n ≤ maxLen) :
    Calls Try.prog 5 #[.slice ka nk kc, .slice a n c] w fun e w' => Asks (SmallK ks nk R n) w e w' := by
  unfold maxLen at hn hS hks hnm
  by_cases h0 : nk ≤ 1048576
  · go_enter Try.func5, Try.ntmps5
    go_wp2
    go_loopg [5, 6] nk (fun g t i wr => ∃ (j : Nat) (s : Int), g + j = nk ∧ i = .int .i64 j ∧ t = .int .i64 s ∧ 0 ≤ s ∧ s ≤ 1048576 ∧ w = wr ∧ Hid (∀ (k : Nat) (x : ByteArray), k < j → ks[k]? = some x → x.size ≤ 1048576))
    case atStart => exact ⟨0, nk, by omega, rfl, rfl, by omega, by omega, rfl, fun k x hk => by omega⟩
    case round =>
      obtain ⟨j, s, hg, rfl, rfl, hs0, hs1, rfl, HJ⟩ := hrel
      by_cases hj : j < nk
      · obtain ⟨x, hx⟩ : ∃ x, ks[j]? = some x := ⟨_, List.getElem?_eq_getElem (by omega)⟩
        obtain ⟨b, off, rfl, hlt, hc, hcell⟩ := hK (by omega)
        have hc1 := hcell j x hx
        have hS1 := hks j x hx
        rw [hnk] at hc
        have HX : Hid (ks[j]? = some x) := hx
        clear hcell hK hx hnk
        by_cases h2 : x.size ≤ 1048576
        · by_cases h3 : s + x.size ≤ 1048576
          · go_wp2
            go_roundg (gk - 1)
            case measure => omega
            case rel => exact ⟨j + 1, s + x.size, by omega, by go_num, rfl, by omega, h3, rfl, fun k y hk hy => by
              by_cases e : k = j
              · rw [e, HX.out] at hy; rw [← Option.some.inj hy]; exact h2
              · exact HJ.out k y (by omega) hy⟩
          · go_wp2
            go_ret
            exact Asks.no
        · go_wp2
          go_ret
          exact Asks.no
      · have HK : Hid (∀ (k : Nat) (x : ByteArray), ks[k]? = some x → x.size ≤ 1048576) := fun k x hx => HJ.out k x (by have := (List.getElem?_eq_some_iff.1 hx).1; omega) hx
        clear HJ hK
        by_cases h1 : n ≤ 1048576
        · by_cases h1b : s + n ≤ 1048576
          · go_wp2
            go_loopg [5, 7] n (fun g t i wr => ∃ (j : Nat) (s : Int), g + j = n ∧ i = .int .i64 j ∧ t = .int .i64 s ∧ 0 ≤ s ∧ s ≤ 1048576 ∧ w = wr ∧ Hid (∀ k, k < j → (R k).1.size ≤ 1048576 ∧ (R k).2.size ≤ 1048576))
            case atStart => exact ⟨0, s + n, by omega, rfl, rfl, by omega, by omega, rfl, fun k hk => by omega⟩
            case round =>
              clear h1b hs0 hs1
              obtain ⟨j', s', hg', rfl, rfl, hs0, hs1, rfl, HJ⟩ := hrel
              by_cases hj' : j' < n
              · obtain ⟨b, off, rfl, hlt, hc, hcell⟩ := hR (by omega)
                obtain ⟨hc1, hc2⟩ := hcell j' hj'
                obtain ⟨hS1, hS2⟩ := hS j' hj'
                clear hcell hR
                by_cases h2 : (R j').1.size ≤ 1048576
                · by_cases h3 : s' + (R j').1.size ≤ 1048576
                  · by_cases h4 : (R j').2.size ≤ 1048576
                    · by_cases h5 : s' + (R j').1.size + (R j').2.size ≤ 1048576
                      · go_wp2
                        go_roundg (gk - 1)
                        case measure => omega
                        case rel => exact ⟨j' + 1, s' + (R j').1.size + (R j').2.size, by omega, by go_num, rfl, by omega, h5, rfl, fun k hk => by
                          by_cases e : k = j'
                          · rw [e]; exact ⟨h2, h4⟩
                          · exact HJ.out k (by omega)⟩
                      · go_wp2
                        go_ret
                        exact Asks.no
                    · go_wp2
                      go_ret
                      exact Asks.no
                  · go_wp2
                    go_ret
                    exact Asks.no
                · go_wp2
                  go_ret
                  exact Asks.no
              · go_wp2
                go_ret
                exact Asks.yes ⟨⟨h0, HK.out⟩, h1, fun k hk => HJ.out k (by omega)⟩
          · go_wp2
            go_ret
            exact Asks.no
        · go_wp2
          go_ret
          exact Asks.no
  · go_enter Try.func5, Try.ntmps5
    go_wp2
    go_ret
    exact Asks.no

end Go.Proofs.Qxb6630526a
