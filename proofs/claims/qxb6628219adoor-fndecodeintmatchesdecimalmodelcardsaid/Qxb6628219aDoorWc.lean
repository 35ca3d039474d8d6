import Derived.Test.Qxb6628219aDoorWb
import Derived.Deep.WholeRow
import Derived.Deep.RegionHeld
namespace Go.Proofs.Qxb6628219aDoor
open Go.RowKit
open Plain

theorem Tryd.size5 : (Tryd.prog.info? 5).map (·.size) = some 1 := by kernel_rfl
theorem Tryd.bytes5 : (Tryd.prog.info? 5).map (·.bytes) = some 1 := by kernel_rfl
theorem Tryd.zero5 : (Tryd.prog.info? 5).bind (·.zero) = some (.int .u8 0) := by kernel_rfl

/-- 'make([]byte, n)'. -/
theorem make_any (n : Nat) (w : World) (hn : n ≤ 1048577) :
    (Instr.makeSlice 22 (.int .i64 (n : Int)) (.int .i64 (n : Int))).run Tryd.prog w = .ok (.slice (some ⟨w.heap.size, 0, none⟩) n n) (w.alloc (.cells (madeCells #[.int .u8 0] n) 5)) := by
  obtain ⟨i, hi, h1⟩ := Option.map_eq_some_iff.1 Tryd.size5
  have h2 := Tryd.bytes5
  have h3 := Tryd.zero5
  rw [hi] at h2 h3
  have h2' : i.bytes = 1 := by simpa using h2
  have h3' : i.zero = some (.int .u8 0) := by simpa using h3
  have h := run_make (P := Tryd.prog) w 22 5 i (.int .u8 0) Tryd.underlying22 hi h3' .i64 .i64 (n : Int) (n : Int) (by omega) (Int.le_refl _) (by rw [h2']; omega) (by omega)
  rw [h1, Nat.mul_one] at h
  simpa [Value.cells] using h

/-- The bytes as cells. -/
def cellsOf (l : List UInt8) : List Value := l.map fun x => .int .u8 (x.toNat : Int)
theorem cellsOf_length (l : List UInt8) : (cellsOf l).length = l.length := by simp [cellsOf]
theorem cellsOf_get (l : List UInt8) (k : Nat) (h : k < l.length) : (cellsOf l)[k]? = some (.int .u8 (fb l k)) := by
  rw [fb_of_lt _ _ h]
  simp [cellsOf, h]

/-- 'copy(zzc, value)'. -/
theorem copy_any (l : List UInt8) (a : Addr) (cap : Nat) (w : World) (ty : TypeId)
    (hc : ∀ k, k < l.length → w.cell? (a.add k) = some (.int .u8 (fb l k))) :
    (Builtin.copy_ #[22, 22] ty #[.slice (some ⟨w.heap.size, 0, none⟩) l.length l.length, .slice (some a) l.length cap]).run Tryd.prog (w.alloc (.cells (madeCells #[.int .u8 0] l.length) 5)) = .ok (goInt l.length) (w.alloc (.cells (cellsOf l).toArray 5)) := by
  have h := run_copy_row (P := Tryd.prog) (w.alloc (.cells (madeCells #[.int .u8 0] l.length) 5)) 22 22 ty 5 w.heap.size 0 l.length l.length a l.length cap (madeCells #[.int .u8 0] l.length) 5 (cellsOf l) Tryd.underlying22 Tryd.size5
    (heap_alloc_last w _) (by rw [cellsOf_length]; exact (Nat.min_self _).symm)
    (fun j v hj => by
      have hjl : j < l.length := by
        rcases Nat.lt_or_ge j l.length with h | h
        · exact h
        · rw [List.getElem?_eq_none (by rw [cellsOf_length]; exact h)] at hj; cases hj
      rw [cellsOf_get l j hjl] at hj
      rw [World.cell?_alloc_some _ _ _ (by rw [hc j hjl]; rfl), hc j hjl, hj])
    (by rw [cellsOf_length, size_madeCells]; omega) (fun v hv => by
      simp only [cellsOf, List.mem_map] at hv
      obtain ⟨x, _, rfl⟩ := hv
      rfl)
  rw [h, World.setRow_alloc_new, cellsOf_length]
  have e : (madeCells #[Value.int .u8 0] l.length).toList.drop (0 + l.length) = [] := by
    rw [Nat.zero_add]
    exact List.drop_eq_nil_of_le (by rw [Array.length_toList, size_madeCells]; exact Nat.le_refl _)
  rw [e, List.take_zero, List.nil_append, List.append_nil]

/-- The value as the law holds it behind its copy. -/
def Held (l : List UInt8) (v : Value) (w : World) : Prop :=
  (l = [] ∧ v = .slice none 0 0) ∨ ∃ b, v = .slice (some ⟨b, 0, none⟩) l.length l.length ∧ b < w.heap.size ∧ ∀ k, k < l.length → w.cell? ⟨b, k, none⟩ = some (.int .u8 (fb l k))

theorem Held.copied (l : List UInt8) (w : World) : Held l (.slice (some ⟨w.heap.size, 0, none⟩) l.length l.length) (w.alloc (.cells (cellsOf l).toArray 5)) :=
  Or.inr ⟨_, rfl, by simp, fun k hk => by rw [World.cell?_alloc_new, List.getElem?_toArray, cellsOf_get l k hk]⟩

theorem Held.below {l : List UInt8} {v : Value} {w w' : World} (h : Held l v w) (hb : Below w.heap.size w w') : Held l v w' := by
  rcases h with h | ⟨b, rfl, hlt, hc⟩
  · exact Or.inl h
  · exact Or.inr ⟨b, rfl, Nat.lt_of_lt_of_le hlt hb.size, fun k hk => by rw [hb.cell (p := ⟨b, k, none⟩) hlt]; exact hc k hk⟩

theorem Vars.below {w w' : World} (h : Vars w) (hb : Below w.heap.size w w') (h2 : 2 ≤ w.heap.size) : Vars w' :=
  ⟨by obtain ⟨t, p, h⟩ := h.syn; exact ⟨t, p, by rw [hb.cell (p := ⟨0, 0, none⟩) (Nat.lt_of_lt_of_le (show 0 < 2 by omega) h2)]; exact h⟩, by obtain ⟨t, p, h⟩ := h.rng; exact ⟨t, p, by rw [hb.cell (p := ⟨1, 0, none⟩) (Nat.lt_of_lt_of_le (show 1 < 2 by omega) h2)]; exact h⟩⟩

theorem drewN_below (w : World) (q : Nat) : Below w.heap.size w (w.drewN q) := below_drewN (Below.refl _ _) q

theorem model_held {l : List UInt8} {v : Value} {w : World} (h : Held l v w) (hn : l.length ≤ 1048577) : Calls Tryd.prog 6 #[v] w fun e w' => Below w.heap.size w w' ∧ Said l e := by
  rcases h with ⟨rfl, rfl⟩ | ⟨b, rfl, hlt, hc⟩
  · exact (model_none none 0 w).mono fun e w' ⟨⟨q, hq⟩, hs⟩ => ⟨by rw [hq]; exact drewN_below w q, hs⟩
  · exact (model_any l b w hn hc).mono fun e w' ⟨⟨q, hq⟩, hs⟩ => ⟨by rw [hq]; exact drewN_below w q, hs⟩

theorem Held.conv {l : List UInt8} {v : Value} {w : World} (h : Held l v w) : ∃ a len cap, v = .slice a len cap ∧ (convert 22 9 (.slice a len cap)).run Tryd.prog w = .ok (.string (str l)) w := by
  rcases h with ⟨rfl, rfl⟩ | ⟨b, rfl, hlt, hc⟩
  · exact ⟨none, 0, 0, rfl, conv_nil 0 w⟩
  · exact ⟨_, _, _, rfl, conv_any l b _ w hc⟩

/-- WHAT DecodeInt HANDS BACK. -/
def Told (l : List UInt8) (e : Ending) : Prop := (dec l = none ∧ ∃ t p, e = .returned (.tuple #[.int .i64 0, .iface t p])) ∨ ∃ v, dec l = some v ∧ e = .returned (.tuple #[.int .i64 v, .nilIface])

theorem decode_held {l : List UInt8} {v : Value} {w : World} (h : Held l v w) (hn : l.length ≤ 1048577) (hV : Vars w) : Calls Tryd.prog 7 #[v] w fun e w' => Below w.heap.size w w' ∧ Told l e := by
  obtain ⟨a, len, cap, rfl, hc⟩ := h.conv
  cases hd : dec l with
  | none => exact (decode_none l a len cap w hn hd hV hc).mono fun e w' ⟨he, hb⟩ => ⟨hb, Or.inl ⟨hd, he⟩⟩
  | some n => exact (decode_some l a len cap w hn n hd hc).mono fun e w' ⟨he, hb⟩ => ⟨hb, Or.inr ⟨n, hd, he⟩⟩

end Go.Proofs.Qxb6628219aDoor
