import Derived.Test.Qxb6628219aDoorShelf
import Derived.Test.Qxb6628219aDoorWa
import Derived.Test.Qxb6628219aDoorSnoc
import Derived.Lib.SlBytesRow
import Derived.Lib.AtoiErrMem
namespace Go.Proofs.Qxb6628219aDoor
open Go.RowKit
open Plain

/-- The bytes as a Go string. -/
def str (l : List UInt8) : ByteArray := ⟨l.toArray⟩
theorem str_size (l : List UInt8) : (str l).size = l.length := by simp [str, ByteArray.size]
theorem str_list (l : List UInt8) : (str l).data.toList = l := by simp [str]

/-- string(value). -/
theorem conv_any (l : List UInt8) (b cap : Nat) (w : World) (hc : ∀ k, k < l.length → w.cell? ⟨b, k, none⟩ = some (.int .u8 (fb l k))) :
    (convert 22 9 (.slice (some ⟨b, 0, none⟩) l.length cap)).run Tryd.prog w = .ok (.string (str l)) w := by
  have hb : Lib.Bytes w b 0 (str l) := fun i hi => by
    have hi' : i < l.length := by rw [str_size] at hi; exact hi
    rw [Nat.zero_add, hc i hi', fb_of_lt _ _ hi']
    rfl
  have h := Lib.run_convert_whole (P := Tryd.prog) w 22 5 9 Tryd.underlying22 Tryd.underlying5 Tryd.underlying9 b 0 (str l) hb cap
  rw [str_size] at h
  exact h

theorem conv_nil (c : Nat) (w : World) : (convert 22 9 (.slice none 0 c)).run Tryd.prog w = .ok (.string (str [])) w :=
  run_convert_bytes_nil (P := Tryd.prog) w 22 5 Tryd.underlying22 Tryd.underlying5 0 c 9 Tryd.underlying9

/-- The two variables that strconv's roads of the error read hold an interface value each. -/
structure Vars (w : World) : Prop where
  syn : ∃ t p, w.cell? ⟨0, 0, none⟩ = some (.iface t p)
  rng : ∃ t p, w.cell? ⟨1, 0, none⟩ = some (.iface t p)

set_option maxHeartbeats 400000 in
theorem new_any (s : ByteArray) (w : World) :
    Calls Tryd.prog 10 #[.string s] w fun e w' => (∃ N, e = .returned (.iface 34 (.pointer (some N)))) ∧ Below w.heap.size w w' := by
  go_enter Tryd.func10, Tryd.ntmps10
  go_wp2
  go_ret
  exact ⟨⟨_, rfl⟩, (Below.refl _ _).alloc (Nat.le_refl _) _⟩

set_option maxHeartbeats 400000 in
theorem decode_some (l : List UInt8) (a : Option Addr) (len cap : Nat) (w : World) (hn : l.length ≤ 1048577) (v : Int) (hv : dec l = some v)
    (hconv : (convert 22 9 (.slice a len cap)).run Tryd.prog w = .ok (.string (str l)) w) :
    Calls Tryd.prog 7 #[.slice a len cap] w fun e w' => e = .returned (.tuple #[.int .i64 v, .nilIface]) ∧ Below w.heap.size w w' := by
  have hp : Lib.parseIntB 64 (str l).data.toList = .ok v := by rw [str_list]; exact (parse_ok l v).2 hv
  have hz : (str l).size ≤ 9223372036854775806 := by rw [str_size]; omega
  have hP : ∀ wx, Calls Tryd.prog 9 #[.string (str l), .int .i64 10, .int .i64 64] wx fun e w' => e = .returned (.tuple #[.int .i64 v, .nilIface]) ∧ (w' = wx ∨ ∃ t, w' = Lib.bytesWorld wx 5 t) := fun wx => Any.strconv_ParseInt_10_at64_ok Tryd.laysC174 (str l) hz v hp wx
  clear hp hz hv
  go_enter Tryd.func7, Tryd.ntmps7
  go_wp2_with (go_at_call 9; refine (hP _).mono ?_; rintro e w' ⟨rfl, hw⟩)
  go_ret2
  refine ⟨rfl, ?_⟩
  rcases hw with rfl | ⟨t, rfl⟩
  · exact Below.refl _ _
  · exact Lib.bytesWorld_below _ _ _

set_option maxHeartbeats 400000 in
theorem decode_none (l : List UInt8) (a : Option Addr) (len cap : Nat) (w : World) (hn : l.length ≤ 1048577) (hv : dec l = none) (hV : Vars w)
    (hconv : (convert 22 9 (.slice a len cap)).run Tryd.prog w = .ok (.string (str l)) w) :
    Calls Tryd.prog 7 #[.slice a len cap] w fun e w' => (∃ t p, e = .returned (.tuple #[.int .i64 0, .iface t p])) ∧ Below w.heap.size w w' := by
  have hz : (str l).size ≤ 281474976710656 := by rw [str_size]; omega
  obtain ⟨⟨t1, p1, h1⟩, ⟨t2, p2, h2⟩⟩ := hV
  have hP : Calls Tryd.prog 9 #[.string (str l), .int .i64 10, .int .i64 64] w fun e w' => (∃ n N, e = .returned (.tuple #[.int .i64 n, .iface 42 (.pointer (some ⟨N, 0, none⟩))])) ∧ Below w.heap.size w w' := by
    rcases hp : Lib.parseIntB 64 (str l).data.toList with v | _ | _
    · rw [str_list] at hp
      rw [(parse_ok l v).1 hp] at hv
      cases hv
    · exact (Any.strconv_ParseInt_10_at64_syntax Tryd.laysC174 (str l) hz hp (.iface t1 p1) w h1 (Or.inr ⟨t1, p1, rfl⟩)).mono fun e w' ⟨N, he, _, _, hb⟩ => ⟨⟨_, N, he⟩, hb⟩
    · exact (Any.strconv_ParseInt_10_at64_range Tryd.laysC174 (str l) hz hp (.iface t2 p2) w h2 (Or.inr ⟨t2, p2, rfl⟩)).mono fun e w' ⟨N, he, _, _, hb⟩ => ⟨⟨_, N, he⟩, hb⟩
  clear hz hv
  go_enter Tryd.func7, Tryd.ntmps7
  go_wp2_with (first | (go_at_call 9; refine hP.mono ?_; rintro e w' ⟨⟨n, N, rfl⟩, hb⟩) | (go_at_call 10; refine (new_any _ _).mono ?_; rintro e w2 ⟨⟨N2, rfl⟩, hb2⟩))
  go_ret2
  exact ⟨⟨_, _, rfl⟩, hb.trans (hb2.mono hb.size)⟩
end Go.Proofs.Qxb6628219aDoor
