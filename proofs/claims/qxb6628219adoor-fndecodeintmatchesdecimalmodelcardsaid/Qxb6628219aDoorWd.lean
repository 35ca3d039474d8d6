import Derived.Test.Qxb6628219aDoorWc
namespace Go.Proofs.Qxb6628219aDoor
open Go.RowKit
open Plain

theorem bytes5_long (a : Option Addr) (len cap : Nat) (w : World) (h : 1048576 < len) (hm : len ≤ 9223372036854775807) : Calls Tryd.prog 5 #[.slice a len cap] w fun e w' => e = .returned (.bool false) ∧ w = w' := by
  go_enter Tryd.func5, Tryd.ntmps5
  go_wp2
  go_ret
  exact ⟨rfl, rfl⟩
theorem bytes5_short (a : Option Addr) (len cap : Nat) (w : World) (h : len ≤ 1048576) : Calls Tryd.prog 5 #[.slice a len cap] w fun e w' => e = .returned (.bool true) ∧ w = w' := by
  go_enter Tryd.func5, Tryd.ntmps5
  go_wp2
  go_ret
  exact ⟨rfl, rfl⟩

/-- The law's argument: nil, or a slice that holds the bytes l. -/
def Arg (l : List UInt8) (v : Value) (w : World) : Prop :=
  (l = [] ∧ v = .slice none 0 0) ∨ ∃ a cap, v = .slice (some a) l.length cap ∧ ∀ k, k < l.length → w.cell? (a.add k) = some (.int .u8 (fb l k))

theorem law3_long (l : List UInt8) (a : Option Addr) (cap : Nat) (w : World) (h : 1048576 < l.length) (hm : l.length ≤ 9223372036854775807) :
    Calls Tryd.prog 3 #[.slice a l.length cap] w fun e w' => e = .returned (.bool true) ∧ Below w.heap.size w w' := by
  go_enter Tryd.func3, Tryd.ntmps3
  go_wp2_with (go_at_call 5; refine (bytes5_long _ _ _ _ h hm).mono ?_; rintro e w' ⟨rfl, rfl⟩)
  go_ret
  exact ⟨rfl, Below.refl _ _⟩

set_option maxHeartbeats 400000 in
set_option maxRecDepth 100000 in
theorem law3_short (l : List UInt8) (v : Value) (w : World) (hA : Arg l v w) (h : l.length ≤ 1048576) (hV : Vars w) (h2 : 2 ≤ w.heap.size) :
    Calls Tryd.prog 3 #[v] w fun e w' => e = .returned (.bool true) ∧ Below w.heap.size w w' := by
  have hneq := fun (a : Option Addr) (n c : Nat) (wx : World) => run_neq_slice_nil_any (P := Tryd.prog) wx 22 5 a n c 0 0 Tryd.underlying22
  obtain ⟨a, len, cap, rfl, hlen⟩ : ∃ a len cap, v = .slice a len cap ∧ len = l.length := by
    rcases hA with ⟨rfl, rfl⟩ | ⟨a, cap, rfl, _⟩
    · exact ⟨_, _, _, rfl, rfl⟩
    · exact ⟨_, _, _, rfl, rfl⟩
  subst hlen
  go_enter Tryd.func3, Tryd.ntmps3
  go_upto_if 15 with (go_at_call 5; refine (bytes5_short _ _ _ _ h).mono ?_; rintro e w' ⟨rfl, rfl⟩)
  go_cut [0] (fun v0 wx => Held l v0 wx ∧ Below w.heap.size w wx)
  case first =>
    rcases hA with ⟨rfl, hv⟩ | ⟨a', cap', hv, hc⟩
    · injection hv with e1 e2 e3
      subst e1 e3
      go_wp2
      go_meet
      case rel => exact ⟨Or.inl ⟨rfl, rfl⟩, Below.refl _ _⟩
    · injection hv with e1 e2 e3
      subst e1 e3
      have hmk := make_any l.length w (by omega)
      have hcp := fun ty => copy_any l a' cap w ty hc
      go_wp2
      go_meet
      case rel => exact ⟨Held.copied l w, (Below.refl _ _).alloc (Nat.le_refl _) _⟩
  case rest =>
    obtain ⟨hH, hb⟩ := hcut
    have hV1 := hV.below hb h2
    have hz1 : 2 ≤ wc.heap.size := Nat.le_trans h2 hb.size
    clear hneq hA hV
    go_wp2_with fail
    refine (model_held hH (by omega)).mono ?_
    rintro e w1 ⟨hb1, hs1⟩
    have hH2 := hH.below hb1
    have hV2 := hV1.below hb1 hz1
    have hb01 := hb.trans (hb1.mono hb.size)
    clear hH hV1 hz1 hb1 hb
    rcases hs1 with ⟨hd, rfl⟩ | ⟨n, hd, rfl⟩
    · have HD : Hid (dec l = none) := hd
      clear hd
      go_wp2_with fail
      refine (decode_held hH2 (by omega) hV2).mono ?_
      rintro e w2 ⟨hb2, hs2⟩
      have hb02 := hb01.trans (hb2.mono hb01.size)
      rcases hs2 with ⟨hd2, t, p, rfl⟩ | ⟨m, hd2, rfl⟩
      · clear hd2 hH2 hV2 hb2 hb01
        go_wp2
        go_ret
        exact ⟨rfl, hb02⟩
      · rw [HD.out] at hd2; cases hd2
    · have HD : Hid (dec l = some n) := hd
      clear hd
      go_wp2_with fail
      refine (decode_held hH2 (by omega) hV2).mono ?_
      rintro e w2 ⟨hb2, hs2⟩
      have hb02 := hb01.trans (hb2.mono hb01.size)
      rcases hs2 with ⟨hd2, t, p, rfl⟩ | ⟨m, hd2, rfl⟩
      · rw [HD.out] at hd2; cases hd2
      · rw [HD.out] at hd2
        injection hd2 with hd2
        subst hd2
        clear hH2 hV2 hb2 hb01
        go_wp2
        go_ret
        exact ⟨by simp, hb02⟩

theorem law3 (l : List UInt8) (v : Value) (w : World) (hA : Arg l v w) (hm : l.length ≤ 9223372036854775807) (hV : Vars w) (h2 : 2 ≤ w.heap.size) :
    Calls Tryd.prog 3 #[v] w fun e w' => e = .returned (.bool true) ∧ Below w.heap.size w w' := by
  by_cases h : l.length ≤ 1048576
  · exact law3_short l v w hA h hV h2
  · rcases hA with ⟨rfl, -⟩ | ⟨a, cap, rfl, -⟩
    · exact absurd (Nat.zero_le _) h
    · exact law3_long l _ cap w (by omega) hm

end Go.Proofs.Qxb6628219aDoor
