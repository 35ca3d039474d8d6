import Derived.Test.Qxb6630526aWa
import Derived.Sort.Grow
namespace Go.Proofs.Qxb6630526a
open Go.RowKit
open Plain

/-- cmp.Compare at strings. -/
def cmpS (x y : ByteArray) : Int := if lts x y = true then -1 else if leqS x y = true then 0 else 1

theorem nan19 (x : ByteArray) (w : World) : Calls Try.prog 19 #[.string x] w fun e w' => e = .returned (.bool false) ∧ w = w' := by
  go_enter Try.func19, Try.ntmps19
  go_wp2
  go_ret
  exact ⟨by simp, rfl⟩

theorem ret_int {k : IntKind} {a b : Int} (h : a = b) : Ending.returned (.int k a) = .returned (.int k b) := by rw [h]

set_option maxHeartbeats 400000 in
theorem cmp16 (x y : ByteArray) (w : World) : Calls Try.prog 16 #[.string x, .string y] w fun e w' => e = .returned (.int .i64 (cmpS x y)) ∧ w = w' := by
  cases e1 : Op.bytesLess x.toList y.toList with
  | true =>
    have HC : Hid (cmpS x y = -1) := by show cmpS x y = -1; unfold cmpS lts; rw [e1]; rfl
    go_enter Try.func16, Try.ntmps16
    go_wp2_with (go_at_call 19; refine (nan19 _ _).mono ?_; rintro e w' ⟨rfl, rfl⟩)
    go_ret
    exact ⟨ret_int HC.out.symm, rfl⟩
  | false =>
    cases e2 : (x.toList == y.toList) with
    | true =>
      have HC : Hid (cmpS x y = 0) := by show cmpS x y = 0; unfold cmpS leqS lts; rw [e1, e2]; rfl
      go_enter Try.func16, Try.ntmps16
      go_wp2_with (go_at_call 19; refine (nan19 _ _).mono ?_; rintro e w' ⟨rfl, rfl⟩)
      go_ret
      exact ⟨ret_int HC.out.symm, rfl⟩
    | false =>
      have HC : Hid (cmpS x y = 1) := by show cmpS x y = 1; unfold cmpS leqS lts; rw [e1, e2]; rfl
      go_enter Try.func16, Try.ntmps16
      go_wp2_with (go_at_call 19; refine (nan19 _ _).mono ?_; rintro e w' ⟨rfl, rfl⟩)
      go_ret
      exact ⟨ret_int HC.out.symm, rfl⟩

set_option maxHeartbeats 400000 in
theorem closure15 (x y : ByteArray × ByteArray) (W : World) :
    Calls Try.prog 15 #[.agg #[.string x.1, .string x.2], .agg #[.string y.1, .string y.2]] W fun e w' => e = .returned (.int .i64 (cmpS x.1 y.1)) ∧ ∃ q os', w' = Sort.grow (W.drewN q) os' := by
  go_enter Try.func15, Try.ntmps15
  go_wp2_with (go_at_call 16; refine (cmp16 _ _ _).mono ?_; rintro e w' ⟨rfl, rfl⟩)
  go_ret
  exact ⟨rfl, 0, _, by rw [Sort.alloc_eq_grow, Sort.alloc_eq_grow, Sort.grow_grow]; rfl⟩

end Go.Proofs.Qxb6630526a
