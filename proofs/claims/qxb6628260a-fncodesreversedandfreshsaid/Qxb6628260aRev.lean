import Derived.Test.Qxb6628260aFr
namespace Go.Proofs.Qxb6628260a
open Go.ChangeShapes Go.WideShapes Go.ChangeAt Go.RowKit

set_option maxRecDepth 100000 in
theorem fnCodesReversedAndFresh_lifted (os : Os) (started : os.Started) (H : Type) (enc : TypeId × Value → H) :
    ReturnsInHanded {} Try.checked os 4 .any (Rows.fnCodesReversedAndFreshSpec.pre6 enc Try.prog Try.f4 Rows.fnCodesReversedAndFreshRow.domain false) (Rows.fnCodesReversedAndFreshSpec.post enc Try.prog Try.f4 false true false false) := by
  refine returnsInHanded_of_change (C := Try.checked) own started (by kernel_rfl) Try.func4
    (ChangeSpec.witness6 (enc := enc) (C := Try.checked) false ⟨#[], #[.slice none 0 0, .slice none 0 0], []⟩ 8 (by kernel_rfl) (by kernel_rfl) (by kernel_rfl) (by kernel_rfl)) ?_
  intro W base args ds gs before hval0 hW hcnd _
  have hval : ∀ (j : Nat) t v, Try.f4.params[j]? = some t → args[j]? = some v → Value.okWide Try.prog W .any base t v := hval0
  have hW' := hW
  obtain ⟨p, q, hA0, hV, rfl, hfz, hnd⟩ := hW
  have hA : DataW.TrodAll enc Try.prog W 0 (fun _ => true) true Try.f4.params.toList args.toList ds p := hA0
  rw [Try.params4] at hA hval
  obtain ⟨v0, vs0, d0, ds0, p0, q0, hargs, rfl, rfl, h0, r0⟩ := trodAll_cons hA
  obtain ⟨v1, vs1, d1, ds1, p1, q1, rfl, rfl, rfl, h1, r1⟩ := trodAll_cons r0
  obtain ⟨rfl, rfl, rfl⟩ := trodAll_nil r1
  obtain rfl : args = #[v0, v1] := by cases args; simp_all
  obtain ⟨rfl, rfl⟩ := trodVars_none hV
  have k0 := h0
  have k1 := h1
  have lt0 : ∀ x ∈ p0, x.block < W.heap.size := by obtain ⟨m, hm⟩ := k0; exact DataW.trod_lt m _ _ _ hm
  have lt1 : ∀ x ∈ p1, x.block < W.heap.size := by obtain ⟨m, hm⟩ := k1; exact DataW.trod_lt m _ _ _ hm
  obtain ⟨S, n, hS, hSs, hn⟩ : ∃ (S : Nat → ByteArray) (n : Nat), Arg (str S) n v0 W ∧ (∀ k, k < n → (S k).size ≤ maxLen) ∧ n ≤ maxLen := by
    obtain ⟨fuel, hf⟩ := h0
    exact strings_in (fun _ => rfl) hf (okWide_slice Try.underlying22 (hval 0 22 v0 rfl rfl))
  obtain ⟨Z, m, hZ, hm⟩ : ∃ (Z : Nat → Int) (m : Nat), Arg (num Z) m v1 W ∧ m ≤ maxLen := by
    obtain ⟨fuel, hf⟩ := h1
    exact ints_in (fun _ => rfl) hf (okWide_slice Try.underlying23 (hval 1 23 v1 rfl rfl))
  clear hA0 hval0
  refine (rev4 S n v0 Z m v1 W hS hZ hSs hn hm).mono fun e W' hlaw => ?_
  obtain ⟨he, bel⟩ := hlaw
  subst he
  exact ⟨_, rfl, _, _, _, [], _, [], hW', trodAll_mk1 (shut_bool Try.underlying4 _), (trodAll_cons_mk (Below.trod laidOut (by kernel_rfl) (of_decide_eq_true (by kernel_rfl)) k0 bel lt0) (trodAll_cons_mk (Below.trod laidOut (by kernel_rfl) (of_decide_eq_true (by kernel_rfl)) k1 bel lt1) trodAll_mk0)), rfl, bel.frame _, fun h => by cases h⟩

/-- THE STATEMENT. -/
theorem fnCodesReversedAndFresh_holds : Rows.FnCodesReversedAndFreshSaid :=
  OpenClaim.holds_of_wide 4 Try.f4 rfl rfl rfl rfl rfl rfl rfl ⟨rfl, rfl, rfl, rfl, rfl⟩ rfl rfl rfl rfl rfl (by kernel_rfl) Try.func4 (by kernel_rfl)
    (of_decide_eq_true (by kernel_rfl)) (by unfold Func.isWrapper; rw [if_neg (of_decide_eq_false (by kernel_rfl))]; exact ⟨rfl, rfl⟩)
    (fun os started H enc _ => fnCodesReversedAndFresh_lifted os started H enc)
end Go.Proofs.Qxb6628260a
