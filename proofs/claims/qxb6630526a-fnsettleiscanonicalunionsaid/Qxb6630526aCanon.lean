import Derived.Test.Qxb6630526aFr
import Derived.Test.Qxb6630526aWl
namespace Go.Proofs.Qxb6630526a
open Go.ChangeShapes Go.WideShapes Go.ChangeAt Go.RowKit

/-- A row of keys that was read: its cells as the walks hold them. -/
theorem strow_of_cells {W : World} {ss : List ByteArray} {x : Addr} {n c : Nat} (hn : (ss.take n).length ≤ c) (h : ∀ (k : Nat) (y : ByteArray), (ss.take n)[k]? = some y → W.cell? (x.add k) = some (.string y)) : StRow (ss.take n) (some x) c W := fun hlen => by
  obtain ⟨b, off, spot⟩ := x
  have h0 := h 0 _ (List.getElem?_eq_getElem hlen)
  have hs : spot = none := by simpa [Addr.add] using World.cell?_spot h0
  subst hs
  refine ⟨b, off, rfl, by have := lt_of_cell h0; simpa [Addr.add] using this, hn, fun k y hy => ?_⟩
  have h1 := h k y hy
  rw [Go.WideShapes.add_plain] at h1
  exact h1

/-- The keys that came in. -/
theorem keys_in {H : Type} {enc : TypeId × Value → H} {W : World} {base : Nat} {sp : Nat → Bool} {held : Bool} {fuel : Nat} {v : Value} {x : DataW H × List MemPlace} (h : DataW.trod enc Try.prog W base sp held fuel 22 v.cells.toList = some x) (hv : ∃ a l c, v = .slice a l c) :
    ∃ (ks : List ByteArray) (n : Nat) (a : Option Addr) (c : Nat), v = .slice a n c ∧ StRow ks a c W ∧ (a = none → n = 0 ∧ c = 0) ∧ ks.length = n ∧ (∀ (k : Nat) (x : ByteArray), ks[k]? = some x → x.size ≤ maxLen) ∧ n ≤ maxLen := by
  obtain ⟨a0, l0, c0, rfl⟩ := hv
  rcases open_strings Try.underlying22 Try.underlying9 (by kernel_rfl) h with ⟨hcs, _⟩ | ⟨a, l, c, ss, hcs, _, hl, hm, hz, _, hcell, hws⟩
  · simp [Value.cells] at hcs
    obtain ⟨rfl, rfl, rfl⟩ := hcs
    exact ⟨[], 0, none, 0, rfl, fun h => absurd h (Nat.lt_irrefl _), fun _ => ⟨rfl, rfl⟩, rfl, fun k x hx => (by cases hx), Nat.zero_le _⟩
  · simp [Value.cells] at hcs
    obtain ⟨rfl, rfl, rfl⟩ := hcs
    have hle : l0 ≤ ss.length := by rw [hz]; split <;> omega
    have hlen : (ss.take l0).length = l0 := by rw [List.length_take]; omega
    refine ⟨ss.take l0, l0, some a, c0, rfl, strow_of_cells (by rw [hlen]; exact hl) (fun k y hy => ?_), fun h => (by cases h), hlen, fun k y hy => ?_, Nat.le_trans hl hm⟩
    · have hk : k < l0 := by have := (List.getElem?_eq_some_iff.1 hy).1; omega
      rw [List.getElem?_take, if_pos hk] at hy
      rw [hcell k (by omega), List.getD_eq_getElem?_getD, hy]
      rfl
    · have hk : k < l0 := by have := (List.getElem?_eq_some_iff.1 hy).1; omega
      rw [List.getElem?_take, if_pos hk] at hy
      exact hws y (List.mem_of_getElem? hy)

set_option maxRecDepth 100000 in
theorem fnSettleIsCanonical_lifted (os : Os) (started : os.Started) (H : Type) (enc : TypeId × Value → H) :
    ReturnsInHanded {} Try.checked os 3 .any (Rows.fnSettleIsCanonicalUnionSpec.pre6 enc Try.prog Try.f3 Rows.fnSettleIsCanonicalUnionRow.domain false) (Rows.fnSettleIsCanonicalUnionSpec.post enc Try.prog Try.f3 false true false false) := by
  refine returnsInHanded_of_change (C := Try.checked) own started (by kernel_rfl) Try.func3
    (ChangeSpec.witness6 (enc := enc) (C := Try.checked) false ⟨#[], #[.slice none 0 0, .slice none 0 0], []⟩ 8 (by kernel_rfl) (by kernel_rfl) (by kernel_rfl) (by kernel_rfl)) ?_
  intro W base args ds gs before hval0 hW hcnd _
  have hval : ∀ (j : Nat) t v, Try.f3.params[j]? = some t → args[j]? = some v → Value.okWide Try.prog W .any base t v := hval0
  have hW' := hW
  obtain ⟨p, q, hA0, hV, rfl, hfz, hnd⟩ := hW
  have hA : DataW.TrodAll enc Try.prog W 0 (fun _ => true) true Try.f3.params.toList args.toList ds p := hA0
  rw [Try.params3] at hA hval
  obtain ⟨v0, vs0, d0, ds0, p0, q0, hargs, rfl, rfl, h0, r0⟩ := trodAll_cons hA
  obtain ⟨v1, vs1, d1, ds1, p1, q1, rfl, rfl, rfl, h1, r1⟩ := trodAll_cons r0
  obtain ⟨rfl, rfl, rfl⟩ := trodAll_nil r1
  obtain rfl : args = #[v0, v1] := by cases args; simp_all
  obtain ⟨rfl, rfl⟩ := trodVars_none hV
  have k0 := h0
  have k1 := h1
  have lt0 : ∀ x ∈ p0, x.block < W.heap.size := by obtain ⟨m, hm⟩ := k0; exact DataW.trod_lt m _ _ _ hm
  have lt1 : ∀ x ∈ p1, x.block < W.heap.size := by obtain ⟨m, hm⟩ := k1; exact DataW.trod_lt m _ _ _ hm
  obtain ⟨ks, nk, ka, kc, rfl, hK, hnil, hnk, hks, hnm⟩ : ∃ (ks : List ByteArray) (n : Nat) (a : Option Addr) (c : Nat), v0 = .slice a n c ∧ StRow ks a c W ∧ (a = none → n = 0 ∧ c = 0) ∧ ks.length = n ∧ (∀ (k : Nat) (x : ByteArray), ks[k]? = some x → x.size ≤ maxLen) ∧ n ≤ maxLen := by
    obtain ⟨fuel, hf⟩ := h0
    exact keys_in hf (okWide_slice Try.underlying22 (hval 0 22 v0 rfl rfl))
  obtain ⟨R, n, a, c, rfl, hR, hS, hn⟩ : ∃ (R : Nat → ByteArray × ByteArray) (n : Nat) (a : Option Addr) (c : Nat), v1 = .slice a n c ∧ Row2 R n a c W ∧ (∀ k, k < n → (R k).1.size ≤ maxLen ∧ (R k).2.size ≤ maxLen) ∧ n ≤ maxLen := by
    obtain ⟨fuel, hf⟩ := h1
    exact ranges_in hf (okWide_slice Try.underlying23 (hval 1 23 v1 rfl rfl))
  clear hA0 hval0
  refine (law3 ks ka kc nk R n a c W hK hnil hnk hks hnm hR hS hn).mono fun e W' hlaw => ?_
  obtain ⟨he, bel⟩ := hlaw
  subst he
  exact ⟨_, rfl, _, _, _, [], _, [], hW', trodAll_mk1 (shut_bool Try.underlying4 _), (trodAll_cons_mk (Below.trod laidOut (by kernel_rfl) (of_decide_eq_true (by kernel_rfl)) k0 bel lt0) (trodAll_cons_mk (Below.trod laidOut (by kernel_rfl) (of_decide_eq_true (by kernel_rfl)) k1 bel lt1) trodAll_mk0)), rfl, bel.frame _, fun h => by cases h⟩

/-- THE STATEMENT. -/
theorem fnSettleIsCanonicalUnion_holds : Rows.FnSettleIsCanonicalUnionSaid :=
  OpenClaim.holds_of_wide 3 Try.f3 rfl rfl rfl rfl rfl rfl rfl ⟨rfl, rfl, rfl, rfl, rfl⟩ rfl rfl rfl rfl rfl (by kernel_rfl) Try.func3 (by kernel_rfl)
    (of_decide_eq_true (by kernel_rfl)) (by unfold Func.isWrapper; rw [if_neg (of_decide_eq_false (by kernel_rfl))]; exact ⟨rfl, rfl⟩)
    (fun os started H enc _ => fnSettleIsCanonical_lifted os started H enc)
end Go.Proofs.Qxb6630526a
