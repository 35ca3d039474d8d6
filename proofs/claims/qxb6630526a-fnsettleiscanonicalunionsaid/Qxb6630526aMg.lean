import Derived.Test.Qxb6630526aWf
namespace Go.Proofs.Qxb6630526a
open Go.RowKit
open Plain

/-! ### Two sorted lists joined to one: no Go in sight -/

section
variable {α : Type} (key : α → ByteArray)
def leK (a b : α) : Prop := lts (key b) (key a) = false
def UpK (l : List α) : Prop := l.Pairwise (leK key)
structure Mg (L H O : List α) (i j : Nat) : Prop where
  perm : (O ++ (L.drop i ++ H.drop j)).Perm (L ++ H)
  up : UpK key O
  low : ∀ o ∈ O, ∀ x ∈ L.drop i ++ H.drop j, leK key o x
variable {key}

theorem leK_trans {a b c : α} (h1 : leK key a b) (h2 : leK key b c) : leK key a c := lts_ntrans (x := key c) (y := key b) (z := key a) h2 h1
theorem leK_of {a b : α} (h : lts (key a) (key b) = true) : leK key a b := by
  show lts (key b) (key a) = false
  cases e : lts (key b) (key a) with
  | false => rfl
  | true => have := lts_trans h e; rw [lts_irrefl] at this; cases this
theorem leK_refl (a : α) : leK key a a := lts_irrefl _

theorem drop_some {l : List α} {i : Nat} {x : α} (h : l[i]? = some x) : l.drop i = x :: l.drop (i + 1) := by
  obtain ⟨hi, e⟩ := List.getElem?_eq_some_iff.1 h
  rw [List.drop_eq_getElem_cons hi, e]

theorem up_drop {l : List α} (h : UpK key l) {i : Nat} {x : α} (hx : l[i]? = some x) : ∀ y ∈ l.drop i, leK key x y := by
  have h1 : UpK key (l.drop i) := List.Pairwise.drop h
  rw [drop_some hx] at h1 ⊢
  intro y hy
  rcases List.mem_cons.1 hy with rfl | hy
  · exact leK_refl _
  · exact (List.pairwise_cons.1 h1).1 y hy

theorem Mg.start (L H : List α) : Mg key L H [] 0 0 := ⟨by rw [List.drop_zero, List.drop_zero, List.nil_append], List.Pairwise.nil, fun o ho => absurd ho List.not_mem_nil⟩

theorem up_snoc {O : List α} {x : α} (h : UpK key O) (hx : ∀ o ∈ O, leK key o x) : UpK key (O ++ [x]) := by
  refine List.pairwise_append.2 ⟨h, List.pairwise_singleton _ _, fun a ha b hb => ?_⟩
  rw [List.mem_singleton.1 hb]
  exact hx a ha

theorem Mg.left {L H O : List α} {i j : Nat} (h : Mg key L H O i j) {x : α} (hx : L[i]? = some x) (hL : UpK key L) (hH : ∀ y ∈ H.drop j, leK key x y) : Mg key L H (O ++ [x]) (i + 1) j := by
  have hp := h.perm
  have hlow := h.low
  have hup := up_drop hL hx
  rw [drop_some hx] at hp hlow hup
  refine ⟨?_, up_snoc h.up fun o ho => hlow o ho x (List.mem_append_left _ (List.mem_cons_self)), fun o ho y hy => ?_⟩
  · rw [List.append_assoc]; exact hp
  · rcases List.mem_append.1 ho with ho | ho
    · refine hlow o ho y ?_
      rcases List.mem_append.1 hy with hy | hy
      · exact List.mem_append_left _ (List.mem_cons_of_mem _ hy)
      · exact List.mem_append_right _ hy
    · rw [List.mem_singleton.1 ho]
      rcases List.mem_append.1 hy with hy | hy
      · exact hup y (List.mem_cons_of_mem _ hy)
      · exact hH y hy

theorem Mg.right {L H O : List α} {i j : Nat} (h : Mg key L H O i j) {y : α} (hy : H[j]? = some y) (hH : UpK key H) (hL : ∀ x ∈ L.drop i, leK key y x) : Mg key L H (O ++ [y]) i (j + 1) := by
  have hp := h.perm
  have hlow := h.low
  have hup := up_drop hH hy
  rw [drop_some hy] at hp hlow hup
  refine ⟨?_, up_snoc h.up fun o ho => hlow o ho y (List.mem_append_right _ (List.mem_cons_self)), fun o ho x hx => ?_⟩
  · refine List.Perm.trans ?_ hp
    rw [List.append_assoc]
    refine List.Perm.append_left O ?_
    rw [List.singleton_append]
    exact (List.perm_middle).symm
  · rcases List.mem_append.1 ho with ho | ho
    · refine hlow o ho x ?_
      rcases List.mem_append.1 hx with hx | hx
      · exact List.mem_append_left _ hx
      · exact List.mem_append_right _ (List.mem_cons_of_mem _ hx)
    · rw [List.mem_singleton.1 ho]
      rcases List.mem_append.1 hx with hx | hx
      · exact hL x hx
      · exact hup x (List.mem_cons_of_mem _ hx)

theorem Mg.fin {L H O : List α} {i j : Nat} (h : Mg key L H O i j) (hi : L.length ≤ i) (hj : H.length ≤ j) : O.Perm (L ++ H) ∧ UpK key O := by
  have hp := h.perm
  rw [List.drop_eq_nil_of_le hi, List.drop_eq_nil_of_le hj, List.append_nil, List.append_nil] at hp
  exact ⟨hp, h.up⟩

theorem Mg.len {L H O : List α} {i j : Nat} (h : Mg key L H O i j) (hi : i ≤ L.length) (hj : j ≤ H.length) : O.length = i + j := by
  have h1 := h.perm.length_eq
  rw [List.length_append, List.length_append, List.length_append, List.length_drop, List.length_drop] at h1
  omega
theorem drop_end {l : List α} {i : Nat} (h : l.length ≤ i) : ∀ x ∈ l.drop i, ∀ p : Prop, p := fun x hx => by rw [List.drop_eq_nil_of_le h] at hx; exact absurd hx List.not_mem_nil
end

/-! ### A row of the call's own, cell by cell -/

structure Flat (C : Nat → Value) (N Q : Nat) (w : World) : Prop where
  size : Q < w.heap.size
  cell : ∀ k, k < N → w.cell? ⟨Q, k, none⟩ = some (C k)
  soft : ∀ k, w.frozen? ⟨Q, k, none⟩ = false

def updV (C : Nat → Value) (k : Nat) (v : Value) (j : Nat) : Value := if j = k then v else C j
theorem updV_same (C : Nat → Value) (k : Nat) (v : Value) : updV C k v k = v := by unfold updV; rw [if_pos rfl]
theorem updV_other (C : Nat → Value) (k : Nat) (v : Value) (j : Nat) (h : j ≠ k) : updV C k v j = C j := by unfold updV; rw [if_neg h]

theorem Flat.start (C : Array Value) (t : Nat) (w : World) : Flat (fun k => C[k]?.getD (.bool false)) C.size w.heap.size (w.alloc (.cells C t)) :=
  ⟨by simp, fun k hk => by rw [World.cell?_alloc_new, Array.getElem?_eq_getElem hk]; rfl, fun k => World.frozen?_alloc_at _ _ _ _ rfl⟩
theorem Flat.keep {C : Nat → Value} {N Q : Nat} {w w' : World} (h : Flat C N Q w) (hb : Below w.heap.size w w') : Flat C N Q w' :=
  ⟨Nat.lt_of_lt_of_le h.size hb.size, fun k hk => by rw [hb.cell (p := ⟨Q, k, none⟩) h.size]; exact h.cell k hk, fun k => by rw [hb.frozen (p := ⟨Q, k, none⟩) h.size]; exact h.soft k⟩
theorem Flat.put {C : Nat → Value} {N Q : Nat} {w : World} (h : Flat C N Q w) (k : Nat) (hk : k < N) (v : Value) : Flat (updV C k v) N Q (w.setCell ⟨Q, k, none⟩ v) := by
  refine ⟨by simpa [World.setCell] using h.size, fun j hj => ?_, fun j => by rw [World.frozen?_setCell]; exact h.soft j⟩
  by_cases e : j = k
  · subst e; rw [updV_same]; exact World.cell?_setCell_same _ _ _ (h.cell j hj)
  · rw [updV_other _ _ _ _ e, World.cell?_setCell_other (h := addr_ne Q _ _ e)]; exact h.cell j hj
theorem Flat.alloc {C : Nat → Value} {N Q : Nat} {w : World} (h : Flat C N Q w) (o : Obj) : Flat C N Q (w.alloc o) := h.keep ((Below.refl _ _).alloc (Nat.le_refl _) o)
theorem Flat.drewN {C : Nat → Value} {N Q : Nat} {w : World} (h : Flat C N Q w) (m : Nat) : Flat C N Q (w.drewN m) := h.keep (drewN_below (Below.refl _ _) m)

/-- 'make([]E, 0, n)'. -/
theorem make0 (t e : TypeId) (z : Value) (s y : Nat) (ht : Try.prog.underlying t = some (.slice e)) (hs : (Try.prog.info? e).map (·.size) = some s) (hy : (Try.prog.info? e).map (·.bytes) = some y) (hz : (Try.prog.info? e).bind (·.zero) = some z)
    (n : Nat) (w : World) (hn : n ≤ 262144) (hyb : y ≤ 65536) :
    (Instr.makeSlice t (.int .i64 0) (.int .i64 (n : Int))).run Try.prog w = .ok (.slice (some ⟨w.heap.size, 0, none⟩) 0 n) (w.alloc (.cells (madeCells z.cells (n * s)) e)) := by
  obtain ⟨i, hi, h1⟩ := Option.map_eq_some_iff.1 hs
  rw [hi] at hy hz
  have h2' : i.bytes = y := by simpa using hy
  have h3' : i.zero = some z := by simpa using hz
  have hb : (i.bytes : Int) * (n : Int) ≤ 281474976710656 := by
    have : i.bytes * n ≤ 65536 * 262144 := Nat.mul_le_mul (by omega) hn
    omega
  have h := run_make (P := Try.prog) w t e i z ht hi h3' .i64 .i64 0 (n : Int) (by omega) (by omega) hb (by omega)
  rw [h1] at h
  simpa using h
theorem made_size (z : Array Value) (n : Nat) : (madeCells z n).size = n := by unfold madeCells; simp

/-- Events in a row: two cells each. -/
def EvRow (E : List (ByteArray × Int)) (a : Option Addr) (c : Nat) (w : World) : Prop :=
  0 < E.length → ∃ b off, a = some ⟨b, off, none⟩ ∧ b < w.heap.size ∧ E.length ≤ c ∧ ∀ k e, E[k]? = some e → w.cell? ⟨b, off + k * 2, none⟩ = some (.string e.1) ∧ w.cell? ⟨b, off + k * 2 + 1, none⟩ = some (.int .i64 e.2)
theorem EvRow.keep {E : List (ByteArray × Int)} {a : Option Addr} {c : Nat} {w w' : World} (h : EvRow E a c w) (hb : Below w.heap.size w w') : EvRow E a c w' := fun hn => by
  obtain ⟨b, off, rfl, hlt, hc, hk⟩ := h hn
  exact ⟨b, off, rfl, Nat.lt_of_lt_of_le hlt hb.size, hc, fun k e he => by rw [hb.cell (p := ⟨b, off + k * 2, none⟩) hlt, hb.cell (p := ⟨b, off + k * 2 + 1, none⟩) hlt]; exact hk k e he⟩

/-- What is laid so far of the events. -/
def OutE (O : List (ByteArray × Int)) (C : Nat → Value) : Prop := ∀ k e, O[k]? = some e → C (k * 2) = .string e.1 ∧ C (k * 2 + 1) = .int .i64 e.2
theorem OutE.snoc {O : List (ByteArray × Int)} {C : Nat → Value} (h : OutE O C) {p : Nat} (hp : O.length = p) (e : ByteArray × Int) : OutE (O ++ [e]) (updV (updV C (p * 2) (.string e.1)) (p * 2 + 1) (.int .i64 e.2)) := by
  intro k x hx
  by_cases hk : k < O.length
  · rw [List.getElem?_append_left hk] at hx
    rw [updV_other _ _ _ _ (by omega), updV_other _ _ _ _ (by omega), updV_other _ _ _ _ (by omega), updV_other _ _ _ _ (by omega)]
    exact h k x hx
  · rw [List.getElem?_append_right (by omega)] at hx
    have hk2 : k = p := by
      have : k - O.length < 1 := by
        rcases Nat.lt_or_ge (k - O.length) 1 with h1 | h1
        · exact h1
        · rw [List.getElem?_eq_none (by simpa using h1)] at hx; cases hx
      omega
    rw [hp, hk2, Nat.sub_self] at hx
    have hx' : e = x := Option.some.inj hx
    rw [hk2, ← hx', updV_other _ _ _ _ (by omega), updV_same, updV_same]
    exact ⟨rfl, rfl⟩

/-- Strings in a row. -/
def StRow (E : List ByteArray) (a : Option Addr) (c : Nat) (w : World) : Prop :=
  0 < E.length → ∃ b off, a = some ⟨b, off, none⟩ ∧ b < w.heap.size ∧ E.length ≤ c ∧ ∀ k e, E[k]? = some e → w.cell? ⟨b, off + k, none⟩ = some (.string e)
theorem StRow.keep {E : List ByteArray} {a : Option Addr} {c : Nat} {w w' : World} (h : StRow E a c w) (hb : Below w.heap.size w w') : StRow E a c w' := fun hn => by
  obtain ⟨b, off, rfl, hlt, hc, hk⟩ := h hn
  exact ⟨b, off, rfl, Nat.lt_of_lt_of_le hlt hb.size, hc, fun k e he => by rw [hb.cell (p := ⟨b, off + k, none⟩) hlt]; exact hk k e he⟩
def OutS (O : List ByteArray) (C : Nat → Value) : Prop := ∀ k e, O[k]? = some e → C k = .string e
theorem OutS.snoc {O : List ByteArray} {C : Nat → Value} (h : OutS O C) {p : Nat} (hp : O.length = p) (e : ByteArray) : OutS (O ++ [e]) (updV C p (.string e)) := by
  intro k x hx
  by_cases hk : k < O.length
  · rw [List.getElem?_append_left hk] at hx
    rw [updV_other _ _ _ _ (by omega)]
    exact h k x hx
  · rw [List.getElem?_append_right (by omega)] at hx
    have hk2 : k = p := by
      have : k - O.length < 1 := by
        rcases Nat.lt_or_ge (k - O.length) 1 with h1 | h1
        · exact h1
        · rw [List.getElem?_eq_none (by simpa using h1)] at hx; cases hx
      omega
    rw [hp, hk2, Nat.sub_self] at hx
    rw [hk2, updV_same, Option.some.inj hx]

end Go.Proofs.Qxb6630526a
