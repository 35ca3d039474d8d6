import Derived.Test.Qxb6630526aWk
namespace Go.Proofs.Qxb6630526a
open Go.RowKit
open Plain

/-! ### How many different keys there are -/

/-- The law's own count: those that are not as the one ahead of them. -/
def cntUp : Option ByteArray → List ByteArray → Nat
  | _, [] => 0
  | p, x :: r => (if p = some x then 0 else 1) + cntUp (some x) r
/-- Those themselves. -/
def dd : Option ByteArray → List ByteArray → List ByteArray
  | _, [] => []
  | p, x :: r => if p = some x then dd (some x) r else x :: dd (some x) r
theorem cnt_dd : ∀ (l : List ByteArray) (p : Option ByteArray), cntUp p l = (dd p l).length := by
  intro l
  induction l with
  | nil => intro p; rfl
  | cons x r ih =>
    intro p
    rw [cntUp, dd, ih (some x)]
    by_cases h : p = some x
    · rw [if_pos h, if_pos h, Nat.zero_add]
    · rw [if_neg h, if_neg h, List.length_cons, Nat.add_comm]

theorem dd_some : ∀ (l : List ByteArray) (p : ByteArray), UpK id l → (∀ y ∈ l, lts y p = false) → (dd (some p) l).Nodup ∧ (∀ y ∈ dd (some p) l, lts p y = true) ∧ ∀ y, (y ∈ dd (some p) l ∨ y = p) ↔ (y ∈ l ∨ y = p) := by
  intro l
  induction l with
  | nil => intro p _ _; exact ⟨List.nodup_nil, fun y hy => absurd hy List.not_mem_nil, fun y => Iff.rfl⟩
  | cons x r ih =>
    intro p hu hp
    obtain ⟨h1, h2⟩ := List.pairwise_cons.1 hu
    obtain ⟨i1, i2, i3⟩ := ih x h2 h1
    rw [dd]
    by_cases h : (some p : Option ByteArray) = some x
    · have e : p = x := Option.some.inj h
      subst e
      rw [if_pos h]
      refine ⟨i1, i2, fun y => ?_⟩
      rw [i3 y, List.mem_cons]
      constructor
      · rintro (a | a)
        · exact Or.inl (Or.inr a)
        · exact Or.inr a
      · rintro ((a | a) | a)
        · exact Or.inr a
        · exact Or.inl a
        · exact Or.inr a
    · rw [if_neg h]
      have hx := hp x (List.mem_cons_self)
      have hpx : lts p x = true := by
        cases e : lts p x with
        | true => rfl
        | false => exact absurd (congrArg some (lts_tri e hx)) h
      refine ⟨List.nodup_cons.2 ⟨fun hm => ?_, i1⟩, fun y hy => ?_, fun y => ?_⟩
      · have := i2 x hm; rw [lts_irrefl] at this; cases this
      · rcases List.mem_cons.1 hy with rfl | hy
        · exact hpx
        · exact lts_trans hpx (i2 y hy)
      · rw [List.mem_cons, List.mem_cons, or_comm (a := y = x), i3 y, or_comm (a := y = x)]

theorem dd_none (l : List ByteArray) (hu : UpK id l) : (dd none l).Nodup ∧ ∀ y, y ∈ dd none l ↔ y ∈ l := by
  cases l with
  | nil => exact ⟨List.nodup_nil, fun y => Iff.rfl⟩
  | cons x r =>
    obtain ⟨h1, h2⟩ := List.pairwise_cons.1 hu
    obtain ⟨i1, i2, i3⟩ := dd_some r x h2 h1
    rw [dd, if_neg (fun h => by cases h)]
    refine ⟨List.nodup_cons.2 ⟨fun hm => ?_, i1⟩, fun y => ?_⟩
    · have := i2 x hm; rw [lts_irrefl] at this; cases this
    · rw [List.mem_cons, List.mem_cons, or_comm (a := y = x), i3 y, or_comm (a := y = x)]

theorem nodup_len {α : Type} [DecidableEq α] : ∀ (l m : List α), l.Nodup → m.Nodup → (∀ x, x ∈ l ↔ x ∈ m) → l.length = m.length := by
  intro l
  induction l with
  | nil =>
    intro m _ _ h
    cases m with
    | nil => rfl
    | cons b s => exact absurd ((h b).2 (List.mem_cons_self)) List.not_mem_nil
  | cons a r ih =>
    intro m hl hm h
    have ha : a ∈ m := (h a).1 (List.mem_cons_self)
    obtain ⟨h1, h2⟩ := List.nodup_cons.1 hl
    have e := ih (m.erase a) h2 (hm.erase a) fun x => by
      rw [hm.mem_erase_iff, ← h x, List.mem_cons]
      constructor
      · intro hx; exact ⟨fun e => h1 (by rw [← e]; exact hx), Or.inr hx⟩
      · rintro ⟨hne, hx | hx⟩
        · exact absurd hx hne
        · exact hx
    rw [List.length_erase_of_mem ha] at e
    have hpos : 0 < m.length := List.length_pos_of_mem ha
    rw [List.length_cons]
    omega

/-- A key that is not yet on the list goes to its end. -/
def onB (acc : List ByteArray) (x : ByteArray) : Bool := acc.any fun y => decide (y = x)
theorem onB_iff (acc : List ByteArray) (x : ByteArray) : onB acc x = true ↔ x ∈ acc := by
  unfold onB
  rw [List.any_eq_true]
  constructor
  · rintro ⟨y, hy, h⟩; rw [← of_decide_eq_true h]; exact hy
  · intro h; exact ⟨x, h, decide_eq_true rfl⟩
def addB (acc : List ByteArray) (x : ByteArray) : List ByteArray := if onB acc x = true then acc else acc ++ [x]
theorem lit_inj {x y : ByteArray} (h : lit x = lit y) : x = y := by
  unfold lit at h
  injection h with h
  exact ByteArray.ext (Array.toList_inj.1 h)
theorem any_lit (acc : List ByteArray) (x : ByteArray) : ((acc.map lit).any fun y => y.sameKey (lit x)) = onB acc x := by
  rw [Bool.eq_iff_iff, List.any_eq_true, onB_iff]
  constructor
  · rintro ⟨y, hy, hs⟩
    obtain ⟨z, hz, rfl⟩ := List.mem_map.1 hy
    rw [← lit_inj (WideAt.sameKey_eq hs)]
    exact hz
  · intro hx
    exact ⟨lit x, List.mem_map_of_mem hx, WideAt.sameKey_self (by unfold lit; trivial)⟩
theorem fold_lit : ∀ (ks acc : List ByteArray), (ks.map lit).foldl Maps.addKey (acc.map lit) = (ks.foldl addB acc).map lit := by
  intro ks
  induction ks with
  | nil => intro acc; rfl
  | cons x r ih =>
    intro acc
    rw [List.map_cons, List.foldl_cons, List.foldl_cons, ← ih]
    congr 1
    unfold Maps.addKey addB
    rw [any_lit]
    by_cases h : onB acc x = true
    · rw [if_pos h, if_pos h]
    · rw [if_neg h, if_neg h, List.map_append]
      rfl
theorem fold_addB : ∀ (ks acc : List ByteArray), acc.Nodup → (ks.foldl addB acc).Nodup ∧ ∀ y, y ∈ ks.foldl addB acc ↔ (y ∈ acc ∨ y ∈ ks) := by
  intro ks
  induction ks with
  | nil => intro acc h; exact ⟨h, fun y => ⟨fun hy => Or.inl hy, fun hy => hy.elim id (fun h2 => absurd h2 List.not_mem_nil)⟩⟩
  | cons x r ih =>
    intro acc h
    rw [List.foldl_cons]
    unfold addB
    by_cases hx : x ∈ acc
    · rw [if_pos ((onB_iff _ _).2 hx)]
      obtain ⟨i1, i2⟩ := ih acc h
      refine ⟨i1, fun y => ?_⟩
      rw [List.mem_cons]
      refine (i2 y).trans ⟨fun hy => hy.elim Or.inl (fun h2 => Or.inr (Or.inr h2)), fun hy => ?_⟩
      rcases hy with hy | rfl | hy
      · exact Or.inl hy
      · exact Or.inl hx
      · exact Or.inr hy
    · rw [if_neg (fun h2 => hx ((onB_iff _ _).1 h2))]
      obtain ⟨i1, i2⟩ := ih (acc ++ [x]) (List.nodup_append.2 ⟨h, by simp, fun a ha b hb e => by rw [List.mem_singleton.1 hb] at e; exact hx (by rw [← e]; exact ha)⟩)
      refine ⟨i1, fun y => ?_⟩
      rw [List.mem_cons]
      refine (i2 y).trans ?_
      rw [List.mem_append, List.mem_singleton, or_assoc]

theorem take_all (ks : List ByteArray) : ks.take ks.length = ks := List.take_length

/-- HOW MANY THE MAP HOLDS IS WHAT THE LAW COUNTS. -/
theorem size_set (ks S : List ByteArray) (hp : S.Perm ks) (hu : UpK id S) : Maps.size (setK ks ks.length) = cntUp none S := by
  have hkey : ∀ x ∈ ks.map lit, WideAt.IsKeyLit x := fun x hx => by
    obtain ⟨y, _, rfl⟩ := List.mem_map.1 hx
    trivial
  unfold setK
  rw [take_all, Maps.size_setOf _ _ hkey, show ((ks.map lit).foldl Maps.addKey []) = (ks.foldl addB []).map lit from fold_lit ks [], List.length_map, cnt_dd]
  obtain ⟨a1, a2⟩ := fold_addB ks [] List.nodup_nil
  obtain ⟨b1, b2⟩ := dd_none S hu
  refine nodup_len _ _ a1 b1 fun x => ?_
  rw [a2 x, b2 x, hp.mem_iff]
  exact ⟨fun h => h.elim (fun h2 => absurd h2 List.not_mem_nil) id, Or.inr⟩

/-- Each key is there. -/
theorem has_set (ks : List ByteArray) (x : ByteArray) (hx : x ∈ ks) : Maps.has (setK ks ks.length) (lit x) = true := by
  have hkey : ∀ x ∈ ks.map lit, WideAt.IsKeyLit x := fun x hx => by
    obtain ⟨y, _, rfl⟩ := List.mem_map.1 hx
    trivial
  unfold setK
  rw [take_all, Maps.has_setOf _ _ _ hkey, any_lit]
  exact (onB_iff _ _).2 hx

end Go.Proofs.Qxb6630526a
