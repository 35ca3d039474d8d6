/- The plain laws over numbers: no Go in sight. A range is a pair (from, to); to = 0 goes on for ever. -/
namespace Go.Proofs.Qxb6630526a.Plain

def cov (x : Nat) (p : Nat × Nat) : Bool := decide (p.1 ≤ x) && (decide (p.2 = 0) || decide (x < p.2))
def inAny (x : Nat) (l : List (Nat × Nat)) : Bool := l.any (cov x)

theorem cov_iff (x : Nat) (p : Nat × Nat) : cov x p = true ↔ (p.1 ≤ x ∧ (p.2 = 0 ∨ x < p.2)) := by
  unfold cov; simp
theorem inAny_nil (x : Nat) : inAny x [] = false := rfl
theorem inAny_cons (x : Nat) (p : Nat × Nat) (l : List (Nat × Nat)) : inAny x (p :: l) = (cov x p || inAny x l) := rfl

/-- The join of a sorted list, its first range in hand. -/
def joinL : (Nat × Nat) → List (Nat × Nat) → List (Nat × Nat)
  | p, [] => [p]
  | p, q :: r => if p.2 = 0 then joinL p r else if q.1 ≤ p.2 then joinL (p.1, if q.2 = 0 ∨ p.2 < q.2 then q.2 else p.2) r else p :: joinL q r

def settleN : List (Nat × Nat) → List (Nat × Nat)
  | [] => []
  | p :: r => joinL p r

theorem joinL_nil (p : Nat × Nat) : joinL p [] = [p] := rfl
theorem joinL_cons (p q : Nat × Nat) (r : List (Nat × Nat)) : joinL p (q :: r) = if p.2 = 0 then joinL p r else if q.1 ≤ p.2 then joinL (p.1, if q.2 = 0 ∨ p.2 < q.2 then q.2 else p.2) r else p :: joinL q r := rfl

/-- Rising firsts. -/
def Up (l : List (Nat × Nat)) : Prop := l.Pairwise fun a b => a.1 ≤ b.1

/-- Each range but the last ends, and the next begins strictly beyond its end. -/
def Sep : List (Nat × Nat) → Prop
  | [] => True
  | [_] => True
  | a :: b :: r => a.2 ≠ 0 ∧ a.2 < b.1 ∧ a.1 ≤ b.1 ∧ Sep (b :: r)

theorem joinL_head : ∀ (l : List (Nat × Nat)) (p : Nat × Nat), ∃ t r, joinL p l = (p.1, t) :: r := by
  intro l
  induction l with
  | nil => intro p; exact ⟨p.2, [], rfl⟩
  | cons q r ih =>
    intro p
    rw [joinL_cons]
    by_cases h1 : p.2 = 0
    · rw [if_pos h1]; exact ih p
    · rw [if_neg h1]
      by_cases h2 : q.1 ≤ p.2
      · rw [if_pos h2]; exact ih _
      · rw [if_neg h2]; exact ⟨p.2, _, rfl⟩

theorem joinL_len : ∀ (l : List (Nat × Nat)) (p : Nat × Nat), (joinL p l).length ≤ l.length + 1 := by
  intro l
  induction l with
  | nil => intro p; exact Nat.le_refl _
  | cons q r ih =>
    intro p
    rw [joinL_cons, List.length_cons]
    by_cases h1 : p.2 = 0
    · rw [if_pos h1]; have := ih p; omega
    · rw [if_neg h1]
      by_cases h2 : q.1 ≤ p.2
      · rw [if_pos h2]; have := ih (p.1, if q.2 = 0 ∨ p.2 < q.2 then q.2 else p.2); omega
      · rw [if_neg h2, List.length_cons]; have := ih q; omega

theorem joinL_sep : ∀ (l : List (Nat × Nat)) (p : Nat × Nat), (∀ q ∈ l, p.1 ≤ q.1) → Up l → Sep (joinL p l) := by
  intro l
  induction l with
  | nil => intro p _ _; exact trivial
  | cons q r ih =>
    intro p hp hu
    have hp1 : ∀ x ∈ r, p.1 ≤ x.1 := fun x hx => hp x (List.mem_cons_of_mem _ hx)
    have hu1 : Up r := (List.pairwise_cons.1 hu).2
    have hq : ∀ x ∈ r, q.1 ≤ x.1 := (List.pairwise_cons.1 hu).1
    rw [joinL_cons]
    by_cases h1 : p.2 = 0
    · rw [if_pos h1]; exact ih p hp1 hu1
    · rw [if_neg h1]
      by_cases h2 : q.1 ≤ p.2
      · rw [if_pos h2]; exact ih _ hp1 hu1
      · rw [if_neg h2]
        obtain ⟨t, r', e⟩ := joinL_head r q
        have h := ih q hq hu1
        rw [e] at h ⊢
        exact ⟨h1, by omega, hp q (List.mem_cons_self), h⟩

theorem joinL_cov (x : Nat) : ∀ (l : List (Nat × Nat)) (p : Nat × Nat), (∀ q ∈ l, p.1 ≤ q.1) → Up l → inAny x (joinL p l) = (cov x p || inAny x l) := by
  intro l
  induction l with
  | nil => intro p _ _; rfl
  | cons q r ih =>
    intro p hp hu
    have hp1 : ∀ y ∈ r, p.1 ≤ y.1 := fun y hy => hp y (List.mem_cons_of_mem _ hy)
    have hu1 : Up r := (List.pairwise_cons.1 hu).2
    have hq : ∀ y ∈ r, q.1 ≤ y.1 := (List.pairwise_cons.1 hu).1
    have hpq := hp q (List.mem_cons_self)
    rw [joinL_cons, inAny_cons]
    by_cases h1 : p.2 = 0
    · rw [if_pos h1, ih p hp1 hu1]
      rw [Bool.eq_iff_iff]
      simp only [Bool.or_eq_true, cov_iff]
      constructor
      · rintro (h | h)
        · exact Or.inl h
        · exact Or.inr (Or.inr h)
      · rintro (h | h | h)
        · exact Or.inl h
        · exact Or.inl ⟨by omega, Or.inl h1⟩
        · exact Or.inr h
    · rw [if_neg h1]
      by_cases h2 : q.1 ≤ p.2
      · rw [if_pos h2, ih (p.1, if q.2 = 0 ∨ p.2 < q.2 then q.2 else p.2) hp1 hu1]
        rw [Bool.eq_iff_iff]
        simp only [Bool.or_eq_true, cov_iff]
        by_cases h3 : q.2 = 0 ∨ p.2 < q.2
        · rw [if_pos h3]
          constructor
          · rintro (h | h)
            · by_cases h4 : x < p.2
              · exact Or.inl ⟨h.1, Or.inr h4⟩
              · exact Or.inr (Or.inl ⟨by omega, h.2⟩)
            · exact Or.inr (Or.inr h)
          · rintro (h | h | h)
            · exact Or.inl ⟨h.1, by omega⟩
            · exact Or.inl ⟨by omega, h.2⟩
            · exact Or.inr h
        · rw [if_neg h3]
          constructor
          · rintro (h | h)
            · exact Or.inl h
            · exact Or.inr (Or.inr h)
          · rintro (h | h | h)
            · exact Or.inl h
            · exact Or.inl ⟨by omega, by omega⟩
            · exact Or.inr h
      · rw [if_neg h2, inAny_cons, ih q hq hu1]

/-! ### What the settled list is -/

theorem settle_len (l : List (Nat × Nat)) : (settleN l).length ≤ l.length := by
  cases l with
  | nil => exact Nat.le_refl _
  | cons p r => exact joinL_len r p
theorem settle_sep (l : List (Nat × Nat)) (h : Up l) : Sep (settleN l) := by
  cases l with
  | nil => exact trivial
  | cons p r => exact joinL_sep r p (List.pairwise_cons.1 h).1 (List.pairwise_cons.1 h).2
theorem settle_cov (l : List (Nat × Nat)) (h : Up l) (x : Nat) : inAny x (settleN l) = inAny x l := by
  cases l with
  | nil => rfl
  | cons p r => exact joinL_cov x r p (List.pairwise_cons.1 h).1 (List.pairwise_cons.1 h).2

theorem sep_at : ∀ (l : List (Nat × Nat)), Sep l → ∀ (i : Nat) (h : i + 1 < l.length), l[i].2 ≠ 0 ∧ l[i].2 < l[i + 1].1 ∧ l[i].1 ≤ l[i + 1].1 := by
  intro l
  induction l with
  | nil => intro _ i h; simp at h
  | cons a r ih =>
    intro hs i h
    match r, hs with
    | [], _ => simp at h
    | b :: r', hs =>
      match i with
      | 0 => exact ⟨hs.1, hs.2.1, hs.2.2.1⟩
      | i + 1 =>
        have := ih hs.2.2.2 i (by simp at h ⊢; omega)
        exact this

theorem inAny_perm {l m : List (Nat × Nat)} (h : l.Perm m) (x : Nat) : inAny x l = inAny x m := by
  unfold inAny
  rw [Bool.eq_iff_iff, List.any_eq_true, List.any_eq_true]
  constructor
  · rintro ⟨y, hy, hc⟩; exact ⟨y, h.mem_iff.1 hy, hc⟩
  · rintro ⟨y, hy, hc⟩; exact ⟨y, h.mem_iff.2 hy, hc⟩

end Go.Proofs.Qxb6630526a.Plain
