import Derived.Lib.ParseIntBTie
namespace Go.Proofs.Qxb6628219aDoor.Plain
open Go.Lib

/-- The number that a run of decimal digits spells, behind what was read before. -/
def val (acc : Nat) : List UInt8 → Nat
  | [] => acc
  | c :: r => val (acc * 10 + (c.toNat - 48)) r

/-- A decimal digit. -/
def dig (c : UInt8) : Bool := decide (48 ≤ c.toNat) && decide (c.toNat ≤ 57)

theorem dig_iff (c : UInt8) : dig c = true ↔ 48 ≤ c.toNat ∧ c.toNat ≤ 57 := by simp [dig]
theorem dig_not (c : UInt8) (h : ¬ (48 ≤ c.toNat ∧ c.toNat ≤ 57)) : dig c = false := by
  cases e : dig c with
  | false => rfl
  | true => exact absurd ((dig_iff c).1 e) h

theorem val_nil (acc : Nat) : val acc [] = acc := by unfold val; rfl
theorem val_cons (acc : Nat) (c : UInt8) (r : List UInt8) : val acc (c :: r) = val (acc * 10 + (c.toNat - 48)) r := by
  conv => lhs; unfold val

theorem val_acc (l : List UInt8) : ∀ acc, val acc l = acc * 10 ^ l.length + val 0 l := by
  induction l with
  | nil => intro acc; simp [val_nil]
  | cons c r ih =>
    intro acc
    rw [val_cons, val_cons, ih (acc * 10 + (c.toNat - 48)), ih (0 * 10 + (c.toNat - 48))]
    have e : acc * 10 ^ (c :: r).length = acc * 10 * 10 ^ r.length := by
      rw [List.length_cons, Nat.pow_succ, Nat.mul_assoc, Nat.mul_comm 10 (10 ^ r.length)]
    rw [e, Nat.zero_mul, Nat.zero_add, Nat.add_mul, Nat.add_assoc]

theorem val_ge (l : List UInt8) : ∀ acc, acc ≤ val acc l := by
  intro acc
  rw [val_acc]
  have : 0 < 10 ^ l.length := Nat.pow_pos (by omega)
  have : acc * 1 ≤ acc * 10 ^ l.length := Nat.mul_le_mul_left _ this
  omega

theorem val_snoc (l : List UInt8) (c : UInt8) : ∀ acc, val acc (l ++ [c]) = val acc l * 10 + (c.toNat - 48) := by
  induction l with
  | nil => intro acc; rw [List.nil_append, val_cons, val_nil, val_nil]
  | cons a r ih => intro acc; rw [List.cons_append, val_cons, val_cons, ih]

theorem val_append (l m : List UInt8) : ∀ acc, val acc (l ++ m) = val (val acc l) m := by
  induction l with
  | nil => intro acc; rw [List.nil_append, val_nil]
  | cons a r ih => intro acc; rw [List.cons_append, val_cons, val_cons, ih]

theorem mul_bound (d p v : Nat) (h1 : v < p) (h2 : d ≤ 9) : d * p + v < p * 10 := by
  have h3 : d * p ≤ 9 * p := Nat.mul_le_mul_right _ h2
  omega

theorem val_lt (l : List UInt8) (h : l.all dig = true) : val 0 l < 10 ^ l.length := by
  induction l with
  | nil => rw [val_nil]; exact Nat.pow_pos (by omega)
  | cons c r ih =>
    rw [List.all_cons, Bool.and_eq_true] at h
    have h1 := ih h.2
    have h2 := (dig_iff c).1 h.1
    have e : val 0 (c :: r) = (c.toNat - 48) * 10 ^ r.length + val 0 r := by
      rw [val_cons, val_acc, Nat.zero_mul, Nat.zero_add]
    rw [e, List.length_cons, Nat.pow_succ]
    exact mul_bound _ _ _ h1 (by omega)

theorem pu_nil (acc : Nat) : parseUint10 acc [] = .ok acc := by unfold parseUint10; rfl
theorem pu_cons (acc : Nat) (c : UInt8) (r : List UInt8) (hd : 48 ≤ c.toNat ∧ c.toNat ≤ 57) (h : acc * 10 + (c.toNat - 48) < 18446744073709551616) :
    parseUint10 acc (c :: r) = parseUint10 (acc * 10 + (c.toNat - 48)) r := by
  conv => lhs; unfold parseUint10
  rw [if_pos hd, if_neg (by omega), if_neg (by omega)]
theorem pu_over (acc : Nat) (c : UInt8) (r : List UInt8) (hd : 48 ≤ c.toNat ∧ c.toNat ≤ 57) (h : 18446744073709551616 ≤ acc * 10 + (c.toNat - 48)) :
    parseUint10 acc (c :: r) = .range := by
  unfold parseUint10
  rw [if_pos hd]
  by_cases h1 : 1844674407370955162 ≤ acc
  · rw [if_pos h1]
  · rw [if_neg h1, if_pos h]
theorem pu_bad (acc : Nat) (c : UInt8) (r : List UInt8) (hd : ¬ (48 ≤ c.toNat ∧ c.toNat ≤ 57)) (u : Nat) : parseUint10 acc (c :: r) ≠ .ok u := by
  unfold parseUint10
  rw [if_neg hd]
  intro h; cases h

/-- ParseUint's loop: the number where all are digits and it fits. -/
theorem parseUint10_ok : ∀ (l : List UInt8) (acc : Nat), acc < 18446744073709551616 → l.all dig = true → val acc l < 18446744073709551616 → parseUint10 acc l = .ok (val acc l) := by
  intro l
  induction l with
  | nil => intro acc ha _ _; rw [pu_nil, val_nil]
  | cons c r ih =>
    intro acc ha hd hv
    rw [List.all_cons, Bool.and_eq_true] at hd
    rw [val_cons] at hv ⊢
    have hg := val_ge r (acc * 10 + (c.toNat - 48))
    have hlt : acc * 10 + (c.toNat - 48) < 18446744073709551616 := Nat.lt_of_le_of_lt hg hv
    rw [pu_cons acc c r ((dig_iff c).1 hd.1) hlt]
    exact ih _ hlt hd.2 hv

theorem parseUint10_inv : ∀ (l : List UInt8) (acc u : Nat), acc < 18446744073709551616 → parseUint10 acc l = .ok u → l.all dig = true ∧ val acc l < 18446744073709551616 ∧ u = val acc l := by
  intro l
  induction l with
  | nil =>
    intro acc u ha h
    rw [pu_nil] at h
    injection h with h
    rw [val_nil]
    exact ⟨rfl, ha, h.symm⟩
  | cons c r ih =>
    intro acc u ha h
    by_cases hd : 48 ≤ c.toNat ∧ c.toNat ≤ 57
    · by_cases hlt : acc * 10 + (c.toNat - 48) < 18446744073709551616
      · rw [pu_cons acc c r hd hlt] at h
        obtain ⟨h1, h2, h3⟩ := ih _ u hlt h
        rw [val_cons, List.all_cons, (dig_iff c).2 hd, Bool.true_and]
        exact ⟨h1, h2, h3⟩
      · rw [pu_over acc c r hd (Nat.le_of_not_lt hlt)] at h
        cases h
    · exact absurd h (pu_bad acc c r hd u)

theorem parseMag_ok (l : List UInt8) (u : Nat) : parseMag l = .ok u ↔ (l ≠ [] ∧ l.all dig = true ∧ val 0 l < 18446744073709551616 ∧ u = val 0 l) := by
  unfold parseMag
  by_cases h : l = []
  · rw [if_pos h]
    constructor
    · intro h; cases h
    · rintro ⟨h', -⟩; exact absurd h h'
  · rw [if_neg h]
    constructor
    · intro hp
      exact ⟨h, parseUint10_inv l 0 u (by omega) hp⟩
    · intro hp
      rw [hp.2.2.2]
      exact parseUint10_ok l 0 (by omega) hp.2.1 hp.2.2.1

/-- The magnitude behind the sign fits: one less on the plus side. -/
def fits (neg : Bool) (n : Nat) : Bool := if neg then decide (n ≤ 9223372036854775808) else decide (n < 9223372036854775808)
def signedOf (neg : Bool) (n : Nat) : Int := if neg then -(n : Int) else (n : Int)

/-- What the bytes behind the sign say. -/
def mag (neg : Bool) (b : List UInt8) : Option Int :=
  if b ≠ [] ∧ b.all dig = true ∧ fits neg (val 0 b) = true then some (signedOf neg (val 0 b)) else none

/-- The sign, and what stands behind it. -/
def negOf (l : List UInt8) : Bool := match l with | [] => false | c :: _ => decide (c.toNat = 45)
def bodyOf (l : List UInt8) : List UInt8 := match l with | [] => [] | c :: r => if c.toNat = 43 ∨ c.toNat = 45 then r else c :: r

/-- WHAT A SIGNED DECIMAL TEXT SAYS. -/
def dec (l : List UInt8) : Option Int := mag (negOf l) (bodyOf l)

theorem signless_ok (b : List UInt8) (v : Int) : signless (parseMag b) = .ok v ↔ mag false b = some v := by
  cases h : parseMag b with
  | ok u =>
    obtain ⟨h1, h2, h3, h4⟩ := (parseMag_ok b u).1 h
    simp only [signless, mag, fits, signedOf, h1, h2, h4, ne_eq, not_false_eq_true, true_and, Bool.false_eq_true, if_false, decide_eq_true_eq]
    by_cases hb : val 0 b < 9223372036854775808
    · rw [if_pos hb, if_neg (by omega)]
      constructor
      · intro h; injection h with h; rw [h]
      · intro h; injection h with h; rw [h]
    · rw [if_neg hb, if_pos (by omega)]
      constructor
      · intro h; cases h
      · intro h; cases h
  | _ =>
    have hn : ∀ u, parseMag b ≠ .ok u := by intro u e; rw [h] at e; cases e
    simp only [signless]
    constructor
    · intro h; cases h
    · intro hm
      unfold mag at hm
      split at hm
      · rename_i hc
        obtain ⟨c1, c2, c3⟩ := hc
        simp only [fits, Bool.false_eq_true, if_false, decide_eq_true_eq] at c3
        exact absurd ((parseMag_ok b _).2 ⟨c1, c2, by omega, rfl⟩) (hn _)
      · cases hm

theorem signed_ok (b : List UInt8) (v : Int) : signed (parseMag b) = .ok v ↔ mag true b = some v := by
  cases h : parseMag b with
  | ok u =>
    obtain ⟨h1, h2, h3, h4⟩ := (parseMag_ok b u).1 h
    simp only [signed, mag, fits, signedOf, h1, h2, h4, ne_eq, not_false_eq_true, true_and, if_true, decide_eq_true_eq]
    by_cases hb : val 0 b ≤ 9223372036854775808
    · rw [if_pos hb, if_neg (by omega)]
      constructor
      · intro h; injection h with h; rw [h]
      · intro h; injection h with h; rw [h]
    · rw [if_neg hb, if_pos (by omega)]
      constructor
      · intro h; cases h
      · intro h; cases h
  | _ =>
    have hn : ∀ u, parseMag b ≠ .ok u := by intro u e; rw [h] at e; cases e
    simp only [signed]
    constructor
    · intro h; cases h
    · intro hm
      unfold mag at hm
      split at hm
      · rename_i hc
        obtain ⟨c1, c2, c3⟩ := hc
        simp only [fits, if_true, decide_eq_true_eq] at c3
        exact absurd ((parseMag_ok b _).2 ⟨c1, c2, by omega, rfl⟩) (hn _)
      · cases hm

theorem mag_nil (neg : Bool) : mag neg [] = none := by simp [mag]

theorem parse_ok (l : List UInt8) (v : Int) : parseIntB 64 l = .ok v ↔ dec l = some v := by
  rw [parseIntB_64]
  cases l with
  | nil =>
    constructor
    · intro h; cases h
    · intro h; simp [dec, bodyOf, mag_nil] at h
  | cons c r =>
    by_cases h43 : c = 43
    · subst h43; rw [atoiAll_plus]; exact signless_ok r v
    by_cases h45 : c = 45
    · subst h45; rw [atoiAll_minus]; exact signed_ok r v
    · have n43 : c.toNat ≠ 43 := fun e => h43 (UInt8.toNat_inj.1 e)
      have n45 : c.toNat ≠ 45 := fun e => h45 (UInt8.toNat_inj.1 e)
      rw [atoiAll_plain c r n43 n45, signless_ok]
      simp [dec, bodyOf, negOf, n43, n45]

theorem parse_none (l : List UInt8) (h : ∀ v, parseIntB 64 l ≠ .ok v) : dec l = none := by
  cases e : dec l with
  | none => rfl
  | some v => exact absurd ((parse_ok l v).2 e) (h v)

theorem dec_bounds {l : List UInt8} {v : Int} (h : dec l = some v) : -9223372036854775808 ≤ v ∧ v ≤ 9223372036854775807 := by
  have := (parse_ok l v).2 h
  rw [parseIntB_64] at this
  exact atoiAll_bounds this

end Go.Proofs.Qxb6628219aDoor.Plain
