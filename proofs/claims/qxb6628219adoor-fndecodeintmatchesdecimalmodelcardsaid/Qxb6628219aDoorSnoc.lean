import Derived.Test.Qxb6628219aDoorModel
namespace Go.Proofs.Qxb6628219aDoor.Plain

theorem body_cons (c : UInt8) (r : List UInt8) : bodyOf (c :: r) = if c.toNat = 43 ∨ c.toNat = 45 then r else c :: r := rfl
theorem neg_cons (c : UInt8) (r : List UInt8) : negOf (c :: r) = decide (c.toNat = 45) := rfl

theorem mag_snoc_none (neg : Bool) (b : List UInt8) (c : UInt8) (hb : b ≠ []) (h : mag neg b = none) : mag neg (b ++ [c]) = none := by
  unfold mag at h ⊢
  split at h
  · cases h
  · rename_i hn
    rw [if_neg]
    rintro ⟨-, h2, h3⟩
    refine hn ⟨hb, ?_, ?_⟩
    · rw [List.all_append, Bool.and_eq_true] at h2; exact h2.1
    · rw [fits_iff] at h3 ⊢
      rw [val_snoc] at h3
      omega

theorem mag_some {neg : Bool} {b : List UInt8} {n : Int} (h : mag neg b = some n) : b.all dig = true ∧ fits neg (val 0 b) = true ∧ n = signedOf neg (val 0 b) := by
  unfold mag at h
  split at h
  · rename_i hc
    injection h with h
    exact ⟨hc.2.1, hc.2.2, h.symm⟩
  · cases h

theorem mag_snoc (neg : Bool) (b : List UInt8) (c : UInt8) (hb : b.all dig = true) (hc : dig c = true) :
    mag neg (b ++ [c]) = if fits neg (val 0 b * 10 + (c.toNat - 48)) = true then some (signedOf neg (val 0 b * 10 + (c.toNat - 48))) else none := by
  unfold mag
  rw [val_snoc]
  have h1 : b ++ [c] ≠ [] := by simp
  have h2 : (b ++ [c]).all dig = true := by rw [List.all_append, hb]; simp [hc]
  by_cases h3 : fits neg (val 0 b * 10 + (c.toNat - 48)) = true
  · rw [if_pos h3, if_pos ⟨h1, h2, h3⟩]
  · rw [if_neg h3, if_neg (fun h => h3 h.2.2)]

theorem body_snoc (l : List UInt8) (c : UInt8) (h : l ≠ []) : bodyOf (l ++ [c]) = bodyOf l ++ [c] := by
  cases l with
  | nil => exact absurd rfl h
  | cons a r =>
    rw [List.cons_append, body_cons, body_cons]
    split <;> rfl

theorem neg_snoc (l : List UInt8) (c : UInt8) (h : l ≠ []) : negOf (l ++ [c]) = negOf l := by
  cases l with
  | nil => exact absurd rfl h
  | cons a r => rfl

theorem sg_false (n : Nat) : signedOf false n = (n : Int) := rfl
theorem sg_true (n : Nat) : signedOf true n = -(n : Int) := rfl
theorem fits_false (n : Nat) : fits false n = true ↔ n < 9223372036854775808 := by simp [fits]
theorem fits_true (n : Nat) : fits true n = true ↔ n ≤ 9223372036854775808 := by simp [fits]

theorem mag_one (neg : Bool) (c : UInt8) (hc : dig c = true) : mag neg [c] = some (signedOf neg (c.toNat - 48)) := by
  have h := mag_snoc neg [] c rfl hc
  rw [List.nil_append, val_nil, Nat.zero_mul, Nat.zero_add] at h
  rw [h, if_pos]
  have := (dig_iff c).1 hc
  cases neg
  · rw [fits_false]; omega
  · rw [fits_true]; omega

theorem dec_nil : dec [] = none := by unfold dec bodyOf; exact mag_nil _

theorem dec_one (c : UInt8) (hc : dig c = true) : dec [c] = some ((c.toNat - 48 : Nat) : Int) := by
  have h := (dig_iff c).1 hc
  have e1 : negOf [c] = false := by rw [neg_cons]; simp; omega
  have e2 : bodyOf [c] = [c] := by rw [body_cons, if_neg (by omega)]
  unfold dec
  rw [e1, e2, mag_one false c hc]; rfl

theorem one_of (l : List UInt8) (h : l.length = 1) : ∃ a, l = [a] ∧ fb l 0 = (a.toNat : Int) := by
  match l, h with
  | [a], _ => exact ⟨a, rfl, rfl⟩

theorem dec_plus (l : List UInt8) (c : UInt8) (hc : dig c = true) (h1 : l.length = 1) (h0 : fb l 0 = 43) : dec l = none ∧ dec (l ++ [c]) = some ((c.toNat - 48 : Nat) : Int) := by
  obtain ⟨a, rfl, e⟩ := one_of l h1
  have ea : a.toNat = 43 := by omega
  have e1 : negOf [a] = false := by rw [neg_cons]; simp; omega
  have e2 : bodyOf [a] = [] := by rw [body_cons, if_pos (by omega)]
  refine ⟨by unfold dec; rw [e2]; exact mag_nil _, ?_⟩
  unfold dec
  rw [body_snoc _ _ (by simp), neg_snoc _ _ (by simp), e1, e2, List.nil_append, mag_one false c hc]; rfl

theorem dec_minus (l : List UInt8) (c : UInt8) (hc : dig c = true) (h1 : l.length = 1) (h0 : fb l 0 = 45) : dec l = none ∧ dec (l ++ [c]) = some (-((c.toNat - 48 : Nat) : Int)) := by
  obtain ⟨a, rfl, e⟩ := one_of l h1
  have ea : a.toNat = 45 := by omega
  have e1 : negOf [a] = true := by rw [neg_cons]; simp; omega
  have e2 : bodyOf [a] = [] := by rw [body_cons, if_pos (by omega)]
  refine ⟨by unfold dec; rw [e2]; exact mag_nil _, ?_⟩
  unfold dec
  rw [body_snoc _ _ (by simp), neg_snoc _ _ (by simp), e1, e2, List.nil_append, mag_one true c hc]; rfl

theorem dec_stays (l : List UInt8) (c : UInt8) (h0 : l ≠ []) (h1 : ¬ (l.length = 1 ∧ (fb l 0 = 43 ∨ fb l 0 = 45))) (h : dec l = none) : dec (l ++ [c]) = none := by
  unfold dec at h ⊢
  rw [body_snoc _ _ h0, neg_snoc _ _ h0]
  refine mag_snoc_none _ _ c ?_ h
  intro e
  match l, h0 with
  | a :: r, _ =>
    rw [body_cons] at e
    split at e
    · rename_i hs
      subst e
      refine h1 ⟨rfl, ?_⟩
      rw [fb_zero]
      omega
    · cases e

theorem ne_of_some {l : List UInt8} {n : Int} (h : dec l = some n) : l ≠ [] := by
  rintro rfl
  rw [dec_nil] at h
  cases h

theorem neg_fb (l : List UInt8) (h : l ≠ []) : negOf l = decide (fb l 0 = 45) := by
  match l, h with
  | a :: r, _ =>
    rw [neg_cons, fb_zero]
    by_cases e : a.toNat = 45
    · rw [decide_eq_true e, decide_eq_true (by omega)]
    · rw [decide_eq_false e, decide_eq_false (by omega)]

theorem dec_neg (l : List UInt8) (c : UInt8) (hc : dig c = true) (n : Int) (h : dec l = some n) (h0 : fb l 0 = 45) :
    n ≤ 0 ∧ (-9223372036854775808 ≤ n * 10 - ((c.toNat - 48 : Nat) : Int) → dec (l ++ [c]) = some (n * 10 - ((c.toNat - 48 : Nat) : Int))) ∧ (n * 10 - ((c.toNat - 48 : Nat) : Int) < -9223372036854775808 → dec (l ++ [c]) = none) := by
  have hne := ne_of_some h
  have hn : negOf l = true := by rw [neg_fb l hne]; exact decide_eq_true h0
  have e : dec (l ++ [c]) = mag true (bodyOf l ++ [c]) := by unfold dec; rw [body_snoc _ _ hne, neg_snoc _ _ hne, hn]
  unfold dec at h
  rw [hn] at h
  obtain ⟨m1, m2, m3⟩ := mag_some h
  rw [sg_true] at m3
  rw [e, mag_snoc true _ c m1 hc]
  refine ⟨by omega, fun hf => ?_, fun hf => ?_⟩
  · rw [if_pos ((fits_true _).2 (by omega)), sg_true]
    congr 1
    omega
  · rw [if_neg (fun hx => by have := (fits_true _).1 hx; omega)]

theorem dec_pos (l : List UInt8) (c : UInt8) (hc : dig c = true) (n : Int) (h : dec l = some n) (h0 : fb l 0 ≠ 45) :
    0 ≤ n ∧ (n * 10 + ((c.toNat - 48 : Nat) : Int) ≤ 9223372036854775807 → dec (l ++ [c]) = some (n * 10 + ((c.toNat - 48 : Nat) : Int))) ∧ (9223372036854775807 < n * 10 + ((c.toNat - 48 : Nat) : Int) → dec (l ++ [c]) = none) := by
  have hne := ne_of_some h
  have hn : negOf l = false := by rw [neg_fb l hne]; exact decide_eq_false h0
  have e : dec (l ++ [c]) = mag false (bodyOf l ++ [c]) := by unfold dec; rw [body_snoc _ _ hne, neg_snoc _ _ hne, hn]
  unfold dec at h
  rw [hn] at h
  obtain ⟨m1, m2, m3⟩ := mag_some h
  rw [sg_false] at m3
  rw [e, mag_snoc false _ c m1 hc]
  refine ⟨by omega, fun hf => ?_, fun hf => ?_⟩
  · rw [if_pos ((fits_false _).2 (by omega)), sg_false]
    congr 1
    omega
  · rw [if_neg (fun hx => by have := (fits_false _).1 hx; omega)]

end Go.Proofs.Qxb6628219aDoor.Plain
