import Derived.Test.Qxb6628219aDoorPlain
namespace Go.Proofs.Qxb6628219aDoor.Plain

/-- The k-th byte, as a number. -/
def fb (l : List UInt8) (k : Nat) : Int := ((l.getD k 0).toNat : Int)

theorem fb_range (l : List UInt8) (k : Nat) : 0 ≤ fb l k ∧ fb l k ≤ 255 := by
  unfold fb
  have := (l.getD k 0).toNat_lt
  omega

theorem fb_of_lt (l : List UInt8) (k : Nat) (h : k < l.length) : fb l k = (l[k].toNat : Int) := by
  unfold fb
  rw [List.getD_eq_getElem?_getD, List.getElem?_eq_getElem h, Option.getD_some]

theorem fb_drop (l : List UInt8) (z k : Nat) : fb (l.drop z) k = fb l (z + k) := by
  unfold fb
  rw [List.getD_eq_getElem?_getD, List.getD_eq_getElem?_getD, List.getElem?_drop]

theorem fb_cons (c : UInt8) (r : List UInt8) (k : Nat) : fb (c :: r) (k + 1) = fb r k := rfl
theorem fb_zero (c : UInt8) (r : List UInt8) : fb (c :: r) 0 = (c.toNat : Int) := rfl

/-- The number that the first q digits from place z on spell. -/
def pv (l : List UInt8) (z q : Nat) : Int := (val 0 ((l.drop z).take q) : Int)

theorem pv_zero (l : List UInt8) (z : Nat) : pv l z 0 = 0 := by
  unfold pv
  rw [List.take_zero, val_nil]; rfl

theorem pv_nonneg (l : List UInt8) (z q : Nat) : 0 ≤ pv l z q := by unfold pv; omega

theorem pv_succ (l : List UInt8) (z q : Nat) (h : z + q < l.length) (hd : 48 ≤ fb l (z + q)) : pv l z (q + 1) = pv l z q * 10 + (fb l (z + q) - 48) := by
  have hq : q < (l.drop z).length := by rw [List.length_drop]; omega
  have e : (l.drop z).take (q + 1) = (l.drop z).take q ++ [(l.drop z)[q]] := (List.take_succ_eq_append_getElem hq)
  have e2 : fb l (z + q) = ((l.drop z)[q].toNat : Int) := by rw [← fb_drop, fb_of_lt _ _ hq]
  unfold pv
  rw [e, val_snoc]
  omega

theorem pv_le (l : List UInt8) (z q m : Nat) (h : q ≤ m) : pv l z q ≤ pv l z m := by
  unfold pv
  have e : (l.drop z).take m = (l.drop z).take q ++ ((l.drop z).take m).drop q := by
    have e1 := (List.take_append_drop q ((l.drop z).take m)).symm
    rw [List.take_take, Nat.min_eq_left h] at e1
    exact e1
  rw [e, val_append]
  have := val_ge (((l.drop z).take m).drop q) (val 0 ((l.drop z).take q))
  omega

theorem pv_all (l : List UInt8) (z m : Nat) (h : l.length ≤ z + m) : pv l z m = (val 0 (l.drop z) : Int) := by
  unfold pv
  rw [List.take_of_length_le (by rw [List.length_drop]; omega)]

/-- All bytes from place i on are digits. -/
def allDig (l : List UInt8) (i : Nat) : Prop := ∀ m, i ≤ m → m < l.length → 48 ≤ fb l m ∧ fb l m ≤ 57

theorem allDig_iff (l : List UInt8) (i : Nat) : (l.drop i).all dig = true ↔ allDig l i := by
  rw [List.all_eq_true]
  constructor
  · intro h m him hm
    have hm' : m - i < (l.drop i).length := by rw [List.length_drop]; omega
    have h1 := h (l.drop i)[m - i] (List.getElem_mem hm')
    have h2 := (dig_iff _).1 h1
    have e : fb l m = ((l.drop i)[m - i].toNat : Int) := by
      rw [← fb_of_lt _ _ hm', fb_drop, show i + (m - i) = m by omega]
    omega
  · intro h x hx
    obtain ⟨k, hk, rfl⟩ := List.getElem_of_mem hx
    have hk' : k < l.length - i := by rw [List.length_drop] at hk; exact hk
    have h1 := h (i + k) (by omega) (by omega)
    have e : fb l (i + k) = ((l.drop i)[k].toNat : Int) := by rw [← fb_of_lt _ _ hk, fb_drop]
    exact (dig_iff _).2 (by omega)

theorem mag_bad (neg : Bool) (l : List UInt8) (i m : Nat) (him : i ≤ m) (hm : m < l.length) (h : ¬ (48 ≤ fb l m ∧ fb l m ≤ 57)) : mag neg (l.drop i) = none := by
  unfold mag
  rw [if_neg]
  rintro ⟨-, h2, -⟩
  exact h ((allDig_iff l i).1 h2 m him hm)

theorem mag_unfit (neg : Bool) (l : List UInt8) (i : Nat) (h : fits neg (val 0 (l.drop i)) = false) : mag neg (l.drop i) = none := by
  unfold mag
  rw [if_neg]
  rintro ⟨-, -, h3⟩
  rw [h] at h3
  cases h3

theorem mag_fit (neg : Bool) (l : List UInt8) (i : Nat) (hi : i < l.length) (hd : allDig l i) (h : fits neg (val 0 (l.drop i)) = true) : mag neg (l.drop i) = some (signedOf neg (val 0 (l.drop i))) := by
  unfold mag
  rw [if_pos]
  refine ⟨?_, (allDig_iff l i).2 hd, h⟩
  intro e
  have := congrArg List.length e
  rw [List.length_drop, List.length_nil] at this
  omega

/-- Leading zeros say nothing. -/
theorem val_zeros (l : List UInt8) (i : Nat) : ∀ (d : Nat), i + d ≤ l.length → (∀ m, i ≤ m → m < i + d → fb l m = 48) → val 0 (l.drop i) = val 0 (l.drop (i + d)) := by
  intro d
  induction d with
  | zero => intro _ _; rfl
  | succ d ih =>
    intro hl hz
    rw [ih (by omega) (fun m h1 h2 => hz m h1 (by omega))]
    have hlt : i + d < l.length := by omega
    have e : l.drop (i + d) = l[i + d] :: l.drop (i + d + 1) := List.drop_eq_getElem_cons hlt
    have h48 := hz (i + d) (by omega) (by omega)
    rw [fb_of_lt _ _ hlt] at h48
    rw [e, val_cons, show 0 * 10 + (l[i + d].toNat - 48) = 0 by omega, Nat.add_assoc]

theorem val_lead (c : UInt8) (r : List UInt8) (h : 48 < c.toNat) : 10 ^ r.length ≤ val 0 (c :: r) := by
  rw [val_cons, val_acc]
  have h1 : 1 ≤ 0 * 10 + (c.toNat - 48) := by omega
  have h2 := Nat.mul_le_mul_right (10 ^ r.length) h1
  rw [Nat.one_mul] at h2
  exact Nat.le_trans h2 (Nat.le_add_right _ _)

/-- The bound's digits. -/
def bnd (neg : Bool) : List UInt8 := if neg then [57, 50, 50, 51, 51, 55, 50, 48, 51, 54, 56, 53, 52, 55, 55, 53, 56, 48, 56] else [57, 50, 50, 51, 51, 55, 50, 48, 51, 54, 56, 53, 52, 55, 55, 53, 56, 48, 55]
theorem bnd_length (neg : Bool) : (bnd neg).length = 19 := by cases neg <;> rfl
theorem bnd_dig (neg : Bool) : (bnd neg).all dig = true := by cases neg <;> decide
theorem bnd_val_true : val 0 (bnd true) = 9223372036854775808 := by decide
theorem bnd_val_false : val 0 (bnd false) = 9223372036854775807 := by decide
theorem fits_iff (neg : Bool) (n : Nat) : fits neg n = true ↔ n ≤ val 0 (bnd neg) := by
  cases neg
  · rw [bnd_val_false]; simp [fits]; omega
  · rw [bnd_val_true]; simp [fits]

/-- Of two runs of digits of one length: alike up to place q, less there: less. -/
theorem lex_lt : ∀ (q : Nat) (a b : List UInt8), a.length = b.length → a.all dig = true → b.all dig = true → q < a.length → (∀ m, m < q → fb a m = fb b m) → fb a q < fb b q → val 0 a < val 0 b := by
  intro q
  induction q with
  | zero =>
    intro a b hl ha hb hq _ hlt
    match a, b with
    | [], _ => simp at hq
    | _ :: _, [] => simp at hl
    | c :: r, d :: t =>
      rw [fb_zero, fb_zero] at hlt
      rw [List.all_cons, Bool.and_eq_true] at ha hb
      rw [List.length_cons, List.length_cons] at hl
      have hr : r.length = t.length := by omega
      have h1 := val_lt r ha.2
      have hc := (dig_iff c).1 ha.1
      have hd := (dig_iff d).1 hb.1
      rw [val_cons, val_cons, val_acc r, val_acc t, ← hr]
      have h2 : 0 * 10 + (c.toNat - 48) + 1 ≤ 0 * 10 + (d.toNat - 48) := by omega
      have h3 := Nat.mul_le_mul_right (10 ^ r.length) h2
      rw [Nat.add_mul, Nat.one_mul] at h3
      omega
  | succ q ih =>
    intro a b hl ha hb hq heq hlt
    match a, b with
    | [], _ => simp at hq
    | _ :: _, [] => simp at hl
    | c :: r, d :: t =>
      have h0 := heq 0 (by omega)
      rw [fb_zero, fb_zero] at h0
      rw [List.all_cons, Bool.and_eq_true] at ha hb
      rw [List.length_cons, List.length_cons] at hl
      rw [List.length_cons] at hq
      have hr : r.length = t.length := by omega
      have hi := ih r t hr ha.2 hb.2 (by omega) (fun m hm => by have := heq (m + 1) (by omega); rwa [fb_cons, fb_cons] at this) (by rwa [fb_cons, fb_cons] at hlt)
      rw [val_cons, val_cons, val_acc r, val_acc t, ← hr, show c.toNat = d.toNat by omega]
      omega

theorem lex_eq (a b : List UInt8) (hl : a.length = b.length) (h : ∀ m, m < a.length → fb a m = fb b m) : a = b := by
  refine List.ext_getElem hl fun m h1 h2 => ?_
  have := h m h1
  rw [fb_of_lt _ _ h1, fb_of_lt _ _ h2] at this
  exact UInt8.toNat_inj.1 (by omega)

/-! ### What the model's tests say -/

theorem unfit_long (neg : Bool) (l : List UInt8) (z : Nat) (hz : z < l.length) (h0 : 48 < fb l z) (hlen : z + 19 < l.length) : fits neg (val 0 (l.drop z)) = false := by
  cases e : fits neg (val 0 (l.drop z)) with
  | false => rfl
  | true =>
    exfalso
    have h1 := (fits_iff _ _).1 e
    rw [List.drop_eq_getElem_cons hz] at h1
    rw [fb_of_lt _ _ hz] at h0
    have h2 := val_lead l[z] (l.drop (z + 1)) (by omega)
    have h3 : 10 ^ 19 ≤ 10 ^ (l.drop (z + 1)).length := Nat.pow_le_pow_right (by omega) (by rw [List.length_drop]; omega)
    have h4 : val 0 (bnd neg) ≤ 9223372036854775808 := by
      cases neg
      · rw [bnd_val_false]; omega
      · rw [bnd_val_true]; omega
    have h5 : (10 : Nat) ^ 19 = 10000000000000000000 := by decide
    omega

theorem unfit_greater (neg : Bool) (l : List UInt8) (z q : Nat) (hd : allDig l z) (hlen : z + 19 = l.length) (hq : q < 19) (heq : ∀ m, m < q → fb l (z + m) = fb (bnd neg) m) (hgt : fb (bnd neg) q < fb l (z + q)) : fits neg (val 0 (l.drop z)) = false := by
  cases e : fits neg (val 0 (l.drop z)) with
  | false => rfl
  | true =>
    exfalso
    have h1 := (fits_iff _ _).1 e
    have h2 := lex_lt q (bnd neg) (l.drop z) (by rw [bnd_length, List.length_drop]; omega) (bnd_dig neg) ((allDig_iff l z).2 hd) (by rw [bnd_length]; exact hq) (fun m hm => by rw [fb_drop]; exact (heq m hm).symm) (by rw [fb_drop]; exact hgt)
    omega

theorem fit_less (neg : Bool) (l : List UInt8) (z q : Nat) (hd : allDig l z) (hlen : z + 19 = l.length) (hq : q < 19) (heq : ∀ m, m < q → fb l (z + m) = fb (bnd neg) m) (hlt : fb l (z + q) < fb (bnd neg) q) : fits neg (val 0 (l.drop z)) = true := by
  rw [fits_iff]
  have h2 := lex_lt q (l.drop z) (bnd neg) (by rw [bnd_length, List.length_drop]; omega) ((allDig_iff l z).2 hd) (bnd_dig neg) (by rw [List.length_drop]; omega) (fun m hm => by rw [fb_drop]; exact heq m hm) (by rw [fb_drop]; exact hlt)
  omega

theorem fit_equal (neg : Bool) (l : List UInt8) (z : Nat) (hlen : z + 19 = l.length) (heq : ∀ m, m < 19 → fb l (z + m) = fb (bnd neg) m) : fits neg (val 0 (l.drop z)) = true := by
  rw [fits_iff, lex_eq (l.drop z) (bnd neg) (by rw [bnd_length, List.length_drop]; omega) (fun m hm => by rw [fb_drop]; exact heq m (by rw [List.length_drop] at hm; omega))]
  exact Nat.le_refl _

theorem fit_short (neg : Bool) (l : List UInt8) (z : Nat) (hd : allDig l z) (hlen : l.length < z + 19) : fits neg (val 0 (l.drop z)) = true := by
  rw [fits_iff]
  have h1 := val_lt (l.drop z) ((allDig_iff l z).2 hd)
  have h3 : 10 ^ (l.drop z).length ≤ 10 ^ 18 := Nat.pow_le_pow_right (by omega) (by rw [List.length_drop]; omega)
  have h5 : (10 : Nat) ^ 18 = 1000000000000000000 := by decide
  cases neg
  · rw [bnd_val_false]; omega
  · rw [bnd_val_true]; omega

end Go.Proofs.Qxb6628219aDoor.Plain
