/- The plain laws: no Go in sight. -/
namespace Go.Proofs.Qxb6628539a.Plain

/-- The number that a run of decimal digits spells, behind what was read before. -/
def val (acc : Nat) : List UInt8 → Nat
  | [] => acc
  | c :: r => val (acc * 10 + (c.toNat - 48)) r

/-- A decimal digit. -/
def dig (c : UInt8) : Bool := decide (48 ≤ c.toNat) && decide (c.toNat ≤ 57)

theorem dig_iff (c : UInt8) : dig c = true ↔ 48 ≤ c.toNat ∧ c.toNat ≤ 57 := by simp [dig]
theorem dig_not (c : UInt8) (h : ¬ (48 ≤ c.toNat ∧ c.toNat ≤ 57)) : dig c = false := by
  cases e : dig c with
  | false => rfl
  | true => exact absurd ((dig_iff c).1 e) h

theorem val_nil (acc : Nat) : val acc [] = acc := by unfold val; rfl
theorem val_cons (acc : Nat) (c : UInt8) (r : List UInt8) : val acc (c :: r) = val (acc * 10 + (c.toNat - 48)) r := by
  conv => lhs; unfold val

theorem val_acc (l : List UInt8) : ∀ acc, val acc l = acc * 10 ^ l.length + val 0 l := by
  induction l with
  | nil => intro acc; simp [val_nil]
  | cons c r ih =>
    intro acc
    rw [val_cons, val_cons, ih (acc * 10 + (c.toNat - 48)), ih (0 * 10 + (c.toNat - 48))]
    have e : acc * 10 ^ (c :: r).length = acc * 10 * 10 ^ r.length := by
      rw [List.length_cons, Nat.pow_succ, Nat.mul_assoc, Nat.mul_comm 10 (10 ^ r.length)]
    rw [e, Nat.zero_mul, Nat.zero_add, Nat.add_mul, Nat.add_assoc]

theorem val_ge (l : List UInt8) : ∀ acc, acc ≤ val acc l := by
  intro acc
  rw [val_acc]
  have : 0 < 10 ^ l.length := Nat.pow_pos (by omega)
  have : acc * 1 ≤ acc * 10 ^ l.length := Nat.mul_le_mul_left _ this
  omega

theorem val_snoc (l : List UInt8) (c : UInt8) : ∀ acc, val acc (l ++ [c]) = val acc l * 10 + (c.toNat - 48) := by
  induction l with
  | nil => intro acc; rw [List.nil_append, val_cons, val_nil, val_nil]
  | cons a r ih => intro acc; rw [List.cons_append, val_cons, val_cons, ih]

theorem val_append (l m : List UInt8) : ∀ acc, val acc (l ++ m) = val (val acc l) m := by
  induction l with
  | nil => intro acc; rw [List.nil_append, val_nil]
  | cons a r ih => intro acc; rw [List.cons_append, val_cons, val_cons, ih]

theorem mul_bound (d p v : Nat) (h1 : v < p) (h2 : d ≤ 9) : d * p + v < p * 10 := by
  have h3 : d * p ≤ 9 * p := Nat.mul_le_mul_right _ h2
  omega

theorem val_lt (l : List UInt8) (h : l.all dig = true) : val 0 l < 10 ^ l.length := by
  induction l with
  | nil => rw [val_nil]; exact Nat.pow_pos (by omega)
  | cons c r ih =>
    rw [List.all_cons, Bool.and_eq_true] at h
    have h1 := ih h.2
    have h2 := (dig_iff c).1 h.1
    have e : val 0 (c :: r) = (c.toNat - 48) * 10 ^ r.length + val 0 r := by
      rw [val_cons, val_acc, Nat.zero_mul, Nat.zero_add]
    rw [e, List.length_cons, Nat.pow_succ]
    exact mul_bound _ _ _ h1 (by omega)

/-- The k-th byte, as a number. -/
def fb (l : List UInt8) (k : Nat) : Int := ((l.getD k 0).toNat : Int)

theorem fb_range (l : List UInt8) (k : Nat) : 0 ≤ fb l k ∧ fb l k ≤ 255 := by
  unfold fb
  have := (l.getD k 0).toNat_lt
  omega

theorem fb_of_lt (l : List UInt8) (k : Nat) (h : k < l.length) : fb l k = (l[k].toNat : Int) := by
  unfold fb
  rw [List.getD_eq_getElem?_getD, List.getElem?_eq_getElem h, Option.getD_some]

theorem fb_drop (l : List UInt8) (z k : Nat) : fb (l.drop z) k = fb l (z + k) := by
  unfold fb
  rw [List.getD_eq_getElem?_getD, List.getD_eq_getElem?_getD, List.getElem?_drop]

theorem fb_cons (c : UInt8) (r : List UInt8) (k : Nat) : fb (c :: r) (k + 1) = fb r k := rfl
theorem fb_zero (c : UInt8) (r : List UInt8) : fb (c :: r) 0 = (c.toNat : Int) := rfl

/-- All bytes from place i on are digits. -/
def allDig (l : List UInt8) (i : Nat) : Prop := ∀ m, i ≤ m → m < l.length → 48 ≤ fb l m ∧ fb l m ≤ 57

theorem allDig_iff (l : List UInt8) (i : Nat) : (l.drop i).all dig = true ↔ allDig l i := by
  rw [List.all_eq_true]
  constructor
  · intro h m him hm
    have hm' : m - i < (l.drop i).length := by rw [List.length_drop]; omega
    have h1 := h (l.drop i)[m - i] (List.getElem_mem hm')
    have h2 := (dig_iff _).1 h1
    have e : fb l m = ((l.drop i)[m - i].toNat : Int) := by
      rw [← fb_of_lt _ _ hm', fb_drop, show i + (m - i) = m by omega]
    omega
  · intro h x hx
    obtain ⟨k, hk, rfl⟩ := List.getElem_of_mem hx
    have hk' : k < l.length - i := by rw [List.length_drop] at hk; exact hk
    have h1 := h (i + k) (by omega) (by omega)
    have e : fb l (i + k) = ((l.drop i)[k].toNat : Int) := by rw [← fb_of_lt _ _ hk, fb_drop]
    exact (dig_iff _).2 (by omega)

/-- Leading zeros say nothing. -/
theorem val_zeros (l : List UInt8) (i : Nat) : ∀ (d : Nat), i + d ≤ l.length → (∀ m, i ≤ m → m < i + d → fb l m = 48) → val 0 (l.drop i) = val 0 (l.drop (i + d)) := by
  intro d
  induction d with
  | zero => intro _ _; rfl
  | succ d ih =>
    intro hl hz
    rw [ih (by omega) (fun m h1 h2 => hz m h1 (by omega))]
    have hlt : i + d < l.length := by omega
    have e : l.drop (i + d) = l[i + d] :: l.drop (i + d + 1) := List.drop_eq_getElem_cons hlt
    have h48 := hz (i + d) (by omega) (by omega)
    rw [fb_of_lt _ _ hlt] at h48
    rw [e, val_cons, show 0 * 10 + (l[i + d].toNat - 48) = 0 by omega, Nat.add_assoc]

theorem val_lead (c : UInt8) (r : List UInt8) (h : 48 < c.toNat) : 10 ^ r.length ≤ val 0 (c :: r) := by
  rw [val_cons, val_acc]
  have h1 : 1 ≤ 0 * 10 + (c.toNat - 48) := by omega
  have h2 := Nat.mul_le_mul_right (10 ^ r.length) h1
  rw [Nat.one_mul] at h2
  exact Nat.le_trans h2 (Nat.le_add_right _ _)

/-- The ceiling. -/
def top : Nat := 1048576

/-- A non-empty run of digits. -/
def okOf (l : List UInt8) : Bool := !l.isEmpty && l.all dig
/-- Its number, cut at the ceiling; 0 where it is none. -/
def nvOf (l : List UInt8) : Int := if okOf l = true then ((min (val 0 l) top : Nat) : Int) else 0

/-- What the first k digits spell, cut. -/
def cut (l : List UInt8) (k : Nat) : Int := ((min (val 0 (l.take k)) top : Nat) : Int)

theorem cut_zero (l : List UInt8) : cut l 0 = 0 := by
  unfold cut
  rw [List.take_zero, val_nil]
  rfl

theorem cut_range (l : List UInt8) (k : Nat) : 0 ≤ cut l k ∧ cut l k ≤ 1048576 := by
  unfold cut top
  omega

theorem cut_succ (l : List UInt8) (k : Nat) (h : k < l.length) (hd : 48 ≤ fb l k) : cut l (k + 1) = min (cut l k * 10 + (fb l k - 48)) 1048576 := by
  have e : l.take (k + 1) = l.take k ++ [l[k]] := List.take_succ_eq_append_getElem h
  unfold cut top
  rw [e, val_snoc]
  rw [fb_of_lt _ _ h] at hd ⊢
  omega

theorem cut_all (l : List UInt8) : cut l l.length = ((min (val 0 l) top : Nat) : Int) := by
  unfold cut
  rw [List.take_length]

theorem ok_false (l : List UInt8) (k : Nat) (hk : k < l.length) (h : ¬ (48 ≤ fb l k ∧ fb l k ≤ 57)) : okOf l = false := by
  unfold okOf
  cases e : l.all dig with
  | false => simp
  | true => exact absurd ((allDig_iff l 0).1 (by rw [List.drop_zero]; exact e) k (Nat.zero_le _) hk) h

theorem ok_true (l : List UInt8) (h0 : 0 < l.length) (h : allDig l 0) : okOf l = true := by
  have e := (allDig_iff l 0).2 h
  rw [List.drop_zero] at e
  unfold okOf
  rw [e]
  cases l with
  | nil => simp at h0
  | cons c r => rfl

theorem ok_nil : okOf [] = false := rfl

theorem nv_ok (l : List UInt8) (h : okOf l = true) : nvOf l = ((min (val 0 l) top : Nat) : Int) := by unfold nvOf; rw [if_pos h]
theorem nv_no (l : List UInt8) (h : okOf l = false) : nvOf l = 0 := by unfold nvOf; rw [if_neg (by rw [h]; exact Bool.false_ne_true)]

/-- What the digits from place t on spell. -/
def tv (l : List UInt8) (t : Nat) : Int := (val 0 (l.drop t) : Int)
/-- The power of ten that stands ahead of them. -/
def pw (l : List UInt8) (t : Nat) : Int := ((10 ^ (l.length - t) : Nat) : Int)

theorem tv_end (l : List UInt8) : tv l l.length = 0 := by unfold tv; rw [List.drop_length, val_nil]; rfl
theorem pw_end (l : List UInt8) : pw l l.length = 1 := by unfold pw; rw [Nat.sub_self]; rfl

theorem pw_step (l : List UInt8) (t : Nat) (h : t < l.length) : pw l t = pw l (t + 1) * 10 := by
  unfold pw
  rw [show l.length - t = (l.length - (t + 1)) + 1 by omega, Nat.pow_succ]
  omega

theorem tv_step (l : List UInt8) (t : Nat) (h : t < l.length) (hd : 48 ≤ fb l t) : tv l t = tv l (t + 1) + (fb l t - 48) * pw l (t + 1) := by
  have e : l.drop t = l[t] :: l.drop (t + 1) := List.drop_eq_getElem_cons h
  rw [fb_of_lt _ _ h] at hd ⊢
  unfold tv pw
  rw [e, val_cons, val_acc, List.length_drop, Nat.zero_mul, Nat.zero_add, Int.natCast_add, Int.natCast_mul]
  rw [show ((l[t].toNat - 48 : Nat) : Int) = (l[t].toNat : Int) - 48 by omega]
  omega

theorem tv_bound (l : List UInt8) (t : Nat) (hd : allDig l t) (h7 : l.length - t ≤ 7) : 0 ≤ tv l t ∧ tv l t ≤ 9999999 := by
  have h1 := val_lt (l.drop t) ((allDig_iff l t).2 hd)
  have h2 : 10 ^ (l.drop t).length ≤ 10 ^ 7 := Nat.pow_le_pow_right (by omega) (by rw [List.length_drop]; exact h7)
  have h3 : (10 : Nat) ^ 7 = 10000000 := by decide
  unfold tv
  omega

theorem pw_bound (l : List UInt8) (t : Nat) (h7 : l.length - t ≤ 7) : 1 ≤ pw l t ∧ pw l t ≤ 10000000 := by
  have h2 : 10 ^ (l.length - t) ≤ 10 ^ 7 := Nat.pow_le_pow_right (by omega) h7
  have h3 : (10 : Nat) ^ 7 = 10000000 := by decide
  have h4 : 0 < 10 ^ (l.length - t) := Nat.pow_pos (by omega)
  unfold pw
  omega

theorem prod_le (d p : Int) (h0 : 0 ≤ d) (h9 : d ≤ 9) (h1 : 1 ≤ p) (h2 : p ≤ 10000000) : 0 ≤ d * p ∧ d * p ≤ 90000000 := by
  have a : d * p ≤ 9 * p := Int.mul_le_mul_of_nonneg_right h9 (by omega)
  have b : 0 ≤ d * p := Int.mul_nonneg h0 (by omega)
  omega

/-- Behind the leading zeros more than seven digits: beyond the ceiling. -/
theorem val_long (l : List UInt8) (z : Nat) (hz : z < l.length) (h0 : 48 < fb l z) (hlen : z + 7 < l.length) : top ≤ val 0 (l.drop z) := by
  rw [List.drop_eq_getElem_cons hz]
  rw [fb_of_lt _ _ hz] at h0
  have h2 := val_lead l[z] (l.drop (z + 1)) (by omega)
  have h3 : 10 ^ 7 ≤ 10 ^ (l.drop (z + 1)).length := Nat.pow_le_pow_right (by omega) (by rw [List.length_drop]; omega)
  have h5 : (10 : Nat) ^ 7 = 10000000 := by decide
  unfold top
  omega

theorem val_strip (l : List UInt8) (z : Nat) (hz : z ≤ l.length) (h : ∀ m, m < z → fb l m = 48) : val 0 l = val 0 (l.drop z) := by
  have := val_zeros l 0 z (by omega) (fun m _ h2 => h m (by omega))
  rw [List.drop_zero, Nat.zero_add] at this
  exact this

theorem min_top (v : Nat) (h : top ≤ v) : ((min v top : Nat) : Int) = 1048576 := by
  rw [Nat.min_eq_right h]; rfl
theorem min_low (v : Nat) (h : v ≤ top) : ((min v top : Nat) : Int) = v := by
  rw [Nat.min_eq_left h]

/-! ### Two texts, one behind the other -/

theorem all_append (a b : List UInt8) : (a ++ b).all dig = (a.all dig && b.all dig) := List.all_append
theorem ok_append (a b : List UInt8) (ha : a ≠ []) (hb : b ≠ []) : okOf (a ++ b) = (okOf a && okOf b) := by
  unfold okOf
  rw [all_append]
  have e1 : a.isEmpty = false := by cases a with | nil => exact absurd rfl ha | cons _ _ => rfl
  have e2 : b.isEmpty = false := by cases b with | nil => exact absurd rfl hb | cons _ _ => rfl
  have e3 : (a ++ b).isEmpty = false := by cases a with | nil => exact absurd rfl ha | cons _ _ => rfl
  rw [e1, e2, e3]
  simp

theorem val_two (a b : List UInt8) : val 0 (a ++ b) = val 0 a * 10 ^ b.length + val 0 b := by rw [val_append, val_acc]

/-- What joinCapped hands back. -/
def joined (hi lo : Int) (k : Nat) : Int := if 1048576 ≤ hi ∨ 1048576 ≤ lo then 1048576 else min (hi * ((10 ^ k : Nat) : Int) + lo) 1048576

theorem joined_nv (a b : List UInt8) (ha : okOf a = true) (hb : okOf b = true) (hab : okOf (a ++ b) = true) : nvOf (a ++ b) = joined (nvOf a) (nvOf b) b.length := by
  rw [nv_ok _ ha, nv_ok _ hb, nv_ok _ hab, val_two]
  have hp : 1 ≤ 10 ^ b.length := Nat.pow_pos (by omega)
  have hm : val 0 a * 1 ≤ val 0 a * 10 ^ b.length := Nat.mul_le_mul_left _ hp
  unfold joined
  by_cases h1 : top ≤ val 0 a
  · rw [min_top _ h1, if_pos (Or.inl (Int.le_refl _)), min_top _ (by omega)]
  · by_cases h2 : top ≤ val 0 b
    · rw [min_top (val 0 b) h2, if_pos (Or.inr (Int.le_refl _)), min_top _ (by omega)]
    · rw [min_low (val 0 a) (by omega), min_low (val 0 b) (by omega), if_neg (by unfold top at h1 h2; omega)]
      rw [← Int.natCast_mul, ← Int.natCast_add]
      unfold top
      omega

end Go.Proofs.Qxb6628539a.Plain
