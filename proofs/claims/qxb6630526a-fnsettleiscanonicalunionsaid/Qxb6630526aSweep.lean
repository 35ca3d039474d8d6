import Derived.Test.Qxb6630526aRank
namespace Go.Proofs.Qxb6630526a.Plain

/-! ### The sweep, over keys of whatever kind -/

section
variable {κ : Type} [DecidableEq κ]

/-- What a group of events at key k lets out: b open ahead of it, c behind it. -/
def outs (b c : Int) (start k : κ) : List (κ × κ) := if 0 < b ∧ c = 0 then [(start, k)] else []
/-- Where the run in hand begins behind the group. -/
def st (b c : Int) (start k : κ) : κ := if b = 0 ∧ 0 < c then k else start
/-- In the group of key k: b open ahead of it, c so far. -/
def swIn (z : κ) : κ → Int → Int → κ → List (κ × Int) → List (κ × κ)
  | k, b, c, start, [] => outs b c start k ++ (if 0 < c then [(st b c start k, z)] else [])
  | k, b, c, start, e :: r => if e.1 = k then swIn z k b (c + e.2) start r else outs b c start k ++ swIn z e.1 c (c + e.2) (st b c start k) r
/-- At the head of the loop over the groups. -/
def swAt (z : κ) (c : Int) (start : κ) : List (κ × Int) → List (κ × κ)
  | [] => if 0 < c then [(start, z)] else []
  | e :: r => swIn z e.1 c (c + e.2) start r

theorem swIn_same (z k : κ) (b c d : Int) (start : κ) (r : List (κ × Int)) : swIn z k b c start ((k, d) :: r) = swIn z k b (c + d) start r := by rw [swIn]; exact if_pos rfl
theorem swIn_other (z k k' : κ) (b c d : Int) (start : κ) (r : List (κ × Int)) (h : k' ≠ k) : swIn z k b c start ((k', d) :: r) = outs b c start k ++ swIn z k' c (c + d) (st b c start k) r := by rw [swIn]; exact if_neg h
theorem swIn_nil (z k : κ) (b c : Int) (start : κ) : swIn z k b c start [] = outs b c start k ++ (if 0 < c then [(st b c start k, z)] else []) := rfl
theorem swAt_start (z : κ) (c : Int) (start k : κ) (d : Int) (r : List (κ × Int)) : swAt z c start ((k, d) :: r) = swIn z k c c start ((k, d) :: r) := by rw [swIn_same]; rfl
/-- The end of a group. -/
theorem swIn_end (z k : κ) (b c : Int) (start : κ) (E : List (κ × Int)) (h : ∀ e r, E = e :: r → e.1 ≠ k) : swIn z k b c start E = outs b c start k ++ swAt z c (st b c start k) E := by
  match E, h with
  | [], _ => rfl
  | e :: r, h => exact swIn_other z k e.1 b c e.2 start r (h e r rfl)
end

/-! ### Numbers -/

/-- Ranges that are kept apart: each ends ahead of every later one. -/
def Canon : List (Nat × Nat) → Prop
  | [] => True
  | a :: r => (a.2 = 0 ∨ a.1 < a.2) ∧ (∀ q ∈ r, a.2 ≠ 0 ∧ a.2 < q.1) ∧ Canon r

theorem canon_rest {a : Nat × Nat} {r : List (Nat × Nat)} (h : Canon (a :: r)) : ∀ q ∈ r, a.1 < q.1 := fun q hq => by
  have h1 := h.1
  have h2 := h.2.1 q hq
  omega

/-- A point at or ahead of the end of the first range lies in no later one. -/
theorem canon_out {a : Nat × Nat} {r : List (Nat × Nat)} (h : Canon (a :: r)) (x : Nat) (hx : a.2 = 0 ∨ x ≤ a.2) : inAny x r = false := by
  cases e : inAny x r with
  | false => rfl
  | true =>
    unfold inAny at e
    rw [List.any_eq_true] at e
    obtain ⟨q, hq, hc⟩ := e
    rw [cov_iff] at hc
    have := h.2.1 q hq
    omega

theorem any_of {x : Nat} {q : Nat × Nat} {r : List (Nat × Nat)} (hq : q ∈ r) (h : cov x q = true) : inAny x r = true := by
  unfold inAny
  rw [List.any_eq_true]
  exact ⟨q, hq, h⟩
theorem none_of {x : Nat} {r : List (Nat × Nat)} (h : ∀ q ∈ r, cov x q = false) : inAny x r = false := by
  cases e : inAny x r with
  | false => rfl
  | true =>
    unfold inAny at e
    rw [List.any_eq_true] at e
    obtain ⟨q, hq, hc⟩ := e
    rw [h q hq] at hc
    cases hc
theorem cov_false (x : Nat) (p : Nat × Nat) (h : ¬ (p.1 ≤ x ∧ (p.2 = 0 ∨ x < p.2))) : cov x p = false := by
  cases e : cov x p with
  | false => rfl
  | true => exact absurd ((cov_iff x p).1 e) h
theorem cov_first (p : Nat × Nat) (h : p.2 = 0 ∨ p.1 < p.2) : cov p.1 p = true := (cov_iff _ _).2 ⟨Nat.le_refl _, h⟩

/-- THE FORM IS FIXED BY THE POINTS IT COVERS. -/
theorem canon_eq : ∀ (l m : List (Nat × Nat)), Canon l → Canon m → (∀ x, inAny x l = inAny x m) → l = m := by
  intro l
  induction l with
  | nil =>
    intro m _ hm h
    match m, hm with
    | [], _ => rfl
    | b :: r, hm =>
      have := h b.1
      rw [any_of (List.mem_cons_self) (cov_first b hm.1)] at this
      cases this
  | cons a r ih =>
    intro m hl hm h
    match m, hm with
    | [], _ =>
      have := h a.1
      rw [any_of (List.mem_cons_self) (cov_first a hl.1)] at this
      cases this
    | b :: s, hm =>
      have low : ∀ (c : Nat × Nat) (t : List (Nat × Nat)), Canon (c :: t) → ∀ x, inAny x (c :: t) = true → c.1 ≤ x := fun c t hc x hx => by
        rw [inAny_cons, Bool.or_eq_true] at hx
        rcases hx with hx | hx
        · exact ((cov_iff _ _).1 hx).1
        · unfold inAny at hx
          rw [List.any_eq_true] at hx
          obtain ⟨q, hq, hcq⟩ := hx
          have h1 := canon_rest hc q hq
          have h2 := ((cov_iff _ _).1 hcq).1
          omega
      have e1 : a.1 = b.1 := by
        have h1 := low b s hm a.1 (by rw [← h]; exact any_of (List.mem_cons_self) (cov_first a hl.1))
        have h2 := low a r hl b.1 (by rw [h]; exact any_of (List.mem_cons_self) (cov_first b hm.1))
        omega
      have ends : ∀ (c d : Nat × Nat) (t u : List (Nat × Nat)), Canon (c :: t) → Canon (d :: u) → c.1 = d.1 → (∀ x, inAny x (c :: t) = inAny x (d :: u)) → d.2 ≠ 0 → c.2 ≠ 0 ∧ c.2 ≤ d.2 := fun c d t u hc hd e hh hne => by
        have h1 : inAny d.2 (d :: u) = false := by
          rw [inAny_cons, canon_out hd d.2 (Or.inr (Nat.le_refl _)), Bool.or_false]
          exact cov_false _ _ (by omega)
        rw [← hh, inAny_cons, Bool.or_eq_false_iff] at h1
        have h2 : ¬ (c.1 ≤ d.2 ∧ (c.2 = 0 ∨ d.2 < c.2)) := fun hx => by rw [(cov_iff _ _).2 hx] at h1; cases h1.1
        have h3 := hd.1
        omega
      have e2 : a.2 = b.2 := by
        by_cases ha : a.2 = 0
        · by_cases hb : b.2 = 0
          · omega
          · have := ends a b r s hl hm e1 h hb; omega
        · by_cases hb : b.2 = 0
          · have := ends b a s r hm hl e1.symm (fun x => (h x).symm) ha; omega
          · have h1 := ends a b r s hl hm e1 h hb
            have h2 := ends b a s r hm hl e1.symm (fun x => (h x).symm) ha
            omega
      have hab : a = b := Prod.ext e1 e2
      subst hab
      have hrs : r = s := by
        refine ih s hl.2.2 hm.2.2 fun x => ?_
        by_cases hx : a.2 = 0 ∨ x ≤ a.2
        · rw [canon_out hl x hx, canon_out hm x hx]
        · have := h x
          rw [inAny_cons, inAny_cons, cov_false x a (by omega), Bool.false_or, Bool.false_or] at this
          exact this
      rw [hrs]

/-- The sum of the events up to x. -/
def sumTo : List (Nat × Int) → Nat → Int
  | [], _ => 0
  | e :: r, x => (if e.1 ≤ x then e.2 else 0) + sumTo r x
theorem sumTo_none : ∀ (E : List (Nat × Int)) (x : Nat), (∀ e ∈ E, x < e.1) → sumTo E x = 0 := by
  intro E
  induction E with
  | nil => intro x _; rfl
  | cons e r ih =>
    intro x h
    have h1 := h e (List.mem_cons_self)
    rw [sumTo, if_neg (by omega), ih x (fun q hq => h q (List.mem_cons_of_mem _ hq))]
    rfl
theorem sumTo_perm {E F : List (Nat × Int)} (h : E.Perm F) (x : Nat) : sumTo E x = sumTo F x := by
  induction h with
  | nil => rfl
  | cons e _ ih => rw [sumTo, sumTo, ih]
  | swap e f r => rw [sumTo, sumTo, sumTo, sumTo]; omega
  | trans _ _ h1 h2 => rw [h1, h2]

def UpE (E : List (Nat × Int)) : Prop := E.Pairwise fun a b => a.1 ≤ b.1

theorem decide_int {a b : Int} (h : a = b) : decide (0 < a) = decide (0 < b) := by rw [h]

/-- What the sweep leaves. -/
structure Swept (k : Nat) (b : Int) (start : Nat) (T : Nat → Int) (L : List (Nat × Nat)) : Prop where
  canon : Canon L
  cov : ∀ x, k ≤ x → inAny x L = decide (0 < T x)
  shut : b = 0 → ∀ p ∈ L, k ≤ p.1
  isOpen : 0 < b → ∃ t r, L = (start, t) :: r ∧ (t = 0 ∨ k ≤ t)

theorem inAny_one (x : Nat) (p : Nat × Nat) : inAny x [p] = cov x p := by rw [inAny_cons, inAny_nil, Bool.or_false]

theorem swept : ∀ (E : List (Nat × Int)) (k : Nat) (b c : Int) (start : Nat), UpE E → (∀ e ∈ E, k ≤ e.1) → 0 ≤ b → (0 < b → start < k) → (∀ x, k ≤ x → 0 ≤ c + sumTo E x) →
    Swept k b start (fun x => c + sumTo E x) (swIn 0 k b c start E) := by
  intro E
  induction E with
  | nil =>
    intro k b c start _ _ hb hst hT
    have hc : 0 ≤ c := by have := hT k (Nat.le_refl _); rw [sumTo] at this; omega
    rw [swIn_nil]
    unfold outs st
    by_cases hb0 : b = 0
    · by_cases hc0 : 0 < c
      · rw [if_neg (by omega), if_pos hc0, if_pos ⟨hb0, hc0⟩, List.nil_append]
        refine ⟨⟨Or.inl rfl, fun q hq => absurd hq List.not_mem_nil, trivial⟩, fun x hx => ?_, fun _ p hp => by rw [List.mem_singleton.1 hp]; exact Nat.le_refl _, fun h => by omega⟩
        show inAny x [(k, 0)] = decide (0 < c + sumTo [] x)
        rw [inAny_one, (cov_iff _ _).2 ⟨hx, Or.inl rfl⟩, eq_comm, decide_eq_true_eq, sumTo]
        omega
      · rw [if_neg (by omega), if_neg hc0]
        refine ⟨trivial, fun x hx => ?_, fun _ p hp => absurd hp List.not_mem_nil, fun h => by omega⟩
        show false = decide (0 < c + sumTo [] x)
        rw [eq_comm, decide_eq_false_iff_not, sumTo]
        omega
    · by_cases hc0 : 0 < c
      · rw [if_neg (by omega), if_pos hc0, if_neg (by omega), List.nil_append]
        refine ⟨⟨Or.inl rfl, fun q hq => absurd hq List.not_mem_nil, trivial⟩, fun x hx => ?_, fun h => absurd h hb0, fun h => ⟨0, [], rfl, Or.inl rfl⟩⟩
        show inAny x [(start, 0)] = decide (0 < c + sumTo [] x)
        have := hst (by omega)
        rw [inAny_one, (cov_iff _ _).2 ⟨by omega, Or.inl rfl⟩, eq_comm, decide_eq_true_eq, sumTo]
        omega
      · rw [if_pos (by omega), if_neg hc0, List.append_nil]
        have hs := hst (by omega)
        refine ⟨⟨Or.inr hs, fun q hq => absurd hq List.not_mem_nil, trivial⟩, fun x hx => ?_, fun h => absurd h hb0, fun h => ⟨k, [], rfl, Or.inr (Nat.le_refl _)⟩⟩
        show inAny x [(start, k)] = decide (0 < c + sumTo [] x)
        rw [inAny_one, cov_false _ _ (by omega), eq_comm, decide_eq_false_iff_not, sumTo]
        omega
  | cons e r ih =>
    intro k b c start hu hk hb hst hT
    obtain ⟨k', d⟩ := e
    have hu2 := (List.pairwise_cons.1 hu).2
    have hr : ∀ q ∈ r, k' ≤ q.1 := (List.pairwise_cons.1 hu).1
    by_cases hkk : k' = k
    · subst hkk
      rw [swIn_same]
      have h := ih k' b (c + d) start hu2 hr hb hst (fun x hx => by have := hT x hx; rw [sumTo, if_pos hx] at this; omega)
      refine ⟨h.canon, fun x hx => ?_, h.shut, h.isOpen⟩
      rw [h.cov x hx]
      refine decide_int ?_
      rw [sumTo, if_pos hx]
      omega
    · have hlt : k < k' := by have := hk (k', d) (List.mem_cons_self); omega
      rw [swIn_other _ _ _ _ _ _ _ _ hkk]
      have hzero : ∀ x, x < k' → sumTo ((k', d) :: r) x = 0 := fun x hx => sumTo_none _ x fun q hq => by
        rcases List.mem_cons.1 hq with rfl | hq
        · exact hx
        · have := hr q hq; omega
      have hc : 0 ≤ c := by have := hT k (Nat.le_refl _); rw [hzero k hlt] at this; omega
      have hsucc : ∀ x, k' ≤ x → c + d + sumTo r x = c + sumTo ((k', d) :: r) x := fun x hx => by rw [sumTo, if_pos hx]; omega
      have h := ih k' c (c + d) (st b c start k) hu2 hr hc (fun hc0 => by
        unfold st
        by_cases hb0 : b = 0
        · rw [if_pos ⟨hb0, hc0⟩]; exact hlt
        · rw [if_neg (by omega)]; have := hst (by omega); omega) (fun x hx => by rw [hsucc x hx]; exact hT x (by omega))
      have far : ∀ x, k' ≤ x → inAny x (swIn 0 k' c (c + d) (st b c start k) r) = decide (0 < c + sumTo ((k', d) :: r) x) := fun x hx => by
        rw [h.cov x hx]; exact decide_int (hsucc x hx)
      generalize hL : swIn 0 k' c (c + d) (st b c start k) r = L at h far
      by_cases hb0 : b = 0
      · have e0 : outs b c start k = [] := by unfold outs; rw [if_neg (by omega)]
        rw [e0, List.nil_append]
        by_cases hc0 : 0 < c
        · have es : st b c start k = k := by unfold st; rw [if_pos ⟨hb0, hc0⟩]
          rw [es] at h
          obtain ⟨t, r', e, ht⟩ := h.isOpen hc0
          subst e
          refine ⟨h.canon, fun x hx => ?_, fun _ p hp => ?_, fun h' => by omega⟩
          · by_cases hx2 : k' ≤ x
            · exact far x hx2
            · show _ = decide (0 < c + sumTo ((k', d) :: r) x)
              rw [hzero x (by omega), inAny_cons, (cov_iff _ _).2 ⟨hx, by show t = 0 ∨ x < t; omega⟩, Bool.true_or, eq_comm, decide_eq_true_eq]
              omega
          · rcases List.mem_cons.1 hp with rfl | hp
            · exact Nat.le_refl _
            · exact Nat.le_of_lt (canon_rest h.canon p hp)
        · have hcz : c = 0 := by omega
          have hs := h.shut hcz
          refine ⟨h.canon, fun x hx => ?_, fun _ p hp => by have := hs p hp; omega, fun h' => by omega⟩
          by_cases hx2 : k' ≤ x
          · exact far x hx2
          · show _ = decide (0 < c + sumTo ((k', d) :: r) x)
            rw [hzero x (by omega), none_of fun q hq => cov_false _ _ (by have := hs q hq; omega), eq_comm, decide_eq_false_iff_not]
            omega
      · have es : st b c start k = start := by unfold st; rw [if_neg (by omega)]
        rw [es] at h
        have hs0 := hst (by omega)
        by_cases hc0 : 0 < c
        · have e0 : outs b c start k = [] := by unfold outs; rw [if_neg (by omega)]
          rw [e0, List.nil_append]
          obtain ⟨t, r', e, ht⟩ := h.isOpen hc0
          subst e
          refine ⟨h.canon, fun x hx => ?_, fun h' => absurd h' hb0, fun _ => ⟨t, r', rfl, by omega⟩⟩
          by_cases hx2 : k' ≤ x
          · exact far x hx2
          · show _ = decide (0 < c + sumTo ((k', d) :: r) x)
            rw [hzero x (by omega), inAny_cons, (cov_iff _ _).2 ⟨by show start ≤ x; omega, by show t = 0 ∨ x < t; omega⟩, Bool.true_or, eq_comm, decide_eq_true_eq]
            omega
        · have hcz : c = 0 := by omega
          have e0 : outs b c start k = [(start, k)] := by unfold outs; rw [if_pos (by omega)]
          rw [e0, List.singleton_append]
          have hs := h.shut hcz
          refine ⟨⟨Or.inr hs0, fun q hq => ?_, h.canon⟩, fun x hx => ?_, fun h' => absurd h' hb0, fun _ => ⟨k, L, rfl, Or.inr (Nat.le_refl _)⟩⟩
          · have := hs q hq
            exact ⟨by show k ≠ 0; omega, by show k < q.1; omega⟩
          · rw [inAny_cons, cov_false x (start, k) (by show ¬ (start ≤ x ∧ (k = 0 ∨ x < k)); omega), Bool.false_or]
            by_cases hx2 : k' ≤ x
            · exact far x hx2
            · show _ = decide (0 < c + sumTo ((k', d) :: r) x)
              rw [hzero x (by omega), none_of fun q hq => cov_false _ _ (by have := hs q hq; omega), eq_comm, decide_eq_false_iff_not]
              omega

/-! ### The settled list has the form; the sweep's events count the ranges -/

def WF (p : Nat × Nat) : Prop := p.2 = 0 ∨ p.1 < p.2

theorem joinL_wf : ∀ (l : List (Nat × Nat)) (p : Nat × Nat), WF p → (∀ q ∈ l, WF q) → (∀ q ∈ l, p.1 ≤ q.1) → Up l → ∀ q ∈ joinL p l, WF q := by
  intro l
  induction l with
  | nil => intro p hp _ _ _ q hq; rw [List.mem_singleton.1 hq]; exact hp
  | cons a r ih =>
    intro p hp hl hlow hu q hq
    have ha := hl a (List.mem_cons_self)
    have hr : ∀ x ∈ r, WF x := fun x hx => hl x (List.mem_cons_of_mem _ hx)
    have hlr : ∀ x ∈ r, p.1 ≤ x.1 := fun x hx => hlow x (List.mem_cons_of_mem _ hx)
    have hpa := hlow a (List.mem_cons_self)
    have hu2 := (List.pairwise_cons.1 hu).2
    rw [joinL_cons] at hq
    by_cases h1 : p.2 = 0
    · rw [if_pos h1] at hq; exact ih p hp hr hlr hu2 q hq
    · rw [if_neg h1] at hq
      by_cases h2 : a.1 ≤ p.2
      · rw [if_pos h2] at hq
        refine ih (p.1, if a.2 = 0 ∨ p.2 < a.2 then a.2 else p.2) ?_ hr hlr hu2 q hq
        unfold WF at *
        by_cases h3 : a.2 = 0 ∨ p.2 < a.2
        · rw [if_pos h3]; show a.2 = 0 ∨ p.1 < a.2; omega
        · rw [if_neg h3]; exact hp
      · rw [if_neg h2] at hq
        rcases List.mem_cons.1 hq with rfl | hq
        · exact hp
        · exact ih a ha hr (List.pairwise_cons.1 hu).1 hu2 q hq

theorem canon_of : ∀ (l : List (Nat × Nat)), Sep l → (∀ p ∈ l, WF p) → Canon l := by
  intro l
  induction l with
  | nil => intro _ _; exact trivial
  | cons a r ih =>
    intro hs hw
    match r, hs, ih with
    | [], _, _ => exact ⟨hw a (List.mem_cons_self), fun q hq => absurd hq List.not_mem_nil, trivial⟩
    | b :: r', hs, ih =>
      have hc := ih hs.2.2.2 (fun p hp => hw p (List.mem_cons_of_mem _ hp))
      refine ⟨hw a (List.mem_cons_self), fun q hq => ⟨hs.1, ?_⟩, hc⟩
      have h1 := hs.2.1
      rcases List.mem_cons.1 hq with rfl | hq
      · exact h1
      · have := canon_rest hc q hq; omega

theorem settle_canon (l : List (Nat × Nat)) (hu : Up l) (hw : ∀ p ∈ l, WF p) : Canon (settleN l) := by
  refine canon_of _ (settle_sep l hu) ?_
  cases l with
  | nil => exact fun p hp => absurd hp List.not_mem_nil
  | cons p r => exact joinL_wf r p (hw p (List.mem_cons_self)) (fun q hq => hw q (List.mem_cons_of_mem _ hq)) (List.pairwise_cons.1 hu).1 (List.pairwise_cons.1 hu).2

/-- The events of the ranges. -/
def evOf : List (Nat × Nat) → List (Nat × Int)
  | [] => []
  | p :: r => if p.2 = 0 then (p.1, 1) :: evOf r else (p.1, 1) :: (p.2, -1) :: evOf r

theorem sum_ev (x : Nat) : ∀ (l : List (Nat × Nat)), (∀ p ∈ l, WF p) → 0 ≤ sumTo (evOf l) x ∧ (0 < sumTo (evOf l) x ↔ inAny x l = true) := by
  intro l
  induction l with
  | nil => intro _; exact ⟨Int.le_refl _, ⟨fun h => absurd h (Int.lt_irrefl _), fun h => by cases h⟩⟩
  | cons p r ih =>
    intro hw
    obtain ⟨h1, h2⟩ := ih fun q hq => hw q (List.mem_cons_of_mem _ hq)
    have hp : p.2 = 0 ∨ p.1 < p.2 := hw p (List.mem_cons_self)
    have e : sumTo (evOf (p :: r)) x = (if cov x p = true then 1 else 0) + sumTo (evOf r) x := by
      rw [evOf]
      by_cases h0 : p.2 = 0
      · rw [if_pos h0, sumTo]
        by_cases hx : p.1 ≤ x
        · rw [if_pos hx, if_pos ((cov_iff _ _).2 ⟨hx, Or.inl h0⟩)]
        · rw [if_neg hx, if_neg (fun h => hx ((cov_iff _ _).1 h).1)]
      · rw [if_neg h0, sumTo, sumTo]
        by_cases hx : p.1 ≤ x
        · by_cases hx2 : p.2 ≤ x
          · rw [if_pos hx, if_pos hx2, if_neg (fun h => by have := ((cov_iff _ _).1 h).2; omega)]; omega
          · rw [if_pos hx, if_neg hx2, if_pos ((cov_iff _ _).2 ⟨hx, Or.inr (by omega)⟩)]; omega
        · rw [if_neg hx, if_neg (by show ¬ p.2 ≤ x; omega), if_neg (fun h => hx ((cov_iff _ _).1 h).1)]; omega
    rw [e, inAny_cons, Bool.or_eq_true]
    by_cases hc : cov x p = true
    · rw [if_pos hc]; exact ⟨by omega, ⟨fun _ => Or.inl hc, fun _ => by omega⟩⟩
    · rw [if_neg hc]
      refine ⟨by omega, ⟨fun h => Or.inr (h2.1 (by omega)), fun h => ?_⟩⟩
      rcases h with h | h
      · exact absurd h hc
      · have := h2.2 h; omega

/-- The whole sweep. -/
theorem sweep_all (E : List (Nat × Int)) (hu : UpE E) (hT : ∀ x, 0 ≤ sumTo E x) : Canon (swAt 0 0 0 E) ∧ ∀ x, inAny x (swAt 0 0 0 E) = decide (0 < sumTo E x) := by
  match E, hu, hT with
  | [], _, _ => exact ⟨trivial, fun x => rfl⟩
  | (k, d) :: r, hu, hT =>
    have e : swAt 0 0 0 ((k, d) :: r) = swIn 0 k 0 d 0 r := by
      show swIn 0 k 0 (0 + d) 0 r = _
      rw [Int.zero_add]
    have hr : ∀ q ∈ r, k ≤ q.1 := (List.pairwise_cons.1 hu).1
    have h := swept r k 0 d 0 (List.pairwise_cons.1 hu).2 hr (Int.le_refl _) (fun h => absurd h (Int.lt_irrefl _)) (fun x hx => by have := hT x; rw [sumTo, if_pos hx] at this; exact this)
    rw [e]
    refine ⟨h.canon, fun x => ?_⟩
    by_cases hx : k ≤ x
    · rw [h.cov x hx]
      refine decide_int ?_
      rw [sumTo, if_pos hx]
    · have hs := h.shut rfl
      rw [none_of fun q hq => cov_false _ _ (by have := hs q hq; omega), sumTo_none _ x fun q hq => ?_]
      · rfl
      · rcases List.mem_cons.1 hq with rfl | hq
        · show x < k; omega
        · have := hr q hq; omega

theorem sweep_settle (l s : List (Nat × Nat)) (E : List (Nat × Int)) (hw : ∀ p ∈ l, WF p) (hs : s.Perm l) (hu : Up s) (hE : E.Perm (evOf l)) (hue : UpE E) : swAt 0 0 0 E = settleN s := by
  have hsum : ∀ x, sumTo E x = sumTo (evOf l) x := fun x => sumTo_perm hE x
  obtain ⟨h1, h2⟩ := sweep_all E hue (fun x => by rw [hsum x]; exact (sum_ev x l hw).1)
  refine canon_eq _ _ h1 (settle_canon s hu fun p hp => hw p (hs.mem_iff.1 hp)) fun x => ?_
  rw [h2 x, settle_cov s hu x, inAny_perm hs x, hsum x, Bool.eq_iff_iff, decide_eq_true_eq]
  exact (sum_ev x l hw).2

/-! ### Strings -/

def evS : List (ByteArray × ByteArray) → List (ByteArray × Int)
  | [] => []
  | p :: r => if p.2.toList.isEmpty = true then (p.1, 1) :: evS r else (p.1, 1) :: (p.2, -1) :: evS r
def re (K : List ByteArray) (e : ByteArray × Int) : Nat × Int := (rk K e.1, e.2)
/-- Events sorted by their keys. -/
def UpEv (E : List (ByteArray × Int)) : Prop := E.Pairwise fun a b => lts b.1 a.1 = false
def WFS (p : ByteArray × ByteArray) : Prop := p.2.toList.isEmpty = true ∨ lts p.1 p.2 = true

theorem ev_rank (K : List ByteArray) (h0 : nothing ∈ K) : ∀ (l : List (ByteArray × ByteArray)), inK K l → (evS l).map (re K) = evOf (l.map (rr K)) ∧ ∀ e ∈ evS l, e.1 ∈ K := by
  intro l
  induction l with
  | nil => intro _; exact ⟨rfl, fun e he => absurd he List.not_mem_nil⟩
  | cons p r ih =>
    intro hK
    obtain ⟨i1, i2⟩ := ih fun q hq => hK q (List.mem_cons_of_mem _ hq)
    have hp := hK p (List.mem_cons_self)
    rw [evS, List.map_cons, evOf]
    by_cases h : p.2.toList.isEmpty = true
    · have h' : (rr K p).2 = 0 := by rw [rk_empty K h0 hp.2, decide_eq_true_eq] at h; exact h
      rw [if_pos h, if_pos h', List.map_cons, i1]
      refine ⟨rfl, fun e he => ?_⟩
      rcases List.mem_cons.1 he with rfl | he
      · exact hp.1
      · exact i2 e he
    · have h' : ¬ (rr K p).2 = 0 := by rw [rk_empty K h0 hp.2, decide_eq_true_eq] at h; exact h
      rw [if_neg h, if_neg h', List.map_cons, List.map_cons, i1]
      refine ⟨rfl, fun e he => ?_⟩
      rcases List.mem_cons.1 he with rfl | he
      · exact hp.1
      · rcases List.mem_cons.1 he with rfl | he
        · exact hp.2
        · exact i2 e he

theorem st_rank (K : List ByteArray) (b c : Int) {start k : ByteArray} (h1 : start ∈ K) (h2 : k ∈ K) : rk K (st b c start k) = st b c (rk K start) (rk K k) ∧ st b c start k ∈ K := by
  unfold st
  by_cases h : b = 0 ∧ 0 < c
  · rw [if_pos h, if_pos h]; exact ⟨rfl, h2⟩
  · rw [if_neg h, if_neg h]; exact ⟨rfl, h1⟩
theorem outs_rank (K : List ByteArray) (b c : Int) {start k : ByteArray} (h1 : start ∈ K) (h2 : k ∈ K) : (outs b c start k).map (rr K) = outs b c (rk K start) (rk K k) ∧ inK K (outs b c start k) := by
  unfold outs
  by_cases h : 0 < b ∧ c = 0
  · rw [if_pos h, if_pos h]; exact ⟨rfl, fun p hp => by rw [List.mem_singleton.1 hp]; exact ⟨h1, h2⟩⟩
  · rw [if_neg h, if_neg h]; exact ⟨rfl, fun p hp => absurd hp List.not_mem_nil⟩

theorem swIn_rank (K : List ByteArray) (h0 : nothing ∈ K) : ∀ (E : List (ByteArray × Int)) (k : ByteArray) (b c : Int) (start : ByteArray), k ∈ K → start ∈ K → (∀ e ∈ E, e.1 ∈ K) →
    (swIn nothing k b c start E).map (rr K) = swIn 0 (rk K k) b c (rk K start) (E.map (re K)) ∧ inK K (swIn nothing k b c start E) := by
  intro E
  induction E with
  | nil =>
    intro k b c start hk hs _
    obtain ⟨o1, o2⟩ := outs_rank K b c hs hk
    obtain ⟨s1, s2⟩ := st_rank K b c hs hk
    rw [swIn_nil, List.map_nil, swIn_nil, List.map_append, o1]
    by_cases hc : 0 < c
    · rw [if_pos hc, if_pos hc, List.map_singleton, ← s1]
      refine ⟨by unfold rr; rw [rk_zero], fun p hp => ?_⟩
      rcases List.mem_append.1 hp with hp | hp
      · exact o2 p hp
      · rw [List.mem_singleton.1 hp]; exact ⟨s2, h0⟩
    · rw [if_neg hc, if_neg hc]
      refine ⟨rfl, fun p hp => ?_⟩
      rcases List.mem_append.1 hp with hp | hp
      · exact o2 p hp
      · exact absurd hp List.not_mem_nil
  | cons e r ih =>
    intro k b c start hk hs hE
    obtain ⟨k', d⟩ := e
    have hk' : k' ∈ K := hE (k', d) (List.mem_cons_self)
    have hr : ∀ e ∈ r, e.1 ∈ K := fun e he => hE e (List.mem_cons_of_mem _ he)
    rw [List.map_cons]
    show _ = swIn 0 (rk K k) b c (rk K start) ((rk K k', d) :: r.map (re K)) ∧ _
    by_cases h : k' = k
    · subst h
      rw [swIn_same, swIn_same]
      exact ih k' b (c + d) start hk hs hr
    · have h' : rk K k' ≠ rk K k := fun e => h (rk_inj K hk' hk e)
      obtain ⟨o1, o2⟩ := outs_rank K b c hs hk
      obtain ⟨s1, s2⟩ := st_rank K b c hs hk
      obtain ⟨i1, i2⟩ := ih k' c (c + d) (st b c start k) hk' s2 hr
      rw [swIn_other _ _ _ _ _ _ _ _ h, swIn_other _ _ _ _ _ _ _ _ h', List.map_append, o1, i1, s1]
      refine ⟨rfl, fun p hp => ?_⟩
      rcases List.mem_append.1 hp with hp | hp
      · exact o2 p hp
      · exact i2 p hp

theorem swAt_rank (K : List ByteArray) (h0 : nothing ∈ K) (E : List (ByteArray × Int)) (hE : ∀ e ∈ E, e.1 ∈ K) :
    (swAt nothing 0 nothing E).map (rr K) = swAt 0 0 0 (E.map (re K)) ∧ inK K (swAt nothing 0 nothing E) := by
  match E, hE with
  | [], _ => exact ⟨rfl, fun p hp => absurd hp List.not_mem_nil⟩
  | (k, d) :: r, hE =>
    have h := swIn_rank K h0 r k 0 (0 + d) nothing (hE (k, d) (List.mem_cons_self)) h0 (fun e he => hE e (List.mem_cons_of_mem _ he))
    rw [rk_zero] at h
    exact h

theorem map_inj (K : List ByteArray) : ∀ (l m : List (ByteArray × ByteArray)), inK K l → inK K m → l.map (rr K) = m.map (rr K) → l = m := by
  intro l
  induction l with
  | nil => intro m _ _ h; cases m with
    | nil => rfl
    | cons b s => cases h
  | cons a r ih =>
    intro m hl hm h
    cases m with
    | nil => cases h
    | cons b s =>
      rw [List.map_cons, List.map_cons] at h
      injection h with h1 h2
      injection h1 with h3 h4
      have ha := hl a (List.mem_cons_self)
      have hb := hm b (List.mem_cons_self)
      rw [ih s (fun p hp => hl p (List.mem_cons_of_mem _ hp)) (fun p hp => hm p (List.mem_cons_of_mem _ hp)) h2]
      rw [show a = b from Prod.ext (rk_inj K ha.1 hb.1 h3) (rk_inj K ha.2 hb.2 h4)]

/-- THE TWO ROADS MEET: what settle leaves is what the sweep leaves. -/
theorem law_sweep (L S : List (ByteArray × ByteArray)) (E : List (ByteArray × Int)) (hw : ∀ p ∈ L, WFS p) (hp : S.Perm L) (hu : UpS S) (hE : E.Perm (evS L)) (hue : UpEv E) : swAt nothing 0 nothing E = settleS S := by
  have h0 := allOf_nothing L
  have hK := allOf_in L
  obtain ⟨v1, v2⟩ := ev_rank (allOf L) h0 L hK
  have hEK : ∀ e ∈ E, e.1 ∈ allOf L := fun e he => v2 e (hE.mem_iff.1 he)
  have hS : inK (allOf L) S := fun p hp' => hK p (hp.mem_iff.1 hp')
  obtain ⟨a1, a2⟩ := swAt_rank (allOf L) h0 E hEK
  obtain ⟨b1, b2⟩ := settleS_rank (allOf L) h0 S hS
  refine map_inj (allOf L) _ _ a2 b2 ?_
  rw [a1, b1]
  refine sweep_settle (L.map (rr (allOf L))) _ _ (fun p hp' => ?_) (hp.map _) (up_rank _ S hS hu) (by rw [← v1]; exact hE.map _) ?_
  · obtain ⟨q, hq, rfl⟩ := List.mem_map.1 hp'
    have hq2 := hK q hq
    rcases hw q hq with h | h
    · rw [rk_empty _ h0 hq2.2, decide_eq_true_eq] at h; exact Or.inl h
    · rw [rk_lt _ hq2.1 hq2.2, decide_eq_true_eq] at h; exact Or.inr h
  · unfold UpE
    rw [List.pairwise_map]
    refine List.Pairwise.imp_of_mem (fun {a b} ha hb h => ?_) hue
    rw [rk_lt _ (hEK b hb) (hEK a ha), decide_eq_false_iff_not] at h
    show rk _ a.1 ≤ rk _ b.1
    omega

end Go.Proofs.Qxb6630526a.Plain
