import Derived.Laws.Strings
import Derived.Test.Qxb6630526aPlain
namespace Go.Proofs.Qxb6630526a.Plain

/-- Go's '<' on strings. -/
def lts (a b : ByteArray) : Bool := Op.bytesLess a.toList b.toList

theorem less_list : ∀ (x y : List UInt8), Op.bytesLess x y = decide (x < y)
  | [], [] => by simp [Op.bytesLess]
  | _ :: _, [] => by simp [Op.bytesLess]
  | [], _ :: _ => by simp [Op.bytesLess]
  | a :: x, b :: y => by
    rw [Op.bytesLess, less_list x y]
    simp only [List.cons_lt_cons_iff]
    by_cases h1 : a < b <;> by_cases h2 : a = b <;> by_cases h3 : x < y <;> simp [h1, h2, h3]

theorem list_inj {a b : ByteArray} (h : a.toList = b.toList) : a = b := by
  rw [ByteArray.toList_eq, ByteArray.toList_eq] at h
  exact ByteArray.ext (Array.toList_inj.1 h)

theorem lts_irrefl (a : ByteArray) : lts a a = false := by
  unfold lts; rw [less_list]; simp [List.lt_irrefl]
theorem lts_trans {a b c : ByteArray} (h1 : lts a b = true) (h2 : lts b c = true) : lts a c = true := by
  unfold lts at *
  rw [less_list, decide_eq_true_eq] at *
  exact List.lt_trans h1 h2
theorem lts_tri {a b : ByteArray} (h1 : lts a b = false) (h2 : lts b a = false) : a = b := by
  unfold lts at *
  rw [less_list, decide_eq_false_iff_not, List.not_lt] at *
  exact list_inj (List.le_antisymm h2 h1)

/-- The empty string. -/
def nothing : ByteArray := ⟨#[]⟩
theorem isEmpty_iff (a : ByteArray) : a.toList.isEmpty = true ↔ a = nothing := by
  constructor
  · intro h
    refine list_inj ?_
    rw [List.isEmpty_iff] at h
    rw [h, ByteArray.toList_eq]; rfl
  · intro h
    rw [h, ByteArray.toList_eq]; rfl
theorem lts_nothing (a : ByteArray) : lts a nothing = false := by
  unfold lts
  have e : nothing.toList = [] := by rw [ByteArray.toList_eq]; rfl
  rw [e, less_list]; simp
theorem nothing_lts {a : ByteArray} (h : a ≠ nothing) : lts nothing a = true := by
  cases e : lts nothing a with
  | true => rfl
  | false => exact absurd (lts_tri (lts_nothing a) e) h

theorem countP_lt {α : Type} (p q : α → Bool) (hpq : ∀ z, p z = true → q z = true) : ∀ (K : List α) (x : α), x ∈ K → p x = false → q x = true → K.countP p < K.countP q := by
  intro K
  induction K with
  | nil => intro x hx; cases hx
  | cons a r ih =>
    intro x hx hp hq
    have hle : r.countP p ≤ r.countP q := List.countP_mono_left fun z _ => hpq z
    rw [List.countP_cons, List.countP_cons]
    rcases List.mem_cons.1 hx with rfl | hx
    · rw [hp, hq]; simp; omega
    · have := ih x hx hp hq
      by_cases ha : p a = true
      · rw [ha, hpq a ha]; simp; omega
      · have ha' : p a = false := by cases e : p a with | false => rfl | true => exact absurd e ha
        rw [ha']
        by_cases hb : q a = true
        · rw [hb]; simp; omega
        · have hb' : q a = false := by cases e : q a with | false => rfl | true => exact absurd e hb
          rw [hb']; simp; omega

/-- The rank of a key among K. -/
def rk (K : List ByteArray) (x : ByteArray) : Nat := K.countP fun y => lts y x

theorem rk_lt_of (K : List ByteArray) {x y : ByteArray} (hx : x ∈ K) (h : lts x y = true) : rk K x < rk K y :=
  countP_lt _ _ (fun _ hz => lts_trans hz h) K x hx (lts_irrefl x) h

theorem rk_lt (K : List ByteArray) {x y : ByteArray} (hx : x ∈ K) (hy : y ∈ K) : lts x y = decide (rk K x < rk K y) := by
  cases e : lts x y with
  | true => rw [decide_eq_true (rk_lt_of K hx e)]
  | false =>
    rw [eq_comm, decide_eq_false_iff_not]
    cases e2 : lts y x with
    | true => have := rk_lt_of K hy e2; omega
    | false => rw [lts_tri e e2]; omega

theorem rk_inj (K : List ByteArray) {x y : ByteArray} (hx : x ∈ K) (hy : y ∈ K) (h : rk K x = rk K y) : x = y := by
  have h1 := rk_lt K hx hy
  have h2 := rk_lt K hy hx
  rw [decide_eq_false (by omega)] at h1 h2
  exact lts_tri h1 h2

theorem rk_zero (K : List ByteArray) : rk K nothing = 0 := by
  unfold rk
  rw [List.countP_eq_zero]
  intro y _ h
  rw [lts_nothing] at h
  cases h

theorem rk_zero_iff (K : List ByteArray) (h0 : nothing ∈ K) {x : ByteArray} (hx : x ∈ K) : rk K x = 0 ↔ x = nothing := by
  constructor
  · intro h; exact rk_inj K hx h0 (by rw [h, rk_zero])
  · intro h; rw [h, rk_zero]

theorem rk_empty (K : List ByteArray) (h0 : nothing ∈ K) {x : ByteArray} (hx : x ∈ K) : x.toList.isEmpty = decide (rk K x = 0) := by
  rw [Bool.eq_iff_iff, isEmpty_iff, decide_eq_true_eq, rk_zero_iff K h0 hx]

theorem rk_eq (K : List ByteArray) {x y : ByteArray} (hx : x ∈ K) (hy : y ∈ K) : (x.toList == y.toList) = decide (rk K x = rk K y) := by
  rw [Bool.eq_iff_iff, beq_iff_eq, decide_eq_true_eq]
  constructor
  · intro h; rw [list_inj h]
  · intro h; rw [rk_inj K hx hy h]

/-! ### Ranges of strings -/

/-- A range's rank. -/
def rr (K : List ByteArray) (p : ByteArray × ByteArray) : Nat × Nat := (rk K p.1, rk K p.2)
def inK (K : List ByteArray) (l : List (ByteArray × ByteArray)) : Prop := ∀ p ∈ l, p.1 ∈ K ∧ p.2 ∈ K

def covS (x : ByteArray) (p : ByteArray × ByteArray) : Bool := !lts x p.1 && (p.2.toList.isEmpty || lts x p.2)
def inAnyS (x : ByteArray) (l : List (ByteArray × ByteArray)) : Bool := l.any (covS x)

theorem cov_rank (K : List ByteArray) (h0 : nothing ∈ K) {x : ByteArray} {p : ByteArray × ByteArray} (hx : x ∈ K) (h1 : p.1 ∈ K) (h2 : p.2 ∈ K) : covS x p = cov (rk K x) (rr K p) := by
  unfold covS cov rr
  rw [rk_lt K hx h1, rk_empty K h0 h2, rk_lt K hx h2]
  congr 1
  rw [← decide_not]
  congr 1
  rw [Nat.not_lt]

theorem inAny_rank (K : List ByteArray) (h0 : nothing ∈ K) {x : ByteArray} (hx : x ∈ K) (l : List (ByteArray × ByteArray)) (hl : inK K l) : inAnyS x l = inAny (rk K x) (l.map (rr K)) := by
  unfold inAnyS inAny
  rw [List.any_map]
  rw [Bool.eq_iff_iff, List.any_eq_true, List.any_eq_true]
  constructor
  · rintro ⟨y, hy, hc⟩; exact ⟨y, hy, by rw [Function.comp, ← cov_rank K h0 hx (hl y hy).1 (hl y hy).2]; exact hc⟩
  · rintro ⟨y, hy, hc⟩; exact ⟨y, hy, by rw [cov_rank K h0 hx (hl y hy).1 (hl y hy).2]; exact hc⟩

/-- What settle does to the range in hand when it meets another. -/
def leqS (a b : ByteArray) : Bool := lts a b || a.toList == b.toList
def widen (p q : ByteArray × ByteArray) : ByteArray × ByteArray := (p.1, if (q.2.toList.isEmpty || !leqS q.2 p.2) = true then q.2 else p.2)
def joinS : (ByteArray × ByteArray) → List (ByteArray × ByteArray) → List (ByteArray × ByteArray)
  | p, [] => [p]
  | p, q :: r => if p.2.toList.isEmpty = true then joinS p r else if leqS q.1 p.2 = true then joinS (widen p q) r else p :: joinS q r
def settleS : List (ByteArray × ByteArray) → List (ByteArray × ByteArray)
  | [] => []
  | p :: r => joinS p r

theorem joinS_cons (p q : ByteArray × ByteArray) (r : List (ByteArray × ByteArray)) : joinS p (q :: r) = if p.2.toList.isEmpty = true then joinS p r else if leqS q.1 p.2 = true then joinS (widen p q) r else p :: joinS q r := rfl

theorem leq_rank (K : List ByteArray) {x y : ByteArray} (hx : x ∈ K) (hy : y ∈ K) : leqS x y = decide (rk K x ≤ rk K y) := by
  unfold leqS
  rw [rk_lt K hx hy, rk_eq K hx hy, ← Bool.decide_or]
  congr 1
  exact propext ⟨fun h => by omega, fun h => by omega⟩

theorem widen_rank (K : List ByteArray) (h0 : nothing ∈ K) {p q : ByteArray × ByteArray} (hp1 : p.1 ∈ K) (hp2 : p.2 ∈ K) (hq2 : q.2 ∈ K) :
    rr K (widen p q) = ((rr K p).1, if (rr K q).2 = 0 ∨ (rr K p).2 < (rr K q).2 then (rr K q).2 else (rr K p).2) ∧ (widen p q).1 ∈ K ∧ (widen p q).2 ∈ K := by
  unfold widen rr
  rw [rk_empty K h0 hq2, leq_rank K hq2 hp2]
  by_cases h : rk K q.2 = 0 ∨ rk K p.2 < rk K q.2
  · have hb : (decide (rk K q.2 = 0) || !decide (rk K q.2 ≤ rk K p.2)) = true := by
      rcases h with h | h
      · simp [h]
      · simp; omega
    rw [if_pos hb, if_pos h]
    exact ⟨rfl, hp1, hq2⟩
  · have hb : ¬ (decide (rk K q.2 = 0) || !decide (rk K q.2 ≤ rk K p.2)) = true := by
      simp; omega
    rw [if_neg hb, if_neg h]
    exact ⟨rfl, hp1, hp2⟩

theorem joinS_rank (K : List ByteArray) (h0 : nothing ∈ K) : ∀ (l : List (ByteArray × ByteArray)) (p : ByteArray × ByteArray), p.1 ∈ K → p.2 ∈ K → inK K l → (joinS p l).map (rr K) = joinL (rr K p) (l.map (rr K)) ∧ inK K (joinS p l) := by
  intro l
  induction l with
  | nil => intro p h1 h2 _; exact ⟨rfl, fun q hq => by rw [List.mem_singleton.1 hq]; exact ⟨h1, h2⟩⟩
  | cons q r ih =>
    intro p h1 h2 hl
    have hq := hl q (List.mem_cons_self)
    have hr : inK K r := fun x hx => hl x (List.mem_cons_of_mem _ hx)
    rw [joinS_cons, List.map_cons, joinL_cons]
    by_cases e1 : p.2.toList.isEmpty = true
    · have e1' : (rr K p).2 = 0 := by rw [rk_empty K h0 h2, decide_eq_true_eq] at e1; exact e1
      rw [if_pos e1, if_pos e1']
      exact ih p h1 h2 hr
    · have e1' : ¬ (rr K p).2 = 0 := by rw [rk_empty K h0 h2, decide_eq_true_eq] at e1; exact e1
      rw [if_neg e1, if_neg e1']
      by_cases e2 : leqS q.1 p.2 = true
      · have e2' : (rr K q).1 ≤ (rr K p).2 := by rw [leq_rank K hq.1 h2, decide_eq_true_eq] at e2; exact e2
        rw [if_pos e2, if_pos e2']
        obtain ⟨w1, w2, w3⟩ := widen_rank K h0 h1 h2 hq.2
        rw [← w1]
        exact ih _ w2 w3 hr
      · have e2' : ¬ (rr K q).1 ≤ (rr K p).2 := by rw [leq_rank K hq.1 h2, decide_eq_true_eq] at e2; exact e2
        rw [if_neg e2, if_neg e2', List.map_cons]
        obtain ⟨i1, i2⟩ := ih q hq.1 hq.2 hr
        refine ⟨by rw [i1], fun x hx => ?_⟩
        rcases List.mem_cons.1 hx with rfl | hx
        · exact ⟨h1, h2⟩
        · exact i2 x hx

theorem settleS_rank (K : List ByteArray) (h0 : nothing ∈ K) (l : List (ByteArray × ByteArray)) (hl : inK K l) : (settleS l).map (rr K) = settleN (l.map (rr K)) ∧ inK K (settleS l) := by
  cases l with
  | nil => exact ⟨rfl, hl⟩
  | cons p r => exact joinS_rank K h0 r p (hl p (List.mem_cons_self)).1 (hl p (List.mem_cons_self)).2 (fun x hx => hl x (List.mem_cons_of_mem _ hx))

/-- Sorted by their firsts, as slices.SortFunc leaves them. -/
def UpS (l : List (ByteArray × ByteArray)) : Prop := l.Pairwise fun a b => lts b.1 a.1 = false
theorem up_rank (K : List ByteArray) : ∀ (l : List (ByteArray × ByteArray)), inK K l → UpS l → Up (l.map (rr K)) := by
  intro l
  induction l with
  | nil => intro _ _; exact List.Pairwise.nil
  | cons a r ih =>
    intro hl h
    obtain ⟨h1, h2⟩ := List.pairwise_cons.1 h
    rw [List.map_cons]
    refine List.pairwise_cons.2 ⟨fun y hy => ?_, ih (fun x hx => hl x (List.mem_cons_of_mem _ hx)) h2⟩
    obtain ⟨b, hb, rfl⟩ := List.mem_map.1 hy
    have hab := h1 b hb
    rw [rk_lt K (hl b (List.mem_cons_of_mem _ hb)).1 (hl a (List.mem_cons_self)).1, decide_eq_false_iff_not] at hab
    show rk K a.1 ≤ rk K b.1
    omega

/-- All the strings of a list of ranges, and the empty one. -/
def allOf (l : List (ByteArray × ByteArray)) : List ByteArray := nothing :: (l.map Prod.fst ++ l.map Prod.snd)
theorem allOf_nothing (l : List (ByteArray × ByteArray)) : nothing ∈ allOf l := List.mem_cons_self
theorem allOf_in (l : List (ByteArray × ByteArray)) : inK (allOf l) l := fun _ hp =>
  ⟨List.mem_cons_of_mem _ (List.mem_append_left _ (List.mem_map_of_mem hp)), List.mem_cons_of_mem _ (List.mem_append_right _ (List.mem_map_of_mem hp))⟩

/-! ### WHAT THE FIRST LAW ASKS OF THE SETTLED LIST -/

theorem law_len (S : List (ByteArray × ByteArray)) : (settleS S).length ≤ S.length := by
  have h := (settleS_rank (allOf S) (allOf_nothing S) S (allOf_in S)).1
  have h2 := congrArg List.length h
  rw [List.length_map] at h2
  rw [h2]
  have := settle_len (S.map (rr (allOf S)))
  rw [List.length_map] at this
  exact this

theorem law_sep (S : List (ByteArray × ByteArray)) (hu : UpS S) (i : Nat) (h : i + 1 < (settleS S).length) :
    (settleS S)[i].2.toList.isEmpty = false ∧ leqS (settleS S)[i + 1].1 (settleS S)[i].2 = false ∧ lts (settleS S)[i + 1].1 (settleS S)[i].1 = false := by
  have h0 := allOf_nothing S
  obtain ⟨e, hK⟩ := settleS_rank (allOf S) h0 S (allOf_in S)
  have hs := settle_sep (S.map (rr (allOf S))) (up_rank _ S (allOf_in S) hu)
  rw [← e] at hs
  have hat := sep_at _ hs i (by rw [List.length_map]; exact h)
  rw [List.getElem_map, List.getElem_map] at hat
  have hi : i < (settleS S).length := by omega
  have k1 := hK _ (List.getElem_mem hi)
  have k2 := hK _ (List.getElem_mem h)
  refine ⟨?_, ?_, ?_⟩
  · rw [rk_empty _ h0 k1.2, decide_eq_false_iff_not]; exact hat.1
  · rw [leq_rank _ k2.1 k1.2, decide_eq_false_iff_not]; have := hat.2.1; unfold rr at this; omega
  · rw [rk_lt _ k2.1 k1.1, decide_eq_false_iff_not]; have := hat.2.2; unfold rr at this; omega

theorem law_cov (L S : List (ByteArray × ByteArray)) (hp : S.Perm L) (hu : UpS S) (x : ByteArray) (hx : x ∈ allOf L) : inAnyS x (settleS S) = inAnyS x L := by
  have h0 := allOf_nothing L
  have hS : inK (allOf L) S := fun p hp' => allOf_in L p (hp.mem_iff.1 hp')
  obtain ⟨e, hK⟩ := settleS_rank (allOf L) h0 S hS
  rw [inAny_rank _ h0 hx _ hK, e, settle_cov _ (up_rank _ S hS hu), inAny_rank _ h0 hx _ (allOf_in L)]
  exact inAny_perm (hp.map _) _

end Go.Proofs.Qxb6630526a.Plain
