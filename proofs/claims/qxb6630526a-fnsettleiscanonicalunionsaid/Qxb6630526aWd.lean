import Derived.Test.Qxb6630526aWs
import Derived.ArgAppend
import Derived.Lib.SliceRun
namespace Go.Proofs.Qxb6630526a
open Go.RowKit
open Plain

theorem Try.info42 : (Try.prog.info? 42).map (fun i => (i.zero, i.size, i.bytes)) = some (some (.agg #[.string ByteArray.empty, .string ByteArray.empty]), 2, 32) := by kernel_rfl

theorem drewN_below {B : Nat} {a w : World} (h : Below B a w) (m : Nat) : Below B a (w.drewN m) := ⟨h.os, h.tape, h.output, h.size, h.block⟩
theorem All.drewN {A : Nat → ByteArray × ByteArray} {n Q : Nat} {w : World} (h : All A n Q w) (m : Nat) : All A n Q (w.drewN m) := h.keep (drewN_below (Below.refl _ _) m)
theorem All.alloc {A : Nat → ByteArray × ByteArray} {n Q : Nat} {w : World} (h : All A n Q w) (o : Obj) : All A n Q (w.alloc o) := h.keep ((Below.refl _ _).alloc (Nat.le_refl _) o)

theorem below_cells {B : Nat} {a : World} (b : Nat) (hb : B ≤ b) : ∀ (vs : List Value) (o : Nat) (w : World), Below B a w → Below B a (w.setCells b o vs)
  | [], _, _, h => h
  | v :: r, o, _, h => below_cells b hb r (o + 1) _ (h.setCell (p := ⟨b, o, none⟩) hb v)
/-- clear of a row of ranges. -/
theorem clear42 (w : World) (ty : TypeId) (b o n c : Nat) (hn : 0 < n) (hc : ∀ j, j < n * 2 → (w.cell? ⟨b, o + j, none⟩).isSome = true) (hf : ∀ j, j < n * 2 → w.frozen? ⟨b, o + j, none⟩ = false) :
    (Builtin.clear_ #[38] ty #[.slice (some ⟨b, o, none⟩) n c]).run Try.prog w = .ok (.tuple #[]) (w.setCells b o (List.replicate (n * 2) (.string ByteArray.empty))) := by
  have hv : ∀ w, (zeroValue 42).run Try.prog w = .ok (.agg #[.string ByteArray.empty, .string ByteArray.empty]) w := Try.zeroValue42
  have hzc : (Builtin.zeroCells (Value.agg #[.string ByteArray.empty, .string ByteArray.empty]).cells n).toList = List.replicate (n * 2) (.string ByteArray.empty) := by
    show ((Array.range (n * 2)).map fun i => (#[Value.string ByteArray.empty, .string ByteArray.empty])[i % 2]!).toList = _
    apply List.ext_getElem
    · simp
    · intro i h1 h2
      rw [List.getElem_replicate]
      rcases Nat.mod_two_eq_zero_or_one i with e | e <;> simp [e]
  have hst := run_storeCells_cells (P := Try.prog) b o (List.replicate (n * 2) (.string ByteArray.empty)) 0 w (by simpa using hc) (by simpa using hf) (by intro v hv'; rw [List.eq_of_mem_replicate hv']; rfl)
  simp only [Nat.add_zero] at hst
  obtain ⟨m, rfl⟩ : ∃ m, n = m + 1 := ⟨n - 1, by omega⟩
  simp [Builtin.clear_, run_underlying Try.underlying38, hv, hzc, hst]

/-- The end of settle: what is behind the joined ranges is wiped. -/
theorem wiped (A : Nat → ByteArray × ByteArray) (n Q p : Nat) (w : World) (h : All A n Q w) (hp : p + 1 ≤ n) :
    ∃ wz, (∀ ty, (Builtin.clear_ #[38] ty #[.slice (some ⟨Q, (p + 1) * 2, none⟩) (n - (p + 1)) (n - (p + 1))]).run Try.prog w = .ok (.tuple #[]) wz) ∧ Below Q w wz ∧ (∀ k, k < p + 1 → wz.cell? ⟨Q, k * 2, none⟩ = some (.string (A k).1) ∧ wz.cell? ⟨Q, k * 2 + 1, none⟩ = some (.string (A k).2)) := by
  by_cases e : n - (p + 1) = 0
  · refine ⟨w, fun ty => ?_, Below.refl _ _, fun k hk => h.cell k (by omega)⟩
    rw [e]
    simp [Builtin.clear_, run_underlying Try.underlying38]
  · refine ⟨_, fun ty => clear42 w ty Q ((p + 1) * 2) (n - (p + 1)) _ (by omega) (fun j hj => ?_) (fun j _ => h.soft _), below_cells Q (Nat.le_refl _) _ _ _ (Below.refl _ _), fun k hk => ?_⟩
    · obtain ⟨c1, c2⟩ := h.cell (p + 1 + j / 2) (by omega)
      rcases Nat.mod_two_eq_zero_or_one j with e2 | e2
      · rw [show (p + 1) * 2 + j = (p + 1 + j / 2) * 2 by omega, c1]; rfl
      · rw [show (p + 1) * 2 + j = (p + 1 + j / 2) * 2 + 1 by omega, c2]; rfl
    · rw [World.cell?_setCells_out Q _ _ _ ⟨Q, k * 2, none⟩ (fun _ _ => Or.inl (by show k * 2 < (p + 1) * 2; omega)), World.cell?_setCells_out Q _ _ _ ⟨Q, k * 2 + 1, none⟩ (fun _ _ => Or.inl (by show k * 2 + 1 < (p + 1) * 2; omega))]
      exact h.cell k (by omega)

/-- What settle leaves. -/
structure Settled (A : Nat → ByteArray × ByteArray) (n P Q : Nat) (J : List (ByteArray × ByteArray)) (w w' : World) : Prop where
  sorted : ∃ S : List (ByteArray × ByteArray), S.Perm (listOf A n) ∧ UpS S ∧ J = settleS S
  field : w'.cell? ⟨P, 1, none⟩ = some (.slice (some ⟨Q, 0, none⟩) J.length n)
  map : w'.cell? ⟨P, 0, none⟩ = w.cell? ⟨P, 0, none⟩
  row : ∀ k (h : k < J.length), w'.cell? ⟨Q, k * 2, none⟩ = some (.string J[k].1) ∧ w'.cell? ⟨Q, k * 2 + 1, none⟩ = some (.string J[k].2)
  below : Below P w w'

/-- What the loop of settle keeps: the ranges that are done, the one in hand, those to come. -/
structure Inv (S B : Nat → ByteArray × ByteArray) (n : Nat) (Jd : List (ByteArray × ByteArray)) (i p : Nat) : Prop where
  len : Jd.length = p
  done : ∀ k, k < p → Jd[k]? = some (B k)
  todo : ∀ k, i + 1 ≤ k → k < n → B k = S k
  all : settleS (listOf S n) = Jd ++ joinS (B p) ((listOf S n).drop (i + 1))

theorem Inv.skip {S B : Nat → ByteArray × ByteArray} {n : Nat} {Jd : List (ByteArray × ByteArray)} {i p : Nat} (h : Inv S B n Jd i p) (hi : i + 1 < n) (t1 : (B p).2.toList.isEmpty = true) : Inv S B n Jd (i + 1) p :=
  ⟨h.len, h.done, fun k h1 h2 => h.todo k (by omega) h2, by rw [h.all, listOf_drop S n (i + 1) hi, joinS_cons, if_pos t1]⟩
theorem Inv.widen {S B : Nat → ByteArray × ByteArray} {n : Nat} {Jd : List (ByteArray × ByteArray)} {i p : Nat} (h : Inv S B n Jd i p) (hi : i + 1 < n) (hp : p ≤ i) (t1 : (B p).2.toList.isEmpty = false) (t2 : leqS (B (i + 1)).1 (B p).2 = true) :
    Inv S (upd B p (Plain.widen (B p) (B (i + 1)))) n Jd (i + 1) p :=
  ⟨h.len, fun k hk => by rw [upd_other _ _ _ _ (by omega)]; exact h.done k hk, fun k h1 h2 => by rw [upd_other _ _ _ _ (by omega)]; exact h.todo k (by omega) h2, by
    rw [upd_same, h.all, listOf_drop S n (i + 1) hi, joinS_cons, ← h.todo (i + 1) (Nat.le_refl _) hi, if_neg (by rw [t1]; exact Bool.noConfusion), if_pos t2]⟩
theorem Inv.next {S B : Nat → ByteArray × ByteArray} {n : Nat} {Jd : List (ByteArray × ByteArray)} {i p : Nat} (h : Inv S B n Jd i p) (hi : i + 1 < n) (hp : p ≤ i) (t1 : (B p).2.toList.isEmpty = false) (t2 : leqS (B (i + 1)).1 (B p).2 = false) :
    Inv S (upd B (p + 1) (B (i + 1))) n (Jd ++ [B p]) (i + 1) (p + 1) :=
  ⟨by rw [List.length_append, h.len]; rfl, fun k hk => by
    rw [upd_other _ _ _ _ (by omega)]
    by_cases e : k < p
    · rw [List.getElem?_append_left (by rw [h.len]; exact e)]; exact h.done k e
    · have ek : k = p := by omega
      rw [ek, List.getElem?_append_right (by rw [h.len]; exact Nat.le_refl _), h.len, Nat.sub_self]
      rfl, fun k h1 h2 => by rw [upd_other _ _ _ _ (by omega)]; exact h.todo k (by omega) h2, by
    rw [upd_same, h.all, listOf_drop S n (i + 1) hi, joinS_cons, ← h.todo (i + 1) (Nat.le_refl _) hi, if_neg (by rw [t1]; exact Bool.noConfusion), if_neg (by rw [t2]; exact Bool.noConfusion), List.append_assoc]
    rfl⟩
theorem Inv.fin {S B : Nat → ByteArray × ByteArray} {n : Nat} {Jd : List (ByteArray × ByteArray)} {i p : Nat} (h : Inv S B n Jd i p) (hi : n ≤ i + 1) : (settleS (listOf S n)).length = p + 1 ∧ ∀ k (hk : k < (settleS (listOf S n)).length), (settleS (listOf S n))[k] = B k := by
  have e : settleS (listOf S n) = Jd ++ [B p] := by rw [h.all, listOf_end S n (i + 1) hi]; rfl
  have el : (settleS (listOf S n)).length = p + 1 := by rw [e, List.length_append, h.len]; rfl
  refine ⟨el, fun k hk => ?_⟩
  rw [el] at hk
  have e2 : (settleS (listOf S n))[k]? = some (B k) := by
    rw [e]
    by_cases e3 : k < p
    · rw [List.getElem?_append_left (by rw [h.len]; exact e3)]; exact h.done k e3
    · have ek : k = p := by omega
      rw [ek, List.getElem?_append_right (by rw [h.len]; exact Nat.le_refl _), h.len, Nat.sub_self]
      rfl
  rw [List.getElem?_eq_getElem (by rw [el]; exact hk)] at e2
  exact Option.some.inj e2
theorem upd_self (B : Nat → ByteArray × ByteArray) (p : Nat) : upd B p (B p) = B := by
  funext k
  by_cases e : k = p
  · rw [e, upd_same]
  · rw [upd_other _ _ _ _ e]
theorem widen_to (l q : ByteArray × ByteArray) (h : (q.2.toList.isEmpty || !leqS q.2 l.2) = true) : widen l q = (l.1, q.2) := by unfold widen; rw [if_pos h]
theorem widen_no (l q : ByteArray × ByteArray) (h : (q.2.toList.isEmpty || !leqS q.2 l.2) = false) : widen l q = l := by unfold widen; rw [h, if_neg Bool.noConfusion]

set_option maxHeartbeats 1000000 in
set_option maxRecDepth 100000 in
theorem settle12 (A : Nat → ByteArray × ByteArray) (n P Q : Nat) (w : World) (hA : All A n Q w) (hPQ : P < Q) (h1 : w.cell? ⟨P, 1, none⟩ = some (.slice (some ⟨Q, 0, none⟩) n n)) (hf : w.frozen? ⟨P, 1, none⟩ = false) (hn : n ≤ 131072) :
    Calls Try.prog 12 #[.pointer (some ⟨P, 0, none⟩)] w fun e w' => e = .returned (.tuple #[]) ∧ ∃ J, Settled A n P Q J w w' := by
  by_cases hn2 : n < 2
  · go_enter Try.func12, Try.ntmps12
    go_wp2
    refine bodyPost_ret (v := .tuple #[]) (by simp [results, Try.results12, go_sem]) rfl ⟨rfl, listOf A n, ⟨⟨listOf A n, List.Perm.refl _, ?_, ?_⟩, ?_, rfl, ?_, Below.refl _ _⟩⟩
    · match n, hn2 with
      | 0, _ => exact List.Pairwise.nil
      | 1, _ => exact List.pairwise_singleton _ _
    · match n, hn2 with
      | 0, _ => rfl
      | 1, _ => rfl
    · rw [listOf_length]; exact h1
    · intro k hk
      rw [listOf_length] at hk
      rw [listOf_get A n k (by rw [listOf_length]; exact hk)]
      exact hA.cell k hk
  · go_enter Try.func12, Try.ntmps12
    go_wp2_with fail
    refine (sort14 A n Q n w hA hn).mono ?_
    rintro e w1 ⟨rfl, S, hperm, hup, hS, hb1⟩
    have hp1 : w1.cell? ⟨P, 1, none⟩ = some (.slice (some ⟨Q, 0, none⟩) n n) := by rw [hb1.cell (p := ⟨P, 1, none⟩) hPQ]; exact h1
    have H0 : Hid (settleS (listOf S n) = joinS (S 0) ((listOf S n).drop 1)) := by
      show settleS (listOf S n) = _
      have := listOf_drop S n 0 (by omega)
      rw [List.drop_zero] at this
      conv => lhs; rw [this]
      rfl
    go_wp2
    go_loopg [2, 28] (n - 1) (fun g jv i wr => ∃ (i' p : Nat) (B : Nat → ByteArray × ByteArray) (Jd : List (ByteArray × ByteArray)), g + i' = n - 1 ∧ i = .int .i64 i' ∧ jv = .slice (some ⟨Q, 0, none⟩) (p + 1) n ∧ p ≤ i' ∧ All B n Q wr ∧ Below Q w1 wr ∧ Inv S B n Jd i' p)
    case atStart => exact ⟨0, 0, S, [], by omega, rfl, rfl, Nat.le_refl _, hS, Below.refl _ _, rfl, fun k hk => by omega, fun k _ _ => rfl, H0.out⟩
    case round =>
      obtain ⟨i, p, B, Jd, hg, rfl, rfl, hpi, hB, hbr, HJ⟩ := hrel
      by_cases hi : i < n - 1
      · have e2 : (i + 1) * 2 = 2 + i * 2 := by omega
        obtain ⟨hc1, hc2⟩ := hB.cell (i + 1) (by omega)
        rw [e2] at hc1 hc2
        obtain ⟨hc3, hc4⟩ := hB.cell p (by omega)
        have hq1 : (p : Int) < (p : Int) + 1 := by omega
        obtain ⟨q, hq⟩ : ∃ q, q = B (i + 1) := ⟨_, rfl⟩
        obtain ⟨l, hl⟩ : ∃ l, l = B p := ⟨_, rfl⟩
        rw [← hq] at hc1 hc2
        rw [← hl] at hc3 hc4
        have HQ : Hid (q = B (i + 1)) := hq
        have HL : Hid (l = B p) := hl
        have hQs := hB.size
        clear hq hl e2
        cases t1 : l.2.toList.isEmpty with
        | true =>
          go_wp2
          go_roundg (gk - 1)
          case measure => omega
          case rel => exact ⟨i + 1, p, B, Jd, by omega, by go_num, rfl, by omega, hB.alloc _, hbr.alloc (Nat.le_of_lt hQs) _, HJ.skip (by omega) (by rw [← HL.out]; exact t1)⟩
        | false =>
          cases t2 : (Op.bytesLess q.1.toList l.2.toList || q.1.toList == l.2.toList) with
          | true =>
            have hfz := hB.soft (p * 2 + 1)
            have HI : Inv S (upd B p (widen (B p) (B (i + 1)))) n Jd (i + 1) p := HJ.widen (by omega) hpi (by rw [← HL.out]; exact t1) (by rw [← HL.out, ← HQ.out]; exact t2)
            cases t3 : q.2.toList.isEmpty with
            | true =>
              rw [← HL.out, ← HQ.out, widen_to l q (by rw [t3]; rfl)] at HI
              have HA : ∀ wn, All B n Q wn → All (upd B p (l.1, q.2)) n Q (wn.setCell ⟨Q, p * 2 + 1, none⟩ (.string q.2)) := fun wn h => by rw [HL.out]; exact h.put2 p (by omega) q.2
              go_wp2
              go_quiet (fail)
              go_wp2
              go_quiet (fail)
              go_wp2
              go_roundg (gk - 1)
              case measure => omega
              case rel => exact ⟨i + 1, p, _, Jd, by omega, by go_num, rfl, by omega, HA _ ((hB.alloc _).drewN _), (drewN_below (hbr.alloc (Nat.le_of_lt hQs) _) _).setCell (p := ⟨Q, p * 2 + 1, none⟩) (Nat.le_refl _) _, HI⟩
            | false =>
              cases t4 : (Op.bytesLess q.2.toList l.2.toList || q.2.toList == l.2.toList) with
              | true =>
                rw [← HL.out, ← HQ.out, widen_no l q (by rw [t3]; show (!leqS q.2 l.2) = false; rw [show leqS q.2 l.2 = true from t4]; rfl), HL.out, upd_self] at HI
                go_wp2
                go_quiet (fail)
                go_wp2
                go_quiet (fail)
                go_wp2
                go_roundg (gk - 1)
                case measure => omega
                case rel => exact ⟨i + 1, p, B, Jd, by omega, by go_num, rfl, by omega, (hB.alloc _).drewN _, drewN_below (hbr.alloc (Nat.le_of_lt hQs) _) _, HI⟩
              | false =>
                rw [← HL.out, ← HQ.out, widen_to l q (by rw [t3]; show (!leqS q.2 l.2) = true; rw [show leqS q.2 l.2 = false from t4]; rfl)] at HI
                have HA : ∀ wn, All B n Q wn → All (upd B p (l.1, q.2)) n Q (wn.setCell ⟨Q, p * 2 + 1, none⟩ (.string q.2)) := fun wn h => by rw [HL.out]; exact h.put2 p (by omega) q.2
                go_wp2
                go_quiet (fail)
                go_wp2
                go_quiet (fail)
                go_wp2
                go_roundg (gk - 1)
                case measure => omega
                case rel => exact ⟨i + 1, p, _, Jd, by omega, by go_num, rfl, by omega, HA _ ((hB.alloc _).drewN _), (drewN_below (hbr.alloc (Nat.le_of_lt hQs) _) _).setCell (p := ⟨Q, p * 2 + 1, none⟩) (Nat.le_refl _) _, HI⟩
          | false =>
            have hfz1 := hB.soft ((p + 1) * 2)
            have hfz2 := hB.soft ((p + 1) * 2 + 1)
            obtain ⟨hc5, hc6⟩ := hB.cell (p + 1) (by omega)
            have HI : Inv S (upd B (p + 1) (B (i + 1))) n (Jd ++ [B p]) (i + 1) (p + 1) := HJ.next (by omega) hpi (by rw [← HL.out]; exact t1) (by rw [← HL.out, ← HQ.out]; exact t2)
            rw [← HQ.out] at HI
            go_wp2
            go_quiet (fail)
            go_wp2
            go_roundg (gk - 1)
            case measure => omega
            case rel =>
              refine ⟨i + 1, p + 1, _, _, by omega, by go_num, rfl, by omega, All.alloc (((hB.alloc _).drewN _).put (p + 1) (by omega) q) _, Below.alloc (below_cells Q (Nat.le_refl _) [.string q.1, .string q.2] ((p + 1) * 2) _ (drewN_below (hbr.alloc (Nat.le_of_lt hQs) _) _)) ?_ _, HI⟩
              simp [World.setCells, World.setCell]
              omega
      · obtain ⟨hlen, hget⟩ := HJ.fin (by omega)
        have HG : Hid (∀ k (hk : k < (settleS (listOf S n)).length), (settleS (listOf S n))[k] = B k) := hget
        have HN : Hid ((settleS (listOf S n)).length = p + 1) := hlen
        clear hget hlen
        have hpr : wr.cell? ⟨P, 1, none⟩ = some (.slice (some ⟨Q, 0, none⟩) n n) := by rw [hbr.cell (p := ⟨P, 1, none⟩) hPQ]; exact hp1
        have hdone : ∀ wz, Below Q wr wz → (∀ k, k < p + 1 → wz.cell? ⟨Q, k * 2, none⟩ = some (.string (B k).1) ∧ wz.cell? ⟨Q, k * 2 + 1, none⟩ = some (.string (B k).2)) → Settled A n P Q (settleS (listOf S n)) w (wz.setCell ⟨P, 1, none⟩ (.slice (some ⟨Q, 0, none⟩) (p + 1) n)) := fun wz hbz hcz => by
          have hb := (hb1.trans hbr).trans hbz
          have hpz : wz.cell? ⟨P, 1, none⟩ = some (.slice (some ⟨Q, 0, none⟩) n n) := by rw [hb.cell (p := ⟨P, 1, none⟩) hPQ]; exact h1
          refine ⟨⟨listOf S n, hperm, hup, rfl⟩, ?_, ?_, fun k hk => ?_, (hb.mono (Nat.le_of_lt hPQ)).setCell (Nat.le_refl _) _⟩
          · rw [HN.out]; exact World.cell?_setCell_same _ _ _ hpz
          · rw [World.cell?_setCell_other (h := addr_ne P _ _ (by omega)), hb.cell (p := ⟨P, 0, none⟩) hPQ]
          · have hne : ∀ j, (⟨P, 1, none⟩ : Addr) ≠ ⟨Q, j, none⟩ := fun j e => by injection e with e1; omega
            rw [HG.out k hk, World.cell?_setCell_other (h := hne (k * 2)), World.cell?_setCell_other (h := hne (k * 2 + 1))]
            exact hcz k (by rw [← HN.out]; exact hk)
        have HDn : Hid (∀ wz, Below Q wr wz → (∀ k, k < p + 1 → wz.cell? ⟨Q, k * 2, none⟩ = some (.string (B k).1) ∧ wz.cell? ⟨Q, k * 2 + 1, none⟩ = some (.string (B k).2)) → Settled A n P Q (settleS (listOf S n)) w (wz.setCell ⟨P, 1, none⟩ (.slice (some ⟨Q, 0, none⟩) (p + 1) n))) := hdone
        clear hdone
        by_cases hnp : n = p + 1
        · have hclr0 : ∀ (ty : TypeId) (a : Addr) (c : Nat) (wx : World), (Builtin.clear_ #[38] ty #[.slice (some a) 0 c]).run Try.prog wx = .ok (.tuple #[]) wx := fun ty a c wx => by simp [Builtin.clear_, run_underlying Try.underlying38]
          have hfz : wr.frozen? ⟨P, 1, none⟩ = false := by rw [hbr.frozen (p := ⟨P, 1, none⟩) hPQ, hb1.frozen (p := ⟨P, 1, none⟩) hPQ]; exact hf
          go_wp2
          go_end0
          have eS : (Value.slice (some ⟨Q, 0, none⟩) (p + 1) (p + 1)) = .slice (some ⟨Q, 0, none⟩) (p + 1) n := by rw [hnp]
          rw [eS]
          exact ⟨rfl, _, HDn.out wr (Below.refl _ _) (fun k hk => hB.cell k (by omega))⟩
        · obtain ⟨wz, hclr, hbz, hcz⟩ := wiped B n Q p wr hB (by omega)
          have hpz : wz.cell? ⟨P, 1, none⟩ = some (.slice (some ⟨Q, 0, none⟩) n n) := by rw [hbz.cell (p := ⟨P, 1, none⟩) hPQ, hbr.cell (p := ⟨P, 1, none⟩) hPQ]; exact hp1
          have hfz : wz.frozen? ⟨P, 1, none⟩ = false := by rw [hbz.frozen (p := ⟨P, 1, none⟩) hPQ, hbr.frozen (p := ⟨P, 1, none⟩) hPQ, hb1.frozen (p := ⟨P, 1, none⟩) hPQ]; exact hf
          have HZ : Hid (∀ k, k < p + 1 → wz.cell? ⟨Q, k * 2, none⟩ = some (.string (B k).1) ∧ wz.cell? ⟨Q, k * 2 + 1, none⟩ = some (.string (B k).2)) := hcz
          clear hcz
          go_wp2
          go_end0
          exact ⟨rfl, _, HDn.out wz hbz HZ.out⟩

end Go.Proofs.Qxb6630526a
