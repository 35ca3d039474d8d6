import Derived.Test.Qxb6628260aProg
import Derived.WalkKit
import Derived.WalkSpells
import Derived.WalkLawsBesides
import Derived.Deep.DeepCutAuto
import Derived.Deep.CutBlock
import Derived.Deep.QuietTactic
import Derived.BigQuiet
import Derived.Deep.Light
namespace Go.Proofs.Qxb6628260a
open Go.RowKit

/-- A slice of n elements of one cell: element k reads 'enc k'. -/
def Row (enc : Nat → Value) (n : Nat) (a : Option Addr) (c : Nat) (w : World) : Prop :=
  0 < n → ∃ b off, a = some ⟨b, off, none⟩ ∧ b < w.heap.size ∧ n ≤ c ∧ ∀ k, k < n → w.cell? ⟨b, off + k, none⟩ = some (enc k)

theorem Row.below {enc : Nat → Value} {n c : Nat} {a : Option Addr} {w w' : World} (h : Row enc n a c w) {B : Nat} (hb : Below B w w') (hB : ∀ b off, a = some ⟨b, off, none⟩ → b < B) : Row enc n a c w' := fun hn => by
  obtain ⟨b, off, rfl, hlt, hc, hk⟩ := h hn
  exact ⟨b, off, rfl, Nat.lt_of_lt_of_le hlt hb.size, hc, fun k hk' => by rw [hb.cell (p := ⟨b, off + k, none⟩) (hB b off rfl)]; exact hk k hk'⟩

/-- Strings, numbers. -/
def str (S : Nat → ByteArray) (k : Nat) : Value := .string (S k)
def num (Z : Nat → Int) (k : Nat) : Value := .int .i64 (Z k)

/-- A test that only reads: some bool; where it is true, p. -/
def Asks (p : Prop) (w : World) (e : Ending) (w' : World) : Prop := ∃ r, e = .returned (.bool r) ∧ w = w' ∧ (r = true → p)
theorem Asks.no {p : Prop} {w : World} : Asks p w (.returned (.bool false)) w := ⟨false, rfl, rfl, fun e => by cases e⟩
theorem Asks.yes {p : Prop} {w : World} (h : p) : Asks p w (.returned (.bool true)) w := ⟨true, rfl, rfl, fun _ => h⟩

/-- What zzBytes has seen where it says true. -/
def Small (S : Nat → ByteArray) (n m : Nat) : Prop := n ≤ 1048576 ∧ m ≤ 1048576 ∧ ∀ k, k < n → (S k).size ≤ 1048576

set_option maxHeartbeats 400000 in
set_option maxRecDepth 100000 in
theorem bytes5 (S : Nat → ByteArray) (n : Nat) (a : Option Addr) (c : Nat) (a' : Option Addr) (m c' : Nat) (k : Int) (w : World) (hR : Row (str S) n a c w) (hS : ∀ k, k < n → (S k).size ≤ maxLen) (hn : n ≤ maxLen) (hm : m ≤ maxLen) :
    Calls Try.prog 5 #[.slice a n c, .slice a' m c', .int .i64 k] w fun e w' => Asks (Small S n m) w e w' := by
  unfold maxLen at hn hm hS
  by_cases h1 : n ≤ 1048576
  · go_enter Try.func5, Try.ntmps5
    go_wp2
    go_loopg [7, 8] n (fun g t i wr => ∃ (j : Nat) (s : Int), g + j = n ∧ i = .int .i64 j ∧ t = .int .i64 s ∧ 0 ≤ s ∧ s ≤ 1048576 ∧ w = wr ∧ Hid (∀ k, k < j → (S k).size ≤ 1048576))
    case atStart => exact ⟨0, n, by omega, rfl, by simp, by omega, by omega, rfl, fun k hk => by omega⟩
    case round =>
      obtain ⟨j, s, hg, rfl, rfl, hs0, hs1, rfl, HJ⟩ := hrel
      by_cases hj : j < n
      · obtain ⟨b, off, rfl, hlt, hc, hcell⟩ := hR (by omega)
        have hcj : w.cell? ⟨b, off + j, none⟩ = some (.string (S j)) := hcell j hj
        clear hcell hR
        have hSj := hS j hj
        by_cases h2 : (S j).size ≤ 1048576
        · by_cases h3 : s + (S j).size ≤ 1048576
          · go_wp2
            go_roundg (gk - 1)
            case measure => omega
            case rel => exact ⟨j + 1, s + (S j).size, by omega, by go_num, rfl, by omega, h3, rfl, fun k hk => by
              by_cases e : k = j
              · rw [e]; exact h2
              · exact HJ.out k (by omega)⟩
          · go_wp2
            go_ret
            exact Asks.no
        · go_wp2
          go_ret
          exact Asks.no
      · by_cases h4 : m ≤ 1048576
        · go_wp2
          all_goals go_ret
          · exact Asks.no
          · exact Asks.yes ⟨h1, h4, fun k hk => HJ.out k (by omega)⟩
        · go_wp2
          go_ret
          exact Asks.no
  · go_enter Try.func5, Try.ntmps5
    go_wp2
    go_ret
    exact Asks.no

/-- What zzWithin has seen where it says true. -/
def Within (n m : Nat) : Prop := n ≤ 131072 ∧ m ≤ 131072

set_option maxHeartbeats 400000 in
set_option maxRecDepth 100000 in
theorem within6 (S : Nat → ByteArray) (n : Nat) (a : Option Addr) (c : Nat) (a' : Option Addr) (m c' : Nat) (w : World) (hR : Row (str S) n a c w) (hS : Small S n m) :
    Calls Try.prog 6 #[.slice a n c, .slice a' m c'] w fun e w' => Asks (Within n m) w e w' := by
  obtain ⟨hn, hm, hs⟩ := hS
  by_cases h1 : m ≤ 131072
  · by_cases h2 : n ≤ 131072
    · by_cases h3 : 8 * (m : Int) + 8 * (n : Int) ≤ 1048576
      · go_enter Try.func6, Try.ntmps6
        go_wp2
        go_loopg [5, 6] n (fun g t i wr => ∃ (j : Nat) (s : Int), g + j = n ∧ i = .int .i64 j ∧ t = .int .i64 s ∧ 0 ≤ s ∧ s ≤ 1048576 ∧ w = wr)
        case atStart => exact ⟨0, _, by omega, rfl, rfl, by omega, h3, rfl⟩
        case round =>
          obtain ⟨j, s, hg, rfl, rfl, hs0, hs1, rfl⟩ := hrel
          by_cases hj : j < n
          · obtain ⟨b, off, rfl, hlt, hc, hcell⟩ := hR (by omega)
            have hcj : w.cell? ⟨b, off + j, none⟩ = some (.string (S j)) := hcell j hj
            clear hcell hR
            have hSj := hs j hj
            by_cases h4 : s + (S j).size ≤ 1048576
            · go_wp2
              go_roundg (gk - 1)
              case measure => omega
              case rel => exact ⟨j + 1, s + (S j).size, by omega, by go_num, rfl, by omega, h4, rfl⟩
            · go_wp2
              go_ret
              exact Asks.no
          · go_wp2
            go_ret
            exact Asks.yes ⟨h2, h1⟩
      · go_enter Try.func6, Try.ntmps6
        go_wp2
        go_ret
        exact Asks.no
    · go_enter Try.func6, Try.ntmps6
      go_wp2
      go_ret
      exact Asks.no
  · go_enter Try.func6, Try.ntmps6
    go_wp2
    go_ret
    exact Asks.no

/-- What zzInRange has seen where it says true. -/
def InRange (Z : Nat → Int) (n m : Nat) : Prop := ∀ k, k < m → 0 ≤ Z k ∧ Z k < n

set_option maxHeartbeats 400000 in
set_option maxRecDepth 100000 in
theorem inRange7 (Z : Nat → Int) (a : Option Addr) (n c : Nat) (a' : Option Addr) (m c' : Nat) (w : World) (hR : Row (num Z) m a' c' w) (_hn : n ≤ 131072) (hm : m ≤ 131072) :
    Calls Try.prog 7 #[.slice a n c, .slice a' m c'] w fun e w' => Asks (InRange Z n m) w e w' := by
  go_enter Try.func7, Try.ntmps7
  go_wp2
  go_loopg [5] m (fun g i wr => ∃ j : Nat, g + j = m ∧ i = .int .i64 j ∧ w = wr ∧ Hid (∀ k, k < j → 0 ≤ Z k ∧ Z k < n))
  case atStart => exact ⟨0, by omega, rfl, rfl, fun k hk => by omega⟩
  case round =>
    obtain ⟨j, hg, rfl, rfl, HJ⟩ := hrel
    by_cases hj : j < m
    · obtain ⟨b, off, rfl, hlt, hc, hcell⟩ := hR (by omega)
      have hcj : w.cell? ⟨b, off + j, none⟩ = some (.int .i64 (Z j)) := hcell j hj
      clear hcell hR
      by_cases h1 : 0 ≤ Z j
      · by_cases h2 : Z j < n
        · go_wp2
          go_roundg (gk - 1)
          case measure => omega
          case rel => exact ⟨j + 1, by omega, by go_num, rfl, fun k hk => by
            by_cases e : k = j
            · rw [e]; exact ⟨h1, h2⟩
            · exact HJ.out k (by omega)⟩
        · go_wp2
          go_ret
          exact Asks.no
      · go_wp2
        go_ret
        exact Asks.no
    · go_wp2
      go_ret
      exact Asks.yes (fun k hk => HJ.out k (by omega))

end Go.Proofs.Qxb6628260a
