import Derived.Test.Qxb6628219aDoorTie
import Derived.Test.Qxb6628219aDoorCards
import Derived.Test.Qxb6628219aDoorWe
import Derived.ProofKit
import Derived.OpenShut
import Derived.LaidMore
import Derived.Stop.Joined
import Derived.Stop.LaidErr
namespace Go.Proofs.Qxb6628219aDoor
open Go.ChangeShapes Go.WideShapes Go.ChangeAt Go.RowKit
open Plain

theorem own : ownKnob Tryd.prog.godebug = none := by kernel_rfl
theorem laidOut : laidOutB Tryd.prog = true := by kernel_rfl

theorem gES : Tryd.prog.globalNamed "strconv.ErrSyntax" = some 0 := by kernel_rfl
theorem gER : Tryd.prog.globalNamed "strconv.ErrRange" = some 1 := by kernel_rfl
theorem tES : (Tryd.prog.globals[0]?).map (·.type) = some 27 := by kernel_rfl
theorem tER : (Tryd.prog.globals[1]?).map (·.type) = some 27 := by kernel_rfl
theorem cells36 : Tryd.prog.cellsOf 36 = 1 := by kernel_rfl
theorem cells9 : Tryd.prog.cellsOf 9 = 1 := by kernel_rfl

/-- The name that a listed sentinel's datum bears. -/
def nameIn : DataW Unit → String
  | .iface s _ => s
  | _ => ""

theorem row34 (u : TypeId) (h : Tryd.prog.typeName? 3 u = some (nameIn Rows.laid_strconv_ErrRange)) : u = 34 :=
  typeName_ptr_named (nm := "errors.errorString") (by kernel_rfl) (by kernel_rfl) (by decide) u h

/-- What the rows list. -/
def laid5 : List (String × DataW Unit) := Rows.fnDecodeIntMatchesDecimalModelRow.laid

theorem lt_of_cell {w : World} {a : Addr} {v : Value} (h : w.cell? a = some v) : a.block < w.heap.size := by
  rcases Nat.lt_or_ge a.block w.heap.size with h1 | h1
  · exact h1
  · unfold World.cell? at h
    rw [Array.getElem?_eq_none h1] at h
    cases h

/-- WHAT THE CONDITION GIVES THE WALKS. -/
theorem of_laid {W : World} (h : laidMetH Tryd.prog laid5 W) : Vars W ∧ 2 ≤ W.heap.size := by
  rw [MakeChecks.laidMetH_plain _ _ _ (by kernel_rfl)] at h
  have h3 := h.tail.tail.tail
  obtain ⟨a0, s0, hv0, -, -, -⟩ := laid_sentinel h3 gER tER Tryd.underlying27 row34 Tryd.underlying34 Tryd.underlying36 rfl rfl Tryd.underlying9 cells36 cells9
  obtain ⟨a1, s1, hv1, -, -, -⟩ := laid_sentinel h3.tail gES tES Tryd.underlying27 row34 Tryd.underlying34 Tryd.underlying36 rfl rfl Tryd.underlying9 cells36 cells9
  have c0 : W.cell? ⟨1, 0, none⟩ = some (.iface 34 (.pointer (some a0))) := by have h0 := World.var?_cell gER hv0 0; simpa using h0
  have c1 : W.cell? ⟨0, 0, none⟩ = some (.iface 34 (.pointer (some a1))) := by have h0 := World.var?_cell gES hv1 0; simpa using h0
  exact ⟨⟨⟨_, _, c1⟩, ⟨_, _, c0⟩⟩, lt_of_cell c0⟩

/-- The door's own heap meets the condition. -/
theorem door_met (os : Os) (args : Array Value) : laidMetH Tryd.prog laid5 ((World.doorLaid Tryd.prog 400 os).forCall (fun _ _ => 0) ⟨#[], args, []⟩).memory :=
  laidMetH_of_parts3 (fuel := 8) (laidMet_of_run' 8 (by kernel_rfl) (by kernel_rfl)) (by kernel_rfl) (by kernel_rfl)

/-- A slice of bytes that came in, as the walks hold it. -/
theorem arg_of_row {W : World} {a : Option Addr} {len cap : Nat} (h : (a = none ∧ len = 0 ∧ cap = 0) ∨ ∃ (x : Addr) (zs : List Int), a = some x ∧ len ≤ cap ∧ cap ≤ maxLen ∧ zs.length = cap ∧ (∀ i, i < zs.length → W.cell? (x.add i) = some (.int .u8 (zs.getD i 0))) ∧ ∀ n ∈ zs, (Lit.int .u8 n).wf = true) :
    ∃ l : List UInt8, l.length = len ∧ l.length ≤ 9223372036854775807 ∧ Arg l (.slice a len cap) W := by
  rcases h with ⟨rfl, rfl, rfl⟩ | ⟨x, zs, rfl, hl, hm, hz, hcell, hwz⟩
  · exact ⟨[], rfl, Nat.zero_le _, Or.inl ⟨rfl, rfl⟩⟩
  · have hlen : ((zs.take len).map fun n => UInt8.ofNat n.toNat).length = len := by
      rw [List.length_map, List.length_take]; omega
    refine ⟨(zs.take len).map fun n => UInt8.ofNat n.toNat, hlen, ?_, Or.inr ⟨x, cap, by rw [hlen], fun k hk => ?_⟩⟩
    · rw [hlen]; unfold maxLen at hm; omega
    · rw [hlen] at hk
      have hkz : k < zs.length := by omega
      rw [hcell k hkz]
      have e1 : zs.getD k 0 = zs[k] := by rw [List.getD_eq_getElem?_getD, List.getElem?_eq_getElem hkz, Option.getD_some]
      have hb := bounds_u8 (hwz zs[k] (List.getElem_mem hkz))
      rw [e1, fb_of_lt _ _ (by rw [hlen]; exact hk)]
      simp only [List.getElem_map, List.getElem_take, UInt8.toNat_ofNat']
      congr 2
      omega

end Go.Proofs.Qxb6628219aDoor
