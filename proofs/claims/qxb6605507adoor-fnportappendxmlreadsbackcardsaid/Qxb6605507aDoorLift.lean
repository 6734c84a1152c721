/-
  Seat b6605507aD: what the rows' proofs share: the listed table's fact, a start that meets the list, a slice of bytes that came in.
-/
import Derived.Test.Qxb6605507aDoorShelf
import Derived.Test.Qxb6605507aDoorBase
import Derived.ProofKit
import Derived.LaidMore
import Derived.OpenShut
import Derived.ShutString
import Derived.ChangeOld
import Derived.Stop.Joined
import Derived.Stop.LaidErr
import Derived.Lib.LaidTab
namespace Go.Proofs.Qxb6605507aDoor
open Go Go.ChangeShapes Go.WideShapes Go.ChangeAt Go.RowKit
set_option linter.unusedVariables false

theorem own : ownKnob Tryd.prog.godebug = none := by kernel_rfl
theorem laidOut : laidOutB Tryd.prog = true := by kernel_rfl

/-- The rows' one list of variables. -/
def laidAll : List (String × DataW Unit) := Rows.fnPortAppendJSONReadsBackRow.laid

theorem door_met (os : Os) (args : Array Value) : laidMetH Tryd.prog laidAll ((World.doorLaid Tryd.prog 24 os).forCall (fun _ _ => 0) ⟨#[], args, []⟩).memory :=
  laidMetH_of_parts3 (fuel := 8) (laidMet_of_run' 8 (by kernel_rfl) (by kernel_rfl)) (by kernel_rfl) (by kernel_rfl)

/-- What the list gives the walks: the table of powers of ten. -/
theorem tab_of_laid {W : World} (h : laidMetH Tryd.prog laidAll W) : Lib.TabBelow Tryd.prog W.heap.size W powName .u64 Lib.pow10Tab := by
  rw [MakeChecks.laidMetH_plain _ _ _ (by kernel_rfl)] at h
  have h3 : laidMet Tryd.prog [(powName, Lib.tabData .u64 Lib.pow10Tab)] W := h.tail.tail
  have hg : Tryd.prog.globalNamed powName = some 0 := by kernel_rfl
  have hty : (Tryd.prog.globals[0]?).map (·.type) = some 92 := by kernel_rfl
  exact Lib.tabBelow_of_tabIs (Lib.tabIs_of_head hg hty Tryd.underlying92 Tryd.underlying77 (by kernel_rfl) (by kernel_rfl) h3)

/-- WHAT THE WALK IS TOLD OF A SLICE OF INTEGERS THAT CAME IN (as the kit's skeleton says it). -/
def IsRow (k : IntKind) (w : World) (a : Option Addr) (len cap : Nat) (zs : List Int) : Prop :=
  (a = none ∧ len = 0 ∧ cap = 0 ∧ zs = []) ∨
  ∃ x, a = some x ∧ len ≤ cap ∧ cap ≤ maxLen ∧ zs.length = cap ∧ (∀ i, i < zs.length → w.cell? (x.add i) = some (.int k (zs.getD i 0))) ∧ ∀ n ∈ zs, (Lit.int k n).wf = true

theorem byte_of (z : Int) (h0 : 0 ≤ z) (h1 : z ≤ 255) : ((UInt8.ofNat z.toNat).toNat : Int) = z := by
  rw [UInt8.toNat_ofNat']
  omega

/-- A slice of bytes that came in reads as a list of bytes. -/
theorem IsRow.bs {w : World} {a : Option Addr} {len cap : Nat} {zs : List Int} (h : IsRow .u8 w a len cap zs) : ∃ l : List UInt8, len = l.length ∧ Bs w a l ∧ (a = none → l = [] ∧ cap = 0) := by
  rcases h with ⟨rfl, rfl, rfl, rfl⟩ | ⟨x, rfl, hl, hm, hz, hc, hw⟩
  · exact ⟨[], rfl, .inl rfl, fun _ => ⟨rfl, rfl⟩⟩
  · refine ⟨(zs.take len).map fun z => UInt8.ofNat z.toNat, by rw [List.length_map, List.length_take]; omega, ?_, fun h => by cases h⟩
    by_cases h0 : len = 0
    · left
      subst h0
      simp
    · right
      obtain ⟨b, off, spot⟩ := x
      have hspot : spot = none := by
        have := World.cell?_spot (hc 0 (by omega))
        simpa [Addr.add] using this
      subst hspot
      refine ⟨b, off, rfl, fun i hi => ?_⟩
      rw [List.length_map, List.length_take] at hi
      have hi' : i < zs.length := by omega
      have h1 := hc i hi'
      rw [Addr.add_lit] at h1
      rw [h1]
      have hb := range_u8 hw i
      simp only [List.getElem_map, List.getElem_take]
      have e : zs.getD i 0 = zs[i] := by simp [hi']
      have e2 : zs[i]?.getD 0 = zs[i] := by simp [hi']
      rw [e2] at hb
      rw [e, byte_of _ hb.1 hb.2]
end Go.Proofs.Qxb6605507aDoor
