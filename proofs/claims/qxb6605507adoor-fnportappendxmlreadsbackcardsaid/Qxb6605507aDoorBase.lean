/-
  Seat b6605507aD: what is shared by the walks: when a slice reads as a list of bytes.
-/
import Derived.WalkKit
import Derived.BigQuiet
import Derived.Deep.QuietTactic
namespace Go.Proofs.Qxb6605507aDoor
open Go Go.RowKit

/-- The slice that begins at 'ao' reads as the bytes 'l' (of an empty list nothing is asked). -/
def Bs (w : World) (ao : Option Addr) (l : List UInt8) : Prop :=
  l = [] ∨ ∃ b off, ao = some ⟨b, off, none⟩ ∧ ∀ (i : Nat) (h : i < l.length), w.cell? ⟨b, off + i, none⟩ = some (.int .u8 (l[i].toNat : Int))

theorem Bs.nil (w : World) (ao : Option Addr) : Bs w ao [] := .inl rfl

theorem Bs.drewN {w : World} {ao : Option Addr} {l : List UInt8} (h : Bs w ao l) (n : Nat) : Bs (w.drewN n) ao l := h
theorem Bs.drew {w : World} {ao : Option Addr} {l : List UInt8} (h : Bs w ao l) : Bs w.drew ao l := h

theorem ret_bool {a b : Bool} (h : a = b) : Ending.returned (.bool a) = .returned (.bool b) := by rw [h]
theorem ret_int {k : IntKind} {a b : Int} (h : a = b) : Ending.returned (.int k a) = .returned (.int k b) := by rw [h]

theorem byte_ne {x y : UInt8} (h : ¬ x = y) : ((x.toNat : Int) != (y.toNat : Int)) = true := by
  rw [bne_iff_ne]
  intro e
  exact h (UInt8.toNat_inj.1 (by omega))

theorem take_step {l m : List UInt8} {k : Nat} (hk : k < l.length) (hm : k < m.length) (h : l.take k = m.take k) (e : l[k] = m[k]) : l.take (k + 1) = m.take (k + 1) := by
  rw [List.take_succ_eq_append_getElem hk, List.take_succ_eq_append_getElem hm, h, e]

end Go.Proofs.Qxb6605507aDoor
