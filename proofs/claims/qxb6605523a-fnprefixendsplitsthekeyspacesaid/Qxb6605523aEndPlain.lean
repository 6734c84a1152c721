/-
  Seat b6605523a: plain facts on the end of a head; no program.
-/
import Derived.Test.Qxb6605523aBase
namespace Go.Proofs.Qxb6605523a
open Go Go.RowKit

/-- Is every byte 0xff? -/
def ffB (l : List UInt8) : Bool := l.all fun c => c == 255

theorem ffB_nil : ffB [] = true := rfl
theorem ffB_cons (a : UInt8) (l : List UInt8) : ffB (a :: l) = ((a == 255) && ffB l) := rfl

theorem ffB_take_succ (l : List UInt8) (k : Nat) (h : k < l.length) : ffB (l.take (k + 1)) = (ffB (l.take k) && (l[k] == 255)) := by
  rw [List.take_succ_eq_append_getElem h]
  unfold ffB
  rw [List.all_append]
  simp only [List.all_cons, List.all_nil, Bool.and_true]

theorem ffB_at {l : List UInt8} (h : ffB l = true) (k : Nat) (hk : k < l.length) : l[k] = 255 := by
  have := List.all_eq_true.1 h l[k] (List.getElem_mem hk)
  simpa using this

/-- A byte string is all 0xff, or has a last byte that is not. -/
theorem ff_or : ∀ l : List UInt8, ffB l = true ∨ ∃ q x r, l = q ++ x :: r ∧ x ≠ 255 ∧ ffB r = true
  | [] => .inl rfl
  | a :: l => by
    rcases ff_or l with h | ⟨q, x, r, rfl, hx, hr⟩
    · by_cases ha : a = 255
      · left
        subst ha
        rw [ffB_cons, h]
        rfl
      · exact .inr ⟨[], a, l, rfl, ha, h⟩
    · exact .inr ⟨a :: q, x, r, rfl, hx, hr⟩

theorem ffB_false {q r : List UInt8} {x : UInt8} (hx : x ≠ 255) : ffB (q ++ x :: r) = false := by
  have : (x == 255) = false := by simpa using hx
  simp [ffB, List.all_append, this]

theorem byte_lt (x : UInt8) : x.toNat < 256 := x.toNat_lt

theorem byte_succ {x : UInt8} (hx : x ≠ 255) : x.toNat ≤ 254 ∧ (x + 1).toNat = x.toNat + 1 := by
  have h1 := byte_lt x
  have h2 : x.toNat ≠ 255 := fun e => hx (UInt8.toNat_inj.1 e)
  refine ⟨by omega, ?_⟩
  rw [UInt8.toNat_add]
  show (x.toNat + 1) % 256 = _
  omega

theorem pre_cons (a b : UInt8) (x y : List UInt8) : (a :: x).isPrefixOf (b :: y) = ((a == b) && x.isPrefixOf y) := rfl

theorem ff_splits : ∀ (r s : List UInt8), ffB r = true → r.isPrefixOf s = true ∨ cmp s r = -1
  | [], _, _ => .inl rfl
  | a :: r, [], _ => .inr rfl
  | a :: r, y :: s, h => by
    rw [ffB_cons, Bool.and_eq_true] at h
    have ha : a = 255 := by simpa using h.1
    subst ha
    by_cases hy : y = 255
    · subst hy
      rcases ff_splits r s h.2 with h1 | h1
      · left
        rw [pre_cons, h1]
        rfl
      · right
        rw [cmp_cons_eq, h1]
    · right
      have h1 := byte_lt y
      have h2 : y.toNat ≠ 255 := fun e => hy (UInt8.toNat_inj.1 e)
      exact cmp_cons_lt _ _ _ _ (by show y.toNat < 255; omega)

def isNeg (z : Int) : Bool := decide (z < 0)
theorem isNeg_m : isNeg (-1) = true := rfl
theorem isNeg_1 : isNeg 1 = false := rfl
theorem isNeg_0 : isNeg 0 = false := rfl

/-- THE LAW: a key stands below the end of a head just where it has the head or stands below it. -/
theorem end_splits : ∀ (q : List UInt8) (x : UInt8) (r k : List UInt8), x ≠ 255 → ffB r = true →
    ((q ++ x :: r).isPrefixOf k || isNeg (cmp k (q ++ x :: r))) = isNeg (cmp k (q ++ [x + 1]))
  | [], x, r, [], _, _ => rfl
  | [], x, r, y :: s, hx, hr => by
    obtain ⟨h1, h2⟩ := byte_succ hx
    show ((x :: r).isPrefixOf (y :: s) || isNeg (cmp (y :: s) (x :: r))) = isNeg (cmp (y :: s) [x + 1])
    by_cases hlt : y.toNat < x.toNat
    · rw [cmp_cons_lt _ _ _ _ hlt, cmp_cons_lt _ _ _ _ (by omega)]
      simp [isNeg_m]
    · by_cases he : y = x
      · subst he
        rw [cmp_cons_lt y (y + 1) s [] (by omega), cmp_cons_eq, pre_cons]
        rcases ff_splits r s hr with h | h
        · rw [h]
          simp [isNeg_m]
        · rw [h]
          simp [isNeg_m]
      · have hne : y.toNat ≠ x.toNat := fun e => he (UInt8.toNat_inj.1 e)
        have hxy : (x == y) = false := beq_eq_false_iff_ne.2 fun e => he e.symm
        rw [cmp_cons_gt y x s r (by omega), pre_cons, hxy]
        by_cases h3 : y = x + 1
        · rw [← h3, cmp_cons_eq]
          cases s with
          | nil => rfl
          | cons a s => rfl
        · have hne2 : y.toNat ≠ (x + 1).toNat := fun e => h3 (UInt8.toNat_inj.1 e)
          rw [cmp_cons_gt y (x + 1) s [] (by omega)]
          rfl
  | a :: q, x, r, [], _, _ => rfl
  | a :: q, x, r, y :: s, hx, hr => by
    show ((a :: (q ++ x :: r)).isPrefixOf (y :: s) || isNeg (cmp (y :: s) (a :: (q ++ x :: r)))) = isNeg (cmp (y :: s) (a :: (q ++ [x + 1])))
    by_cases hlt : y.toNat < a.toNat
    · rw [cmp_cons_lt _ _ _ _ hlt, cmp_cons_lt _ _ _ _ hlt]
      simp [isNeg_m]
    · by_cases he : y = a
      · subst he
        rw [cmp_cons_eq, cmp_cons_eq, pre_cons, beq_self_eq_true, Bool.true_and]
        exact end_splits q x r s hx hr
      · have hne : y.toNat ≠ a.toNat := fun e => he (UInt8.toNat_inj.1 e)
        have hxy : (a == y) = false := beq_eq_false_iff_ne.2 fun e => he e.symm
        rw [cmp_cons_gt _ _ _ _ (by omega), cmp_cons_gt _ _ _ _ (by omega), pre_cons, hxy]
        rfl

end Go.Proofs.Qxb6605523a
