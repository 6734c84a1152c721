/-
  Seat b6605507aD: plain facts on decimal numerals and on lists of bytes; no program.
-/
import Derived.Lib.ItoaNum
namespace Go.Proofs.Qxb6605507aDoor
open Go

/-- The number that a list of digits spells. -/
def val (l : List UInt8) : Nat := l.foldl (fun a c => a * 10 + (c.toNat - 48)) 0

theorem val_snoc (l : List UInt8) (c : UInt8) : val (l ++ [c]) = val l * 10 + (c.toNat - 48) := by
  simp [val, List.foldl_append]

theorem val_take_succ (l : List UInt8) (j : Nat) (h : j < l.length) : val (l.take (j + 1)) = val (l.take j) * 10 + (l[j].toNat - 48) := by
  rw [List.take_succ_eq_append_getElem h, val_snoc]

theorem fold_ge : ∀ (l : List UInt8) (a : Nat), a ≤ l.foldl (fun a c => a * 10 + (c.toNat - 48)) a
  | [], _ => Nat.le_refl _
  | c :: l, a => by
    have := fold_ge l (a * 10 + (c.toNat - 48))
    simp only [List.foldl_cons]
    omega

theorem val_take_le (l : List UInt8) (j : Nat) : val (l.take j) ≤ val l := by
  have h : val l = (l.drop j).foldl (fun a c => a * 10 + (c.toNat - 48)) (val (l.take j)) := by
    unfold val
    rw [← List.foldl_append, List.take_append_drop]
  rw [h]
  exact fold_ge _ _

theorem digit_nat (d : Nat) (h : d < 10) : (UInt8.ofNat (48 + d)).toNat = 48 + d := by
  rw [UInt8.toNat_ofNat']
  omega

theorem val_decDigits (u : Nat) : val (Lib.decDigits u) = u := by
  induction u using Nat.strongRecOn with
  | _ u ih =>
    by_cases h : u < 10
    · rw [Lib.decDigits, dif_pos h]
      simp only [val, List.foldl_cons, List.foldl_nil]
      rw [digit_nat u h]
      omega
    · rw [Lib.decDigits, dif_neg h, val_snoc, ih (u / 10) (by omega), digit_nat _ (by omega)]
      omega

theorem digits_dec (u : Nat) : ∀ c ∈ Lib.decDigits u, 48 ≤ c.toNat ∧ c.toNat ≤ 57 := by
  induction u using Nat.strongRecOn with
  | _ u ih =>
    by_cases h : u < 10
    · rw [Lib.decDigits, dif_pos h]
      intro c hc
      simp only [List.mem_singleton] at hc
      subst hc
      rw [digit_nat u h]
      omega
    · rw [Lib.decDigits, dif_neg h]
      intro c hc
      rw [List.mem_append] at hc
      rcases hc with hc | hc
      · exact ih (u / 10) (by omega) c hc
      · simp only [List.mem_singleton] at hc
        subst hc
        rw [digit_nat _ (by omega)]
        omega

theorem nDigits_le : ∀ (k u : Nat), 1 ≤ k → u < 10 ^ k → Lib.nDigits u ≤ k
  | 0, _, h, _ => by omega
  | k + 1, u, _, h => by
    by_cases hu : u < 10
    · rw [Lib.nDigits_small hu]; omega
    · rw [Lib.nDigits_big hu]
      have hk : 1 ≤ k := by
        rcases k with _ | k
        · simp at h; omega
        · omega
      have := nDigits_le k (u / 10) hk (by rw [Nat.pow_succ] at h; omega)
      omega

theorem nDigits_le19 (u : Nat) (h : u ≤ 9223372036854775808) : Lib.nDigits u ≤ 19 :=
  nDigits_le 19 u (by decide) (by
    have : (10 : Nat) ^ 19 = 10000000000000000000 := by decide
    omega)

theorem head_dec (u : Nat) (h : u ≠ 0) : ∃ c l, Lib.decDigits u = c :: l ∧ c.toNat ≠ 48 := by
  induction u using Nat.strongRecOn with
  | _ u ih =>
    by_cases hu : u < 10
    · rw [Lib.decDigits, dif_pos hu]
      exact ⟨_, _, rfl, by rw [digit_nat u hu]; omega⟩
    · rw [Lib.decDigits, dif_neg hu]
      obtain ⟨c, l, e, hc⟩ := ih (u / 10) (by omega) (by omega)
      rw [e]
      exact ⟨c, _, rfl, hc⟩

theorem dec_zero : Lib.decDigits 0 = [48] := by
  rw [Lib.decDigits, dif_pos (by decide)]
  rfl

theorem dec_pos (u : Nat) : 0 < (Lib.decDigits u).length := by
  rw [Lib.decDigits_length]
  exact Lib.nDigits_pos u

theorem itoa_len_le (n : Int) (h0 : -9223372036854775808 ≤ n) (h1 : n ≤ 9223372036854775807) : (Lib.itoa n).length ≤ 20 := by
  unfold Lib.itoa
  split
  · rw [List.length_cons, Lib.decDigits_length]
    have := nDigits_le19 n.natAbs (by omega)
    omega
  · rw [Lib.decDigits_length]
    have := nDigits_le19 n.toNat (by omega)
    omega

end Go.Proofs.Qxb6605507aDoor
