import Derived.Test.Qxb6605523aRows
import Derived.Test.Qxb6605523aBase
namespace Go.Proofs.Qxb6605523a
open Go Go.RowKit

set_option maxHeartbeats 400000 in
/-- equalBytes: it tells whether the two rows of bytes are one; the world: some draws. -/
theorem equal_any (la lb : List UInt8) (a b : Option Addr) (ca cb : Nat) (w : World) (ha : Bs w a la) (hb : Bs w b lb) (hla : la.length ≤ 1000000000) (hlb : lb.length ≤ 1000000000) :
    Calls Try.prog 12 #[.slice a la.length ca, .slice b lb.length cb] w fun e w' => e = .returned (.bool (la == lb)) ∧ ∃ n, w' = w.drewN n := by
  by_cases hl : la.length = lb.length
  · have hlI : ((la.length : Int) != (lb.length : Int)) = false := by simp [hl]
    go_enter Try.func12, Try.ntmps12
    go_wp2
    go_loopw [5] (fun i wr => ∃ k n : Nat, k ≤ la.length ∧ i = .int .i64 k ∧ wr = w.drewN n ∧ la.take k = lb.take k) (fun i _ => la.length - (intOf i).toNat)
    case atStart => exact ⟨0, 0, Nat.zero_le _, rfl, rfl, by simp⟩
    case round =>
      obtain ⟨k, n, hk, rfl, rfl, ht⟩ := hrel
      have HT : Hid (la.take k = lb.take k) := ht
      have HL : Hid (la.length = lb.length) := hl
      clear ht hl
      by_cases hlt : k < la.length
      · have hlt2 : k < lb.length := by have := HL.out; omega
        rcases ha with rfl | ⟨ba, oa, rfl, hca⟩
        · simp at hlt
        rcases hb with rfl | ⟨bb, ob, rfl, hcb⟩
        · simp at hlt2
        have hxa := hca k hlt
        have hxb := hcb k hlt2
        have hs := take_step hlt hlt2 HT.out
        have HS : Hid (la[k] = lb[k] → la.take (k + 1) = lb.take (k + 1)) := take_step hlt hlt2 HT.out
        have hN : la[k] ≠ lb[k] → (la == lb) = false := fun e => by
          rw [beq_eq_false_iff_ne]
          intro e2
          subst e2
          exact e rfl
        have HN : Hid (la[k] ≠ lb[k] → (la == lb) = false) := hN
        clear hN
        generalize la[k] = x at hxa HS HN
        generalize lb[k] = y at hxb HS HN
        clear hca hcb
        have hi1 : (k : Int) < (la.length : Int) := by omega
        have hi2 : (k : Int) < (lb.length : Int) := by omega
        by_cases hxy : x = y
        · subst hxy
          go_wp2_with fail
          go_quiet (fail)
          go_wp2
          go_roundw
          case rel => exact ⟨k + 1, n + nq, by omega, by go_num, by simp, HS.out (by simp)⟩
          case measure => simp [intOf]; omega
        · have hne := byte_ne hxy
          go_wp2_with fail
          go_quiet (fail)
          go_wp2
          go_ret
          exact ⟨ret_bool (HN.out hxy).symm, _, World.drewN_drewN ..⟩
      · go_wp2
        go_ret
        refine ⟨ret_bool ?_, _, rfl⟩
        have h1 := HT.out
        rw [List.take_of_length_le (by omega), List.take_of_length_le (by have := HL.out; omega)] at h1
        simp [h1]
  · have hlI : ((la.length : Int) != (lb.length : Int)) = true := by rw [bne_iff_ne]; omega
    have HL : Hid ((la == lb) = false) := by
      show _ = _
      rw [beq_eq_false_iff_ne]
      intro e
      exact hl (by rw [e])
    go_enter Try.func12, Try.ntmps12
    go_wp2
    go_ret
    exact ⟨ret_bool HL.out.symm, 0, rfl⟩

theorem equal_at (la lb : List UInt8) (a b : Option Addr) (na nb ca cb : Nat) (w : World) (ha : Bs w a la) (hb : Bs w b lb) (hna : na = la.length) (hnb : nb = lb.length) (hla : la.length ≤ 1000000000) (hlb : lb.length ≤ 1000000000) :
    Calls Try.prog 12 #[.slice a na ca, .slice b nb cb] w fun e w' => e = .returned (.bool (la == lb)) ∧ ∃ n, w' = w.drewN n := by
  subst hna
  subst hnb
  exact equal_any la lb a b ca cb w ha hb hla hlb
end Go.Proofs.Qxb6605523a
