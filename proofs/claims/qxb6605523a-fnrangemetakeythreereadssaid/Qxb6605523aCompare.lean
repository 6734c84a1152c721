import Derived.Test.Qxb6605523aRows
import Derived.Test.Qxb6605523aBase
namespace Go.Proofs.Qxb6605523a
open Go Go.RowKit

set_option maxHeartbeats 1000000 in
theorem compare_le (la lb : List UInt8) (a b : Option Addr) (ca cb : Nat) (w : World) (ha : Bs w a la) (hb : Bs w b lb) (hla : la.length ≤ 1000000000) (hlb : lb.length ≤ 1000000000) (hm : la.length ≤ lb.length) :
    Calls Try.prog 15 #[.slice a la.length ca, .slice b lb.length cb] w fun e w' => e = .returned (.int .i64 (cmp la lb)) ∧ ∃ n, w' = w.drewN n := by
  have d1 : decide (lb.length < la.length) = false := by simp; omega
  go_enter Try.func15, Try.ntmps15
  go_wp2
  go_loopw [6] (fun i wr => ∃ k n : Nat, k ≤ la.length ∧ i = .int .i64 k ∧ wr = w.drewN n ∧ la.take k = lb.take k) (fun i _ => la.length - (intOf i).toNat)
  case atStart => exact ⟨0, 0, Nat.zero_le _, rfl, rfl, by simp⟩
  case round =>
    obtain ⟨k, n, hk, rfl, rfl, ht⟩ := hrel
    have HT : Hid (la.take k = lb.take k) := ht
    clear ht
    by_cases hlt : k < la.length
    · have hlt1 : k < la.length := by omega
      have hlt2 : k < lb.length := by omega
      rcases ha with rfl | ⟨ba, oa, rfl, hca⟩
      · simp at hlt1
      rcases hb with rfl | ⟨bb, ob, rfl, hcb⟩
      · simp at hlt2
      have hxa := hca k hlt1
      have hxb := hcb k hlt2
      have HS : Hid (la[k] = lb[k] → la.take (k + 1) = lb.take (k + 1)) := take_step hlt1 hlt2 HT.out
      have H1 : Hid (la[k].toNat < lb[k].toNat → cmp la lb = -1) := cmp_at_lt hlt1 hlt2 HT.out
      have H2 : Hid (lb[k].toNat < la[k].toNat → cmp la lb = 1) := cmp_at_gt hlt1 hlt2 HT.out
      generalize la[k] = x at hxa HS H1 H2
      generalize lb[k] = y at hxb HS H1 H2
      clear hca hcb
      have hi1 : (k : Int) < (la.length : Int) := by omega
      have hi2 : (k : Int) < (lb.length : Int) := by omega
      by_cases hxy : x.toNat < y.toNat
      · have h1 : (x.toNat : Int) < (y.toNat : Int) := by omega
        go_wp2_with fail
        go_quiet (fail)
        go_wp2
        go_ret
        exact ⟨ret_int (H1.out hxy).symm, _, World.drewN_drewN ..⟩
      · have h1 : ¬ (x.toNat : Int) < (y.toNat : Int) := by omega
        by_cases hyx : y.toNat < x.toNat
        · have h2 : (y.toNat : Int) < (x.toNat : Int) := by omega
          go_wp2_with fail
          go_quiet (fail)
          go_wp2
          go_quiet (fail)
          go_wp2
          go_ret
          exact ⟨ret_int (H2.out hyx).symm, _, by first | rfl | (simp only [World.drewN_drewN]; rfl)⟩
        · have h2 : ¬ (y.toNat : Int) < (x.toNat : Int) := by omega
          have HE : Hid (x = y) := UInt8.toNat_inj.1 (by omega)
          go_wp2_with fail
          go_quiet (fail)
          go_wp2
          go_quiet (fail)
          go_wp2
          go_roundw
          case rel => exact ⟨k + 1, _, by omega, by go_num, by first | rfl | (simp only [World.drewN_drewN]; rfl), HS.out HE.out⟩
          case measure => simp [intOf]; omega
    · have h1 := HT.out
      rw [List.take_of_length_le (by omega), show k = la.length from by omega] at h1
      by_cases he : la.length < lb.length
      · have HF : Hid (cmp la lb = -1) := cmp_short he h1
        clear h1
        go_wp2
        go_ret
        exact ⟨ret_int HF.out.symm, _, rfl⟩
      · have HF : Hid (cmp la lb = 0) := by
          show _ = _
          rw [List.take_of_length_le (by omega)] at h1
          rw [h1]
          exact cmp_self lb
        clear h1
        go_wp2
        go_ret
        exact ⟨ret_int HF.out.symm, _, rfl⟩
set_option maxHeartbeats 1000000 in
theorem compare_gt (la lb : List UInt8) (a b : Option Addr) (ca cb : Nat) (w : World) (ha : Bs w a la) (hb : Bs w b lb) (hla : la.length ≤ 1000000000) (hlb : lb.length ≤ 1000000000) (hm : lb.length < la.length) :
    Calls Try.prog 15 #[.slice a la.length ca, .slice b lb.length cb] w fun e w' => e = .returned (.int .i64 (cmp la lb)) ∧ ∃ n, w' = w.drewN n := by
  go_enter Try.func15, Try.ntmps15
  go_wp2
  go_loopw [6] (fun i wr => ∃ k n : Nat, k ≤ lb.length ∧ i = .int .i64 k ∧ wr = w.drewN n ∧ la.take k = lb.take k) (fun i _ => lb.length - (intOf i).toNat)
  case atStart => exact ⟨0, 0, Nat.zero_le _, rfl, rfl, by simp⟩
  case round =>
    obtain ⟨k, n, hk, rfl, rfl, ht⟩ := hrel
    have HT : Hid (la.take k = lb.take k) := ht
    clear ht
    by_cases hlt : k < lb.length
    · have hlt1 : k < la.length := by omega
      have hlt2 : k < lb.length := by omega
      rcases ha with rfl | ⟨ba, oa, rfl, hca⟩
      · simp at hlt1
      rcases hb with rfl | ⟨bb, ob, rfl, hcb⟩
      · simp at hlt2
      have hxa := hca k hlt1
      have hxb := hcb k hlt2
      have HS : Hid (la[k] = lb[k] → la.take (k + 1) = lb.take (k + 1)) := take_step hlt1 hlt2 HT.out
      have H1 : Hid (la[k].toNat < lb[k].toNat → cmp la lb = -1) := cmp_at_lt hlt1 hlt2 HT.out
      have H2 : Hid (lb[k].toNat < la[k].toNat → cmp la lb = 1) := cmp_at_gt hlt1 hlt2 HT.out
      generalize la[k] = x at hxa HS H1 H2
      generalize lb[k] = y at hxb HS H1 H2
      clear hca hcb
      have hi1 : (k : Int) < (la.length : Int) := by omega
      have hi2 : (k : Int) < (lb.length : Int) := by omega
      by_cases hxy : x.toNat < y.toNat
      · have h1 : (x.toNat : Int) < (y.toNat : Int) := by omega
        go_wp2_with fail
        go_quiet (fail)
        go_wp2
        go_ret
        exact ⟨ret_int (H1.out hxy).symm, _, World.drewN_drewN ..⟩
      · have h1 : ¬ (x.toNat : Int) < (y.toNat : Int) := by omega
        by_cases hyx : y.toNat < x.toNat
        · have h2 : (y.toNat : Int) < (x.toNat : Int) := by omega
          go_wp2_with fail
          go_quiet (fail)
          go_wp2
          go_quiet (fail)
          go_wp2
          go_ret
          exact ⟨ret_int (H2.out hyx).symm, _, by first | rfl | (simp only [World.drewN_drewN]; rfl)⟩
        · have h2 : ¬ (y.toNat : Int) < (x.toNat : Int) := by omega
          have HE : Hid (x = y) := UInt8.toNat_inj.1 (by omega)
          go_wp2_with fail
          go_quiet (fail)
          go_wp2
          go_quiet (fail)
          go_wp2
          go_roundw
          case rel => exact ⟨k + 1, _, by omega, by go_num, by first | rfl | (simp only [World.drewN_drewN]; rfl), HS.out HE.out⟩
          case measure => simp [intOf]; omega
    · have h1 := HT.out
      rw [List.take_of_length_le (l := lb) (by omega), show k = lb.length from by omega] at h1
      have HF : Hid (cmp la lb = 1) := cmp_long hm h1
      clear h1
      go_wp2
      go_ret
      exact ⟨ret_int HF.out.symm, _, rfl⟩

/-- keysB1Compare: the order of the two byte strings; the world: some draws. -/
theorem compare_at (la lb : List UInt8) (a b : Option Addr) (na nb ca cb : Nat) (w : World) (ha : Bs w a la) (hb : Bs w b lb) (hna : na = la.length) (hnb : nb = lb.length) (hla : la.length ≤ 1000000000) (hlb : lb.length ≤ 1000000000) :
    Calls Try.prog 15 #[.slice a na ca, .slice b nb cb] w fun e w' => e = .returned (.int .i64 (cmp la lb)) ∧ ∃ n, w' = w.drewN n := by
  subst hna
  subst hnb
  by_cases h : la.length ≤ lb.length
  · exact compare_le la lb a b ca cb w ha hb hla hlb h
  · exact compare_gt la lb a b ca cb w ha hb hla hlb (by omega)
end Go.Proofs.Qxb6605523a
