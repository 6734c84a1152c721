import Derived.Test.Qxb6605507aDoorRows
import Derived.Test.Qxb6605507aDoorBase
import Derived.Test.Qxb6605507aDoorPlain
namespace Go.Proofs.Qxb6605507aDoor
open Go Go.RowKit

theorem wrap_neg_u64 (n : Int) (h0 : -9223372036854775808 ≤ n) (h1 : n < 0) : IntKind.u64.wrap (-IntKind.u64.wrap n) = ((n.natAbs : Nat) : Int) := by
  simp only [IntKind.wrap, IntKind.bits, IntKind.signed]
  simp
  omega

set_option maxHeartbeats 400000 in
theorem decLen_neg (n : Int) (w : World) (h0 : -9223372036854775808 ≤ n) (h1 : n < 0) :
    Calls Tryd.prog 22 #[.int .i64 n] w fun e w' => e = .returned (.int .i64 ((Lib.itoa n).length : Int)) ∧ w' = w := by
  have HW : Hid (IntKind.u64.wrap (-IntKind.u64.wrap n) = ((n.natAbs : Nat) : Int)) := wrap_neg_u64 n h0 h1
  have HI : Hid ((Lib.itoa n).length = 1 + Lib.nDigits n.natAbs) := by
    show _ = _
    rw [Lib.itoa, if_pos h1, List.length_cons, Lib.decDigits_length]; omega
  have hab : n.natAbs ≤ 9223372036854775808 := by omega
  go_enter Tryd.func22, Tryd.ntmps22
  go_wp2
  go_loop [3, 5] (fun us ds => ∃ u d : Nat, u ≤ 9223372036854775808 ∧ 1 ≤ d ∧ d + Lib.nDigits u = 1 + Lib.nDigits n.natAbs ∧ us = .int .u64 u ∧ ds = .int .i64 d) (fun us _ => (intOf us).toNat)
  case atStart => exact ⟨n.natAbs, 1, hab, by omega, rfl, by rw [HW.out], rfl⟩
  case round =>
    obtain ⟨u, d, hu, hd, hsum, rfl, rfl⟩ := hrel
    have hdb : d ≤ 100 := by
      have := nDigits_le19 n.natAbs hab
      omega
    have HS : Hid (d + Lib.nDigits u = 1 + Lib.nDigits n.natAbs) := hsum
    clear hsum
    by_cases hlt : 10 ≤ u
    · go_wp2
      go_round
      case rel =>
        refine ⟨u / 10, d + 1, by omega, by omega, ?_, by go_num, by go_num⟩
        have := HS.out
        rw [Lib.nDigits_big (by omega)] at this
        omega
      case measure => simp [intOf]; omega
    · go_wp2
      go_ret
      refine ⟨ret_int ?_, rfl⟩
      have := HS.out
      rw [Lib.nDigits_small (by omega)] at this
      rw [HI.out]
      omega
set_option maxHeartbeats 400000 in
theorem decLen_pos (n : Int) (w : World) (h0 : 0 ≤ n) (h1 : n ≤ 9223372036854775807) :
    Calls Tryd.prog 22 #[.int .i64 n] w fun e w' => e = .returned (.int .i64 ((Lib.itoa n).length : Int)) ∧ w' = w := by
  have HI : Hid ((Lib.itoa n).length = Lib.nDigits n.natAbs) := by
    show _ = _
    rw [Lib.itoa, if_neg (by omega), Lib.decDigits_length]; congr 1; omega
  have hab : n.natAbs ≤ 9223372036854775808 := by omega
  go_enter Tryd.func22, Tryd.ntmps22
  go_wp2
  go_loop [3, 5] (fun us ds => ∃ u d : Nat, u ≤ 9223372036854775808 ∧ 1 ≤ d ∧ d + Lib.nDigits u = 1 + Lib.nDigits n.natAbs ∧ us = .int .u64 u ∧ ds = .int .i64 d) (fun us _ => (intOf us).toNat)
  case atStart => exact ⟨n.natAbs, 1, hab, by omega, rfl, by first | rfl | (congr 1; omega), rfl⟩
  case round =>
    obtain ⟨u, d, hu, hd, hsum, rfl, rfl⟩ := hrel
    have hdb : d ≤ 100 := by
      have := nDigits_le19 n.natAbs hab
      omega
    have HS : Hid (d + Lib.nDigits u = 1 + Lib.nDigits n.natAbs) := hsum
    clear hsum
    by_cases hlt : 10 ≤ u
    · go_wp2
      go_round
      case rel =>
        refine ⟨u / 10, d + 1, by omega, by omega, ?_, by go_num, by go_num⟩
        have := HS.out
        rw [Lib.nDigits_big (by omega)] at this
        omega
      case measure => simp [intOf]; omega
    · go_wp2
      go_ret
      refine ⟨ret_int ?_, rfl⟩
      have := HS.out
      rw [Lib.nDigits_small (by omega)] at this
      rw [HI.out]
      omega

theorem decLen_any (n : Int) (w : World) (h0 : -9223372036854775808 ≤ n) (h1 : n ≤ 9223372036854775807) :
    Calls Tryd.prog 22 #[.int .i64 n] w fun e w' => e = .returned (.int .i64 ((Lib.itoa n).length : Int)) ∧ w' = w := by
  by_cases h : n < 0
  · exact decLen_neg n w h0 h
  · exact decLen_pos n w (by omega) h1
end Go.Proofs.Qxb6605507aDoor
