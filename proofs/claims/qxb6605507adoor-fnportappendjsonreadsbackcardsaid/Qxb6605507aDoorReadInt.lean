import Derived.Test.Qxb6605507aDoorRows
import Derived.Test.Qxb6605507aDoorBase
import Derived.Test.Qxb6605507aDoorPlain
namespace Go.Proofs.Qxb6605507aDoor
open Go Go.RowKit

set_option maxHeartbeats 1000000 in
/-- readInt at a numeral without a sign. -/
theorem readInt_pos (b off L c q u : Nat) (D : List UInt8) (x : UInt8) (w : World) (hL : L ≤ 1000000000) (hq : q + D.length < L) (hu : u ≤ 9223372036854775807)
    (hval : val D = u) (hdig : ∀ d ∈ D, 48 ≤ d.toNat ∧ d.toNat ≤ 57) (hpos : 0 < D.length) (h19 : D.length ≤ 19) (h0 : D[0].toNat = 48 → D.length = 1)
    (hc : ∀ j (h : j < D.length), w.cell? ⟨b, off + (q + j), none⟩ = some (.int .u8 (D[j].toNat : Int)))
    (hx : w.cell? ⟨b, off + (q + D.length), none⟩ = some (.int .u8 (x.toNat : Int))) (hxd : x.toNat < 48 ∨ 57 < x.toNat) :
    Calls Tryd.prog 29 #[.slice (some ⟨b, off, none⟩) L c, .int .i64 q] w fun e w' => e = .returned (.tuple #[.int .i64 u, .int .i64 ((q : Int) + (D.length : Int)), .bool true]) ∧ w' = w := by
  have hc0 : w.cell? ⟨b, off + q, none⟩ = some (.int .u8 (D[0].toNat : Int)) := by simpa using hc 0 hpos
  have hd0 := hdig D[0] (List.getElem_mem hpos)
  have HC : Hid (∀ j (h : j < D.length), w.cell? ⟨b, off + (q + j), none⟩ = some (.int .u8 (D[j].toNat : Int))) := hc
  have HV : Hid (val D = u) := hval
  have HD : Hid (∀ d ∈ D, 48 ≤ d.toNat ∧ d.toNat ≤ 57) := hdig
  have H0 : Hid (D[0].toNat = 48 → D.length = 1) := h0
  clear hc hval hdig h0
  generalize D[0].toNat = z0 at hc0 hd0 H0
  have hm : ((z0 : Int) == 45) = false := by simp; omega
  have hq0 : (0 : Int) ≤ (q : Int) := by omega
  have hq1 : (q : Int) < (L : Int) := by omega
  have d1 : decide ((0 : Int) ≤ (q : Int)) = true := by simp
  have d2 : decide (q < L) = true := by simp; omega
  go_enter Tryd.func29, Tryd.ntmps29
  go_wp2
  go_loop [1, 9] (fun i v => ∃ j : Nat, j ≤ D.length ∧ i = .int .i64 ((q : Int) + (j : Int)) ∧ v = .int .u64 ((val (D.take j) : Nat) : Int)) (fun i _ => q + D.length - (intOf i).toNat)
  case atStart => exact ⟨0, Nat.zero_le _, by simp, rfl⟩
  case round =>
    obtain ⟨j, hj, rfl, rfl⟩ := hrel
    by_cases hlt : j < D.length
    · have hcj := HC.out j hlt
      have hdj := HD.out D[j] (List.getElem_mem hlt)
      have HS : Hid (val (D.take (j + 1)) = val (D.take j) * 10 + (D[j].toNat - 48)) := val_take_succ D j hlt
      have hle := val_take_le D (j + 1)
      rw [HV.out, HS.out] at hle
      generalize D[j].toNat = z at hcj hdj HS hle
      generalize val (D.take j) = v at HS hle
      go_wp2
      go_round
      case rel =>
        refine ⟨j + 1, by omega, by go_num, ?_⟩
        rw [HS.out]
        go_num
      case measure => simp [intOf]; omega
    · obtain rfl : j = D.length := by omega
      have HF : Hid (val (D.take D.length) = u) := by rw [List.take_length]; exact HV.out
      generalize val (D.take D.length) = v at HF
      obtain rfl : v = u := HF.out
      have hnd : ((D.length : Int) == 0) = false := beq_eq_false_iff_ne.2 (by omega)
      have hqm : (q : Int) + (D.length : Int) < (L : Int) := by omega
      have e2 : (q : Int) + (D.length : Int) - (q : Int) = (D.length : Int) := by omega
      clear HC HD hj hlt
      rcases hxd with hxd | hxd
      · by_cases hz : z0 = 48
        · have h1 := H0.out hz
          subst hz
          have h1' : D.length ≤ 1 := by omega
          clear h1
          go_wp2
          go_ret3
          exact ⟨rfl, rfl⟩
        · have hz' : ((z0 : Int) == 48) = false := by simp; omega
          go_wp2
          go_ret3
          exact ⟨rfl, rfl⟩
      · by_cases hz : z0 = 48
        · have h1 := H0.out hz
          subst hz
          have h1' : D.length ≤ 1 := by omega
          clear h1
          go_wp2
          go_ret3
          exact ⟨rfl, rfl⟩
        · have hz' : ((z0 : Int) == 48) = false := by simp; omega
          go_wp2
          go_ret3
          exact ⟨rfl, rfl⟩

set_option maxHeartbeats 1000000 in
/-- readInt at a numeral with a sign. -/
theorem readInt_neg (b off L c q u : Nat) (D : List UInt8) (x : UInt8) (w : World) (hL : L ≤ 1000000000) (hq : q + 1 + D.length < L) (hu : u ≤ 9223372036854775808)
    (hval : val D = u) (hdig : ∀ d ∈ D, 48 ≤ d.toNat ∧ d.toNat ≤ 57) (hpos : 0 < D.length) (h19 : D.length ≤ 19) (h0 : D[0].toNat ≠ 48)
    (hm : w.cell? ⟨b, off + q, none⟩ = some (.int .u8 45))
    (hc : ∀ j (h : j < D.length), w.cell? ⟨b, off + (q + 1 + j), none⟩ = some (.int .u8 (D[j].toNat : Int)))
    (hx : w.cell? ⟨b, off + (q + 1 + D.length), none⟩ = some (.int .u8 (x.toNat : Int))) (hxd : x.toNat < 48 ∨ 57 < x.toNat) :
    Calls Tryd.prog 29 #[.slice (some ⟨b, off, none⟩) L c, .int .i64 q] w fun e w' => e = .returned (.tuple #[.int .i64 (-(u : Int)), .int .i64 ((q : Int) + 1 + (D.length : Int)), .bool true]) ∧ w' = w := by
  have hc0 : w.cell? ⟨b, off + (q + 1), none⟩ = some (.int .u8 (D[0].toNat : Int)) := by simpa using hc 0 hpos
  have HC : Hid (∀ j (h : j < D.length), w.cell? ⟨b, off + (q + 1 + j), none⟩ = some (.int .u8 (D[j].toNat : Int))) := hc
  have HV : Hid (val D = u) := hval
  have HD : Hid (∀ d ∈ D, 48 ≤ d.toNat ∧ d.toNat ≤ 57) := hdig
  clear hc hval hdig
  generalize D[0].toNat = z0 at hc0 h0
  have hq0 : (0 : Int) ≤ (q : Int) := by omega
  have hq1 : (q : Int) < (L : Int) := by omega
  have d1 : decide ((0 : Int) ≤ (q : Int)) = true := by simp
  have d2 : decide (q < L) = true := by simp; omega
  have hz' : ((z0 : Int) == 48) = false := beq_eq_false_iff_ne.2 (by omega)
  clear h0
  go_enter Tryd.func29, Tryd.ntmps29
  go_wp2
  go_loop [1, 9] (fun i v => ∃ j : Nat, j ≤ D.length ∧ i = .int .i64 ((q : Int) + 1 + (j : Int)) ∧ v = .int .u64 ((val (D.take j) : Nat) : Int)) (fun i _ => q + 1 + D.length - (intOf i).toNat)
  case atStart => exact ⟨0, Nat.zero_le _, by simp, rfl⟩
  case round =>
    obtain ⟨j, hj, rfl, rfl⟩ := hrel
    by_cases hlt : j < D.length
    · have hcj := HC.out j hlt
      have hdj := HD.out D[j] (List.getElem_mem hlt)
      have HS : Hid (val (D.take (j + 1)) = val (D.take j) * 10 + (D[j].toNat - 48)) := val_take_succ D j hlt
      have hle := val_take_le D (j + 1)
      rw [HV.out, HS.out] at hle
      generalize D[j].toNat = z at hcj hdj HS hle
      generalize val (D.take j) = v at HS hle
      go_wp2
      go_round
      case rel =>
        refine ⟨j + 1, by omega, by go_num, ?_⟩
        rw [HS.out]
        go_num
      case measure => simp [intOf]; omega
    · obtain rfl : j = D.length := by omega
      have HF : Hid (val (D.take D.length) = u) := by rw [List.take_length]; exact HV.out
      generalize val (D.take D.length) = v at HF
      obtain rfl : v = u := HF.out
      have hnd : ((D.length : Int) == 0) = false := beq_eq_false_iff_ne.2 (by omega)
      have hqm : (q : Int) + 1 + (D.length : Int) < (L : Int) := by omega
      have e2 : (q : Int) + 1 + (D.length : Int) - ((q : Int) + 1) = (D.length : Int) := by omega
      clear HC HD hj hlt HV HF
      by_cases hv : v = 9223372036854775808
      · have he : ((v : Int) == 9223372036854775808) = true := beq_iff_eq.2 (by omega)
        have HV : Hid (v = 9223372036854775808) := hv
        clear hv
        rcases hxd with hxd | hxd
        · go_wp2
          go_ret3
          exact ⟨by rw [HV.out]; rfl, rfl⟩
        · go_wp2
          go_ret3
          exact ⟨by rw [HV.out]; rfl, rfl⟩
      · have he : ((v : Int) == 9223372036854775808) = false := beq_eq_false_iff_ne.2 (by omega)
        rcases hxd with hxd | hxd
        · go_wp2
          go_ret3
          exact ⟨rfl, rfl⟩
        · go_wp2
          go_ret3
          exact ⟨rfl, rfl⟩
end Go.Proofs.Qxb6605507aDoor
