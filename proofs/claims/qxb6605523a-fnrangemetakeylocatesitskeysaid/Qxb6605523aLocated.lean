import Derived.Test.Qxb6605523aMeta
namespace Go.Proofs.Qxb6605523a
open Go Go.RowKit

set_option maxRecDepth 100000 in
set_option maxHeartbeats 1000000 in
/-- keysB1LocatedBy at a record of the first level. -/
theorem loc_two (b off n c : Nat) (t : List UInt8) (w : World) (hB : Bs w (some ⟨b, off, none⟩) (2 :: t)) (hn : n = t.length + 1) (hlen : t.length ≤ 1000000000) :
    Calls Try.prog 18 #[.slice (some ⟨b, off, none⟩) n c] w fun r w' => r = .returned (.tuple #[.slice (some ⟨w.heap.size, 0, none⟩) n n, .int .u8 2, .bool true]) ∧ Bs w' (some ⟨w.heap.size, 0, none⟩) (3 :: t) ∧ Below w.heap.size w w' := by
  obtain ⟨i0, hi, hz0, hz1, hz2⟩ := info_parts info5
  have hc0 : w.cell? ⟨b, off, none⟩ = some (.int .u8 2) := by
    obtain ⟨b', o', e, h⟩ := hB.addr (by simp)
    cases e
    rw [h]
    rfl
  have HN : Hid (n = (3 :: t).length) := by show _ = _; rw [hn, List.length_cons]
  have hn0 : (0 : Int) < (n : Int) := by omega
  have hnb : n ≤ 1000000001 := by omega
  have hnz : ((n : Int) == 0) = false := beq_eq_false_iff_ne.2 (by omega)
  clear hn hlen
  go_enter Try.func18, Try.ntmps18
  go_wp2_with (at_make; (refine wpList_make_full _ rfl (.tmp 15) (.tmp 15) 22 rfl w.heap.size 5 i0 (.int .u8 0) 1 Try.underlying22 hi hz0 hz1 .i64 .i64 n n n rfl rfl rfl rfl (by rw [hz2]; omega) (by unfold maxLen; omega) (Nat.le_refl _) ?_); intro w1 hown1 hgrow1; have hF0 : Filled w w1 w.heap.size n 0 (3 :: t) := ⟨_, hown1, fun i _ h => absurd h (by omega), (Below.refl w.heap.size w).grown hgrow1 (Nat.le_refl _) (fun k hk => by cases hk)⟩; obtain ⟨⟨u0, hu0⟩, hfz0, hF1⟩ := hF0.step (by simp) HN.out (Nat.le_refl _); clear hown1 hgrow1 hF0)
  go_loopw [6] (fun i wr => ∃ k : Nat, 1 ≤ k ∧ k ≤ n ∧ i = .int .i64 k ∧ Filled w wr w.heap.size n k (3 :: t)) (fun i _ => n - (intOf i).toNat)
  case atStart => exact ⟨1, Nat.le_refl _, by omega, rfl, hF1⟩
  case round =>
    obtain ⟨k, hk1, hk, rfl, hF⟩ := hrel
    clear hF1 hu0 hfz0
    by_cases hlt : k < n
    · have hbel : Below w.heap.size w wr := by obtain ⟨_, _, _, h⟩ := hF; exact h
      have hkl : k < (3 :: t).length := by have := HN.out; omega
      have hx : wr.cell? ⟨b, off + k, none⟩ = some (.int .u8 ((3 :: t)[k].toNat : Int)) := by
        have hB2 := hB.below hbel
        rcases hB2 with h | ⟨b', off', he, hc⟩
        · cases h
        cases he
        have h1 := hc k hkl
        rw [h1]
        obtain ⟨k', rfl⟩ : ∃ k', k = k' + 1 := ⟨k - 1, by omega⟩
        rfl
      obtain ⟨⟨u, hu⟩, hfz, hF2⟩ := hF.step hkl HN.out (Nat.le_refl _)
      generalize (3 :: t)[k] = y at hx hF2
      clear hF hbel hB
      have hi1 : (k : Int) < (n : Int) := by omega
      go_wp2
      go_roundw
      case rel => exact ⟨k + 1, by omega, by omega, by go_num, hF2⟩
      case measure => simp [intOf]; omega
    · have hD : Filled w wr w.heap.size n (3 :: t).length (3 :: t) := by rw [← HN.out, show n = k from by omega]; exact (show n = k from by omega) ▸ hF
      have hD2 := hD.done HN.out
      clear hF hD
      go_wp2
      go_ret3
      exact ⟨rfl, hD2.1, hD2.2⟩

set_option maxRecDepth 100000 in
set_option maxHeartbeats 1000000 in
/-- keysB1LocatedBy at a record of the second level. -/
theorem loc_three (b off n c : Nat) (t : List UInt8) (w : World) (hB : Bs w (some ⟨b, off, none⟩) (3 :: t)) (hn : 2 ≤ n) (hc : n ≤ c) :
    Calls Try.prog 18 #[.slice (some ⟨b, off, none⟩) n c] w fun r w' => r = .returned (.tuple #[.slice (some ⟨b, off + 1, none⟩) (n - 1) (c - 1), .int .u8 3, .bool true]) ∧ w' = w := by
  have hc0 : w.cell? ⟨b, off, none⟩ = some (.int .u8 3) := by
    obtain ⟨b', o', e, h⟩ := hB.addr (by simp)
    cases e
    rw [h]
    rfl
  have hn0 : (0 : Int) < (n : Int) := by omega
  have hnz : ((n : Int) == 0) = false := beq_eq_false_iff_ne.2 (by omega)
  have h1 : (1 : Int) ≤ (n : Int) := by omega
  have h2 : (n : Int) ≤ (c : Int) := by omega
  have h3 : ¬ c = 1 := by omega
  clear hB
  go_enter Try.func18, Try.ntmps18
  go_wp2
  go_ret3
  exact ⟨rfl, rfl⟩
end Go.Proofs.Qxb6605523a
