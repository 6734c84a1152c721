import Derived.Test.Qxb6605523aMeta
import Derived.Test.Qxb6605523aCompare
import Derived.Test.Qxb6605523aEqual
namespace Go.Proofs.Qxb6605523a
open Go Go.RowKit

theorem run_neq_none (w : World) : (binOp .neq 22 (.slice none 0 0) (.slice none 0 0)).run Try.prog w = .ok (.bool false) w := by
  simp only [binOp]
  simp [Op.equal, Op.maxDepth, Lib.run_equalIn_slice_nil w 9999 22 5 none 0 0 0 0 Try.underlying22]

set_option maxHeartbeats 400000 in
theorem zz20_yes (a : Option Addr) (n c : Nat) (w : World) (h : n ≤ 1048576) : Calls Try.prog 20 #[.slice a n c] w fun r w' => r = .returned (.bool true) ∧ w' = w := by
  go_enter Try.func20, Try.ntmps20
  go_wp2
  go_ret
  exact ⟨rfl, rfl⟩

set_option maxHeartbeats 400000 in
theorem zz20_no (a : Option Addr) (n c : Nat) (w : World) (h : 1048576 < n) : Calls Try.prog 20 #[.slice a n c] w fun r w' => r = .returned (.bool false) ∧ w' = w := by
  go_enter Try.func20, Try.ntmps20
  go_wp2
  go_ret
  exact ⟨rfl, rfl⟩

theorem right_one {w : World} {g : Nat} {x : UInt8} {l L : List UInt8} (hb : Bs w (some ⟨g, 0, none⟩) L) (hL : L = x :: l) : Bs w (some ⟨g, 1, none⟩) l := by
  subst hL
  exact Bs.right (l := [x]) hb

set_option maxRecDepth 100000 in
set_option maxHeartbeats 1000000 in
theorem three (a : Option Addr) (n c : Nat) (l : List UInt8) (w : World) (hA : Bs w a l) (hn : n = l.length) (hna : a = none → l = [] ∧ c = 0) :
    Calls Try.prog 7 #[.slice a n c] w fun r w' => r = .returned (.bool true) ∧ Below w.heap.size w w' := by
  have HN : Hid (n = l.length) := hn
  have HA : Hid (a = none → l = [] ∧ c = 0) := hna
  clear hn hna
  by_cases hbig : 1048576 < n
  · go_enter Try.func7, Try.ntmps7
    go_wp2_with (go_at_call 20; refine (zz20_no a n c w hbig).mono ?_; rintro r w' ⟨rfl, rfl⟩)
    go_ret
    exact ⟨rfl, Below.refl _ _⟩
  have hnn : n ≤ 1048576 := by omega
  have hZ := zz20_yes a n c w hnn
  clear hbig
  by_cases h3 : n = 0
  · subst h3
    go_enter Try.func7, Try.ntmps7
    go_wp2_with (go_at_call 20; refine hZ.mono ?_; rintro r w' ⟨rfl, rfl⟩)
    go_ret
    exact ⟨rfl, Below.refl _ _⟩
  have hl : 0 < l.length := by have := HN.out; omega
  have hn0 : 0 < n := by omega
  have hnz : ((n : Int) == 0) = false := beq_eq_false_iff_ne.2 (by omega)
  clear h3
  obtain ⟨ba, oa, rfl, hca⟩ := hA.addr hl
  by_cases h4 : l[0].toNat ≤ 3
  · generalize l[0].toNat = z at hca h4
    go_enter Try.func7, Try.ntmps7
    go_wp2_with (go_at_call 20; refine hZ.mono ?_; rintro r w' ⟨rfl, rfl⟩)
    go_ret
    exact ⟨rfl, Below.refl _ _⟩
  have h43 : 3 < l[0].toNat := by omega
  have H43 : Hid (3 < l[0].toNat) := h43
  have HM : Hid (metaKey l = 3 :: l) := by
    show _ = _
    match l, hl, h43 with
    | x :: t, _, h => exact metaKey_high x t (by have : 3 < x.toNat := h; omega)
  have HM1 : Hid (metaKey (3 :: l) = 2 :: l) := metaKey_three 3 l rfl
  clear h4
  generalize l[0].toNat = z at hca h43
  go_enter Try.func7, Try.ntmps7
  go_wp2_with (go_at_call 20; refine hZ.mono ?_; rintro r w' ⟨rfl, hw⟩; obtain rfl := hw.symm)
  refine (clone_any _ n c l w hA HN.out (fun h => by cases h) (by have := HN.out; omega)).mono ?_
  rintro r w1 ⟨a1, rfl, hA1, hb1, _⟩
  clear hA hca hZ
  go_wp2_with fail
  refine (rm_some a1 n n l w1 hA1 HN.out hl (by have := HN.out; omega) (Nat.le_refl _) (by have := H43.out; omega)).mono ?_
  rw [HM.out]
  rintro r w2 ⟨g2, p2, rfl, hp2, hR2, hb2⟩
  obtain ⟨M2, HM2⟩ : ∃ M2, Hid (M2 = 3 :: l) := ⟨_, rfl⟩
  rw [← HM2.out] at hp2 hR2 ⊢
  have hl2 : M2.length = n + 1 := by rw [HM2.out, List.length_cons, HN.out]
  have he2 := fun w => Lib.run_eql_slice_nil (P := Try.prog) w 22 5 (some ⟨g2, 0, none⟩) M2.length p2 0 0 Try.underlying22
  have HL2 : Hid (M2.length = n + 1) := hl2
  clear hl2
  go_wp2_with fail
  refine (rm_some (some ⟨g2, 0, none⟩) M2.length p2 M2 w2 hR2 rfl (by have := HL2.out; omega) (by have := HL2.out; omega) hp2 (by simp only [HM2.out, List.getElem_cons_zero]; decide)).mono ?_
  rw [show metaKey M2 = 2 :: l by rw [HM2.out]; exact HM1.out]
  rintro r w3 ⟨g1, p1, rfl, hp1, hR1, hb3⟩
  obtain ⟨M1, HM1'⟩ : ∃ M1, Hid (M1 = 2 :: l) := ⟨_, rfl⟩
  rw [← HM1'.out] at hp1 hR1 ⊢
  have HL1 : Hid (M1.length = n + 1) := by show _ = _; rw [HM1'.out, List.length_cons, HN.out]
  have he1 := fun w => Lib.run_eql_slice_nil (P := Try.prog) w 22 5 (some ⟨g1, 0, none⟩) M1.length p1 0 0 Try.underlying22
  go_wp2_with fail
  refine (rm_none (some ⟨g1, 0, none⟩) M1.length p1 M1 w3 hR1 rfl (by have := HL1.out; omega) (by simp only [HM1'.out, List.getElem_cons_zero]; decide)).mono ?_
  rintro r w4 ⟨rfl, hw4⟩
  obtain rfl := hw4.symm
  have hneq := run_neq_none
  have hcell : w3.cell? ⟨g1, 0, none⟩ = some (.int .u8 2) := by
    obtain ⟨b, o, e, h⟩ := hR1.addr (by have := HL1.out; omega)
    cases e
    rw [h]
    simp only [HM1'.out]
    rfl
  have hX0 := hA1.below (below_next hb2 hb3)
  have hX2 := hR2.below hb3
  have hbE := below_next (below_next hb1 hb2) hb3
  clear hb1 hb2 hb3 hA1 hR2
  have hbn : ((M1.length : Int) != (n : Int) + 1) = false := by rw [bne_eq_false_iff_eq]; have := HL1.out; omega
  have hb0 : (0 : Int) < (M1.length : Int) := by have := HL1.out; omega
  have hb1 : (1 : Int) ≤ (M1.length : Int) := by have := HL1.out; omega
  have hb2 : (M1.length : Int) ≤ (p1 : Int) := by omega
  have hb3 : (1 : Int) < (p1 : Int) := by have := HL1.out; omega
  have hb4 : ¬ p1 = 1 := by omega
  go_wp2_with fail
  refine (equal_at l l _ _ (M1.length - 1) n _ _ w3 (right_one hR1 HM1'.out) hX0 (by rw [HL1.out, ← HN.out]; omega) HN.out (by have := HN.out; omega) (by have := HN.out; omega)).mono ?_
  rintro r w5 ⟨rfl, n5, rfl⟩
  rw [beq_self_eq_true]
  go_wp2_with fail
  refine (compare_at M1 M2 _ _ _ _ _ _ (w3.drewN n5) hR1 hX2 rfl rfl (by have := HL1.out; omega) (by have := HL2.out; omega)).mono ?_
  rintro r w6 ⟨rfl, n6, rfl⟩
  rw [show cmp M1 M2 = -1 by rw [HM1'.out, HM2.out]; exact cmp_cons_lt _ _ _ _ (by decide)]
  go_wp2_with fail
  refine (compare_at M2 l _ _ _ _ _ _ (w3.drewN (n5 + n6)) hX2 hX0 rfl HN.out (by have := HL2.out; omega) (by have := HN.out; omega)).mono ?_
  rintro r w7 ⟨rfl, n7, rfl⟩
  rw [show cmp M2 l = -1 by rw [HM2.out, ← HM.out]; exact meta_before l hl (by have := H43.out; omega)]
  go_wp2_with fail
  go_ret
  exact ⟨rfl, below_drewN hbE _⟩
end Go.Proofs.Qxb6605523a
