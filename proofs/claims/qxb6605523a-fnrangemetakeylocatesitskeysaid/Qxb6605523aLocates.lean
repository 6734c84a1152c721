import Derived.Test.Qxb6605523aLocated
import Derived.Test.Qxb6605523aCompare
import Derived.Test.Qxb6605523aEqual
namespace Go.Proofs.Qxb6605523a
open Go Go.RowKit

set_option maxHeartbeats 400000 in
theorem zz16_yes (a : Option Addr) (n c : Nat) (w : World) (h : n ≤ 1048576) : Calls Try.prog 16 #[.slice a n c] w fun r w' => r = .returned (.bool true) ∧ w' = w := by
  go_enter Try.func16, Try.ntmps16
  go_wp2
  go_ret
  exact ⟨rfl, rfl⟩

set_option maxHeartbeats 400000 in
theorem zz16_no (a : Option Addr) (n c : Nat) (w : World) (h : 1048576 < n) : Calls Try.prog 16 #[.slice a n c] w fun r w' => r = .returned (.bool false) ∧ w' = w := by
  go_enter Try.func16, Try.ntmps16
  go_wp2
  go_ret
  exact ⟨rfl, rfl⟩

set_option maxRecDepth 100000 in
set_option maxHeartbeats 1000000 in
theorem locates_empty (a : Option Addr) (c : Nat) (w : World) (hna : a = none → c = 0) :
    Calls Try.prog 5 #[.slice a 0 c] w fun r w' => r = .returned (.bool true) ∧ Below w.heap.size w w' := by
  have HC := clone_any a 0 c [] w (Bs.nil _ _) rfl (fun h => ⟨rfl, hna h⟩) (by simp)
  clear hna
  go_enter Try.func5, Try.ntmps5
  go_wp2_with (go_at_call 16; refine (zz16_yes a 0 c w (by omega)).mono ?_; rintro r w' ⟨rfl, hw⟩; obtain rfl := hw.symm)
  refine HC.mono ?_
  rintro r w1 ⟨a1, rfl, _, hb1, _⟩
  go_wp2_with fail
  refine (rm_empty a1 0 w1).mono ?_
  rintro r w2 ⟨rfl, rfl⟩
  go_wp2_with fail
  go_ret
  exact ⟨rfl, hb1.alloc hb1.size _⟩

set_option maxRecDepth 100000 in
set_option maxHeartbeats 1000000 in
theorem locates_low (a : Option Addr) (n c : Nat) (l : List UInt8) (w : World) (hA : Bs w a l) (hn : n = l.length) (hna : a = none → l = [] ∧ c = 0) (hl : 0 < l.length) (hnn : n ≤ 1048576) (h3 : l[0].toNat < 3) :
    Calls Try.prog 5 #[.slice a n c] w fun r w' => r = .returned (.bool true) ∧ Below w.heap.size w w' := by
  have HN : Hid (n = l.length) := hn
  have HNA : Hid (a = none → l = [] ∧ c = 0) := hna
  have H3 : Hid (l[0].toNat < 3) := h3
  have hn0 : (0 : Int) < (n : Int) := by omega
  have hnz : ((n : Int) == 0) = false := beq_eq_false_iff_ne.2 (by omega)
  have he := fun w => Lib.run_eql_slice_nil (P := Try.prog) w 22 5 none 0 0 0 0 Try.underlying22
  clear hn hna
  go_enter Try.func5, Try.ntmps5
  go_wp2_with (go_at_call 16; refine (zz16_yes a n c w hnn).mono ?_; rintro r w' ⟨rfl, hw⟩; obtain rfl := hw.symm)
  refine (clone_any a n c l w hA HN.out HNA.out (by have := HN.out; omega)).mono ?_
  rintro r w1 ⟨a1, rfl, hA1, hb1, _⟩
  obtain ⟨b1, o1, rfl, hc1⟩ := hA1.addr hl
  go_wp2_with fail
  refine (rm_none _ n n l w1 hA1 HN.out hl H3.out).mono ?_
  rintro r w2 ⟨rfl, hw2⟩
  obtain rfl := hw2.symm
  clear hA1 hA
  generalize l[0].toNat = z at hc1 h3
  go_wp2_with fail
  go_ret
  exact ⟨rfl, hb1⟩

set_option maxRecDepth 100000 in
set_option maxHeartbeats 1000000 in
theorem locates_three (a : Option Addr) (n c : Nat) (l t : List UInt8) (w : World) (hA : Bs w a l) (hn : n = l.length) (hna : a = none → l = [] ∧ c = 0) (hlt : l = 3 :: t) (hnn : n ≤ 1048576) :
    Calls Try.prog 5 #[.slice a n c] w fun r w' => r = .returned (.bool true) ∧ Below w.heap.size w w' := by
  have HN : Hid (n = l.length) := hn
  have HNA : Hid (a = none → l = [] ∧ c = 0) := hna
  have HT : Hid (l = 3 :: t) := hlt
  have hl : 0 < l.length := by rw [hlt]; simp
  have hn0 : (0 : Int) < (n : Int) := by omega
  have hnz : ((n : Int) == 0) = false := beq_eq_false_iff_ne.2 (by omega)
  clear hn hna hlt
  go_enter Try.func5, Try.ntmps5
  go_wp2_with (go_at_call 16; refine (zz16_yes a n c w hnn).mono ?_; rintro r w' ⟨rfl, hw⟩; obtain rfl := hw.symm)
  refine (clone_any a n c l w hA HN.out HNA.out (by have := HN.out; omega)).mono ?_
  rintro r w1 ⟨a1, rfl, hA1, hb1, _⟩
  obtain ⟨b1, o1, rfl, hc1⟩ := hA1.addr hl
  go_wp2_with fail
  refine (rm_some _ n n l w1 hA1 HN.out hl (by have := HN.out; omega) (Nat.le_refl _) (by simp only [HT.out, List.getElem_cons_zero]; decide)).mono ?_
  rw [show metaKey l = 2 :: t by rw [HT.out]; exact metaKey_three 3 t rfl]
  rintro r w2 ⟨g2, p2, rfl, hp2, hR2, hb2⟩
  have hlen2 : (2 :: t).length = n := by rw [HN.out, HT.out]; rfl
  rw [hlen2] at hp2 ⊢
  have hA2 := hA1.below hb2
  have hcell : w2.cell? ⟨b1, o1, none⟩ = some (.int .u8 3) := by
    obtain ⟨b', o', e, h⟩ := hA2.addr hl
    cases e
    rw [h]
    simp only [HT.out, List.getElem_cons_zero]
    rfl
  have hbE := below_next hb1 hb2
  have HL2 : Hid ((2 :: t).length = n) := hlen2
  clear hlen2 hb1 hb2 hA1 hA hc1
  go_wp2_with fail
  refine (loc_two g2 0 n p2 t w2 hR2 (by rw [← HL2.out]; rfl) (by have := HL2.out; simp at this; omega)).mono ?_
  rintro r w3 ⟨rfl, hX3, hb3⟩
  have hXr := hR2.below hb3
  have hXk := hA2.below hb3
  have hbE3 := below_next hbE hb3
  have hcell3 : w3.cell? ⟨b1, o1, none⟩ = some (.int .u8 3) := by
    rw [hb3.cell (p := ⟨b1, o1, none⟩) (World.block_lt_of_cell? w2 _ hcell)]
    exact hcell
  clear hcell hbE hb3 hR2 hA2
  go_wp2_with fail
  refine (equal_at l l _ _ n n n n w3 (by rw [HT.out]; exact hX3) hXk HN.out HN.out (by have := HN.out; omega) (by have := HN.out; omega)).mono ?_
  rintro r w4 ⟨rfl, n4, rfl⟩
  rw [beq_self_eq_true]
  go_wp2_with fail
  refine (compare_at (2 :: t) l _ _ _ _ _ _ (w3.drewN n4) hXr hXk HL2.out.symm HN.out (by have := HL2.out; omega) (by have := HN.out; omega)).mono ?_
  rintro r w5 ⟨rfl, n5, rfl⟩
  rw [show cmp (2 :: t) l = -1 by rw [HT.out]; exact cmp_cons_lt _ _ _ _ (by decide)]
  go_wp2_with fail
  go_ret
  exact ⟨rfl, below_drewN hbE3 _⟩

set_option maxRecDepth 100000 in
set_option maxHeartbeats 1000000 in
theorem locates_high (a : Option Addr) (n c : Nat) (l : List UInt8) (w : World) (hA : Bs w a l) (hn : n = l.length) (hna : a = none → l = [] ∧ c = 0) (hl : 0 < l.length) (hnn : n ≤ 1048576) (h3 : 3 < l[0].toNat) :
    Calls Try.prog 5 #[.slice a n c] w fun r w' => r = .returned (.bool true) ∧ Below w.heap.size w w' := by
  have HN : Hid (n = l.length) := hn
  have HNA : Hid (a = none → l = [] ∧ c = 0) := hna
  have H3 : Hid (3 < l[0].toNat) := h3
  have HM : Hid (metaKey l = 3 :: l) := by
    show _ = _
    match l, hl, h3 with
    | x :: t, _, h => exact metaKey_high x t (by have : 3 < x.toNat := h; omega)
  have hn0 : (0 : Int) < (n : Int) := by omega
  have hnz : ((n : Int) == 0) = false := beq_eq_false_iff_ne.2 (by omega)
  clear hn hna
  go_enter Try.func5, Try.ntmps5
  go_wp2_with (go_at_call 16; refine (zz16_yes a n c w hnn).mono ?_; rintro r w' ⟨rfl, hw⟩; obtain rfl := hw.symm)
  refine (clone_any a n c l w hA HN.out HNA.out (by have := HN.out; omega)).mono ?_
  rintro r w1 ⟨a1, rfl, hA1, hb1, _⟩
  go_wp2_with fail
  refine (rm_some _ n n l w1 hA1 HN.out hl (by have := HN.out; omega) (Nat.le_refl _) (by have := H3.out; omega)).mono ?_
  rw [HM.out]
  rintro r w2 ⟨g2, p2, rfl, hp2, hR2, hb2⟩
  have hlen2 : (3 :: l).length = n + 1 := by rw [HN.out]; rfl
  rw [hlen2] at hp2 ⊢
  have hA2 := hA1.below hb2
  obtain ⟨b1, o1, rfl, hc2⟩ := hA2.addr hl
  have hbE := below_next hb1 hb2
  have HL2 : Hid ((3 :: l).length = n + 1) := hlen2
  clear hlen2 hb1 hb2 hA1 hA
  generalize l[0].toNat = z at hc2 h3
  have hz : ((z : Int) == 3) = false := beq_eq_false_iff_ne.2 (by omega)
  go_wp2_with fail
  refine (loc_three g2 0 (n + 1) p2 l w2 hR2 (by omega) hp2).mono ?_
  rintro r w3 ⟨rfl, hw3⟩
  obtain rfl := hw3.symm
  go_wp2_with fail
  refine (equal_at l l _ _ n n _ _ w2 (Bs.right (l := [3]) hR2) hA2 HN.out HN.out (by have := HN.out; omega) (by have := HN.out; omega)).mono ?_
  rintro r w4 ⟨rfl, n4, rfl⟩
  rw [beq_self_eq_true]
  go_wp2_with fail
  refine (compare_at (3 :: l) l _ _ _ _ _ _ (w2.drewN n4) hR2 hA2 HL2.out.symm HN.out (by have := HL2.out; omega) (by have := HN.out; omega)).mono ?_
  rintro r w5 ⟨rfl, n5, rfl⟩
  rw [show cmp (3 :: l) l = -1 by rw [← HM.out]; exact meta_before l hl (by have := H3.out; omega)]
  go_wp2_with fail
  go_ret
  exact ⟨rfl, below_drewN hbE _⟩

set_option maxRecDepth 100000 in
set_option maxHeartbeats 1000000 in
theorem locates (a : Option Addr) (n c : Nat) (l : List UInt8) (w : World) (hA : Bs w a l) (hn : n = l.length) (hna : a = none → l = [] ∧ c = 0) :
    Calls Try.prog 5 #[.slice a n c] w fun r w' => r = .returned (.bool true) ∧ Below w.heap.size w w' := by
  by_cases hbig : 1048576 < n
  · clear hn hna hA
    go_enter Try.func5, Try.ntmps5
    go_wp2_with (go_at_call 16; refine (zz16_no a n c w hbig).mono ?_; rintro r w' ⟨rfl, rfl⟩)
    go_ret
    exact ⟨rfl, Below.refl _ _⟩
  · match l, hA, hn, hna with
    | [], _, hn, hna =>
      subst hn
      exact locates_empty a c w fun h => (hna h).2
    | x :: t, hA, hn, hna =>
      by_cases h1 : x.toNat < 3
      · exact locates_low a n c (x :: t) w hA hn hna (by simp) (by omega) h1
      · by_cases h2 : x.toNat = 3
        · have hx : x = 3 := UInt8.toNat_inj.1 h2
          subst hx
          exact locates_three a n c (3 :: t) t w hA hn hna rfl (by omega)
        · exact locates_high a n c (x :: t) w hA hn hna (by simp) (by omega) (by show 3 < x.toNat; omega)
end Go.Proofs.Qxb6605523a
