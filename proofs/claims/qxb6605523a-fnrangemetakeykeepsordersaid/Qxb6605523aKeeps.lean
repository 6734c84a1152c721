import Derived.Test.Qxb6605523aMeta
import Derived.Test.Qxb6605523aCompare
namespace Go.Proofs.Qxb6605523a
open Go Go.RowKit

set_option maxHeartbeats 400000 in
theorem zz19_yes (a b : Option Addr) (n c m d : Nat) (w : World) (h : n + m ≤ 1048576) : Calls Try.prog 19 #[.slice a n c, .slice b m d] w fun r w' => r = .returned (.bool true) ∧ w' = w := by
  go_enter Try.func19, Try.ntmps19
  go_wp2
  go_ret
  exact ⟨rfl, rfl⟩

set_option maxHeartbeats 400000 in
theorem zz19_no (a b : Option Addr) (n c m d : Nat) (w : World) (h : 1048576 < n + m) : Calls Try.prog 19 #[.slice a n c, .slice b m d] w fun r w' => r = .returned (.bool false) ∧ w' = w := by
  by_cases h1 : 1048576 < n
  · go_enter Try.func19, Try.ntmps19
    go_wp2
    go_ret
    exact ⟨rfl, rfl⟩
  · by_cases h2 : 1048576 < m
    · go_enter Try.func19, Try.ntmps19
      go_wp2
      go_ret
      exact ⟨rfl, rfl⟩
    · have h3 : (1048576 : Int) < (n : Int) + (m : Int) := by omega
      go_enter Try.func19, Try.ntmps19
      go_wp2
      go_ret
      exact ⟨rfl, rfl⟩

set_option maxRecDepth 100000 in
set_option maxHeartbeats 1000000 in
theorem keeps (a b : Option Addr) (n c m d : Nat) (la lb : List UInt8) (w : World) (hA : Bs w a la) (hB : Bs w b lb) (hn : n = la.length) (hm : m = lb.length) (hna : a = none → la = [] ∧ c = 0) (hnb : b = none → lb = [] ∧ d = 0) :
    Calls Try.prog 6 #[.slice a n c, .slice b m d] w fun r w' => r = .returned (.bool true) ∧ Below w.heap.size w w' := by
  have HN : Hid (n = la.length) := hn
  have HM : Hid (m = lb.length) := hm
  have HA : Hid (a = none → la = [] ∧ c = 0) := hna
  have HB : Hid (b = none → lb = [] ∧ d = 0) := hnb
  clear hn hm hna hnb
  by_cases hbig : 1048576 < n + m
  · go_enter Try.func6, Try.ntmps6
    go_wp2_with (go_at_call 19; refine (zz19_no a b n c m d w hbig).mono ?_; rintro r w' ⟨rfl, rfl⟩)
    go_ret
    exact ⟨rfl, Below.refl _ _⟩
  have hsum : n + m ≤ 1048576 := by omega
  have hZ := zz19_yes a b n c m d w hsum
  have hnn : n ≤ 1048576 := by omega
  have hmm : m ≤ 1048576 := by omega
  clear hbig hsum
  by_cases h1 : 524288 < n
  · go_enter Try.func6, Try.ntmps6
    go_wp2_with (go_at_call 19; refine hZ.mono ?_; rintro r w' ⟨rfl, rfl⟩)
    go_ret
    exact ⟨rfl, Below.refl _ _⟩
  have hn1 : n ≤ 524288 := by omega
  clear h1
  by_cases h2 : 524288 < m
  · go_enter Try.func6, Try.ntmps6
    go_wp2_with (go_at_call 19; refine hZ.mono ?_; rintro r w' ⟨rfl, rfl⟩)
    go_ret
    exact ⟨rfl, Below.refl _ _⟩
  have hm1 : m ≤ 524288 := by omega
  clear h2
  by_cases h3 : n = 0
  · subst h3
    go_enter Try.func6, Try.ntmps6
    go_wp2_with (go_at_call 19; refine hZ.mono ?_; rintro r w' ⟨rfl, rfl⟩)
    go_ret
    exact ⟨rfl, Below.refl _ _⟩
  have hla : 0 < la.length := by have := HN.out; omega
  have hn0 : 0 < n := by omega
  have hnz : ((n : Int) == 0) = false := beq_eq_false_iff_ne.2 (by omega)
  clear h3
  obtain ⟨ba, oa, rfl, hca⟩ := hA.addr hla
  by_cases h4 : la[0].toNat < 3
  · generalize la[0].toNat = z at hca h4
    go_enter Try.func6, Try.ntmps6
    go_wp2_with (go_at_call 19; refine hZ.mono ?_; rintro r w' ⟨rfl, rfl⟩)
    go_ret
    exact ⟨rfl, Below.refl _ _⟩
  have h43 : 3 ≤ la[0].toNat := by omega
  have H43 : Hid (3 ≤ la[0].toNat) := h43
  clear h4
  generalize la[0].toNat = z at hca h43
  by_cases h5 : m = 0
  · subst h5
    go_enter Try.func6, Try.ntmps6
    go_wp2_with (go_at_call 19; refine hZ.mono ?_; rintro r w' ⟨rfl, rfl⟩)
    go_ret
    exact ⟨rfl, Below.refl _ _⟩
  have hlb : 0 < lb.length := by have := HM.out; omega
  have hm0 : 0 < m := by omega
  have hmz : ((m : Int) == 0) = false := beq_eq_false_iff_ne.2 (by omega)
  clear h5
  obtain ⟨bb, ob, rfl, hcb⟩ := hB.addr hlb
  by_cases h6 : lb[0].toNat < 3
  · generalize lb[0].toNat = y at hcb h6
    go_enter Try.func6, Try.ntmps6
    go_wp2_with (go_at_call 19; refine hZ.mono ?_; rintro r w' ⟨rfl, rfl⟩)
    go_ret
    exact ⟨rfl, Below.refl _ _⟩
  have h63 : 3 ≤ lb[0].toNat := by omega
  have H63 : Hid (3 ≤ lb[0].toNat) := h63
  clear h6
  generalize lb[0].toNat = y at hcb h63
  go_enter Try.func6, Try.ntmps6
  go_wp2_with (go_at_call 19; refine hZ.mono ?_; rintro r w' ⟨rfl, hw⟩; obtain rfl := hw.symm)
  refine (clone_any _ n c la w hA HN.out (fun h => by cases h) (by have := HN.out; omega)).mono ?_
  rintro r w1 ⟨a1, rfl, hA1, hb1, _⟩
  go_wp2_with fail
  refine (clone_any _ m d lb w1 (hB.below hb1) HM.out (fun h => by cases h) (by have := HM.out; omega)).mono ?_
  rintro r w2 ⟨a2, rfl, hB2, hb2, _⟩
  have hA2 := hA1.below hb2
  have hb2a := below_next hb1 hb2
  clear hA hB hca hcb hA1 hb1 hb2 hZ
  go_wp2_with fail
  refine (rm_some a1 n n la w2 hA2 HN.out hla (by have := HN.out; omega) (Nat.le_refl _) H43.out).mono ?_
  rintro r w3 ⟨g1, p1, rfl, hp1, hR1, hb3⟩
  have he1 := fun w => Lib.run_eql_slice_nil (P := Try.prog) w 22 5 (some ⟨g1, 0, none⟩) (metaKey la).length p1 0 0 Try.underlying22
  go_wp2_with fail
  refine (rm_some a2 m m lb w3 (hB2.below hb3) HM.out hlb (by have := HM.out; omega) (Nat.le_refl _) H63.out).mono ?_
  rintro r w4 ⟨g2, p2, rfl, hp2, hR2, hb4⟩
  have he2 := fun w => Lib.run_eql_slice_nil (P := Try.prog) w 22 5 (some ⟨g2, 0, none⟩) (metaKey lb).length p2 0 0 Try.underlying22
  have hb34 := below_next hb3 hb4
  have hX1 := hR1.below hb4
  have hX3 := hA2.below hb34
  have hX4 := hB2.below hb34
  have hb4a := below_next hb2a hb34
  clear hb3 hb4 hb34 hR1 hA2 hB2 hb2a
  have hl1 := metaKey_len la
  have hl2 := metaKey_len lb
  go_wp2_with fail
  refine (compare_at (metaKey la) (metaKey lb) _ _ _ _ _ _ w4 hX1 hR2 rfl rfl (by have := HN.out; omega) (by have := HM.out; omega)).mono ?_
  rintro r w5 ⟨rfl, n5, rfl⟩
  go_wp2_with fail
  refine (compare_at la lb _ _ _ _ _ _ (w4.drewN n5) hX3 hX4 HN.out HM.out (by have := HN.out; omega) (by have := HM.out; omega)).mono ?_
  rintro r w6 ⟨rfl, n6, rfl⟩
  rw [meta_order la lb hla hlb H43.out H63.out]
  go_wp2_with fail
  refine (compare_at (metaKey la) la _ _ _ _ _ _ (w4.drewN (n5 + n6)) hX1 hX3 rfl HN.out (by have := HN.out; omega) (by have := HN.out; omega)).mono ?_
  rintro r w7 ⟨rfl, n7, rfl⟩
  rw [meta_before la hla H43.out]
  go_wp2_with fail
  refine (compare_at (metaKey lb) lb _ _ _ _ _ _ (w4.drewN (n5 + n6 + n7)) hR2 hX4 rfl HM.out (by have := HM.out; omega) (by have := HM.out; omega)).mono ?_
  rintro r w8 ⟨rfl, n8, rfl⟩
  rw [meta_before lb hlb H63.out]
  go_wp2_with fail
  go_ret
  exact ⟨rfl, below_drewN hb4a _⟩
end Go.Proofs.Qxb6605523a
