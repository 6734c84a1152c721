import Derived.Test.Qxb6605523aEnd
import Derived.Test.Qxb6605523aCompare
namespace Go.Proofs.Qxb6605523a
open Go Go.RowKit

theorem prefix_short {p k : List UInt8} (h : k.length < p.length) : p.isPrefixOf k = false := by
  rw [Bool.eq_false_iff]
  intro e
  rw [List.isPrefixOf_iff_prefix] at e
  have := e.length_le
  omega

theorem prefix_take {p k : List UInt8} (h : p.length ≤ k.length) : (k.take p.length == p) = p.isPrefixOf k := by
  rw [Bool.eq_iff_iff, beq_iff_eq, List.isPrefixOf_iff_prefix]
  constructor
  · intro e
    rw [← e]
    exact List.take_prefix _ _
  · rintro ⟨t, rfl⟩
    exact List.take_left

set_option maxHeartbeats 1000000 in
theorem hasPrefix (a b : Option Addr) (n c m d : Nat) (lk lp : List UInt8) (w : World) (hK : Bs w a lk) (hP : Bs w b lp) (hn : n = lk.length) (hm : m = lp.length) (hc : n ≤ c) (hp : 0 < lp.length) (hlk : lk.length ≤ 1000000000) (hlp : lp.length ≤ 1000000000) :
    Calls Try.prog 23 #[.slice a n c, .slice b m d] w fun r w' => r = .returned (.bool (lp.isPrefixOf lk)) ∧ ∃ j, w' = w.drewN j := by
  have HN : Hid (n = lk.length) := hn
  have HM : Hid (m = lp.length) := hm
  by_cases hs : n < m
  · have HF : Hid (lp.isPrefixOf lk = false) := prefix_short (by omega)
    clear hn hm hK hP
    go_enter Try.func23, Try.ntmps23
    go_wp2
    go_ret
    exact ⟨ret_bool HF.out.symm, 0, rfl⟩
  · obtain ⟨b1, o1, rfl, hcc⟩ := hK.addr (by omega)
    have hE := equal_at (lk.take m) lp (some ⟨b1, o1, none⟩) b m m c d w (Bs.left (m := lk.drop m) (by rw [List.take_append_drop]; exact hK)) hP (by rw [List.length_take]; omega) HM.out (by rw [List.length_take]; omega) hlp
    rw [HM.out, prefix_take (by omega), ← HM.out] at hE
    have h1 : (m : Int) ≤ (n : Int) := by omega
    have h2 : (m : Int) ≤ (c : Int) := by omega
    have h3 : decide (m ≤ n) = true := by simp; omega
    clear hcc hn hm hK hP
    go_enter Try.func23, Try.ntmps23
    go_wp2_with (go_at_call 12; refine hE.mono ?_; rintro r w' ⟨rfl, j, rfl⟩)
    go_ret
    exact ⟨rfl, j, rfl⟩

set_option maxHeartbeats 400000 in
theorem zz21_yes (a b : Option Addr) (n c m d : Nat) (w : World) (h : n + m ≤ 1048576) : Calls Try.prog 21 #[.slice a n c, .slice b m d] w fun r w' => r = .returned (.bool true) ∧ w' = w := by
  go_enter Try.func21, Try.ntmps21
  go_wp2
  go_ret
  exact ⟨rfl, rfl⟩

set_option maxHeartbeats 400000 in
theorem zz21_no (a b : Option Addr) (n c m d : Nat) (w : World) (h : 1048576 < n + m) : Calls Try.prog 21 #[.slice a n c, .slice b m d] w fun r w' => r = .returned (.bool false) ∧ w' = w := by
  by_cases h1 : 1048576 < n
  · go_enter Try.func21, Try.ntmps21
    go_wp2
    go_ret
    exact ⟨rfl, rfl⟩
  · by_cases h2 : 1048576 < m
    · go_enter Try.func21, Try.ntmps21
      go_wp2
      go_ret
      exact ⟨rfl, rfl⟩
    · have h3 : (1048576 : Int) < (n : Int) + (m : Int) := by omega
      go_enter Try.func21, Try.ntmps21
      go_wp2
      go_ret
      exact ⟨rfl, rfl⟩

set_option maxRecDepth 100000 in
set_option maxHeartbeats 2000000 in
/-- The law where every byte of the head is 0xff. -/
theorem splits_ff (a b : Option Addr) (n c m d : Nat) (la lb : List UInt8) (w : World) (hA : Bs w a la) (hB : Bs w b lb) (hn : n = la.length) (hm : m = lb.length) (hna : a = none → la = [] ∧ c = 0) (hnb : b = none → lb = [] ∧ d = 0) (hsum : n + m ≤ 1048576) (hn1 : n ≤ 524288) (hm1 : m ≤ 524288) (hff : ffB la = true) :
    Calls Try.prog 8 #[.slice a n c, .slice b m d] w fun r w' => r = .returned (.bool true) ∧ Below w.heap.size w w' := by
  have HN : Hid (n = la.length) := hn
  have HM : Hid (m = lb.length) := hm
  have HNA : Hid (a = none → la = [] ∧ c = 0) := hna
  have HNB : Hid (b = none → lb = [] ∧ d = 0) := hnb
  have HF : Hid (ffB la = true) := hff
  have hZ := zz21_yes a b n c m d w hsum
  have he := fun w => Lib.run_eql_slice_nil (P := Try.prog) w 22 5 none 0 0 0 0 Try.underlying22
  clear hn hm hna hnb hsum hff
  go_enter Try.func8, Try.ntmps8
  go_wp2_with (go_at_call 21; refine hZ.mono ?_; rintro r w' ⟨rfl, hw⟩; obtain rfl := hw.symm)
  refine (clone_any a n c la w hA HN.out HNA.out (by have := HN.out; omega)).mono ?_
  rintro r w1 ⟨a1, rfl, hA1, hb1, _⟩
  go_wp2_with fail
  refine (clone_any b m d lb w1 (hB.below hb1) HM.out HNB.out (by have := HM.out; omega)).mono ?_
  rintro r w2 ⟨a2, rfl, hB2, hb2, _⟩
  have hA2 := hA1.below hb2
  have hb2a := below_next hb1 hb2
  clear hA hB hA1 hb1 hb2 hZ hB2
  have hP : Calls Try.prog 22 #[.slice a1 n n] w2 fun r w' => r = .returned (.slice none 0 0) ∧ Below w2.heap.size w2 w' := by
    by_cases h0 : la.length = 0
    · have e : n = 0 := by have := HN.out; omega
      subst e
      refine (end_empty a1 0 w2).mono ?_
      rintro r w' ⟨rfl, rfl⟩
      exact ⟨rfl, Below.refl _ _⟩
    · exact end_ff a1 n n la w2 hA2 HN.out (by omega) (by have := HN.out; omega) HF.out
  go_wp2_with fail
  refine hP.mono ?_
  rintro r w3 ⟨rfl, hb3⟩
  have hA3 := hA2.below hb3
  have hb3a := below_next hb2a hb3
  clear hP hA2 hb3 hb2a
  go_wp2_with fail
  go_loop [6, 7] (fun f i => ∃ k : Nat, k ≤ n ∧ i = .int .i64 k ∧ f = .bool true) (fun _ i => n - (intOf i).toNat)
  case atStart => exact ⟨0, Nat.zero_le _, rfl, rfl⟩
  case round =>
    obtain ⟨k, hk, rfl, rfl⟩ := hrel
    by_cases hlt : k < n
    · have hkl : k < la.length := by have := HN.out; omega
      rcases hA3 with h | ⟨b1, o1, rfl, hc⟩
      · subst h; simp at hkl
      have hx := hc k hkl
      rw [ffB_at HF.out k hkl] at hx
      have hx' : w3.cell? ⟨b1, o1 + k, none⟩ = some (.int .u8 255) := hx
      clear hx hc
      have hi1 : (k : Int) < (n : Int) := by omega
      go_wp2
      go_round
      case rel => exact ⟨k + 1, by omega, by go_num, rfl⟩
      case measure => simp [intOf]; omega
    · go_wp2
      go_ret
      exact ⟨rfl, hb3a⟩

theorem ret_eq {a b : Bool} (h : a = b) : Ending.returned (.bool (a == b)) = .returned (.bool true) := by rw [h, beq_self_eq_true]

set_option maxRecDepth 100000 in
set_option maxHeartbeats 2000000 in
/-- The law where the head has a byte below 0xff. -/
theorem splits_some (a b : Option Addr) (n c m d : Nat) (la lb q r : List UInt8) (x : UInt8) (w : World) (hA : Bs w a la) (hB : Bs w b lb) (hn : n = la.length) (hm : m = lb.length) (hna : a = none → la = [] ∧ c = 0) (hnb : b = none → lb = [] ∧ d = 0) (hsum : n + m ≤ 1048576) (hn1 : n ≤ 524288) (hm1 : m ≤ 524288)
    (hlq : la = q ++ x :: r) (hx : x ≠ 255) (hr : ffB r = true) :
    Calls Try.prog 8 #[.slice a n c, .slice b m d] w fun r w' => r = .returned (.bool true) ∧ Below w.heap.size w w' := by
  have HN : Hid (n = la.length) := hn
  have HM : Hid (m = lb.length) := hm
  have HNA : Hid (a = none → la = [] ∧ c = 0) := hna
  have HNB : Hid (b = none → lb = [] ∧ d = 0) := hnb
  have HQ : Hid (la = q ++ x :: r) := hlq
  have HX : Hid (x ≠ 255) := hx
  have HR : Hid (ffB r = true) := hr
  have HF : Hid (ffB la = false) := by show _ = _; rw [hlq]; exact ffB_false hx
  have hla : 0 < la.length := by rw [hlq, List.length_append, List.length_cons]; omega
  have HLE : Hid (q.length + 1 ≤ la.length) := by show _ ≤ _; rw [hlq, List.length_append, List.length_cons]; omega
  have HL : Hid ((la.isPrefixOf lb || isNeg (cmp lb la)) = isNeg (cmp lb (q ++ [x + 1]))) := by show _ = _; rw [hlq]; exact end_splits q x r lb hx hr
  have hZ := zz21_yes a b n c m d w hsum
  clear hn hm hna hnb hsum hlq hx hr
  go_enter Try.func8, Try.ntmps8
  go_wp2_with (go_at_call 21; refine hZ.mono ?_; rintro r w' ⟨rfl, hw⟩; obtain rfl := hw.symm)
  refine (clone_any a n c la w hA HN.out HNA.out (by have := HN.out; omega)).mono ?_
  rintro rr w1 ⟨a1, rfl, hA1, hb1, _⟩
  go_wp2_with fail
  refine (clone_any b m d lb w1 (hB.below hb1) HM.out HNB.out (by have := HM.out; omega)).mono ?_
  rintro rr w2 ⟨a2, rfl, hB2, hb2, _⟩
  have hA2 := hA1.below hb2
  have hb2a := below_next hb1 hb2
  clear hA hB hA1 hb1 hb2 hZ
  go_wp2_with fail
  refine (end_some a1 n n la q r x w2 hA2 HN.out (by have := HN.out; omega) HQ.out HX.out HR.out).mono ?_
  rintro rr w3 ⟨g, cap, rfl, hE3, hb3⟩
  have hA3 := hA2.below hb3
  have hB3 := hB2.below hb3
  have hb3a := below_next hb2a hb3
  have he := fun w => Lib.run_eql_slice_nil (P := Try.prog) w 22 5 (some ⟨g, 0, none⟩) (q.length + 1) cap 0 0 Try.underlying22
  clear hA2 hb3 hb2a hB2
  go_wp2_with fail
  go_loop [6, 7] (fun f i => ∃ k : Nat, k ≤ n ∧ i = .int .i64 k ∧ f = .bool (ffB (la.take k))) (fun _ i => n - (intOf i).toNat)
  case atStart => exact ⟨0, Nat.zero_le _, rfl, rfl⟩
  case round =>
    obtain ⟨k, hk, rfl, rfl⟩ := hrel
    by_cases hlt : k < n
    · have hkl : k < la.length := by have := HN.out; omega
      rcases hA3 with h | ⟨b1, o1, rfl, hc⟩
      · subst h; simp at hkl
      have hxk := hc k hkl
      have HS : Hid (ffB (la.take (k + 1)) = (ffB (la.take k) && (la[k] == 255))) := ffB_take_succ la k hkl
      have hi1 : (k : Int) < (n : Int) := by omega
      clear hc
      generalize la[k] = y at hxk HS
      generalize ffB (la.take k) = f at HS
      by_cases hy : y = 255
      · subst hy
        have hxk' : w3.cell? ⟨b1, o1 + k, none⟩ = some (.int .u8 255) := hxk
        clear hxk
        go_wp2
        go_round
        case rel =>
          refine ⟨k + 1, by omega, by go_num, ?_⟩
          rw [HS.out]
          simp
        case measure => simp [intOf]; omega
      · have hne : ((y.toNat : Int) != 255) = true := by
          rw [bne_iff_ne]
          intro e
          exact hy (UInt8.toNat_inj.1 (by show y.toNat = 255; omega))
        have HY : Hid ((y == 255) = false) := beq_eq_false_iff_ne.2 hy
        go_wp2
        go_round
        case rel =>
          refine ⟨k + 1, by omega, by go_num, ?_⟩
          rw [HS.out, HY.out]
          simp
        case measure => simp [intOf]; omega
    · rw [show ffB (la.take k) = false by rw [List.take_of_length_le (by have := HN.out; omega)]; exact HF.out]
      have hEl : (q ++ [x + 1]).length ≤ 1000000000 := by
        have := HN.out
        have := HLE.out
        rw [List.length_append, List.length_cons, List.length_nil]
        omega
      have HEn : Hid (q.length + 1 = (q ++ [x + 1]).length) := by show _ = _; simp
      go_wp2_with fail
      refine (hasPrefix a2 a1 m m n n lb la w3 hB3 hA3 HM.out HN.out (Nat.le_refl _) hla (by have := HM.out; omega) (by have := HN.out; omega)).mono ?_
      rintro rr w4 ⟨rfl, n4, rfl⟩
      by_cases hp : la.isPrefixOf lb = true
      · have hv : isNeg (cmp lb (q ++ [x + 1])) = true := by rw [← HL.out, hp]; rfl
        rw [hp]
        clear hp
        go_wp2_with fail
        refine (compare_at lb (q ++ [x + 1]) _ _ _ _ _ _ (w3.drewN n4) hB3 hE3 HM.out HEn.out (by have := HM.out; omega) hEl).mono ?_
        rintro rr w5 ⟨rfl, n5, rfl⟩
        generalize cmp lb (q ++ [x + 1]) = v at hv
        have hv' : v < 0 := of_decide_eq_true hv
        clear hv
        go_wp2_with fail
        go_ret
        exact ⟨rfl, below_drewN hb3a _⟩
      · have hpf : la.isPrefixOf lb = false := Bool.eq_false_iff.2 hp
        have hv : isNeg (cmp lb la) = isNeg (cmp lb (q ++ [x + 1])) := by rw [← HL.out, hpf]; rfl
        have HV : Hid (isNeg (cmp lb la) = isNeg (cmp lb (q ++ [x + 1]))) := hv
        rw [hpf]
        clear hp hpf hv
        go_wp2_with fail
        refine (compare_at lb la _ _ _ _ _ _ (w3.drewN n4) hB3 hA3 HM.out HN.out (by have := HM.out; omega) (by have := HN.out; omega)).mono ?_
        rintro rr w5 ⟨rfl, n5, rfl⟩
        generalize cmp lb la = u at HV
        go_wp2_with fail
        refine (compare_at lb (q ++ [x + 1]) _ _ _ _ _ _ (w3.drewN (n4 + n5)) hB3 hE3 HM.out HEn.out (by have := HM.out; omega) hEl).mono ?_
        rintro rr w6 ⟨rfl, n6, rfl⟩
        generalize cmp lb (q ++ [x + 1]) = v at HV
        go_wp2_with fail
        go_ret
        exact ⟨ret_eq HV.out, below_drewN hb3a _⟩

set_option maxRecDepth 100000 in
set_option maxHeartbeats 1000000 in
theorem splits (a b : Option Addr) (n c m d : Nat) (la lb : List UInt8) (w : World) (hA : Bs w a la) (hB : Bs w b lb) (hn : n = la.length) (hm : m = lb.length) (hna : a = none → la = [] ∧ c = 0) (hnb : b = none → lb = [] ∧ d = 0) :
    Calls Try.prog 8 #[.slice a n c, .slice b m d] w fun r w' => r = .returned (.bool true) ∧ Below w.heap.size w w' := by
  by_cases hbig : 1048576 < n + m
  · clear hn hm hna hnb hA hB
    go_enter Try.func8, Try.ntmps8
    go_wp2_with (go_at_call 21; refine (zz21_no a b n c m d w hbig).mono ?_; rintro r w' ⟨rfl, rfl⟩)
    go_ret
    exact ⟨rfl, Below.refl _ _⟩
  have hsum : n + m ≤ 1048576 := by omega
  by_cases h1 : 524288 < n
  · have hZ := zz21_yes a b n c m d w hsum
    clear hn hm hna hnb hA hB hbig
    go_enter Try.func8, Try.ntmps8
    go_wp2_with (go_at_call 21; refine hZ.mono ?_; rintro r w' ⟨rfl, rfl⟩)
    go_ret
    exact ⟨rfl, Below.refl _ _⟩
  by_cases h2 : 524288 < m
  · have hZ := zz21_yes a b n c m d w hsum
    clear hn hm hna hnb hA hB hbig
    have hn1 : n ≤ 524288 := by omega
    clear h1
    go_enter Try.func8, Try.ntmps8
    go_wp2_with (go_at_call 21; refine hZ.mono ?_; rintro r w' ⟨rfl, rfl⟩)
    go_ret
    exact ⟨rfl, Below.refl _ _⟩
  rcases ff_or la with hff | ⟨q, x, r, hq, hx, hr⟩
  · exact splits_ff a b n c m d la lb w hA hB hn hm hna hnb hsum (by omega) (by omega) hff
  · exact splits_some a b n c m d la lb q r x w hA hB hn hm hna hnb hsum (by omega) (by omega) hq hx hr
end Go.Proofs.Qxb6605523a
