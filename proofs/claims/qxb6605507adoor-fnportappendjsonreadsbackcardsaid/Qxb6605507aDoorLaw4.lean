import Derived.Test.Qxb6605507aDoorLaw5
import Derived.Test.Qxb6605507aDoorReadJson
namespace Go.Proofs.Qxb6605507aDoor
open Go Go.RowKit

set_option maxHeartbeats 400000 in
theorem zz17_yes (n : Int) (e : Bool) (a : Option Addr) (k c : Nat) (w : World) (hk : k ≤ 1048576) : Calls Tryd.prog 17 #[.int .i64 n, .bool e, .slice a k c] w fun r w' => r = .returned (.bool true) ∧ w' = w := by
  go_enter Tryd.func17, Tryd.ntmps17
  go_wp2
  go_ret
  exact ⟨rfl, rfl⟩

set_option maxHeartbeats 400000 in
theorem zz17_no (n : Int) (e : Bool) (a : Option Addr) (k c : Nat) (w : World) (hk : 1048576 < k) : Calls Tryd.prog 17 #[.int .i64 n, .bool e, .slice a k c] w fun r w' => r = .returned (.bool false) ∧ w' = w := by
  go_enter Tryd.func17, Tryd.ntmps17
  go_wp2
  go_ret
  exact ⟨rfl, rfl⟩

set_option maxRecDepth 100000 in
set_option maxHeartbeats 1000000 in
theorem law4 (n : Int) (e : Bool) (ao : Option Addr) (k c : Nat) (l : List UInt8) (w : World) (h0 : -9223372036854775808 ≤ n) (h1 : n ≤ 9223372036854775807) (hB : Bs w ao l) (hk : k = l.length) (hnil : ao = none → l = [] ∧ c = 0)
    (htab : Lib.TabBelow Tryd.prog w.heap.size w powName .u64 Lib.pow10Tab) :
    Calls Tryd.prog 4 #[.int .i64 n, .bool e, .slice ao k c] w fun r w' => r = .returned (.bool true) ∧ Below w.heap.size w w' := by
  have HK : Hid (k = l.length) := hk
  have HN : Hid (ao = none → l = [] ∧ c = 0) := hnil
  clear hk hnil
  by_cases hbig : 1048576 < k
  · go_enter Tryd.func4, Tryd.ntmps4
    go_wp2_with (go_at_call 17; refine (zz17_no n e ao k c w hbig).mono ?_; rintro r w' ⟨rfl, rfl⟩)
    go_ret
    exact ⟨rfl, Below.refl _ _⟩
  · have hkb : k ≤ 1048576 := by omega
    clear hbig
    go_enter Tryd.func4, Tryd.ntmps4
    go_wp2_with (go_at_call 17; refine (zz17_yes n e ao k c w hkb).mono ?_; rintro r w' ⟨rfl, hw⟩; obtain rfl := hw.symm)
    refine (clone_any ao k c l w hB HK.out HN.out (by have := HK.out; omega)).mono ?_
    rintro r w1 ⟨a1, rfl, hB1, hb1, hn1⟩
    go_wp2_with fail
    refine (clone_any a1 k k l w1 hB1 HK.out (fun h => ⟨hn1 h, by rw [HK.out, hn1 h]; rfl⟩) (by have := HK.out; omega)).mono ?_
    rintro r w2 ⟨a2, rfl, hB2, hb2, hn2⟩
    have hB2a : Bs w2 a1 l := hB1.below hb2
    have hb2a := below_next hb1 hb2
    clear hb2 hb1 hB1 hB
    have htab2 := tab_on htab hb2a
    clear hn1 hn2 htab
    go_wp2_with (go_at_call 19; refine (portDoc_any n e w2).mono ?_; rintro r w3 ⟨rfl, rfl⟩)
    have hb3 : Below w2.heap.size w2 (w2.alloc (.cells #[.int .i64 n, .bool e] 40)) := (Below.refl _ _).alloc (Nat.le_refl _) _
    generalize w2.alloc (.cells #[.int .i64 n, .bool e] 40) = W3 at hb3 ⊢
    obtain ⟨L2, HL2⟩ : ∃ L2, Hid (L2 = l ++ json n e) := ⟨_, rfl⟩
    have hb3a := below_next hb2a hb3
    refine (zzJSON_at n e a1 k l L2 W3 h0 h1 (hB2a.below hb3) HK.out HL2.out (by have := HK.out; omega) (tab_on htab2 hb3)).mono ?_
    rintro r w5 ⟨g2, cap2, rfl, hc2, hm2, hB5, hb5⟩
    have hb5a := below_next hb3a hb5
    have hX2 : Bs w5 a1 l := hB2a.below (below_next hb3 hb5)
    have hX3 : Bs w5 a2 l := hB2.below (below_next hb3 hb5)
    have HB5 : Hid (Bs w5 (some ⟨g2, 0, none⟩) L2) := hB5
    have HX2 : Hid (Bs w5 a1 l) := hX2
    have HX3 : Hid (Bs w5 a2 l) := hX3
    have HBE : Hid (Below w.heap.size w w5) := hb5a
    clear hb5 hb3 hb3a hB5 hX2 hX3 hB2 hB2a htab2 hb2a hb5a HN hw
    have hit := itoa_len_le n h0 h1
    have hj := json_len n e
    have hfl := flagText_len e
    have hl2 : L2.length = k + (json n e).length := by rw [HL2.out, List.length_append, HK.out]
    unfold maxLen at hm2
    have hb2 : (L2.length : Int) ≤ 2000000 := by omega
    have hkL : (k : Int) ≤ (L2.length : Int) := by omega
    have hkc : (k : Int) ≤ (cap2 : Int) := by omega
    have hkC : (k : Int) < (cap2 : Int) := by omega
    have d1 : decide (L2.length < k) = false := by simp; omega
    have HL2' : Hid (L2.length = k + (json n e).length) := hl2
    clear hl2 hj hfl
    go_wp2_with fail
    refine (equal_at l l _ _ k k cap2 k w5 (Bs.left (m := json n e) (by rw [← HL2.out]; exact HB5.out)) HX3.out HK.out HK.out (by have := HK.out; omega) (by have := HK.out; omega)).mono ?_
    rintro r w6 ⟨rfl, n6, rfl⟩
    rw [beq_self_eq_true]
    go_wp2_with fail
    refine (equal_at l l _ _ k k k k (w5.drewN n6) HX2.out HX3.out HK.out HK.out (by have := HK.out; omega) (by have := HK.out; omega)).mono ?_
    rintro r w7 ⟨rfl, n7, rfl⟩
    rw [beq_self_eq_true]
    go_wp2_with fail
    refine (readJSON_any n e _ (L2.length - k) (cap2 - k) (w5.drewN (n6 + n7)) h0 h1 ((right_at HB5.out HL2.out HK.out).drewN _) (by rw [HL2'.out]; omega)).mono ?_
    rintro r w8 ⟨rfl, n8, rfl⟩
    go_wp2_with fail
    go_ret
    exact ⟨rfl, HBE.out.trans ⟨rfl, rfl, rfl, Nat.le_refl _, fun _ _ => rfl⟩⟩
end Go.Proofs.Qxb6605507aDoor
