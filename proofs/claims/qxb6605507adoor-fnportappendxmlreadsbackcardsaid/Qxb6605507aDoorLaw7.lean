import Derived.Test.Qxb6605507aDoorLaw5
import Derived.Test.Qxb6605507aDoorXml
namespace Go.Proofs.Qxb6605507aDoor
open Go Go.RowKit

set_option maxRecDepth 100000 in
set_option maxHeartbeats 400000 in
theorem zzXML_any (n : Int) (e : Bool) (ao : Option Addr) (l : List UInt8) (s : ByteArray) (w : World) (h0 : -9223372036854775808 ≤ n) (h1 : n ≤ 9223372036854775807) (hB : Bs w ao l) (hlen : l.length ≤ 1000000000) (hsz : s.size ≤ 1000000000)
    (htab : Lib.TabBelow Tryd.prog w.heap.size w powName .u64 Lib.pow10Tab) :
    Calls Tryd.prog 16 #[.agg #[.int .i64 n, .bool e], .slice ao l.length l.length, .string s] w fun r w' => ∃ g cap, r = .returned (.slice (some ⟨g, 0, none⟩) (l ++ xml n e s.data.toList).length cap) ∧ w.heap.size ≤ g ∧ g < w'.heap.size ∧ (l ++ xml n e s.data.toList).length ≤ cap ∧ cap ≤ maxLen ∧ Bs w' (some ⟨g, 0, none⟩) (l ++ xml n e s.data.toList) ∧ Below w.heap.size w w' := by
  have hB1 : Bs (w.alloc (.cells #[.int .i64 n, .bool e] 40)) ao l := hB.alloc _
  have hb : Below w.heap.size w (w.alloc (.cells #[.int .i64 n, .bool e] 40)) := (Below.refl _ _).alloc (Nat.le_refl _) _
  have htab1 : Lib.TabBelow Tryd.prog (w.alloc (.cells #[.int .i64 n, .bool e] 40)).heap.size (w.alloc (.cells #[.int .i64 n, .bool e] 40)) powName .u64 Lib.pow10Tab :=
    fun w' h => htab w' (hb.trans (h.mono (by simp)))
  have hC := appendXML_any n e ao l s (w.alloc (.cells #[.int .i64 n, .bool e] 40)) h0 h1 hB1 hlen hsz htab1
  clear hB1 htab1 htab hB
  go_enter Tryd.func16, Tryd.ntmps16
  go_wp2_with (go_at_call 31; refine hC.mono ?_; rintro r w' ⟨v', rfl, hown, hbel⟩)
  go_ret
  obtain ⟨g, cap, rfl, hg, hlt, hc, hm, _, hbs⟩ := own_bs hown (by rw [List.length_append, xml_len]; omega)
  exact ⟨g, cap, rfl, by simp at hg; omega, hlt, hc, hm, hbs, hb.trans (hbel.mono (by simp))⟩

theorem zzXML_at (n : Int) (e : Bool) (ao : Option Addr) (k : Nat) (l L : List UInt8) (s : ByteArray) (w : World) (h0 : -9223372036854775808 ≤ n) (h1 : n ≤ 9223372036854775807) (hB : Bs w ao l) (hk : k = l.length) (hL : L = l ++ xml n e s.data.toList) (hlen : l.length ≤ 1000000000) (hsz : s.size ≤ 1000000000)
    (htab : Lib.TabBelow Tryd.prog w.heap.size w powName .u64 Lib.pow10Tab) :
    Calls Tryd.prog 16 #[.agg #[.int .i64 n, .bool e], .slice ao k k, .string s] w fun r w' => ∃ g cap, r = .returned (.slice (some ⟨g, 0, none⟩) L.length cap) ∧ L.length ≤ cap ∧ cap ≤ maxLen ∧ Bs w' (some ⟨g, 0, none⟩) L ∧ Below w.heap.size w w' := by
  subst hk
  subst hL
  refine (zzXML_any n e ao l s w h0 h1 hB hlen hsz htab).mono ?_
  rintro r w' ⟨g, cap, rfl, _, _, hc, hm, hb, hbel⟩
  exact ⟨g, cap, rfl, hc, hm, hb, hbel⟩

set_option maxHeartbeats 400000 in
theorem zz24_yes (n : Int) (e : Bool) (a : Option Addr) (k c : Nat) (s : ByteArray) (w : World) (hk : k + s.size ≤ 1048576) : Calls Tryd.prog 24 #[.int .i64 n, .bool e, .slice a k c, .string s] w fun r w' => r = .returned (.bool true) ∧ w' = w := by
  go_enter Tryd.func24, Tryd.ntmps24
  go_wp2
  go_ret
  exact ⟨rfl, rfl⟩

set_option maxHeartbeats 400000 in
theorem zz24_no (n : Int) (e : Bool) (a : Option Addr) (k c : Nat) (s : ByteArray) (w : World) (hk : 1048576 < k + s.size) : Calls Tryd.prog 24 #[.int .i64 n, .bool e, .slice a k c, .string s] w fun r w' => r = .returned (.bool false) ∧ w' = w := by
  by_cases h1 : 1048576 < k
  · go_enter Tryd.func24, Tryd.ntmps24
    go_wp2
    go_ret
    exact ⟨rfl, rfl⟩
  · by_cases h2 : 1048576 < s.size
    · go_enter Tryd.func24, Tryd.ntmps24
      go_wp2
      go_ret
      exact ⟨rfl, rfl⟩
    · have h3 : (1048576 : Int) < (k : Int) + (s.size : Int) := by omega
      go_enter Tryd.func24, Tryd.ntmps24
      go_wp2
      go_ret
      exact ⟨rfl, rfl⟩

set_option maxRecDepth 100000 in
set_option maxHeartbeats 1000000 in
theorem law7 (n : Int) (e : Bool) (ao : Option Addr) (k c : Nat) (l : List UInt8) (s : ByteArray) (w : World) (h0 : -9223372036854775808 ≤ n) (h1 : n ≤ 9223372036854775807) (hB : Bs w ao l) (hk : k = l.length) (hnil : ao = none → l = [] ∧ c = 0)
    (htab : Lib.TabBelow Tryd.prog w.heap.size w powName .u64 Lib.pow10Tab) :
    Calls Tryd.prog 7 #[.int .i64 n, .bool e, .slice ao k c, .string s] w fun r w' => r = .returned (.bool true) ∧ Below w.heap.size w w' := by
  have HK : Hid (k = l.length) := hk
  have HN : Hid (ao = none → l = [] ∧ c = 0) := hnil
  clear hk hnil
  by_cases hbig : 1048576 < k + s.size
  · go_enter Tryd.func7, Tryd.ntmps7
    go_wp2_with (go_at_call 24; refine (zz24_no n e ao k c s w hbig).mono ?_; rintro r w' ⟨rfl, rfl⟩)
    go_ret
    exact ⟨rfl, Below.refl _ _⟩
  · have hkb : k + s.size ≤ 1048576 := by omega
    have hkz : k ≤ 1048576 := by omega
    have hsz : s.size ≤ 1048576 := by omega
    clear hbig
    go_enter Tryd.func7, Tryd.ntmps7
    go_wp2_with (go_at_call 24; refine (zz24_yes n e ao k c s w hkb).mono ?_; rintro r w' ⟨rfl, hw⟩; obtain rfl := hw.symm)
    refine (clone_any ao k c l w hB HK.out HN.out (by have := HK.out; omega)).mono ?_
    rintro r w1 ⟨a1, rfl, hB1, hb1, hn1⟩
    go_wp2_with fail
    refine (clone_any a1 k k l w1 hB1 HK.out (fun h => ⟨hn1 h, by rw [HK.out, hn1 h]; rfl⟩) (by have := HK.out; omega)).mono ?_
    rintro r w2 ⟨a2, rfl, hB2, hb2, hn2⟩
    have hB2a : Bs w2 a1 l := hB1.below hb2
    have hb2a := below_next hb1 hb2
    clear hb2 hb1 hB1 hB
    have htab2 := tab_on htab hb2a
    clear hn1 hn2 htab
    go_wp2_with (go_at_call 19; refine (portDoc_any n e w2).mono ?_; rintro r w3 ⟨rfl, rfl⟩)
    obtain ⟨W3, hW3, hb3, hs3, c30, c31⟩ := two_boxes w2 n e
    rw [← hW3]
    have HL : ∃ L1 L2, Hid (L1 = [] ++ xml n e s.data.toList) ∧ Hid (L2 = l ++ xml n e s.data.toList) := ⟨_, _, rfl, rfl⟩
    obtain ⟨L1, L2, HL1, HL2⟩ := HL
    clear hW3
    have hb3a := below_next hb2a hb3
    refine (zzXML_at n e none 0 [] L1 s W3 h0 h1 (Bs.nil _ _) rfl HL1.out (by simp) (by omega) (tab_on htab2 hb3)).mono ?_
    rintro r w4 ⟨g1, cap1, rfl, hc1, hm1, hB4, hb4⟩
    obtain ⟨c40, c41⟩ := box_on hs3 c30 c31 hb4
    have HS3 : Hid (W3.heap.size = w2.heap.size + 2) := hs3
    clear hs3 c30 c31
    go_wp2_with fail
    have hb4a := below_next hb3a hb4
    have hb4b := below_next hb3 hb4
    refine (zzXML_at n e a1 k l L2 s w4 h0 h1 (hB2a.below hb4b) HK.out HL2.out (by have := HK.out; omega) (by omega) (tab_on htab2 hb4b)).mono ?_
    rintro r w5 ⟨g2, cap2, rfl, hc2, hm2, hB5, hb5⟩
    have hb5a := below_next hb4a hb5
    have hX1 : Bs w5 (some ⟨g1, 0, none⟩) L1 := hB4.below hb5
    have hX2 : Bs w5 a1 l := hB2a.below (below_next hb4b hb5)
    have hX3 : Bs w5 a2 l := hB2.below (below_next hb4b hb5)
    have HB5 : Hid (Bs w5 (some ⟨g2, 0, none⟩) L2) := hB5
    have HX1 : Hid (Bs w5 (some ⟨g1, 0, none⟩) L1) := hX1
    have HX2 : Hid (Bs w5 a1 l) := hX2
    have HX3 : Hid (Bs w5 a2 l) := hX3
    have HBE : Hid (Below w.heap.size w w5) := hb5a
    clear hb5 hb4 hb4a hb4b hb3 hb3a c40 c41 hB4 hB5 hX1 hX2 hX3 hB2 hB2a htab2 hb2a HS3 hb5a HN hw
    have hit := itoa_len_le n h0 h1
    have hj := xml_len n e s.data.toList
    have hsl : s.data.toList.length = s.size := by rw [Array.length_toList]; rfl
    have hl1 : L1.length = (xml n e s.data.toList).length := by rw [HL1.out]; simp
    have hl2 : L2.length = k + L1.length := by rw [HL2.out, List.length_append, hl1, HK.out]
    have hfl := boolText_len e
    unfold maxLen at hm1 hm2
    have hb1 : (L1.length : Int) ≤ 3000000 := by omega
    have hb2 : (L2.length : Int) ≤ 5000000 := by omega
    have hs2 : ((L2.length : Int) == (k : Int) + (L1.length : Int)) = true := beq_iff_eq.2 (by omega)
    have hkc : (k : Int) ≤ (cap2 : Int) := by omega
    have hkL : (k : Int) ≤ (L2.length : Int) := by omega
    have hkC : (k : Int) < (cap2 : Int) := by omega
    have HL2' : Hid (L2.length = k + L1.length) := hl2
    clear hl2
    cases e
    · have hs1 : ((L1.length : Int) == 16 + 2 * (s.size : Int) + ((Lib.itoa n).length : Int) + 5) = true := beq_iff_eq.2 (by have : (boolText false).length = 5 := rfl; omega)
      clear hj hl1 hfl hsl
      go_wp2_with (go_at_call 22; refine (decLen_any n _ h0 h1).mono ?_; rintro r w' ⟨rfl, hw⟩; obtain rfl := hw.symm)
      refine (equal_at l l _ _ k k cap2 k w5 (Bs.left (m := xml n false s.data.toList) (by rw [← HL2.out]; exact HB5.out)) HX3.out HK.out HK.out (by have := HK.out; omega) (by have := HK.out; omega)).mono ?_
      rintro r w6 ⟨rfl, n6, rfl⟩
      rw [beq_self_eq_true]
      go_wp2_with fail
      refine (equal_at l l _ _ k k k k (w5.drewN n6) HX2.out HX3.out HK.out HK.out (by have := HK.out; omega) (by have := HK.out; omega)).mono ?_
      rintro r w7 ⟨rfl, n7, rfl⟩
      rw [beq_self_eq_true]
      go_wp2_with fail
      refine (equal_at (xml n false s.data.toList) L1 _ _ (L2.length - k) L1.length (cap2 - k) cap1 (w5.drewN (n6 + n7)) ((right_at HB5.out HL2.out HK.out).drewN _) (HX1.out.drewN _) (by rw [HL2'.out, HL1.out]; simp) rfl (by rw [← List.nil_append (xml n false s.data.toList), ← HL1.out]; omega) (by omega)).mono ?_
      rintro r w8 ⟨rfl, n8, rfl⟩
      rw [show (xml n false s.data.toList == L1) = true by rw [HL1.out]; simp]
      go_wp2_with fail
      go_ret
      exact ⟨rfl, HBE.out.trans ⟨rfl, rfl, rfl, Nat.le_refl _, fun _ _ => rfl⟩⟩
    · have hs1 : ((L1.length : Int) == 16 + 2 * (s.size : Int) + ((Lib.itoa n).length : Int) + 4) = true := beq_iff_eq.2 (by have : (boolText true).length = 4 := rfl; omega)
      clear hj hl1 hfl hsl
      go_wp2_with (go_at_call 22; refine (decLen_any n _ h0 h1).mono ?_; rintro r w' ⟨rfl, hw⟩; obtain rfl := hw.symm)
      refine (equal_at l l _ _ k k cap2 k w5 (Bs.left (m := xml n true s.data.toList) (by rw [← HL2.out]; exact HB5.out)) HX3.out HK.out HK.out (by have := HK.out; omega) (by have := HK.out; omega)).mono ?_
      rintro r w6 ⟨rfl, n6, rfl⟩
      rw [beq_self_eq_true]
      go_wp2_with fail
      refine (equal_at l l _ _ k k k k (w5.drewN n6) HX2.out HX3.out HK.out HK.out (by have := HK.out; omega) (by have := HK.out; omega)).mono ?_
      rintro r w7 ⟨rfl, n7, rfl⟩
      rw [beq_self_eq_true]
      go_wp2_with fail
      refine (equal_at (xml n true s.data.toList) L1 _ _ (L2.length - k) L1.length (cap2 - k) cap1 (w5.drewN (n6 + n7)) ((right_at HB5.out HL2.out HK.out).drewN _) (HX1.out.drewN _) (by rw [HL2'.out, HL1.out]; simp) rfl (by rw [← List.nil_append (xml n true s.data.toList), ← HL1.out]; omega) (by omega)).mono ?_
      rintro r w8 ⟨rfl, n8, rfl⟩
      rw [show (xml n true s.data.toList == L1) = true by rw [HL1.out]; simp]
      go_wp2_with fail
      go_ret
      exact ⟨rfl, HBE.out.trans ⟨rfl, rfl, rfl, Nat.le_refl _, fun _ _ => rfl⟩⟩
end Go.Proofs.Qxb6605507aDoor
