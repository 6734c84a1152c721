import Derived.Test.Qxb6605507aDoorCalls
import Derived.Test.Qxb6605507aDoorEqual
import Derived.Test.Qxb6605507aDoorDecLen
namespace Go.Proofs.Qxb6605507aDoor
open Go Go.RowKit

theorem equal_at (la lb : List UInt8) (a b : Option Addr) (na nb ca cb : Nat) (w : World) (ha : Bs w a la) (hb : Bs w b lb) (hna : na = la.length) (hnb : nb = lb.length) (hla : la.length ≤ 1000000000) (hlb : lb.length ≤ 1000000000) :
    Calls Tryd.prog 20 #[.slice a na ca, .slice b nb cb] w fun e w' => e = .returned (.bool (la == lb)) ∧ ∃ n, w' = w.drewN n := by
  subst hna
  subst hnb
  exact equal_any la lb a b ca cb w ha hb hla hlb

theorem clone_any (ao : Option Addr) (n c : Nat) (l : List UInt8) (w : World) (hB : Bs w ao l) (hn : n = l.length) (hnil : ao = none → l = [] ∧ c = 0) (hlen : l.length ≤ 1000000000) :
    Calls Tryd.prog 18 #[.slice ao n c] w fun r w' => ∃ ao', r = .returned (.slice ao' n n) ∧ Bs w' ao' l ∧ Below w.heap.size w w' ∧ (ao' = none → l = []) := by
  subst hn
  cases ao with
  | none =>
    obtain ⟨rfl, rfl⟩ := hnil rfl
    refine (clone_nil w).mono ?_
    rintro e w' ⟨rfl, rfl⟩
    exact ⟨none, rfl, .inl rfl, Below.refl _ _, fun _ => rfl⟩
  | some x =>
    refine (clone_some x c l w hB hlen).mono ?_
    rintro e w' ⟨rfl, hb, hbel, _⟩
    exact ⟨_, rfl, hb, hbel, fun h => by cases h⟩

theorem zzJSON_at (n : Int) (e : Bool) (ao : Option Addr) (k : Nat) (l L : List UInt8) (w : World) (h0 : -9223372036854775808 ≤ n) (h1 : n ≤ 9223372036854775807) (hB : Bs w ao l) (hk : k = l.length) (hL : L = l ++ json n e) (hlen : l.length ≤ 1000000000)
    (htab : Lib.TabBelow Tryd.prog w.heap.size w powName .u64 Lib.pow10Tab) :
    Calls Tryd.prog 14 #[.agg #[.int .i64 n, .bool e], .slice ao k k] w fun r w' => ∃ g cap, r = .returned (.slice (some ⟨g, 0, none⟩) L.length cap) ∧ L.length ≤ cap ∧ cap ≤ maxLen ∧ Bs w' (some ⟨g, 0, none⟩) L ∧ Below w.heap.size w w' := by
  subst hk
  subst hL
  refine (zzJSON_any n e ao l w h0 h1 hB hlen htab).mono ?_
  rintro r w' ⟨g, cap, rfl, _, _, hc, hm, hb, hbel⟩
  exact ⟨g, cap, rfl, hc, hm, hb, hbel⟩

set_option maxHeartbeats 400000 in
theorem zz21_yes (n : Int) (e : Bool) (a : Option Addr) (k c : Nat) (w : World) (hk : k ≤ 1048576) : Calls Tryd.prog 21 #[.int .i64 n, .bool e, .slice a k c] w fun r w' => r = .returned (.bool true) ∧ w' = w := by
  go_enter Tryd.func21, Tryd.ntmps21
  go_wp2
  go_ret
  exact ⟨rfl, rfl⟩

set_option maxHeartbeats 400000 in
theorem zz21_no (n : Int) (e : Bool) (a : Option Addr) (k c : Nat) (w : World) (hk : 1048576 < k) : Calls Tryd.prog 21 #[.int .i64 n, .bool e, .slice a k c] w fun r w' => r = .returned (.bool false) ∧ w' = w := by
  go_enter Tryd.func21, Tryd.ntmps21
  go_wp2
  go_ret
  exact ⟨rfl, rfl⟩

/-- What stands at the head of a longer row. -/
theorem Bs.left {w : World} {ao : Option Addr} {l m : List UInt8} (h : Bs w ao (l ++ m)) : Bs w ao l := by
  rcases h with h | ⟨b, off, rfl, hc⟩
  · exact .inl (List.append_eq_nil_iff.1 h).1
  · refine .inr ⟨b, off, rfl, fun i hi => ?_⟩
    have := hc i (by rw [List.length_append]; omega)
    rw [List.getElem_append_left hi] at this
    exact this

/-- What stands behind the head. -/
theorem Bs.right {w : World} {b off : Nat} {l m : List UInt8} (h : Bs w (some ⟨b, off, none⟩) (l ++ m)) : Bs w (some ⟨b, off + l.length, none⟩) m := by
  rcases h with h | ⟨b', off', he, hc⟩
  · exact .inl (List.append_eq_nil_iff.1 h).2
  · cases he
    refine .inr ⟨b, off + l.length, rfl, fun i hi => ?_⟩
    have := hc (l.length + i) (by rw [List.length_append]; omega)
    rw [List.getElem_append_right (by omega)] at this
    simpa [Nat.add_assoc] using this

theorem right_at {w : World} {g k : Nat} {l m L : List UInt8} (hb : Bs w (some ⟨g, 0, none⟩) L) (hL : L = l ++ m) (hk : k = l.length) : Bs w (some ⟨g, k, none⟩) m := by
  subst hL
  subst hk
  have := hb.right
  rw [Nat.zero_add] at this
  exact this

theorem tab_on {w w' : World} (h : Lib.TabBelow Tryd.prog w.heap.size w powName .u64 Lib.pow10Tab) (hb : Below w.heap.size w w') : Lib.TabBelow Tryd.prog w'.heap.size w' powName .u64 Lib.pow10Tab :=
  fun w2 h2 => h w2 (hb.trans (h2.mono hb.size))

theorem below_next {w w1 w2 : World} (h : Below w.heap.size w w1) (h2 : Below w1.heap.size w1 w2) : Below w.heap.size w w2 := h.trans (h2.mono h.size)

/-- The port that the law keeps in a variable of its own. -/
theorem two_boxes (w : World) (n : Int) (e : Bool) : ∃ W, W = (w.alloc (.cells #[.int .i64 n, .bool e] 40)).alloc (.cells #[.int .i64 n, .bool e] 40) ∧ Below w.heap.size w W ∧ W.heap.size = w.heap.size + 2 ∧
    W.cell? ⟨w.heap.size + 1, 0, none⟩ = some (.int .i64 n) ∧ W.cell? ⟨w.heap.size + 1, 1, none⟩ = some (.bool e) := by
  refine ⟨_, rfl, ((Below.refl _ _).alloc (Nat.le_refl _) _).alloc (by simp) _, by simp, ?_, ?_⟩
  · simp
  · simp

theorem box_on {w W w' : World} {n : Int} {e : Bool} (hs : W.heap.size = w.heap.size + 2) (h0 : W.cell? ⟨w.heap.size + 1, 0, none⟩ = some (.int .i64 n)) (h1 : W.cell? ⟨w.heap.size + 1, 1, none⟩ = some (.bool e)) (hb : Below W.heap.size W w') :
    w'.cell? ⟨w.heap.size + 1, 0, none⟩ = some (.int .i64 n) ∧ w'.cell? ⟨w.heap.size + 1, 1, none⟩ = some (.bool e) :=
  ⟨by rw [hb.cell (p := ⟨w.heap.size + 1, 0, none⟩) (by show w.heap.size + 1 < W.heap.size; omega)]; exact h0, by rw [hb.cell (p := ⟨w.heap.size + 1, 1, none⟩) (by show w.heap.size + 1 < W.heap.size; omega)]; exact h1⟩

set_option maxRecDepth 100000 in
set_option maxHeartbeats 1000000 in
theorem law5 (n : Int) (e : Bool) (ao : Option Addr) (k c : Nat) (l : List UInt8) (w : World) (h0 : -9223372036854775808 ≤ n) (h1 : n ≤ 9223372036854775807) (hB : Bs w ao l) (hk : k = l.length) (hnil : ao = none → l = [] ∧ c = 0)
    (htab : Lib.TabBelow Tryd.prog w.heap.size w powName .u64 Lib.pow10Tab) :
    Calls Tryd.prog 5 #[.int .i64 n, .bool e, .slice ao k c] w fun r w' => r = .returned (.bool true) ∧ Below w.heap.size w w' := by
  have HK : Hid (k = l.length) := hk
  have HN : Hid (ao = none → l = [] ∧ c = 0) := hnil
  clear hk hnil
  by_cases hbig : 1048576 < k
  · go_enter Tryd.func5, Tryd.ntmps5
    go_wp2_with (go_at_call 21; refine (zz21_no n e ao k c w hbig).mono ?_; rintro r w' ⟨rfl, rfl⟩)
    go_ret
    exact ⟨rfl, Below.refl _ _⟩
  · have hkb : k ≤ 1048576 := by omega
    clear hbig
    go_enter Tryd.func5, Tryd.ntmps5
    go_wp2_with (go_at_call 21; refine (zz21_yes n e ao k c w hkb).mono ?_; rintro r w' ⟨rfl, hw⟩; obtain rfl := hw.symm)
    refine (clone_any ao k c l w hB HK.out HN.out (by have := HK.out; omega)).mono ?_
    rintro r w1 ⟨a1, rfl, hB1, hb1, hn1⟩
    go_wp2_with fail
    refine (clone_any a1 k k l w1 hB1 HK.out (fun h => ⟨hn1 h, by rw [HK.out, hn1 h]; rfl⟩) (by have := HK.out; omega)).mono ?_
    rintro r w2 ⟨a2, rfl, hB2, hb2, hn2⟩
    have hB2a : Bs w2 a1 l := hB1.below hb2
    have hb2a := below_next hb1 hb2
    clear hb2 hb1 hB1 hB
    have htab2 := tab_on htab hb2a
    clear hn1 hn2 htab
    go_wp2_with (go_at_call 19; refine (portDoc_any n e w2).mono ?_; rintro r w3 ⟨rfl, rfl⟩)
    obtain ⟨W3, hW3, hb3, hs3, c30, c31⟩ := two_boxes w2 n e
    rw [← hW3]
    have HL : ∃ L1 L2, Hid (L1 = [] ++ json n e) ∧ Hid (L2 = l ++ json n e) := ⟨_, _, rfl, rfl⟩
    obtain ⟨L1, L2, HL1, HL2⟩ := HL
    clear hW3
    have hb3a := below_next hb2a hb3
    refine (zzJSON_at n e none 0 [] L1 W3 h0 h1 (Bs.nil _ _) rfl HL1.out (by simp) (tab_on htab2 hb3)).mono ?_
    rintro r w4 ⟨g1, cap1, rfl, hc1, hm1, hB4, hb4⟩
    obtain ⟨c40, c41⟩ := box_on hs3 c30 c31 hb4
    have HS3 : Hid (W3.heap.size = w2.heap.size + 2) := hs3
    clear hs3 c30 c31
    go_wp2_with fail
    have hb4a := below_next hb3a hb4
    have hb4b := below_next hb3 hb4
    refine (zzJSON_at n e a1 k l L2 w4 h0 h1 (hB2a.below hb4b) HK.out HL2.out (by have := HK.out; omega) (tab_on htab2 hb4b)).mono ?_
    rintro r w5 ⟨g2, cap2, rfl, hc2, hm2, hB5, hb5⟩
    have hb5a := below_next hb4a hb5
    have hX1 : Bs w5 (some ⟨g1, 0, none⟩) L1 := hB4.below hb5
    have hX2 : Bs w5 a1 l := hB2a.below (below_next hb4b hb5)
    have hX3 : Bs w5 a2 l := hB2.below (below_next hb4b hb5)
    have HB5 : Hid (Bs w5 (some ⟨g2, 0, none⟩) L2) := hB5
    have HX1 : Hid (Bs w5 (some ⟨g1, 0, none⟩) L1) := hX1
    have HX2 : Hid (Bs w5 a1 l) := hX2
    have HX3 : Hid (Bs w5 a2 l) := hX3
    have HBE : Hid (Below w.heap.size w w5) := hb5a
    clear hb5 hb4 hb4a hb4b hb3 hb3a c40 c41 hB4 hB5 hX1 hX2 hX3 hB2 hB2a htab2 hb2a HS3 hb5a HN hw
    have hit := itoa_len_le n h0 h1
    have hj := json_len n e
    have hl1 : L1.length = (json n e).length := by rw [HL1.out]; simp
    have hl2 : L2.length = k + L1.length := by rw [HL2.out, List.length_append, hl1, HK.out]
    have hfl := flagText_len e
    unfold maxLen at hm1 hm2
    have hb1 : (L1.length : Int) ≤ 1000 := by omega
    have hb2 : (L2.length : Int) ≤ 2000000 := by omega
    have hs2 : ((L2.length : Int) == (k : Int) + (L1.length : Int)) = true := beq_iff_eq.2 (by omega)
    have hkc : (k : Int) ≤ (cap2 : Int) := by omega
    have hkL : (k : Int) ≤ (L2.length : Int) := by omega
    have hkC : (k : Int) < (cap2 : Int) := by omega
    have HL2' : Hid (L2.length = k + L1.length) := hl2
    clear hl2
    cases e
    · have hs1 : ((L1.length : Int) == 18 + ((Lib.itoa n).length : Int) + 7) = true := beq_iff_eq.2 (by have : (flagText false).length = 7 := rfl; omega)
      clear hj hl1 hfl
      go_wp2_with (go_at_call 22; refine (decLen_any n _ h0 h1).mono ?_; rintro r w' ⟨rfl, hw⟩; obtain rfl := hw.symm)
      refine (equal_at l l _ _ k k cap2 k w5 (Bs.left (m := json n false) (by rw [← HL2.out]; exact HB5.out)) HX3.out HK.out HK.out (by have := HK.out; omega) (by have := HK.out; omega)).mono ?_
      rintro r w6 ⟨rfl, n6, rfl⟩
      rw [beq_self_eq_true]
      go_wp2_with fail
      refine (equal_at l l _ _ k k k k (w5.drewN n6) HX2.out HX3.out HK.out HK.out (by have := HK.out; omega) (by have := HK.out; omega)).mono ?_
      rintro r w7 ⟨rfl, n7, rfl⟩
      rw [beq_self_eq_true]
      go_wp2_with fail
      refine (equal_at (json n false) L1 _ _ (L2.length - k) L1.length (cap2 - k) cap1 (w5.drewN (n6 + n7)) ((right_at HB5.out HL2.out HK.out).drewN _) (HX1.out.drewN _) (by rw [HL2'.out, HL1.out]; simp) rfl (by rw [← List.nil_append (json n false), ← HL1.out]; omega) (by omega)).mono ?_
      rintro r w8 ⟨rfl, n8, rfl⟩
      rw [show (json n false == L1) = true by rw [HL1.out]; simp]
      go_wp2_with fail
      go_ret
      exact ⟨rfl, HBE.out.trans ⟨rfl, rfl, rfl, Nat.le_refl _, fun _ _ => rfl⟩⟩
    · have hs1 : ((L1.length : Int) == 18 + ((Lib.itoa n).length : Int) + 6) = true := beq_iff_eq.2 (by have : (flagText true).length = 6 := rfl; omega)
      clear hj hl1 hfl
      go_wp2_with (go_at_call 22; refine (decLen_any n _ h0 h1).mono ?_; rintro r w' ⟨rfl, hw⟩; obtain rfl := hw.symm)
      refine (equal_at l l _ _ k k cap2 k w5 (Bs.left (m := json n true) (by rw [← HL2.out]; exact HB5.out)) HX3.out HK.out HK.out (by have := HK.out; omega) (by have := HK.out; omega)).mono ?_
      rintro r w6 ⟨rfl, n6, rfl⟩
      rw [beq_self_eq_true]
      go_wp2_with fail
      refine (equal_at l l _ _ k k k k (w5.drewN n6) HX2.out HX3.out HK.out HK.out (by have := HK.out; omega) (by have := HK.out; omega)).mono ?_
      rintro r w7 ⟨rfl, n7, rfl⟩
      rw [beq_self_eq_true]
      go_wp2_with fail
      refine (equal_at (json n true) L1 _ _ (L2.length - k) L1.length (cap2 - k) cap1 (w5.drewN (n6 + n7)) ((right_at HB5.out HL2.out HK.out).drewN _) (HX1.out.drewN _) (by rw [HL2'.out, HL1.out]; simp) rfl (by rw [← List.nil_append (json n true), ← HL1.out]; omega) (by omega)).mono ?_
      rintro r w8 ⟨rfl, n8, rfl⟩
      rw [show (json n true == L1) = true by rw [HL1.out]; simp]
      go_wp2_with fail
      go_ret
      exact ⟨rfl, HBE.out.trans ⟨rfl, rfl, rfl, Nat.le_refl _, fun _ _ => rfl⟩⟩
end Go.Proofs.Qxb6605507aDoor
