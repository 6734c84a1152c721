import Derived.Test.Qxb6605523aClone
namespace Go.Proofs.Qxb6605523a
open Go Go.RowKit

theorem own_one (w : World) (u : Value) : (w.alloc (.cells #[u] 5)).ownsRow w.heap.size 5 1 (.slice (some ⟨w.heap.size, 0, none⟩) 1 1) 1 [u] :=
  ⟨rfl, .inr ⟨w.heap.size, 1, #[u], rfl, Nat.le_refl _, heap_alloc_new w _, Nat.le_refl _, by decide, rfl, rfl⟩⟩

theorem rm_empty (ao : Option Addr) (c : Nat) (w : World) :
    Calls Try.prog 17 #[.slice ao 0 c] w fun r w' => r = .returned (.slice (some ⟨w.heap.size, 0, none⟩) 2 2) ∧ w' = w.alloc (.cells #[.int .u8 3, .int .u8 255] 5) := by
  go_enter Try.func17, Try.ntmps17
  go_wp2
  go_ret
  exact ⟨rfl, rfl⟩

theorem rm_none (ao : Option Addr) (n c : Nat) (l : List UInt8) (w : World) (hB : Bs w ao l) (hn : n = l.length) (hl : 0 < l.length) (h3 : l[0].toNat < 3) :
    Calls Try.prog 17 #[.slice ao n c] w fun r w' => r = .returned (.slice none 0 0) ∧ w' = w := by
  obtain ⟨b, off, rfl, hc⟩ := hB.addr hl
  have hn0 : 0 < n := by omega
  have hnz : ((n : Int) == 0) = false := beq_eq_false_iff_ne.2 (by omega)
  clear hn hB
  generalize l[0].toNat = z at hc h3
  go_enter Try.func17, Try.ntmps17
  go_wp2
  go_ret
  exact ⟨rfl, rfl⟩

set_option maxRecDepth 100000 in
set_option maxHeartbeats 1000000 in
theorem rm_high (ao : Option Addr) (n c : Nat) (l : List UInt8) (w : World) (hB : Bs w ao l) (hn : n = l.length) (hl : 0 < l.length) (hlen : l.length ≤ 1000000000) (h3 : 3 < l[0].toNat) :
    Calls Try.prog 17 #[.slice ao n c] w fun r w' => ∃ v', r = .returned v' ∧ w'.ownsRow w.heap.size 5 1 v' (1 + n) (Lib.byteCells (3 :: l)) ∧ Below w.heap.size w w' := by
  obtain ⟨i0, hi, hz0, hz1, hz2⟩ := info_parts info5
  obtain ⟨b, off, rfl, hc⟩ := hB.addr hl
  have hsrc := (hB.alloc (.cells #[.int .u8 3] 5)).src
  have hn0 : 0 < n := by omega
  have hnb : n ≤ 1000000000 := by omega
  have hnz : ((n : Int) == 0) = false := beq_eq_false_iff_ne.2 (by omega)
  have HN : Hid (n = l.length) := hn
  clear hn hB
  generalize l[0].toNat = z at hc h3
  have hz : ((z : Int) == 3) = false := beq_eq_false_iff_ne.2 (by omega)
  go_enter Try.func17, Try.ntmps17
  go_wp2_with (at_builtin; (refine wpList_append_own _ rfl (.tmp 22) (.tmp 23) 22 rfl w.heap.size 5 i0 (.int .u8 0) 1 1 Try.underlying22 hi hz0 hz1 hz2 rfl (by decide) (.slice (some ⟨w.heap.size, 0, none⟩) 1 1) 1 [.int .u8 3] rfl (own_one w _) ⟨b, off, none⟩ n c (Lib.byteCells l) rfl (by rw [byteCells_len, HN.out, Nat.mul_one]) hsrc (byteCells_one l) (by unfold maxLen; omega) (by omega) (by simp) ?_); intro v1 w1 hown1 hgrow1 _)
  go_ret
  exact ⟨_, rfl, hown1, ((Below.refl w.heap.size w).alloc (Nat.le_refl _) _).grown hgrow1 (by simp) (fun k hk => by cases hk; exact Nat.le_refl _)⟩

set_option maxRecDepth 100000 in
set_option maxHeartbeats 1000000 in
theorem rm_three (ao : Option Addr) (n c : Nat) (l t : List UInt8) (w : World) (hB : Bs w ao l) (hn : n = l.length) (hlt : l = 3 :: t) (hlen : l.length ≤ 1000000000) (hc1 : n ≤ c) :
    Calls Try.prog 17 #[.slice ao n c] w fun r w' => ∃ v', r = .returned v' ∧ w'.ownsRow w.heap.size 5 1 v' n (Lib.byteCells (2 :: t)) ∧ Below w.heap.size w w' := by
  obtain ⟨i0, hi, hz0, hz1, hz2⟩ := info_parts info5
  subst hlt
  have hnt : n = t.length + 1 := by rw [hn, List.length_cons]
  obtain ⟨b, off, rfl, hc⟩ := hB.addr (by simp)
  have hB2 : Bs w (some ⟨b, off + 1, none⟩) t := Bs.right (l := [3]) hB
  have hsrc := (hB2.alloc (.cells #[.int .u8 2] 5)).src
  have hn0 : 0 < n := by omega
  have hnb : n ≤ 1000000000 := by omega
  have hnz : ((n : Int) == 0) = false := beq_eq_false_iff_ne.2 (by omega)
  have HN : Hid (n = t.length + 1) := hnt
  clear hn hB hB2 hnt hlen
  have hcell : w.cell? ⟨b, off, none⟩ = some (.int .u8 3) := hc
  clear hc
  have h1n : (1 : Int) ≤ (n : Int) := by omega
  have hnc : (n : Int) ≤ (c : Int) := by omega
  have HE : Hid (1 + (n - 1) = n) := by show _ = _; omega
  by_cases hc2 : c = 1
  · obtain rfl : n = 1 := by omega
    subst hc2
    have ht : t = [] := List.eq_nil_of_length_eq_zero (by have := HN.out; omega)
    subst ht
    go_enter Try.func17, Try.ntmps17
    go_wp2_with (at_builtin; (refine wpList_append_own _ rfl (.tmp 18) (.tmp 20) 22 rfl w.heap.size 5 i0 (.int .u8 0) 1 1 Try.underlying22 hi hz0 hz1 hz2 rfl (by decide) (.slice (some ⟨w.heap.size, 0, none⟩) 1 1) 1 [.int .u8 2] rfl (own_one w _) ⟨b, off, none⟩ 0 0 [] rfl rfl (fun j v h => by simp at h) (fun v h => by cases h) (by unfold maxLen; omega) (by omega) (by simp) ?_); intro v1 w1 hown1 hgrow1 _)
    go_ret
    exact ⟨_, rfl, hown1, ((Below.refl w.heap.size w).alloc (Nat.le_refl _) _).grown hgrow1 (by simp) (fun k hk => by cases hk; exact Nat.le_refl _)⟩
  · have hcc : ¬ (1 : Int) = (c : Int) := by omega
    go_enter Try.func17, Try.ntmps17
    go_wp2_with (at_builtin; (refine wpList_append_own _ rfl (.tmp 18) (.tmp 20) 22 rfl w.heap.size 5 i0 (.int .u8 0) 1 1 Try.underlying22 hi hz0 hz1 hz2 rfl (by decide) (.slice (some ⟨w.heap.size, 0, none⟩) 1 1) 1 [.int .u8 2] rfl (own_one w _) ⟨b, off + 1, none⟩ (n - 1) (c - 1) (Lib.byteCells t) rfl (by rw [byteCells_len, Nat.mul_one, HN.out]; omega) hsrc (byteCells_one t) (by unfold maxLen; omega) (by omega) (by simp) ?_); intro v1 w1 hown1 hgrow1 _)
    go_ret
    rw [HE.out] at hown1
    exact ⟨_, rfl, hown1, ((Below.refl w.heap.size w).alloc (Nat.le_refl _) _).grown hgrow1 (by simp) (fun k hk => by cases hk; exact Nat.le_refl _)⟩

/-- The key of the record that locates a key. -/
def metaKey : List UInt8 → List UInt8
  | [] => [3, 255]
  | a :: t => if a.toNat = 3 then 2 :: t else 3 :: a :: t

theorem metaKey_three (a : UInt8) (t : List UInt8) (h : a.toNat = 3) : metaKey (a :: t) = 2 :: t := by
  show (if a.toNat = 3 then 2 :: t else 3 :: a :: t) = _
  rw [if_pos h]

theorem metaKey_high (a : UInt8) (t : List UInt8) (h : ¬ a.toNat = 3) : metaKey (a :: t) = 3 :: a :: t := by
  show (if a.toNat = 3 then 2 :: t else 3 :: a :: t) = _
  rw [if_neg h]

theorem metaKey_pos (l : List UInt8) : 0 < (metaKey l).length := by
  cases l with
  | nil => decide
  | cons a t =>
    by_cases h : a.toNat = 3
    · rw [metaKey_three a t h]; simp
    · rw [metaKey_high a t h]; simp

theorem metaKey_len (l : List UInt8) : (metaKey l).length ≤ l.length + 2 := by
  cases l with
  | nil => decide
  | cons a t =>
    by_cases h : a.toNat = 3
    · rw [metaKey_three a t h]; simp
    · rw [metaKey_high a t h]; simp

/-- RangeMetaKey at a key of 0x03 or above. -/
theorem rm_some (ao : Option Addr) (n c : Nat) (l : List UInt8) (w : World) (hB : Bs w ao l) (hn : n = l.length) (hl : 0 < l.length) (hlen : l.length ≤ 1000000000) (hc : n ≤ c) (h3 : 3 ≤ l[0].toNat) :
    Calls Try.prog 17 #[.slice ao n c] w fun r w' => ∃ g cap, r = .returned (.slice (some ⟨g, 0, none⟩) (metaKey l).length cap) ∧ (metaKey l).length ≤ cap ∧ Bs w' (some ⟨g, 0, none⟩) (metaKey l) ∧ Below w.heap.size w w' := by
  match l, hl with
  | a :: t, hl =>
    by_cases ha : a.toNat = 3
    · have ha3 : a = 3 := UInt8.toNat_inj.1 ha
      subst ha3
      have e : metaKey (3 :: t) = 2 :: t := metaKey_three 3 t rfl
      rw [e]
      refine (rm_three ao n c (3 :: t) t w hB hn rfl hlen hc).mono ?_
      rintro r w' ⟨v', rfl, hown, hb⟩
      obtain ⟨g, cap, rfl, _, _, h1, _, h2, h4⟩ := own_bs hown (by simp)
      exact ⟨g, cap, by rw [h2], by omega, h4, hb⟩
    · have h3' : 3 ≤ a.toNat := h3
      have e : metaKey (a :: t) = 3 :: a :: t := metaKey_high a t ha
      rw [e]
      refine (rm_high ao n c (a :: t) w hB hn hl hlen (by show 3 < a.toNat; omega)).mono ?_
      rintro r w' ⟨v', rfl, hown, hb⟩
      obtain ⟨g, cap, rfl, _, _, h1, _, h2, h4⟩ := own_bs hown (by simp)
      exact ⟨g, cap, by rw [h2], by omega, h4, hb⟩

theorem meta_order (a b : List UInt8) (ha : 0 < a.length) (hb : 0 < b.length) (ha3 : 3 ≤ a[0].toNat) (hb3 : 3 ≤ b[0].toNat) : cmp (metaKey a) (metaKey b) = cmp a b := by
  match a, b, ha, hb with
  | x :: s, y :: t, _, _ =>
    have hx : 3 ≤ x.toNat := ha3
    have hy : 3 ≤ y.toNat := hb3
    by_cases h1 : x.toNat = 3
    · by_cases h2 : y.toNat = 3
      · have e1 : x = 3 := UInt8.toNat_inj.1 h1
        have e2 : y = 3 := UInt8.toNat_inj.1 h2
        subst e1
        subst e2
        rw [metaKey_three _ _ rfl, metaKey_three _ _ rfl, cmp_cons_eq, cmp_cons_eq]
      · rw [metaKey_three _ _ h1, metaKey_high _ _ h2, cmp_cons_lt _ _ _ _ (by decide), cmp_cons_lt _ _ _ _ (by omega)]
    · by_cases h2 : y.toNat = 3
      · rw [metaKey_high _ _ h1, metaKey_three _ _ h2, cmp_cons_gt _ _ _ _ (by decide), cmp_cons_gt _ _ _ _ (by omega)]
      · rw [metaKey_high _ _ h1, metaKey_high _ _ h2, cmp_cons_eq]

theorem meta_before (a : List UInt8) (ha : 0 < a.length) (ha3 : 3 ≤ a[0].toNat) : cmp (metaKey a) a = -1 := by
  match a, ha with
  | x :: s, _ =>
    have hx : 3 ≤ x.toNat := ha3
    by_cases h1 : x.toNat = 3
    · rw [metaKey_three _ _ h1, cmp_cons_lt _ _ _ _ (by show 2 < x.toNat; omega)]
    · rw [metaKey_high _ _ h1, cmp_cons_lt _ _ _ _ (by show 3 < x.toNat; omega)]
end Go.Proofs.Qxb6605523a
