import Derived.Test.Qxb6605523aEndPlain
import Derived.Test.Qxb6605523aClone
import Derived.Test.Qxb6605523aEqual
namespace Go.Proofs.Qxb6605523a
open Go Go.RowKit

set_option maxRecDepth 100000 in
set_option maxHeartbeats 1000000 in
theorem end_empty (a : Option Addr) (c : Nat) (w : World) :
    Calls Try.prog 22 #[.slice a 0 c] w fun r w' => r = .returned (.slice none 0 0) ∧ w' = w := by
  cases a with
  | none =>
    go_enter Try.func22, Try.ntmps22
    go_wp2
    go_loop [4] (fun i => i = .int .i64 (-1)) (fun _ => 0)
    case atStart => rfl
    case round =>
      subst hrel
      go_wp2
      go_ret
      exact ⟨rfl, rfl⟩
  | some x =>
    go_enter Try.func22, Try.ntmps22
    go_wp2
    go_loop [4] (fun i => i = .int .i64 (-1)) (fun _ => 0)
    case atStart => rfl
    case round =>
      subst hrel
      go_wp2
      go_ret
      exact ⟨rfl, rfl⟩

/-- The copy of the head, owned by the call. -/
theorem own_copy {w : World} {B n : Nat} {v : Value} {l : List UInt8} (h : w.ownsRow B 5 1 v n (Lib.byteCells l)) (hl : 0 < l.length) :
    ∃ g cap, v = .slice (some ⟨g, 0, none⟩) n cap ∧ B ≤ g ∧ n ≤ cap ∧ cap ≤ maxLen ∧ (∀ i (hi : i < l.length), w.cell? ⟨g, i, none⟩ = some (.int .u8 (l[i].toNat : Int))) ∧ (∀ i, w.frozen? ⟨g, i, none⟩ = false) := by
  obtain ⟨g, cap, rfl, hb, _, hc, hm, hn, hbs⟩ := own_bs h hl
  refine ⟨g, cap, rfl, hb, hc, hm, fun i hi => ?_, h.frozenAt⟩
  rcases hbs with e | ⟨b, off, e, hx⟩
  · subst e; simp at hl
  · cases e
    have := hx i hi
    rwa [Nat.zero_add] at this

set_option maxRecDepth 100000 in
set_option maxHeartbeats 1000000 in
/-- PrefixEnd where every byte is 0xff: nil. -/
theorem end_ff (a : Option Addr) (n c : Nat) (l : List UInt8) (w : World) (hA : Bs w a l) (hn : n = l.length) (hl : 0 < l.length) (hlen : l.length ≤ 1000000000) (hff : ffB l = true) :
    Calls Try.prog 22 #[.slice a n c] w fun r w' => r = .returned (.slice none 0 0) ∧ Below w.heap.size w w' := by
  obtain ⟨i0, hi, hz0, hz1, hz2⟩ := info_parts info5
  obtain ⟨b, off, rfl, _⟩ := hA.addr hl
  have hsrc := hA.src
  have HN : Hid (n = l.length) := hn
  have HF : Hid (ffB l = true) := hff
  have hnb : n ≤ 1000000000 := by omega
  have hn0 : 0 < n := by omega
  clear hn hff hA hlen
  go_enter Try.func22, Try.ntmps22
  go_wp2_with (at_builtin; (refine wpList_append_own _ rfl (.const (.slice none 0 0)) (.tmp 5) 22 rfl w.heap.size 5 i0 (.int .u8 0) 1 1 Try.underlying22 hi hz0 hz1 hz2 rfl (by decide) (.slice none 0 0) 0 [] rfl (World.ownsRow_nil _ _ _ _) ⟨b, off, none⟩ n c (Lib.byteCells l) rfl (by rw [byteCells_len, Nat.mul_one]; exact HN.out.symm) hsrc (byteCells_one l) (by unfold maxLen; omega) (by omega) (Nat.le_refl _) ?_); intro v1 w1 hown1 hgrow1 _; simp only [Nat.zero_add, List.nil_append] at hown1; obtain ⟨g, cap, rfl, hg, hcap, hcm, hcell, hfz⟩ := own_copy hown1 hl; have hbel := (Below.refl w.heap.size w).grown hgrow1 (Nat.le_refl _) (fun k hk => by cases hk); have HC : Hid (∀ i (hi : i < l.length), w1.cell? ⟨g, i, none⟩ = some (.int .u8 (l[i].toNat : Int))) := hcell; clear hown1 hgrow1 hcell hfz hcm)
  go_loop [4] (fun i => ∃ k : Nat, k ≤ n ∧ i = .int .i64 ((k : Int) - 1)) (fun i => (intOf i + 1).toNat)
  case atStart => exact ⟨n, Nat.le_refl _, rfl⟩
  case round =>
    obtain ⟨k, hk, rfl⟩ := hrel
    by_cases hk0 : k = 0
    · subst hk0
      go_wp2
      go_ret
      exact ⟨rfl, hbel⟩
    · obtain ⟨j, rfl⟩ : ∃ j, k = j + 1 := ⟨k - 1, by omega⟩
      have e1 : ((j + 1 : Nat) : Int) - 1 = (j : Int) := by omega
      rw [e1]
      have hj : j < l.length := by have := HN.out; omega
      have hcj := HC.out j hj
      rw [ffB_at HF.out j hj] at hcj
      have hcj' : w1.cell? ⟨g, j, none⟩ = some (.int .u8 255) := hcj
      clear hcj e1 hk0
      have hj0 : (0 : Int) ≤ (j : Int) := by omega
      have hj1 : (j : Int) < (n : Int) := by omega
      go_wp2
      go_round
      case rel => exact ⟨j, by omega, rfl⟩
      case measure => simp [intOf]

/-- The row behind the store of the raised byte: its head reads as the end of the head. -/
theorem end_row {w0 w : World} {g n cap : Nat} {q r : List UInt8} {x : UInt8} (hx : x ≠ 255) (h : w.ownsRow w0.heap.size 5 1 (.slice (some ⟨g, 0, none⟩) n cap) n (Lib.byteCells (q ++ x :: r))) (hg : w0.heap.size ≤ g) (hb : Below w0.heap.size w0 w) :
    Bs (w.setCell ⟨g, q.length, none⟩ (.int .u8 ((x.toNat : Int) + 1))) (some ⟨g, 0, none⟩) (q ++ [x + 1]) ∧ Below w0.heap.size w0 (w.setCell ⟨g, q.length, none⟩ (.int .u8 ((x.toNat : Int) + 1))) := by
  obtain ⟨h1, h2⟩ := byte_succ hx
  have hn : n = (q ++ x :: r).length := by simpa [byteCells_len] using h.1.symm
  have hlen : (q ++ x :: r).length = q.length + (r.length + 1) := by simp
  refine ⟨.inr ⟨g, 0, rfl, fun i hi => ?_⟩, hb.setCell hg _⟩
  rw [List.length_append, List.length_cons, List.length_nil] at hi
  rw [Nat.zero_add, (h.stored q.length (.int .u8 ((x.toNat : Int) + 1))).1.cellAt i (by omega), List.getElem?_set]
  by_cases e : q.length = i
  · subst e
    rw [if_pos rfl, if_pos (by rw [byteCells_len]; omega)]
    rw [List.getElem_append_right (Nat.le_refl _)]
    simp [h2]
  · rw [if_neg e]
    have hiq : i < q.length := by omega
    rw [List.getElem_append_left hiq]
    have hib : i < (Lib.byteCells (q ++ x :: r)).length := by rw [byteCells_len]; omega
    rw [List.getElem?_eq_getElem hib]
    simp only [Lib.byteCells, List.getElem_map, List.getElem_append_left hiq]

set_option maxRecDepth 100000 in
set_option maxHeartbeats 1000000 in
/-- PrefixEnd where a last byte x below 0xff stands: everything up to it, x raised by one. -/
theorem end_some (a : Option Addr) (n c : Nat) (l q r : List UInt8) (x : UInt8) (w : World) (hA : Bs w a l) (hn : n = l.length) (hlen : l.length ≤ 1000000000) (hlq : l = q ++ x :: r) (hx : x ≠ 255) (hr : ffB r = true) :
    Calls Try.prog 22 #[.slice a n c] w fun rr w' => ∃ g cap, rr = .returned (.slice (some ⟨g, 0, none⟩) (q.length + 1) cap) ∧ Bs w' (some ⟨g, 0, none⟩) (q ++ [x + 1]) ∧ Below w.heap.size w w' := by
  obtain ⟨i0, hi, hz0, hz1, hz2⟩ := info_parts info5
  have hll : l.length = q.length + (r.length + 1) := by rw [hlq]; simp
  have hl : 0 < l.length := by omega
  obtain ⟨b, off, rfl, _⟩ := hA.addr hl
  have hsrc := hA.src
  have HN : Hid (n = l.length) := hn
  have hnq : q.length < n := by omega
  have HQ : Hid (l = q ++ x :: r) := hlq
  have HX : Hid (x ≠ 255) := hx
  have HR : Hid (ffB r = true) := hr
  have HLL : Hid (l.length = q.length + (r.length + 1)) := hll
  have hnb : n ≤ 1000000000 := by omega
  have hn0 : 0 < n := by omega
  obtain ⟨hx1, _⟩ := byte_succ hx
  have hxb : ((x.toNat : Int) != 255) = true := by rw [bne_iff_ne]; omega
  clear hn hr hA hlen hlq hx hll
  go_enter Try.func22, Try.ntmps22
  go_wp2_with (at_builtin; (refine wpList_append_own _ rfl (.const (.slice none 0 0)) (.tmp 5) 22 rfl w.heap.size 5 i0 (.int .u8 0) 1 1 Try.underlying22 hi hz0 hz1 hz2 rfl (by decide) (.slice none 0 0) 0 [] rfl (World.ownsRow_nil _ _ _ _) ⟨b, off, none⟩ n c (Lib.byteCells l) rfl (by rw [byteCells_len, Nat.mul_one]; exact HN.out.symm) hsrc (byteCells_one l) (by unfold maxLen; omega) (by omega) (Nat.le_refl _) ?_); intro v1 w1 hown1 hgrow1 _; simp only [Nat.zero_add, List.nil_append] at hown1; obtain ⟨g, cap, rfl, hg, hcap, hcm, hcell, hfz⟩ := own_copy hown1 hl; have hbel := (Below.refl w.heap.size w).grown hgrow1 (Nat.le_refl _) (fun k hk => by cases hk); have HC : Hid (∀ i (hi : i < l.length), w1.cell? ⟨g, i, none⟩ = some (.int .u8 (l[i].toNat : Int))) := hcell; clear hgrow1 hcell hcm)
  have HO : Hid (w1.ownsRow w.heap.size 5 1 (.slice (some ⟨g, 0, none⟩) n cap) n (Lib.byteCells l)) := hown1
  have HFZ : Hid (∀ i, w1.frozen? ⟨g, i, none⟩ = false) := hfz
  clear hown1 hfz
  go_loop [4] (fun i => ∃ k : Nat, q.length + 1 ≤ k ∧ k ≤ n ∧ i = .int .i64 ((k : Int) - 1)) (fun i => (intOf i + 1).toNat)
  case atStart => exact ⟨n, by omega, Nat.le_refl _, rfl⟩
  case round =>
    obtain ⟨k, hkq, hk, rfl⟩ := hrel
    obtain ⟨j, rfl⟩ : ∃ j, k = j + 1 := ⟨k - 1, by omega⟩
    have e1 : ((j + 1 : Nat) : Int) - 1 = (j : Int) := by omega
    rw [e1]
    have hj : j < l.length := by have := HN.out; omega
    have hcj := HC.out j hj
    have hj0 : (0 : Int) ≤ (j : Int) := by omega
    have hj1 : (j : Int) < (n : Int) := by omega
    clear e1
    by_cases hjq : j = q.length
    · subst hjq
      have hcx : w1.cell? ⟨g, q.length, none⟩ = some (.int .u8 (x.toNat : Int)) := by
        rw [hcj]
        have : l[q.length] = x := by
          simp only [HQ.out]
          rw [List.getElem_append_right (Nat.le_refl _)]
          simp
        rw [this]
      have hff := HFZ.out q.length
      have HE := end_row (w0 := w) HX.out (HQ.out ▸ HO.out) hg hbel
      clear hcj
      generalize x.toNat = z at hcx hx1 hxb HE
      have hcc : (q.length : Int) + 1 ≤ (cap : Int) := by omega
      go_wp2
      go_ret
      exact ⟨g, ⟨cap, rfl⟩, HE.1, HE.2⟩
    · have hgt : q.length < j := by omega
      have hcx : w1.cell? ⟨g, j, none⟩ = some (.int .u8 255) := by
        rw [hcj]
        have : l[j] = 255 := by
          simp only [HQ.out]
          rw [List.getElem_append_right (by omega)]
          obtain ⟨d, hd⟩ : ∃ d, j - q.length = d + 1 := ⟨j - q.length - 1, by omega⟩
          simp only [hd, List.getElem_cons_succ]
          exact ffB_at HR.out d (by have := HLL.out; omega)
        rw [this]
        rfl
      clear hcj hjq
      go_wp2
      go_round
      case rel => exact ⟨j, by omega, by omega, rfl⟩
      case measure => simp [intOf]

end Go.Proofs.Qxb6605523a
