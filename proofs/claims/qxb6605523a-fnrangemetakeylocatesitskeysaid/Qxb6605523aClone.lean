import Derived.Test.Qxb6605523aRows
import Derived.Test.Qxb6605523aBase
namespace Go.Proofs.Qxb6605523a
open Go Go.RowKit

theorem info5 : (Try.prog.info? 5).map (fun i => (i.zero, i.size, i.bytes)) = some (some (.int .u8 0), 1, 1) := by kernel_rfl

theorem clone_nil (w : World) : Calls Try.prog 10 #[.slice none 0 0] w fun r w' => r = .returned (.slice none 0 0) ∧ w' = w := by
  have he := fun w => Lib.run_eql_slice_nil (P := Try.prog) w 22 5 none 0 0 0 0 Try.underlying22
  go_enter Try.func10, Try.ntmps10
  go_wp2
  go_ret
  exact ⟨rfl, rfl⟩

/-- The row being filled: its first k cells are the bytes' own. -/
def Filled (w0 w : World) (g n k : Nat) (l : List UInt8) : Prop :=
  ∃ xs, w.ownsRow w0.heap.size 5 1 (.slice (some ⟨g, 0, none⟩) n n) n xs ∧ (∀ i (h : i < l.length), i < k → xs[i]? = some (.int .u8 (l[i].toNat : Int))) ∧ Below w0.heap.size w0 w

theorem Filled.step {w0 w : World} {g n k : Nat} {l : List UInt8} (h : Filled w0 w g n k l) (hk : k < l.length) (hn : n = l.length) (hg : w0.heap.size ≤ g) :
    (∃ u, w.cell? ⟨g, k, none⟩ = some u) ∧ w.frozen? ⟨g, k, none⟩ = false ∧ Filled w0 (w.setCell ⟨g, k, none⟩ (.int .u8 (l[k].toNat : Int))) g n (k + 1) l := by
  obtain ⟨xs, hown, hx, hb⟩ := h
  have hxl : xs.length = n := by simpa using hown.1
  have hc := hown.cellAt k (by omega)
  refine ⟨⟨_, hc.trans (List.getElem?_eq_getElem (by omega))⟩, hown.frozenAt k, _, (hown.stored k _).1, fun i hi hik => ?_, hb.setCell hg _⟩
  rw [List.getElem?_set]
  by_cases e : k = i
  · subst e
    rw [if_pos rfl, if_pos (by omega)]
  · rw [if_neg e]
    exact hx i hi (by omega)

theorem Filled.done {w0 w : World} {g n : Nat} {l : List UInt8} (h : Filled w0 w g n l.length l) (hn : n = l.length) : Bs w (some ⟨g, 0, none⟩) l ∧ Below w0.heap.size w0 w := by
  obtain ⟨xs, hown, hx, hb⟩ := h
  refine ⟨.inr ⟨g, 0, rfl, fun i hi => ?_⟩, hb⟩
  rw [Nat.zero_add, hown.cellAt i (by omega)]
  exact hx i hi hi

set_option maxHeartbeats 1000000 in
set_option maxRecDepth 100000 in
theorem clone_some (x : Addr) (c : Nat) (l : List UInt8) (w : World) (hB : Bs w (some x) l) (hlen : l.length ≤ 1000000000) :
    Calls Try.prog 10 #[.slice (some x) l.length c] w fun r w' => r = .returned (.slice (some ⟨w.heap.size, 0, none⟩) l.length l.length) ∧ Bs w' (some ⟨w.heap.size, 0, none⟩) l ∧ Below w.heap.size w w' := by
  obtain ⟨i0, hi, hz0, hz1, hz2⟩ := info_parts info5
  have he := fun w => Lib.run_eql_slice_nil (P := Try.prog) w 22 5 (some x) l.length c 0 0 Try.underlying22
  go_enter Try.func10, Try.ntmps10
  go_wp2_with (at_make; (refine wpList_make_full _ rfl (.tmp 8) (.tmp 8) 22 rfl w.heap.size 5 i0 (.int .u8 0) 1 Try.underlying22 hi hz0 hz1 .i64 .i64 l.length l.length l.length rfl rfl rfl rfl (by rw [hz2]; omega) (by unfold maxLen; omega) (Nat.le_refl _) ?_); intro w1 hown1 hgrow1)
  have hF0 : Filled w w1 w.heap.size l.length 0 l := ⟨_, hown1, fun i _ h => absurd h (by omega), (Below.refl w.heap.size w).grown hgrow1 (Nat.le_refl _) (fun k hk => by cases hk)⟩
  clear hown1 hgrow1 he
  go_loopw [4] (fun i wr => ∃ k : Nat, k ≤ l.length ∧ i = .int .i64 k ∧ Filled w wr w.heap.size l.length k l) (fun i _ => l.length - (intOf i).toNat)
  case atStart => exact ⟨0, Nat.zero_le _, rfl, hF0⟩
  case round =>
    obtain ⟨k, hk, rfl, hF⟩ := hrel
    clear hF0
    by_cases hlt : k < l.length
    · have hbel : Below w.heap.size w wr := by obtain ⟨_, _, _, h⟩ := hF; exact h
      have hB2 := hB.below hbel
      rcases hB2 with h | ⟨b, off, he, hc⟩
      · subst h; simp at hlt
      cases he
      obtain ⟨⟨u, hu⟩, hfz, hF1⟩ := hF.step hlt rfl (Nat.le_refl _)
      have hx := hc k hlt
      generalize l[k] = y at hx hF1
      clear hc hF hbel hB
      have hi1 : (k : Int) < (l.length : Int) := by omega
      go_wp2
      go_roundw
      case rel => exact ⟨k + 1, by omega, by go_num, hF1⟩
      case measure => simp [intOf]; omega
    · obtain rfl : k = l.length := by omega
      have hD := hF.done rfl
      clear hF
      go_wp2
      go_ret
      exact ⟨rfl, hD.1, hD.2⟩

theorem clone_any (ao : Option Addr) (n c : Nat) (l : List UInt8) (w : World) (hB : Bs w ao l) (hn : n = l.length) (hnil : ao = none → l = [] ∧ c = 0) (hlen : l.length ≤ 1000000000) :
    Calls Try.prog 10 #[.slice ao n c] w fun r w' => ∃ ao', r = .returned (.slice ao' n n) ∧ Bs w' ao' l ∧ Below w.heap.size w w' ∧ (ao' = none → l = []) := by
  subst hn
  cases ao with
  | none =>
    obtain ⟨rfl, rfl⟩ := hnil rfl
    refine (clone_nil w).mono ?_
    rintro e w' ⟨rfl, rfl⟩
    exact ⟨none, rfl, .inl rfl, Below.refl _ _, fun _ => rfl⟩
  | some x =>
    refine (clone_some x c l w hB hlen).mono ?_
    rintro e w' ⟨rfl, hb, hbel⟩
    exact ⟨_, rfl, hb, hbel, fun h => by cases h⟩
end Go.Proofs.Qxb6605523a
