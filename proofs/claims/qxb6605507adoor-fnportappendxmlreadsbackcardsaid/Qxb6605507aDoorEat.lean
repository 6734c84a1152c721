import Derived.Test.Qxb6605507aDoorRows
import Derived.Test.Qxb6605507aDoorBase
namespace Go.Proofs.Qxb6605507aDoor
open Go Go.RowKit

theorem prefix_all {lit rest : List UInt8} (h : lit = rest.take lit.length) : lit.isPrefixOf rest = true := by
  rw [List.isPrefixOf_iff_prefix]
  rw [h]
  exact List.take_prefix _ _

theorem prefix_short {lit rest : List UInt8} (h : rest.length < lit.length) : lit.isPrefixOf rest = false := by
  rw [Bool.eq_false_iff]
  intro e
  rw [List.isPrefixOf_iff_prefix] at e
  have := e.length_le
  omega

theorem prefix_not {lit rest : List UInt8} {k : Nat} (h1 : k < lit.length) (h2 : k < rest.length) (h : rest[k] ≠ lit[k]) : lit.isPrefixOf rest = false := by
  rw [Bool.eq_false_iff]
  intro e
  rw [List.isPrefixOf_iff_prefix] at e
  obtain ⟨t, rfl⟩ := e
  exact h (by rw [List.getElem_append_left h1])

theorem str_at (s : ByteArray) (k : Nat) (h : k < s.size) : s.data.toList[k]'(by rw [Array.length_toList]; exact h) = s[k] := rfl

set_option maxHeartbeats 400000 in
/-- hasAt at a place inside the row: whether the literal stands there. -/
theorem hasAt_any (l pre rest : List UInt8) (ao : Option Addr) (c : Nat) (i : Int) (s : ByteArray) (w : World) (hs : Bs w ao l) (hl : l.length ≤ 1000000000) (hz : s.size ≤ 1000000000)
    (hpre : l = pre ++ rest) (hi : i = (pre.length : Int)) :
    Calls Tryd.prog 32 #[.slice ao l.length c, .int .i64 i, .string s] w fun e w' => e = .returned (.bool (s.data.toList.isPrefixOf rest)) ∧ ∃ n, w' = w.drewN n := by
  subst hi
  have hlen : l.length = pre.length + rest.length := by rw [hpre, List.length_append]
  have hsz : s.data.toList.length = s.size := by rw [Array.length_toList]; rfl
  by_cases hshort : rest.length < s.size
  · have HF : Hid (s.data.toList.isPrefixOf rest = false) := prefix_short (by omega)
    have hb1 : pre.length ≤ l.length := by omega
    have hb2 : (l.length : Int) - pre.length < s.size := by omega
    clear hlen hsz hpre
    go_enter Tryd.func32, Tryd.ntmps32
    go_wp2
    go_ret
    exact ⟨ret_bool HF.out.symm, 0, rfl⟩
  · have hb1 : pre.length ≤ l.length := by omega
    have hb2 : (s.size : Int) ≤ (l.length : Int) - pre.length := by omega
    have HP : Hid (l = pre ++ rest) := hpre
    have HZ : Hid (s.data.toList.length = s.size) := hsz
    have HL : Hid (l.length = pre.length + rest.length) := hlen
    have d1 : decide ((pre.length : Int) < 0) = false := by simp
    have d2 : decide (l.length < pre.length) = false := by simp; omega
    have d3 : decide ((l.length : Int) - (pre.length : Int) < (s.size : Int)) = false := by simp; omega
    clear hpre hsz hlen
    go_enter Tryd.func32, Tryd.ntmps32
    go_wp2
    go_loopw [7] (fun i wr => ∃ k n : Nat, k ≤ s.size ∧ i = .int .i64 k ∧ wr = w.drewN n ∧ s.data.toList.take k = rest.take k) (fun i _ => s.size - (intOf i).toNat)
    case atStart => exact ⟨0, 0, Nat.zero_le _, rfl, rfl, by simp⟩
    case round =>
      obtain ⟨k, n, hk, rfl, rfl, ht⟩ := hrel
      have HT : Hid (s.data.toList.take k = rest.take k) := ht
      clear ht
      by_cases hlt : k < s.size
      · have hltl : pre.length + k < l.length := by omega
        have hlr : k < rest.length := by omega
        have hls : k < s.data.toList.length := by rw [HZ.out]; exact hlt
        rcases hs with rfl | ⟨b, off, rfl, hc⟩
        · simp at hltl
        have hx := hc (pre.length + k) hltl
        have hxr : l[pre.length + k] = rest[k] := by
          have e := HP.out
          subst e
          rw [List.getElem_append_right (by omega)]
          congr 1
          omega
        rw [hxr] at hx
        clear hc
        have HS : Hid (rest[k] = s[k] → s.data.toList.take (k + 1) = rest.take (k + 1)) := fun e => take_step hls hlr HT.out (by rw [str_at s k hlt, e])
        have HN : Hid (rest[k] ≠ s[k] → s.data.toList.isPrefixOf rest = false) := fun e => prefix_not hls hlr (by rw [str_at s k hlt]; exact e)
        generalize rest[k] = x at hx HS HN
        by_cases hxy : x = s[k]
        · subst hxy
          have hi0 : (0 : Int) ≤ (pre.length : Int) + k := by omega
          have hi1 : (pre.length : Int) + k < (l.length : Int) := by omega
          have hi2 : (k : Int) < (s.size : Int) := by omega
          go_wp2_with fail
          go_quiet (fail)
          go_wp2
          go_roundw
          case rel => exact ⟨k + 1, n + nq, by omega, by go_num, by simp, HS.out (by simp)⟩
          case measure => simp [intOf]; omega
        · have hne := byte_ne hxy
          have hi0 : (0 : Int) ≤ (pre.length : Int) + k := by omega
          have hi1 : (pre.length : Int) + k < (l.length : Int) := by omega
          have hi2 : (k : Int) < (s.size : Int) := by omega
          go_wp2_with fail
          go_quiet (fail)
          go_wp2
          go_ret
          exact ⟨ret_bool (HN.out hxy).symm, _, World.drewN_drewN ..⟩
      · go_wp2
        go_ret
        refine ⟨ret_bool ?_, _, rfl⟩
        have h1 := HT.out
        have h2 := HZ.out
        rw [List.take_of_length_le (by omega)] at h1
        rw [prefix_all (by rw [show s.data.toList.length = k from by omega]; exact h1)]

set_option maxHeartbeats 400000 in
/-- eat where the literal stands: the place behind it, and true. -/
theorem eat_yes (l pre rest : List UInt8) (ao : Option Addr) (c : Nat) (i : Int) (s : ByteArray) (w : World) (hs : Bs w ao l) (hl : l.length ≤ 1000000000) (hz : s.size ≤ 1000000000)
    (hpre : l = pre ++ rest) (hi : i = (pre.length : Int)) (hp : s.data.toList.isPrefixOf rest = true) :
    Calls Tryd.prog 28 #[.slice ao l.length c, .int .i64 i, .string s] w fun e w' => e = .returned (.tuple #[.int .i64 ((pre.length : Int) + (s.size : Int)), .bool true]) ∧ ∃ n, w' = w.drewN n := by
  have hc := hasAt_any l pre rest ao c i s w hs hl hz hpre hi
  rw [hp] at hc
  have hb : (pre.length : Int) ≤ 1000000000 := by
    have : l.length = pre.length + rest.length := by rw [hpre, List.length_append]
    omega
  subst hi
  have HC := hc
  clear hpre hp hs hc
  go_enter Tryd.func28, Tryd.ntmps28
  go_wp2_with (go_at_call 32; refine HC.mono ?_; rintro e w' ⟨rfl, n, rfl⟩)
  go_ret2
  exact ⟨rfl, _, rfl⟩

set_option maxHeartbeats 400000 in
/-- eat where the literal does not stand: the same place, and false. -/
theorem eat_no (l pre rest : List UInt8) (ao : Option Addr) (c : Nat) (i : Int) (s : ByteArray) (w : World) (hs : Bs w ao l) (hl : l.length ≤ 1000000000) (hz : s.size ≤ 1000000000)
    (hpre : l = pre ++ rest) (hi : i = (pre.length : Int)) (hp : s.data.toList.isPrefixOf rest = false) :
    Calls Tryd.prog 28 #[.slice ao l.length c, .int .i64 i, .string s] w fun e w' => e = .returned (.tuple #[.int .i64 i, .bool false]) ∧ ∃ n, w' = w.drewN n := by
  have hc := hasAt_any l pre rest ao c i s w hs hl hz hpre hi
  rw [hp] at hc
  have HC := hc
  clear hpre hp hs hc hi
  go_enter Tryd.func28, Tryd.ntmps28
  go_wp2_with (go_at_call 32; refine HC.mono ?_; rintro e w' ⟨rfl, n, rfl⟩)
  go_ret2
  exact ⟨rfl, _, rfl⟩
end Go.Proofs.Qxb6605507aDoor
