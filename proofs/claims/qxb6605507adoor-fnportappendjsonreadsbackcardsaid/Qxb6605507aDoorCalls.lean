import Derived.Test.Qxb6605507aDoorJson
import Derived.Laws.CopyOwn
import Derived.Lib.SliceRun
namespace Go.Proofs.Qxb6605507aDoor
open Go Go.RowKit

/-- A row of bytes of the call's own, with something in it, read as a slice of bytes. -/
theorem own_bs {w : World} {B n : Nat} {v : Value} {l : List UInt8} (h : w.ownsRow B 5 1 v n (Lib.byteCells l)) (hl : 0 < l.length) :
    ∃ g cap, v = .slice (some ⟨g, 0, none⟩) n cap ∧ B ≤ g ∧ g < w.heap.size ∧ n ≤ cap ∧ cap ≤ maxLen ∧ n = l.length ∧ Bs w (some ⟨g, 0, none⟩) l := by
  have hn : n = l.length := by simpa [byteCells_len] using h.1.symm
  rcases h.2 with ⟨rfl, h0⟩ | ⟨g, cap, cur, rfl, hb, hg, hc, hm, _, _⟩
  · omega
  · have hlt := (h.lt g rfl).2
    refine ⟨g, cap, rfl, hb, hlt, hc, hm, hn, .inr ⟨g, 0, rfl, fun i hi => ?_⟩⟩
    have := h.cells (g := g) rfl i (.int .u8 (l[i].toNat : Int)) (by simp [Lib.byteCells, hi])
    rw [Addr.add_lit] at this
    exact this

set_option maxRecDepth 100000 in
set_option maxHeartbeats 400000 in
theorem zzJSON_any (n : Int) (e : Bool) (ao : Option Addr) (l : List UInt8) (w : World) (h0 : -9223372036854775808 ≤ n) (h1 : n ≤ 9223372036854775807) (hB : Bs w ao l) (hlen : l.length ≤ 1000000000)
    (htab : Lib.TabBelow Tryd.prog w.heap.size w powName .u64 Lib.pow10Tab) :
    Calls Tryd.prog 14 #[.agg #[.int .i64 n, .bool e], .slice ao l.length l.length] w fun r w' => ∃ g cap, r = .returned (.slice (some ⟨g, 0, none⟩) (l ++ json n e).length cap) ∧ w.heap.size ≤ g ∧ g < w'.heap.size ∧ (l ++ json n e).length ≤ cap ∧ cap ≤ maxLen ∧ Bs w' (some ⟨g, 0, none⟩) (l ++ json n e) ∧ Below w.heap.size w w' := by
  have hB1 : Bs (w.alloc (.cells #[.int .i64 n, .bool e] 40)) ao l := hB.alloc _
  have hb : Below w.heap.size w (w.alloc (.cells #[.int .i64 n, .bool e] 40)) := (Below.refl _ _).alloc (Nat.le_refl _) _
  have htab1 : Lib.TabBelow Tryd.prog (w.alloc (.cells #[.int .i64 n, .bool e] 40)).heap.size (w.alloc (.cells #[.int .i64 n, .bool e] 40)) powName .u64 Lib.pow10Tab :=
    fun w' h => htab w' (hb.trans (h.mono (by simp)))
  have hC := appendJSON_any n e ao l (w.alloc (.cells #[.int .i64 n, .bool e] 40)) h0 h1 hB1 hlen htab1
  clear hB1 htab1 htab hB
  go_enter Tryd.func14, Tryd.ntmps14
  go_wp2_with (go_at_call 30; refine hC.mono ?_; rintro r w' ⟨v', rfl, hown, hbel⟩)
  go_ret
  obtain ⟨g, cap, rfl, hg, hlt, hc, hm, _, hbs⟩ := own_bs hown (by rw [List.length_append, json_len]; omega)
  exact ⟨g, cap, rfl, by simp at hg; omega, hlt, hc, hm, hbs, hb.trans (hbel.mono (by simp))⟩

set_option maxRecDepth 100000 in
set_option maxHeartbeats 400000 in
theorem portDoc_any (n : Int) (e : Bool) (w : World) :
    Calls Tryd.prog 19 #[.int .i64 n, .bool e] w fun r w' => r = .returned (.agg #[.int .i64 n, .bool e]) ∧ w' = w.alloc (.cells #[.int .i64 n, .bool e] 40) := by
  go_enter Tryd.func19, Tryd.ntmps19
  go_wp2
  exact bodyPost_ret (v := .agg #[.int .i64 n, .bool e]) (by simp [results, Tryd.results19, go_sem]) rfl ⟨rfl, rfl⟩

theorem clone_nil (w : World) : Calls Tryd.prog 18 #[.slice none 0 0] w fun r w' => r = .returned (.slice none 0 0) ∧ w' = w := by
  have he := fun w => Lib.run_eql_slice_nil (P := Tryd.prog) w 60 5 none 0 0 0 0 Tryd.underlying60
  go_enter Tryd.func18, Tryd.ntmps18
  go_wp2
  go_ret
  exact ⟨rfl, rfl⟩

/-- The block of a row of the call's own, whole. -/
theorem own_block {w : World} {B g n c : Nat} {xs : List Value} (h : w.ownsRow B 5 1 (.slice (some ⟨g, 0, none⟩) n c) n xs) : ∃ cur : List Value, w.heap[g]? = some (.cells cur.toArray 5 (0, 0)) ∧ n ≤ cur.length := by
  rcases h.2 with ⟨h0, _⟩ | ⟨g', cap, cur, hv, _, hg, hc, _, hs, _⟩
  · cases h0
  · cases hv
    exact ⟨cur.toList, by simpa using hg, by simp; omega⟩

theorem splice_bs {w : World} {g : Nat} {cur : List Value} {l : List UInt8} (h : w.heap[g]? = some (.cells (splice cur 0 (Lib.byteCells l)).toArray 5 (0, 0))) : Bs w (some ⟨g, 0, none⟩) l := by
  refine .inr ⟨g, 0, rfl, fun i hi => ?_⟩
  rw [Nat.zero_add, cell_of_row w g i _ 5 (0, 0) h]
  have hb : i < (Lib.byteCells l).length := by rw [byteCells_len]; exact hi
  simp only [splice, List.take_zero, List.nil_append, List.getElem?_toArray]
  rw [List.getElem?_append_left hb, List.getElem?_eq_getElem hb]
  simp [Lib.byteCells]

theorem byteCells_one (l : List UInt8) : ∀ v ∈ Lib.byteCells l, v.oneCell' = true := by
  intro v hv
  obtain ⟨_, _, rfl⟩ := List.mem_map.1 hv
  rfl

theorem Bs.src {w : World} {x : Addr} {l : List UInt8} (h : Bs w (some x) l) : ∀ j v, (Lib.byteCells l)[j]? = some v → w.cell? (x.add j) = some v := by
  intro j u hu
  rcases h with rfl | ⟨b, off, he, hc⟩
  · simp [Lib.byteCells] at hu
  · cases he
    rw [Addr.add_lit]
    unfold Lib.byteCells at hu
    rw [List.getElem?_map] at hu
    obtain ⟨y, hy, rfl⟩ := Option.map_eq_some_iff.1 hu
    obtain ⟨hj, rfl⟩ := List.getElem?_eq_some_iff.1 hy
    exact hc j hj

theorem size5 : (Tryd.prog.info? 5).map (·.size) = some 1 := by kernel_rfl

/-- What copy does at a row of the call's own that is just long enough. -/
theorem copy_fact {w w1 : World} {g n c : Nat} {x : Addr} {xs : List Value} {l : List UInt8} (hB : Bs w (some x) l) (hb1 : Below w.heap.size w w1) (hg : w.heap.size ≤ g) (hn : n = l.length) (hown : w1.ownsRow w.heap.size 5 1 (.slice (some ⟨g, 0, none⟩) n n) n xs) :
    ∃ w2, Sem.run Tryd.prog (Builtin.copy_ #[60, 60] 3 #[.slice (some ⟨g, 0, none⟩) n n, .slice (some x) n c]) w1 = .ok (goInt n) w2 ∧ Bs w2 (some ⟨g, 0, none⟩) l ∧ Below w.heap.size w w2 ∧ g < w2.heap.size := by
  subst hn
  obtain ⟨cur, hcur, hcl⟩ := own_block hown
  have hr := run_copy_row (P := Tryd.prog) w1 60 60 3 5 g 0 l.length l.length x l.length c cur.toArray 5 (Lib.byteCells l) Tryd.underlying60 size5 hcur (by rw [byteCells_len]; exact (Nat.min_self _).symm) (hB.below hb1).src (by rw [byteCells_len]; simpa using hcl) (byteCells_one l)
  have hh := setRow_heap w1 g cur.toArray (cur.toArray.toList.take 0 ++ (Lib.byteCells l ++ cur.toArray.toList.drop (0 + (Lib.byteCells l).length))).toArray 5 _ hcur
  refine ⟨_, by rw [hr, byteCells_len, List.append_assoc], splice_bs (cur := cur) hh, below_setRow hb1 hg _, (Array.getElem?_eq_some_iff.1 hh).1⟩

set_option maxRecDepth 100000 in
set_option maxHeartbeats 400000 in
theorem clone_some (x : Addr) (c : Nat) (l : List UInt8) (w : World) (hB : Bs w (some x) l) (hlen : l.length ≤ 1000000000) :
    Calls Tryd.prog 18 #[.slice (some x) l.length c] w fun r w' => r = .returned (.slice (some ⟨w.heap.size, 0, none⟩) l.length l.length) ∧ Bs w' (some ⟨w.heap.size, 0, none⟩) l ∧ Below w.heap.size w w' ∧ w.heap.size < w'.heap.size := by
  obtain ⟨i0, hi, hz0, hz1, hz2⟩ := info_parts info5
  have he := fun w => Lib.run_eql_slice_nil (P := Tryd.prog) w 60 5 (some x) l.length c 0 0 Tryd.underlying60
  go_enter Tryd.func18, Tryd.ntmps18
  go_wp2_with (first
    | (at_make; (refine wpList_make_full _ rfl (.tmp 7) (.tmp 7) 60 rfl w.heap.size 5 i0 (.int .u8 0) 1 Tryd.underlying60 hi hz0 hz1 .i64 .i64 l.length l.length l.length rfl rfl rfl rfl (by rw [hz2]; omega) (by unfold maxLen; omega) (Nat.le_refl _) ?_); intro w1 hown1 hgrow1; obtain ⟨w2, hcp, hbs2, hb2, hlt2⟩ := copy_fact (c := c) hB ((Below.refl w.heap.size w).grown hgrow1 (Nat.le_refl _) (fun k hk => by cases hk)) (Nat.le_refl _) rfl hown1; clear hown1 hgrow1))
  go_ret
  exact ⟨rfl, hbs2, hb2, hlt2⟩
end Go.Proofs.Qxb6605507aDoor
