import Derived.Test.Qxb6605507aDoorShelf
import Derived.Test.Qxb6605507aDoorAppend
import Derived.Test.Qxb6605507aDoorPlain
namespace Go.Proofs.Qxb6605507aDoor
open Go Go.RowKit

theorem info5 : (Tryd.prog.info? 5).map (fun i => (i.zero, i.size, i.bytes)) = some (some (.int .u8 0), 1, 1) := by kernel_rfl

/-- The flag as JSON writes it. -/
def flagText (e : Bool) : List UInt8 := if e then [34, 116, 114, 117, 101, 34] else [34, 102, 97, 108, 115, 101, 34]

theorem flagText_len (e : Bool) : (flagText e).length ≤ 7 := by cases e <;> decide

set_option maxHeartbeats 400000 in
theorem flag_true (B n : Nat) (sv : Value) (xs : List Value) (w : World) (hown : w.ownsRow B 5 1 sv n xs) (hBw : B ≤ w.heap.size) (hlim : n + 7 ≤ 140737488355328) :
    Calls Tryd.prog 34 #[.bool true, sv] w fun r w' => ∃ v', r = .returned v' ∧ w'.ownsRow B 5 1 v' (n + 6) (xs ++ Lib.byteCells [34, 116, 114, 117, 101, 34]) ∧ Below B w w' := by
  obtain ⟨i0, hi, hz0, hz1, hz2⟩ := info_parts info5
  go_enter Tryd.func34, Tryd.ntmps34
  go_wp2_with (at_builtin; refine Lib.wpList_append_own_string _ rfl (.tmp 6) (.const (.string ⟨#[34, 116, 114, 117, 101, 34]⟩)) 60 9 rfl B 5 i0 Tryd.underlying60 Tryd.underlying9 hi hz0 hz1 hz2 sv n xs rfl hown ⟨#[34, 116, 114, 117, 101, 34]⟩ rfl (by unfold maxLen; show n + 6 ≤ _; omega) (by show n + 6 ≤ _; omega) hBw ?_; intro v1 w1 hown1 hgrow1 _)
  go_ret
  exact ⟨_, rfl, hown1, (Below.refl _ _).grown hgrow1 hBw (fun k hk => (hown.lt k hk).1)⟩

set_option maxHeartbeats 400000 in
theorem flag_false (B n : Nat) (sv : Value) (xs : List Value) (w : World) (hown : w.ownsRow B 5 1 sv n xs) (hBw : B ≤ w.heap.size) (hlim : n + 7 ≤ 140737488355328) :
    Calls Tryd.prog 34 #[.bool false, sv] w fun r w' => ∃ v', r = .returned v' ∧ w'.ownsRow B 5 1 v' (n + 7) (xs ++ Lib.byteCells [34, 102, 97, 108, 115, 101, 34]) ∧ Below B w w' := by
  obtain ⟨i0, hi, hz0, hz1, hz2⟩ := info_parts info5
  go_enter Tryd.func34, Tryd.ntmps34
  go_wp2_with (at_builtin; refine Lib.wpList_append_own_string _ rfl (.tmp 8) (.const (.string ⟨#[34, 102, 97, 108, 115, 101, 34]⟩)) 60 9 rfl B 5 i0 Tryd.underlying60 Tryd.underlying9 hi hz0 hz1 hz2 sv n xs rfl hown ⟨#[34, 102, 97, 108, 115, 101, 34]⟩ rfl (by unfold maxLen; show n + 7 ≤ _; omega) (by show n + 7 ≤ _; omega) hBw ?_; intro v1 w1 hown1 hgrow1 _)
  go_ret
  exact ⟨_, rfl, hown1, (Below.refl _ _).grown hgrow1 hBw (fun k hk => (hown.lt k hk).1)⟩

/-- (flag).appendJSON onto a slice of the call's own. -/
theorem flag_any (e : Bool) (B n : Nat) (sv : Value) (xs : List Value) (w : World) (hown : w.ownsRow B 5 1 sv n xs) (hBw : B ≤ w.heap.size) (hlim : n + 7 ≤ 140737488355328) :
    Calls Tryd.prog 34 #[.bool e, sv] w fun r w' => ∃ v', r = .returned v' ∧ w'.ownsRow B 5 1 v' (n + (flagText e).length) (xs ++ Lib.byteCells (flagText e)) ∧ Below B w w' := by
  cases e
  · exact flag_false B n sv xs w hown hBw hlim
  · exact flag_true B n sv xs w hown hBw hlim

/-- A port as JSON writes it. -/
def json (n : Int) (e : Bool) : List UInt8 := [123, 34, 36, 34, 58] ++ (Lib.itoa n ++ ([44, 34, 64, 101, 110, 97, 98, 108, 101, 100, 34, 58] ++ (flagText e ++ [125])))

theorem json_len (n : Int) (e : Bool) : (json n e).length = 18 + (Lib.itoa n).length + (flagText e).length := by
  simp only [json, List.length_append, List.length_cons, List.length_nil]; omega

theorem byteCells_len (l : List UInt8) : (Lib.byteCells l).length = l.length := by simp [Lib.byteCells]
theorem byteCells_append (l m : List UInt8) : Lib.byteCells (l ++ m) = Lib.byteCells l ++ Lib.byteCells m := by simp [Lib.byteCells]

/-- A slice that reads as bytes still reads so behind what leaves its block alone. -/
theorem Bs.below {w w' : World} {ao : Option Addr} {l : List UInt8} (h : Bs w ao l) (hb : Below w.heap.size w w') : Bs w' ao l := by
  rcases h with rfl | ⟨b, off, rfl, hc⟩
  · exact .inl rfl
  · refine .inr ⟨b, off, rfl, fun i hi => ?_⟩
    have h1 := hc i hi
    rw [hb.cell (p := ⟨b, off + i, none⟩) (World.block_lt_of_cell? w _ h1)]
    exact h1

theorem Bs.alloc {w : World} {ao : Option Addr} {l : List UInt8} (h : Bs w ao l) (o : Obj) : Bs (w.alloc o) ao l :=
  h.below ((Below.refl _ _).alloc (Nat.le_refl _) o)

/-- The boxed port, read in a later world. -/
theorem box_cells {w w2 : World} {n : Int} {e : Bool} (h : Below (w.heap.size + 1) (w.alloc (.cells #[.int .i64 n, .bool e] 40)) w2) :
    w2.cell? ⟨w.heap.size, 0, none⟩ = some (.int .i64 n) ∧ w2.cell? ⟨w.heap.size, 1, none⟩ = some (.bool e) := by
  constructor
  · rw [h.cell (p := ⟨w.heap.size, 0, none⟩) (by simp)]
    simp
  · rw [h.cell (p := ⟨w.heap.size, 1, none⟩) (by simp)]
    simp

theorem one_cell (w : World) (u : Value) (t : TypeId) : ∀ j x, [u][j]? = some x → (w.alloc (.cells #[u] t)).cell? ((⟨w.heap.size, 0, none⟩ : Addr).add j) = some x := by
  intro j x hj
  match j, hj with
  | 0, hj => simp at hj; subst hj; simp [Addr.add]

theorem box_below {w w2 : World} {o : Obj} (h : Below (w.heap.size + 1) (w.alloc o) w2) : Below w.heap.size w w2 :=
  ((Below.refl _ _).alloc (Nat.le_refl _) o).trans (h.mono (by omega))

theorem box_tab {w w2 : World} {o : Obj} (h : Below (w.heap.size + 1) (w.alloc o) w2) (htab : Lib.TabBelow Tryd.prog w.heap.size w powName .u64 Lib.pow10Tab) : Lib.TabBelow Tryd.prog (w.heap.size + 1) w2 powName .u64 Lib.pow10Tab :=
  fun w' hb => htab w' ((box_below h).trans (hb.mono (by omega)))

theorem json_cells (l : List UInt8) (n : Int) (e : Bool) : Lib.byteCells l ++ Go.byteCells ⟨#[123, 34, 36, 34, 58]⟩ ++ Lib.byteCells (Lib.itoa n) ++ Lib.strCells ⟨#[44, 34, 64, 101, 110, 97, 98, 108, 101, 100, 34, 58]⟩ ++ Lib.byteCells (flagText e) ++ [.int .u8 125] = Lib.byteCells (l ++ json n e) := by
  have a1 : Go.byteCells ⟨#[123, 34, 36, 34, 58]⟩ = Lib.byteCells [123, 34, 36, 34, 58] := rfl
  have a2 : Lib.strCells ⟨#[44, 34, 64, 101, 110, 97, 98, 108, 101, 100, 34, 58]⟩ = Lib.byteCells [44, 34, 64, 101, 110, 97, 98, 108, 101, 100, 34, 58] := rfl
  have a3 : [Value.int .u8 125] = Lib.byteCells [125] := rfl
  rw [a1, a2, a3]
  simp only [json, byteCells_append, List.append_assoc]

set_option maxRecDepth 100000 in
set_option maxHeartbeats 1000000 in
/-- (portDoc).appendJSON onto a slice whose length is its capacity: the result is a row of the call's own, and nothing old has turned. -/
theorem appendJSON_any (n : Int) (e : Bool) (ao : Option Addr) (l : List UInt8) (w : World) (h0 : -9223372036854775808 ≤ n) (h1 : n ≤ 9223372036854775807) (hB : Bs w ao l) (hlen : l.length ≤ 1000000000)
    (htab : Lib.TabBelow Tryd.prog w.heap.size w powName .u64 Lib.pow10Tab) :
    Calls Tryd.prog 30 #[.agg #[.int .i64 n, .bool e], .slice ao l.length l.length] w fun r w' => ∃ v', r = .returned v' ∧ w'.ownsRow (w.heap.size + 1) 5 1 v' (l ++ json n e).length (Lib.byteCells (l ++ json n e)) ∧ Below w.heap.size w w' := by
  obtain ⟨i0, hi, hz0, hz1, hz2⟩ := info_parts info5
  have hB1 : Bs (w.alloc (.cells #[.int .i64 n, .bool e] 40)) ao l := hB.alloc _
  have hit := itoa_len_le n h0 h1
  have hfl := flagText_len e
  go_enter Tryd.func30, Tryd.ntmps30
  go_wp2_with (first
    | (at_builtin; (refine wpList_append_must _ rfl (.tmp 5) (.const (.string ⟨#[123, 34, 36, 34, 58]⟩)) 60 9 rfl 5 i0 Tryd.underlying60 hi hz0 hz1 hz2 ao l l.length rfl rfl hB1 (.string ⟨#[123, 34, 36, 34, 58]⟩) 5 (Go.byteCells ⟨#[123, 34, 36, 34, 58]⟩) rfl (Src.ofString _ Tryd.underlying9 ⟨#[123, 34, 36, 34, 58]⟩) (by omega) (by omega) (w.heap.size + 1) (by simp) ?_); intro cap w2 hown2 hbel2 hsz2; obtain ⟨c20, c21⟩ := box_cells hbel2; have htab2 := box_tab hbel2 htab)
    | (go_at_call 33; (refine (Tryd.strconv_AppendInt_10 (w.heap.size + 1) (l.length + 5) n h0 h1 _ _ _ hown2 (by omega) (by omega) htab2).mono ?_); rintro r w3 ⟨v3, rfl, hown3, hbel3, _⟩; have hb3 := hbel2.trans hbel3; have hs3 := hbel3.size; obtain ⟨c30, c31⟩ := box_cells hb3)
    | (at_builtin; (refine Lib.wpList_append_own_string _ rfl (.tmp 11) (.const (.string ⟨#[44, 34, 64, 101, 110, 97, 98, 108, 101, 100, 34, 58]⟩)) 60 9 rfl (w.heap.size + 1) 5 i0 Tryd.underlying60 Tryd.underlying9 hi hz0 hz1 hz2 v3 (l.length + 5 + (Lib.itoa n).length) _ rfl hown3 ⟨#[44, 34, 64, 101, 110, 97, 98, 108, 101, 100, 34, 58]⟩ rfl (by unfold maxLen; show l.length + 5 + (Lib.itoa n).length + 12 ≤ _; omega) (by show l.length + 5 + (Lib.itoa n).length + 12 ≤ _; omega) (by omega) ?_); intro v4 w4 hown4 hgrow4 _; have hb4 := hb3.grown hgrow4 (by omega) (fun k hk => (hown3.lt k hk).1); have hs4 := hgrow4.size; obtain ⟨c40, c41⟩ := box_cells hb4)
    | (go_at_call 34; (refine (flag_any e (w.heap.size + 1) (l.length + 5 + (Lib.itoa n).length + 12) v4 _ _ hown4 (by omega) (by omega)).mono ?_); rintro r w5 ⟨v5, rfl, hown5, hbel5⟩; have hb5 := hb4.trans hbel5; have hs5 := hbel5.size)
    | (at_builtin; (refine wpList_append_own _ rfl (.tmp 17) (.tmp 18) 60 rfl (w.heap.size + 1) 5 i0 (.int .u8 0) 1 1 Tryd.underlying60 hi hz0 hz1 hz2 rfl (by decide) v5 (l.length + 5 + (Lib.itoa n).length + 12 + (flagText e).length) _ rfl (hown5.alloc _) ⟨w5.heap.size, 0, none⟩ 1 1 [.int .u8 125] rfl rfl (one_cell _ _ _) (fun u hu => by simp at hu; subst hu; rfl) (by unfold maxLen; omega) (by omega) (by simp; omega) ?_); intro v6 w6 hown6 hgrow6 _))
  go_ret
  refine ⟨_, rfl, ?_, box_below (hb5.trans (((Below.refl _ _).alloc (by omega) _).grown hgrow6 (by simp; omega) (fun k hk => (hown5.lt k hk).1)))⟩
  have e1 := json_cells l n e
  have e2 : (l ++ json n e).length = l.length + 5 + (Lib.itoa n).length + 12 + (flagText e).length + 1 := by rw [List.length_append, json_len]; omega
  rw [e2, ← e1]
  exact hown6
end Go.Proofs.Qxb6605507aDoor
