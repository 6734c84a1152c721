import Derived.Test.Qxb6605507aDoorJson
namespace Go.Proofs.Qxb6605507aDoor
open Go Go.RowKit

/-- The flag as the attribute writes it. -/
def boolText (e : Bool) : List UInt8 := if e then [116, 114, 117, 101] else [102, 97, 108, 115, 101]

theorem boolText_len (e : Bool) : (boolText e).length ≤ 5 := by cases e <;> decide

set_option maxHeartbeats 400000 in
theorem bool_true (B n : Nat) (sv : Value) (xs : List Value) (w : World) (hown : w.ownsRow B 5 1 sv n xs) (hBw : B ≤ w.heap.size) (hlim : n + 7 ≤ 140737488355328) :
    Calls Tryd.prog 38 #[sv, .bool true] w fun r w' => ∃ v', r = .returned v' ∧ w'.ownsRow B 5 1 v' (n + 4) (xs ++ Lib.byteCells [116, 114, 117, 101]) ∧ Below B w w' := by
  obtain ⟨i0, hi, hz0, hz1, hz2⟩ := info_parts info5
  go_enter Tryd.func38, Tryd.ntmps38
  go_wp2_with (at_builtin; refine Lib.wpList_append_own_string _ rfl (.tmp 6) (.const (.string ⟨#[116, 114, 117, 101]⟩)) 60 9 rfl B 5 i0 Tryd.underlying60 Tryd.underlying9 hi hz0 hz1 hz2 sv n xs rfl hown ⟨#[116, 114, 117, 101]⟩ rfl (by unfold maxLen; show n + 4 ≤ _; omega) (by show n + 4 ≤ _; omega) hBw ?_; intro v1 w1 hown1 hgrow1 _)
  go_ret
  exact ⟨_, rfl, hown1, (Below.refl _ _).grown hgrow1 hBw (fun k hk => (hown.lt k hk).1)⟩

set_option maxHeartbeats 400000 in
theorem bool_false (B n : Nat) (sv : Value) (xs : List Value) (w : World) (hown : w.ownsRow B 5 1 sv n xs) (hBw : B ≤ w.heap.size) (hlim : n + 7 ≤ 140737488355328) :
    Calls Tryd.prog 38 #[sv, .bool false] w fun r w' => ∃ v', r = .returned v' ∧ w'.ownsRow B 5 1 v' (n + 5) (xs ++ Lib.byteCells [102, 97, 108, 115, 101]) ∧ Below B w w' := by
  obtain ⟨i0, hi, hz0, hz1, hz2⟩ := info_parts info5
  go_enter Tryd.func38, Tryd.ntmps38
  go_wp2_with (at_builtin; refine Lib.wpList_append_own_string _ rfl (.tmp 8) (.const (.string ⟨#[102, 97, 108, 115, 101]⟩)) 60 9 rfl B 5 i0 Tryd.underlying60 Tryd.underlying9 hi hz0 hz1 hz2 sv n xs rfl hown ⟨#[102, 97, 108, 115, 101]⟩ rfl (by unfold maxLen; show n + 5 ≤ _; omega) (by show n + 5 ≤ _; omega) hBw ?_; intro v1 w1 hown1 hgrow1 _)
  go_ret
  exact ⟨_, rfl, hown1, (Below.refl _ _).grown hgrow1 hBw (fun k hk => (hown.lt k hk).1)⟩

theorem bool_inner (e : Bool) (B n : Nat) (sv : Value) (xs : List Value) (w : World) (hown : w.ownsRow B 5 1 sv n xs) (hBw : B ≤ w.heap.size) (hlim : n + 7 ≤ 140737488355328) :
    Calls Tryd.prog 38 #[sv, .bool e] w fun r w' => ∃ v', r = .returned v' ∧ w'.ownsRow B 5 1 v' (n + (boolText e).length) (xs ++ Lib.byteCells (boolText e)) ∧ Below B w w' := by
  cases e
  · exact bool_false B n sv xs w hown hBw hlim
  · exact bool_true B n sv xs w hown hBw hlim

set_option maxHeartbeats 400000 in
/-- strconv.AppendBool onto a slice of the call's own. -/
theorem bool_any (e : Bool) (B n : Nat) (sv : Value) (xs : List Value) (w : World) (hown : w.ownsRow B 5 1 sv n xs) (hBw : B ≤ w.heap.size) (hlim : n + 7 ≤ 140737488355328) :
    Calls Tryd.prog 35 #[sv, .bool e] w fun r w' => ∃ v', r = .returned v' ∧ w'.ownsRow B 5 1 v' (n + (boolText e).length) (xs ++ Lib.byteCells (boolText e)) ∧ Below B w w' := by
  have hC := bool_inner e B n sv xs w hown hBw hlim
  clear hown
  go_enter Tryd.func35, Tryd.ntmps35
  go_wp2_with (go_at_call 38; refine hC.mono ?_; rintro r w' ⟨v', rfl, hown', hbel⟩)
  go_ret
  exact ⟨_, rfl, hown', hbel⟩

theorem strCells_list (s : ByteArray) : Lib.strCells s = Lib.byteCells s.data.toList := rfl

/-- A closing tag. -/
def endTag (nm : List UInt8) : List UInt8 := [60, 47] ++ (nm ++ [62])

set_option maxRecDepth 100000 in
set_option maxHeartbeats 400000 in
/-- appendEndTag onto a slice of the call's own. -/
theorem endTag_any (s : ByteArray) (B n : Nat) (sv : Value) (xs : List Value) (w : World) (hown : w.ownsRow B 5 1 sv n xs) (hBw : B ≤ w.heap.size) (hlim : n + s.size + 3 ≤ 140737488355328) :
    Calls Tryd.prog 36 #[sv, .string s] w fun r w' => ∃ v', r = .returned v' ∧ w'.ownsRow B 5 1 v' (n + (s.size + 3)) (xs ++ Lib.byteCells (endTag s.data.toList)) ∧ Below B w w' := by
  obtain ⟨i0, hi, hz0, hz1, hz2⟩ := info_parts info5
  go_enter Tryd.func36, Tryd.ntmps36
  go_wp2_with (first
    | (at_builtin; (refine Lib.wpList_append_own_string _ rfl (.tmp 5) (.const (.string ⟨#[60, 47]⟩)) 60 9 rfl B 5 i0 Tryd.underlying60 Tryd.underlying9 hi hz0 hz1 hz2 sv n xs rfl hown ⟨#[60, 47]⟩ rfl (by unfold maxLen; show n + 2 ≤ _; omega) (by show n + 2 ≤ _; omega) hBw ?_); intro v1 w1 hown1 hgrow1 _; have hs1 := hgrow1.size; have hb1 := (Below.refl B w).grown hgrow1 hBw (fun k hk => (hown.lt k hk).1))
    | (at_builtin; (refine Lib.wpList_append_own_string _ rfl (.tmp 7) (.tmp 8) 60 9 rfl B 5 i0 Tryd.underlying60 Tryd.underlying9 hi hz0 hz1 hz2 v1 (n + 2) _ rfl hown1 s rfl (by unfold maxLen; omega) (by omega) (by omega) ?_); intro v2 w2 hown2 hgrow2 _; have hs2 := hgrow2.size; have hb2 := hb1.grown hgrow2 (by omega) (fun k hk => (hown1.lt k hk).1))
    | (at_builtin; (refine wpList_append_own _ rfl (.tmp 10) (.tmp 11) 60 rfl B 5 i0 (.int .u8 0) 1 1 Tryd.underlying60 hi hz0 hz1 hz2 rfl (by decide) v2 (n + 2 + s.size) _ rfl (hown2.alloc _) ⟨w2.heap.size, 0, none⟩ 1 1 [.int .u8 62] rfl rfl (one_cell _ _ _) (fun u hu => by simp at hu; subst hu; rfl) (by unfold maxLen; omega) (by omega) (by simp; omega) ?_); intro v3 w3 hown3 hgrow3 _))
  go_ret
  refine ⟨v3, rfl, ?_, (hb2.alloc (by omega) _).grown hgrow3 (by simp; omega) (fun k hk => (hown2.lt k hk).1)⟩
  have e1 : Lib.byteCells (endTag s.data.toList) = Lib.strCells ⟨#[60, 47]⟩ ++ (Lib.strCells s ++ [.int .u8 62]) := by
    have a1 : Lib.strCells ⟨#[60, 47]⟩ = Lib.byteCells [60, 47] := rfl
    have a2 : [Value.int .u8 62] = Lib.byteCells [62] := rfl
    rw [a1, a2, strCells_list, endTag, byteCells_append, byteCells_append]
  rw [e1, show n + (s.size + 3) = n + 2 + s.size + 1 from by omega]
  simpa only [List.append_assoc] using hown3

/-- A port as XML writes it. -/
def xml (n : Int) (e : Bool) (nm : List UInt8) : List UInt8 :=
  [60] ++ (nm ++ ([32, 101, 110, 97, 98, 108, 101, 100, 61, 34] ++ (boolText e ++ ([34, 62] ++ (Lib.itoa n ++ endTag nm)))))

theorem xml_len (n : Int) (e : Bool) (nm : List UInt8) : (xml n e nm).length = 16 + 2 * nm.length + (Lib.itoa n).length + (boolText e).length := by
  simp only [xml, endTag, List.length_append, List.length_cons, List.length_nil]; omega

theorem xml_cells (l : List UInt8) (n : Int) (e : Bool) (s : ByteArray) :
    Lib.byteCells l ++ [.int .u8 60] ++ Lib.strCells s ++ Lib.strCells ⟨#[32, 101, 110, 97, 98, 108, 101, 100, 61, 34]⟩ ++ Lib.byteCells (boolText e) ++ Lib.strCells ⟨#[34, 62]⟩ ++ Lib.byteCells (Lib.itoa n) ++ Lib.byteCells (endTag s.data.toList) = Lib.byteCells (l ++ xml n e s.data.toList) := by
  have a1 : [Value.int .u8 60] = Lib.byteCells [60] := rfl
  have a2 : Lib.strCells ⟨#[32, 101, 110, 97, 98, 108, 101, 100, 61, 34]⟩ = Lib.byteCells [32, 101, 110, 97, 98, 108, 101, 100, 61, 34] := rfl
  have a3 : Lib.strCells ⟨#[34, 62]⟩ = Lib.byteCells [34, 62] := rfl
  rw [a1, a2, a3, strCells_list]
  simp only [xml, byteCells_append, List.append_assoc]

theorem box_cells2 {w w2 : World} {n : Int} {e : Bool} {o : Obj} (h : Below (w.heap.size + 2) ((w.alloc (.cells #[.int .i64 n, .bool e] 40)).alloc o) w2) :
    w2.cell? ⟨w.heap.size, 0, none⟩ = some (.int .i64 n) ∧ w2.cell? ⟨w.heap.size, 1, none⟩ = some (.bool e) := by
  constructor
  · rw [h.cell (p := ⟨w.heap.size, 0, none⟩) (by simp)]
    simp
  · rw [h.cell (p := ⟨w.heap.size, 1, none⟩) (by simp)]
    simp

theorem box_below2 {w w2 : World} {o o2 : Obj} (h : Below (w.heap.size + 2) ((w.alloc o).alloc o2) w2) : Below w.heap.size w w2 :=
  (((Below.refl _ _).alloc (Nat.le_refl _) o).alloc (by simp) o2).trans (h.mono (by omega))

theorem box_tab2 {w w2 : World} {o o2 : Obj} (h : Below (w.heap.size + 2) ((w.alloc o).alloc o2) w2) (htab : Lib.TabBelow Tryd.prog w.heap.size w powName .u64 Lib.pow10Tab) : Lib.TabBelow Tryd.prog (w.heap.size + 2) w2 powName .u64 Lib.pow10Tab :=
  fun w' hb => htab w' ((box_below2 h).trans (hb.mono (by omega)))

set_option maxRecDepth 100000 in
set_option maxHeartbeats 1000000 in
/-- (portDoc).appendXML onto a slice whose length is its capacity: the result is a row of the call's own, and nothing old has turned. -/
theorem appendXML_any (n : Int) (e : Bool) (ao : Option Addr) (l : List UInt8) (s : ByteArray) (w : World) (h0 : -9223372036854775808 ≤ n) (h1 : n ≤ 9223372036854775807) (hB : Bs w ao l) (hlen : l.length ≤ 1000000000) (hsz : s.size ≤ 1000000000)
    (htab : Lib.TabBelow Tryd.prog w.heap.size w powName .u64 Lib.pow10Tab) :
    Calls Tryd.prog 31 #[.agg #[.int .i64 n, .bool e], .slice ao l.length l.length, .string s] w fun r w' => ∃ v', r = .returned v' ∧ w'.ownsRow (w.heap.size + 2) 5 1 v' (l ++ xml n e s.data.toList).length (Lib.byteCells (l ++ xml n e s.data.toList)) ∧ Below w.heap.size w w' := by
  obtain ⟨i0, hi, hz0, hz1, hz2⟩ := info_parts info5
  have hB1 : Bs ((w.alloc (.cells #[.int .i64 n, .bool e] 40)).alloc (.cells #[.int .u8 60] 5)) ao l := (hB.alloc _).alloc _
  have hit := itoa_len_le n h0 h1
  have hfl := boolText_len e
  go_enter Tryd.func31, Tryd.ntmps31
  go_wp2_with (first
    | (at_builtin; (refine wpList_append_must _ rfl (.tmp 7) (.tmp 8) 60 60 rfl 5 i0 Tryd.underlying60 hi hz0 hz1 hz2 ao l l.length rfl rfl hB1 (.slice (some ⟨w.heap.size + 1, 0, none⟩) 1 1) 1 [.int .u8 60] rfl (Src.ofSlice _ Tryd.underlying60 ⟨w.heap.size + 1, 0, none⟩ 1 1 [.int .u8 60] rfl (by have := one_cell (w.alloc (.cells #[.int .i64 n, .bool e] 40)) (.int .u8 60) 5; simpa using this) (fun u hu => by simp at hu; subst hu; rfl)) (by omega) (by omega) (w.heap.size + 2) (by simp) ?_); intro cap w2 hown2 hbel2 hsz2)
    | (at_builtin; (refine Lib.wpList_append_own_string _ rfl (.tmp 10) (.tmp 11) 60 9 rfl (w.heap.size + 2) 5 i0 Tryd.underlying60 Tryd.underlying9 hi hz0 hz1 hz2 (.slice (some ⟨w.heap.size + 2, 0, none⟩) (l.length + 1) cap) (l.length + 1) _ rfl hown2 s rfl (by unfold maxLen; omega) (by omega) (by omega) ?_); intro v3 w3 hown3 hgrow3 _; have hs3 := hgrow3.size; have hb3 := hbel2.grown hgrow3 (by omega) (fun k hk => (hown2.lt k hk).1); clear hgrow3)
    | (at_builtin; (refine Lib.wpList_append_own_string _ rfl (.tmp 13) (.const (.string ⟨#[32, 101, 110, 97, 98, 108, 101, 100, 61, 34]⟩)) 60 9 rfl (w.heap.size + 2) 5 i0 Tryd.underlying60 Tryd.underlying9 hi hz0 hz1 hz2 v3 (l.length + 1 + s.size) _ rfl hown3 ⟨#[32, 101, 110, 97, 98, 108, 101, 100, 61, 34]⟩ rfl (by unfold maxLen; show l.length + 1 + s.size + 10 ≤ _; omega) (by show l.length + 1 + s.size + 10 ≤ _; omega) (by omega) ?_); intro v4 w4 hown4 hgrow4 _; have hs4 := hgrow4.size; have hb4 := hb3.grown hgrow4 (by omega) (fun k hk => (hown3.lt k hk).1); obtain ⟨c40, c41⟩ := box_cells2 hb4; clear hgrow4)
    | (go_at_call 35; (refine (bool_any e (w.heap.size + 2) (l.length + 1 + s.size + 10) v4 _ _ hown4 (by omega) (by omega)).mono ?_); rintro r w5 ⟨v5, rfl, hown5, hbel5⟩; have hs5 := hbel5.size; have hb5 := hb4.trans hbel5; clear hbel5)
    | (at_builtin; (refine Lib.wpList_append_own_string _ rfl (.tmp 19) (.const (.string ⟨#[34, 62]⟩)) 60 9 rfl (w.heap.size + 2) 5 i0 Tryd.underlying60 Tryd.underlying9 hi hz0 hz1 hz2 v5 (l.length + 1 + s.size + 10 + (boolText e).length) _ rfl hown5 ⟨#[34, 62]⟩ rfl (by unfold maxLen; show l.length + 1 + s.size + 10 + (boolText e).length + 2 ≤ _; omega) (by show l.length + 1 + s.size + 10 + (boolText e).length + 2 ≤ _; omega) (by omega) ?_); intro v6 w6 hown6 hgrow6 _; have hs6 := hgrow6.size; have hb6 := hb5.grown hgrow6 (by omega) (fun k hk => (hown5.lt k hk).1); obtain ⟨c60, c61⟩ := box_cells2 hb6; clear hgrow6)
    | (go_at_call 33; (refine (Tryd.strconv_AppendInt_10 (w.heap.size + 2) (l.length + 1 + s.size + 10 + (boolText e).length + 2) n h0 h1 v6 _ w6 hown6 (by omega) (by omega) (box_tab2 hb6 htab)).mono ?_); rintro r w7 ⟨v7, rfl, hown7, hbel7, _⟩; have hs7 := hbel7.size; have hb7 := hb6.trans hbel7; clear hbel7)
    | (go_at_call 36; (refine (endTag_any s (w.heap.size + 2) (l.length + 1 + s.size + 10 + (boolText e).length + 2 + (Lib.itoa n).length) v7 _ w7 hown7 (by omega) (by omega)).mono ?_); rintro r w8 ⟨v8, rfl, hown8, hbel8⟩; have hb8 := hb7.trans hbel8; clear hbel8))
  go_ret
  refine ⟨v8, rfl, ?_, box_below2 hb8⟩
  have e1 := xml_cells l n e s
  have e3 : s.data.toList.length = s.size := by rw [Array.length_toList]; rfl
  have e2 : (l ++ xml n e s.data.toList).length = l.length + 1 + s.size + 10 + (boolText e).length + 2 + (Lib.itoa n).length + (s.size + 3) := by rw [List.length_append, xml_len, e3]; omega
  rw [e2, ← e1]
  exact hown8
end Go.Proofs.Qxb6605507aDoor
