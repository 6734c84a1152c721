/-
  Seat b6605523a: what is shared by the walks: when a slice reads as a list of bytes; the order of byte strings; no program.
-/
import Derived.WalkKit
import Derived.BigQuiet
import Derived.Deep.QuietTactic
import Derived.Lib.AppendIntMem
import Derived.Lib.SliceRun
import Derived.OpenShut
namespace Go.Proofs.Qxb6605523a
open Go Go.RowKit

/-- The slice that begins at 'ao' reads as the bytes 'l' (of an empty list nothing is asked). -/
def Bs (w : World) (ao : Option Addr) (l : List UInt8) : Prop :=
  l = [] ∨ ∃ b off, ao = some ⟨b, off, none⟩ ∧ ∀ (i : Nat) (h : i < l.length), w.cell? ⟨b, off + i, none⟩ = some (.int .u8 (l[i].toNat : Int))

theorem Bs.nil (w : World) (ao : Option Addr) : Bs w ao [] := .inl rfl
theorem Bs.drewN {w : World} {ao : Option Addr} {l : List UInt8} (h : Bs w ao l) (n : Nat) : Bs (w.drewN n) ao l := h

/-- A slice that reads as bytes still reads so behind what leaves its block alone. -/
theorem Bs.below {w w' : World} {ao : Option Addr} {l : List UInt8} (h : Bs w ao l) (hb : Below w.heap.size w w') : Bs w' ao l := by
  rcases h with rfl | ⟨b, off, rfl, hc⟩
  · exact .inl rfl
  · refine .inr ⟨b, off, rfl, fun i hi => ?_⟩
    have h1 := hc i hi
    rw [hb.cell (p := ⟨b, off + i, none⟩) (World.block_lt_of_cell? w _ h1)]
    exact h1

theorem Bs.alloc {w : World} {ao : Option Addr} {l : List UInt8} (h : Bs w ao l) (o : Obj) : Bs (w.alloc o) ao l :=
  h.below ((Below.refl _ _).alloc (Nat.le_refl _) o)

theorem Bs.left {w : World} {ao : Option Addr} {l m : List UInt8} (h : Bs w ao (l ++ m)) : Bs w ao l := by
  rcases h with h | ⟨b, off, rfl, hc⟩
  · exact .inl (List.append_eq_nil_iff.1 h).1
  · refine .inr ⟨b, off, rfl, fun i hi => ?_⟩
    have := hc i (by rw [List.length_append]; omega)
    rw [List.getElem_append_left hi] at this
    exact this

theorem Bs.right {w : World} {b off : Nat} {l m : List UInt8} (h : Bs w (some ⟨b, off, none⟩) (l ++ m)) : Bs w (some ⟨b, off + l.length, none⟩) m := by
  rcases h with h | ⟨b', off', he, hc⟩
  · exact .inl (List.append_eq_nil_iff.1 h).2
  · cases he
    refine .inr ⟨b, off + l.length, rfl, fun i hi => ?_⟩
    have := hc (l.length + i) (by rw [List.length_append]; omega)
    rw [List.getElem_append_right (by omega)] at this
    simpa [Nat.add_assoc] using this

/-- A row with something in it has an address. -/
theorem Bs.addr {w : World} {ao : Option Addr} {l : List UInt8} (h : Bs w ao l) (hl : 0 < l.length) : ∃ b off, ao = some ⟨b, off, none⟩ ∧ w.cell? ⟨b, off, none⟩ = some (.int .u8 (l[0].toNat : Int)) := by
  rcases h with rfl | ⟨b, off, rfl, hc⟩
  · simp at hl
  · exact ⟨b, off, rfl, hc 0 hl⟩

theorem below_next {w w1 w2 : World} (h : Below w.heap.size w w1) (h2 : Below w1.heap.size w1 w2) : Below w.heap.size w w2 := h.trans (h2.mono h.size)
theorem below_drewN {w w1 : World} (h : Below w.heap.size w w1) (n : Nat) : Below w.heap.size w (w1.drewN n) := h.trans ⟨rfl, rfl, rfl, Nat.le_refl _, fun _ _ => rfl⟩

theorem ret_bool {a b : Bool} (h : a = b) : Ending.returned (.bool a) = .returned (.bool b) := by rw [h]
theorem ret_int {k : IntKind} {a b : Int} (h : a = b) : Ending.returned (.int k a) = .returned (.int k b) := by rw [h]

theorem byte_ne {x y : UInt8} (h : ¬ x = y) : ((x.toNat : Int) != (y.toNat : Int)) = true := by
  rw [bne_iff_ne]
  intro e
  exact h (UInt8.toNat_inj.1 (by omega))

theorem take_step {l m : List UInt8} {k : Nat} (hk : k < l.length) (hm : k < m.length) (h : l.take k = m.take k) (e : l[k] = m[k]) : l.take (k + 1) = m.take (k + 1) := by
  rw [List.take_succ_eq_append_getElem hk, List.take_succ_eq_append_getElem hm, h, e]

/-- The order of byte strings: bytes without sign, a shorter one first where one heads the other. -/
def cmp : List UInt8 → List UInt8 → Int
  | [], [] => 0
  | [], _ :: _ => -1
  | _ :: _, [] => 1
  | a :: as, b :: bs => if a.toNat < b.toNat then -1 else if b.toNat < a.toNat then 1 else cmp as bs

theorem cmp_same (p x y : List UInt8) : cmp (p ++ x) (p ++ y) = cmp x y := by
  induction p with
  | nil => rfl
  | cons a p ih => simp [cmp, ih]

theorem cmp_cons_lt (a b : UInt8) (x y : List UInt8) (h : a.toNat < b.toNat) : cmp (a :: x) (b :: y) = -1 := by simp [cmp, h]
theorem cmp_cons_gt (a b : UInt8) (x y : List UInt8) (h : b.toNat < a.toNat) : cmp (a :: x) (b :: y) = 1 := by
  have : ¬ a.toNat < b.toNat := by omega
  simp [cmp, h, this]
theorem cmp_cons_eq (a : UInt8) (x y : List UInt8) : cmp (a :: x) (a :: y) = cmp x y := by simp [cmp]

theorem split_at {l : List UInt8} {k : Nat} (hk : k < l.length) : l = l.take k ++ l[k] :: l.drop (k + 1) := by
  rw [List.getElem_cons_drop hk, List.take_append_drop]

theorem cmp_at_lt {l m : List UInt8} {k : Nat} (hk : k < l.length) (hm : k < m.length) (h : l.take k = m.take k) (e : l[k].toNat < m[k].toNat) : cmp l m = -1 := by
  rw [split_at hk, split_at hm, h, cmp_same, cmp_cons_lt _ _ _ _ e]

theorem cmp_at_gt {l m : List UInt8} {k : Nat} (hk : k < l.length) (hm : k < m.length) (h : l.take k = m.take k) (e : m[k].toNat < l[k].toNat) : cmp l m = 1 := by
  rw [split_at hk, split_at hm, h, cmp_same, cmp_cons_gt _ _ _ _ e]

theorem cmp_nil_left {y : List UInt8} (h : 0 < y.length) : cmp [] y = -1 := by
  cases y with
  | nil => simp at h
  | cons a y => rfl

theorem cmp_nil_right {y : List UInt8} (h : 0 < y.length) : cmp y [] = 1 := by
  cases y with
  | nil => simp at h
  | cons a y => rfl

theorem cmp_short {l m : List UInt8} (h : l.length < m.length) (e : l = m.take l.length) : cmp l m = -1 := by
  have : cmp (l ++ []) (l ++ m.drop l.length) = -1 := by rw [cmp_same, cmp_nil_left (by simp; omega)]
  rw [List.append_nil] at this
  have e2 : l ++ m.drop l.length = m := by
    have h2 := List.take_append_drop l.length m
    rw [← e] at h2
    exact h2
  rw [e2] at this
  exact this

theorem cmp_long {l m : List UInt8} (h : m.length < l.length) (e : l.take m.length = m) : cmp l m = 1 := by
  have : cmp (m ++ l.drop m.length) (m ++ []) = 1 := by rw [cmp_same, cmp_nil_right (by simp; omega)]
  rw [List.append_nil] at this
  have e2 : m ++ l.drop m.length = l := by
    have h2 := List.take_append_drop m.length l
    rw [e] at h2
    exact h2
  rw [e2] at this
  exact this

theorem cmp_self (l : List UInt8) : cmp l l = 0 := by
  have := cmp_same l [] []
  rw [List.append_nil] at this
  exact this

theorem byteCells_len (l : List UInt8) : (Lib.byteCells l).length = l.length := by simp [Lib.byteCells]
theorem byteCells_append (l m : List UInt8) : Lib.byteCells (l ++ m) = Lib.byteCells l ++ Lib.byteCells m := by simp [Lib.byteCells]
theorem byteCells_one (l : List UInt8) : ∀ v ∈ Lib.byteCells l, v.oneCell' = true := by
  intro v hv
  obtain ⟨_, _, rfl⟩ := List.mem_map.1 hv
  rfl

/-- The cells of a slice, as append takes them. -/
theorem Bs.src {w : World} {x : Addr} {l : List UInt8} (h : Bs w (some x) l) : ∀ j v, (Lib.byteCells l)[j]? = some v → w.cell? (x.add j) = some v := by
  intro j u hu
  rcases h with rfl | ⟨b, off, he, hc⟩
  · simp [Lib.byteCells] at hu
  · cases he
    rw [Addr.add_lit]
    unfold Lib.byteCells at hu
    rw [List.getElem?_map] at hu
    obtain ⟨y, hy, rfl⟩ := Option.map_eq_some_iff.1 hu
    obtain ⟨hj, rfl⟩ := List.getElem?_eq_some_iff.1 hy
    exact hc j hj

/-- A row of bytes of the call's own, with something in it, read as a slice of bytes. -/
theorem own_bs {w : World} {B n : Nat} {v : Value} {l : List UInt8} (h : w.ownsRow B 5 1 v n (Lib.byteCells l)) (hl : 0 < l.length) :
    ∃ g cap, v = .slice (some ⟨g, 0, none⟩) n cap ∧ B ≤ g ∧ g < w.heap.size ∧ n ≤ cap ∧ cap ≤ maxLen ∧ n = l.length ∧ Bs w (some ⟨g, 0, none⟩) l := by
  have hn : n = l.length := by simpa [byteCells_len] using h.1.symm
  rcases h.2 with ⟨rfl, h0⟩ | ⟨g, cap, cur, rfl, hb, hg, hc, hm, _, _⟩
  · omega
  · have hlt := (h.lt g rfl).2
    refine ⟨g, cap, rfl, hb, hlt, hc, hm, hn, .inr ⟨g, 0, rfl, fun i hi => ?_⟩⟩
    have := h.cells (g := g) rfl i (.int .u8 (l[i].toNat : Int)) (by simp [Lib.byteCells, hi])
    rw [Addr.add_lit] at this
    exact this

/-- WHAT THE WALK IS TOLD OF A SLICE OF INTEGERS THAT CAME IN (as the kit's skeleton says it). -/
def IsRow (k : IntKind) (w : World) (a : Option Addr) (len cap : Nat) (zs : List Int) : Prop :=
  (a = none ∧ len = 0 ∧ cap = 0 ∧ zs = []) ∨
  ∃ x, a = some x ∧ len ≤ cap ∧ cap ≤ maxLen ∧ zs.length = cap ∧ (∀ i, i < zs.length → w.cell? (x.add i) = some (.int k (zs.getD i 0))) ∧ ∀ n ∈ zs, (Lit.int k n).wf = true

theorem byte_of (z : Int) (h0 : 0 ≤ z) (h1 : z ≤ 255) : ((UInt8.ofNat z.toNat).toNat : Int) = z := by
  rw [UInt8.toNat_ofNat']
  omega

theorem IsRow.bs {w : World} {a : Option Addr} {len cap : Nat} {zs : List Int} (h : IsRow .u8 w a len cap zs) : ∃ l : List UInt8, len = l.length ∧ Bs w a l ∧ (a = none → l = [] ∧ cap = 0) := by
  rcases h with ⟨rfl, rfl, rfl, rfl⟩ | ⟨x, rfl, hl, hm, hz, hc, hw⟩
  · exact ⟨[], rfl, .inl rfl, fun _ => ⟨rfl, rfl⟩⟩
  · refine ⟨(zs.take len).map fun z => UInt8.ofNat z.toNat, by rw [List.length_map, List.length_take]; omega, ?_, fun h => by cases h⟩
    by_cases h0 : len = 0
    · left
      subst h0
      simp
    · right
      obtain ⟨b, off, spot⟩ := x
      have hspot : spot = none := by
        have := World.cell?_spot (hc 0 (by omega))
        simpa [Addr.add] using this
      subst hspot
      refine ⟨b, off, rfl, fun i hi => ?_⟩
      rw [List.length_map, List.length_take] at hi
      have hi' : i < zs.length := by omega
      have h1 := hc i hi'
      rw [Addr.add_lit] at h1
      rw [h1]
      have hb := range_u8 hw i
      simp only [List.getElem_map, List.getElem_take]
      have e : zs.getD i 0 = zs[i] := by simp [hi']
      have e2 : zs[i]?.getD 0 = zs[i] := by simp [hi']
      rw [e2] at hb
      rw [e, byte_of _ hb.1 hb.2]

end Go.Proofs.Qxb6605523a
