/-
  Seat b6605507aD: an append that must grow (length = capacity), the source whatever; no program.
-/
import Derived.Test.Qxb6605507aDoorBase
import Derived.Deep.AppendSrc
import Derived.Lib.AppendIntMem
import Derived.Lib.AppendStr
namespace Go.Proofs.Qxb6605507aDoor
open Go Go.RowKit
section
variable {P : Program} (w : World)

/-- The cells of a slice that reads as bytes, as append takes them. -/
theorem Bs.first {ao : Option Addr} {l : List UInt8} (h : Bs w ao l) (c : Nat) : (Builtin.firstCells 1 l.length (.slice ao l.length c)).run P w.drew = .ok (Lib.byteCells l).toArray w.drew := by
  rcases h with rfl | ⟨b, off, rfl, hc⟩
  · cases ao with
    | none => exact run_firstCells_none w.drew 1 0 0 c
    | some a => exact run_firstCells_some w.drew 1 0 a 0 c [] (by simp) (by simp)
  · refine run_firstCells_some w.drew 1 l.length ⟨b, off, none⟩ l.length c (Lib.byteCells l) (by simp [Lib.byteCells]) ?_
    intro j u hu
    rw [Addr.add_lit]
    unfold Lib.byteCells at hu
    rw [List.getElem?_map] at hu
    obtain ⟨x, hx, rfl⟩ := Option.map_eq_some_iff.1 hu
    obtain ⟨hj, rfl⟩ := List.getElem?_eq_some_iff.1 hx
    exact hc j hj

theorem wpList_append_must {ops : Array Oper} {rest : List Oper} {o : Oper} {a : Act} {Q : Exit → Act → World → Prop} (hgd : o.guard = none) (s x : Operand) (t tx : TypeId)
    (ho : o.op = .call { callee := .builtin .append, args := #[s, x], argTypes := #[t, tx] })
    (e : TypeId) (i : TypeInfo) (ht : P.underlying t = some (.slice e)) (hi : P.info? e = some i) (hz : i.zero = some (.int .u8 0)) (hsize : i.size = 1) (hby : i.bytes = 1)
    (ao : Option Addr) (l : List UInt8) (n : Nat) (hn : n = l.length) (hs : a.eval s = .slice ao n n) (hB : Bs w ao l)
    (xv : Value) (m : Nat) (news : List Value) (hx : a.eval x = xv) (hsrc : Src P 1 tx xv m news w) (hm : 0 < m) (hlim : n + m ≤ 140737488355328) (N : Nat) (hN : w.heap.size = N)
    (h : ∀ cap w', w'.ownsRow N e 1 (.slice (some ⟨N, 0, none⟩) (n + m) cap) (n + m) (Lib.byteCells l ++ news) → Below N w w' → w'.heap.size = N + 1 →
      wpList P ops Q rest (a.put o.dst (.slice (some ⟨N, 0, none⟩) (n + m) cap)) w') :
    wpList P ops Q (o :: rest) a w := by
  subst hn
  subst hN
  have hsrc' : Src P i.size tx xv m news w := by rw [hsize]; exact hsrc
  have hfirst : (Builtin.firstCells i.size l.length (.slice ao l.length l.length)).run P w.drew = .ok (Lib.byteCells l).toArray w.drew := by rw [hsize]; exact hB.first w _
  have hr := run_append_grow_src (P := P) w t tx o.type e i (.int .u8 0) ht hi hz ao l.length l.length (Lib.byteCells l) hfirst xv m news hsrc' (by omega) (by omega) (by rw [hby]; exact growslice_fits (by omega) (by omega))
  have hnl : news.length = m := by simpa using hsrc.newsLen
  have hbl : (Lib.byteCells l).length = l.length := by simp [Lib.byteCells]
  have hlen : (Lib.byteCells l ++ news).length = (l.length + m) * 1 := by rw [List.length_append, hbl, hnl, Nat.mul_one]
  refine wpList_plain hgd fun K hK => ?_
  unfold Oper.wp execOp
  simp only [ho, resolve, invoke, builtin, Sem.run_bind, Sem.run_pure, Result.andThen_ok, List.map_toArray, List.map_cons, List.map_nil, hs, hx, hr]
  refine hK _ _ (h _ _ ⟨hlen, .inr ⟨w.heap.size, _, _, rfl, Nat.le_refl _, heap_alloc_new w.drew _, grownCap_ge _ _ _ _, grownCap_le_maxLen w _ _ e (by unfold maxLen; omega), ?_, ?_⟩⟩ ⟨rfl, rfl, rfl, by simp, fun k hk => Below.heap_alloc w.drew _ k hk⟩ (by simp))
  · have hz1 : (Value.int IntKind.u8 0).cells.size = 1 := rfl
    have hge := grownCap_ge w (l.length + m) l.length e
    simp only [Array.size_append, List.size_toArray, size_zeroCells, hz1, List.length_append, hbl, hnl]
    omega
  · simp only [Array.toList_append]
    rw [← hlen]
    exact List.take_left
end
end Go.Proofs.Qxb6605507aDoor
