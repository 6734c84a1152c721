import Derived.Test.Qxb6605507aDoorReadInt
import Derived.Test.Qxb6605507aDoorEat
import Derived.Test.Qxb6605507aDoorJson
namespace Go.Proofs.Qxb6605507aDoor
open Go Go.RowKit

theorem prefix_app (a r : List UInt8) : a.isPrefixOf (a ++ r) = true := by
  rw [List.isPrefixOf_iff_prefix]
  exact List.prefix_append _ _

theorem tuple3 {k : IntKind} {a b c d : Int} (h1 : a = b) (h2 : c = d) : Ending.returned (.tuple #[.int k a, .int k c, .bool true]) = .returned (.tuple #[.int k b, .int k d, .bool true]) := by rw [h1, h2]

/-- readInt at a numeral that something else than a digit follows. -/
theorem readInt_any (l pre post : List UInt8) (n : Int) (x : UInt8) (ao : Option Addr) (k c : Nat) (i : Int) (w : World) (hs : Bs w ao l) (hk : k = l.length) (hl : l.length ≤ 1000000000) (h0 : -9223372036854775808 ≤ n) (h1 : n ≤ 9223372036854775807)
    (hpre : l = pre ++ (Lib.itoa n ++ x :: post)) (hi : i = (pre.length : Int)) (hx : x.toNat < 48 ∨ 57 < x.toNat) :
    Calls Tryd.prog 29 #[.slice ao k c, .int .i64 i] w fun r w' => r = .returned (.tuple #[.int .i64 n, .int .i64 ((pre.length : Int) + ((Lib.itoa n).length : Int)), .bool true]) ∧ w' = w := by
  subst hi
  subst hk
  have hlen : l.length = pre.length + ((Lib.itoa n).length + (post.length + 1)) := by rw [hpre]; simp
  rcases hs with rfl | ⟨b, off, rfl, hc⟩
  · simp at hlen
  have hget : ∀ j (h : j < (Lib.itoa n).length), w.cell? ⟨b, off + (pre.length + j), none⟩ = some (.int .u8 ((Lib.itoa n)[j].toNat : Int)) := by
    intro j h
    rw [hc (pre.length + j) (by omega)]
    subst hpre
    rw [List.getElem_append_right (by omega)]
    simp only [Nat.add_sub_cancel_left]
    rw [List.getElem_append_left h]
  have hend : w.cell? ⟨b, off + (pre.length + (Lib.itoa n).length), none⟩ = some (.int .u8 (x.toNat : Int)) := by
    rw [hc (pre.length + (Lib.itoa n).length) (by omega)]
    subst hpre
    rw [List.getElem_append_right (by omega)]
    simp only [Nat.add_sub_cancel_left]
    rw [List.getElem_append_right (by omega)]
    simp
  clear hc hpre
  by_cases hn : n < 0
  · have ei : Lib.itoa n = 45 :: Lib.decDigits n.natAbs := by rw [Lib.itoa, if_pos hn]
    rw [ei] at hget hend hlen ⊢
    simp only [List.length_cons] at hget hend hlen ⊢
    obtain ⟨d0, dl, ed, hd0⟩ := head_dec n.natAbs (by omega)
    have hpos := dec_pos n.natAbs
    refine (readInt_neg b off l.length c pre.length n.natAbs (Lib.decDigits n.natAbs) x w hl (by omega) (by omega) (val_decDigits _) (digits_dec _) hpos (by rw [Lib.decDigits_length]; exact nDigits_le19 _ (by omega)) (by simp only [ed, List.getElem_cons_zero]; exact hd0) (by simpa using hget 0 (by omega)) (fun j h => ?_) (by rw [show pre.length + 1 + (Lib.decDigits n.natAbs).length = pre.length + ((Lib.decDigits n.natAbs).length + 1) from by omega]; exact hend) hx).mono ?_
    · have := hget (j + 1) (by omega)
      rw [show pre.length + 1 + j = pre.length + (j + 1) from by omega]
      simpa using this
    · rintro r w' ⟨rfl, rfl⟩
      exact ⟨tuple3 (by omega) (by omega), rfl⟩
  · have ei : Lib.itoa n = Lib.decDigits n.toNat := by rw [Lib.itoa, if_neg hn]
    rw [ei] at hget hend hlen ⊢
    have hpos := dec_pos n.toNat
    refine (readInt_pos b off l.length c pre.length n.toNat (Lib.decDigits n.toNat) x w hl (by omega) (by omega) (val_decDigits _) (digits_dec _) hpos (by rw [Lib.decDigits_length]; exact nDigits_le19 _ (by omega)) (fun h => ?_) hget hend hx).mono ?_
    · by_cases hz : n.toNat = 0
      · rw [hz, dec_zero]; rfl
      · obtain ⟨d0, dl, ed, hd0⟩ := head_dec n.toNat hz
        simp only [ed, List.getElem_cons_zero] at h
        exact absurd h hd0
    · rintro r w' ⟨rfl, rfl⟩
      exact ⟨tuple3 (by omega) rfl, rfl⟩

/-- eat at a place that is given as a number, the slice's length a number too. -/
theorem eat_yes_at (l pre rest : List UInt8) (ao : Option Addr) (k c : Nat) (i j : Int) (s : ByteArray) (w : World) (hs : Bs w ao l) (hk : k = l.length) (hl : l.length ≤ 1000000000) (hz : s.size ≤ 1000000000)
    (hpre : l = pre ++ rest) (hi : i = (pre.length : Int)) (hj : j = (pre.length : Int) + (s.size : Int)) (hp : s.data.toList.isPrefixOf rest = true) :
    Calls Tryd.prog 28 #[.slice ao k c, .int .i64 i, .string s] w fun e w' => e = .returned (.tuple #[.int .i64 j, .bool true]) ∧ ∃ n, w' = w.drewN n := by
  subst hk
  subst hj
  exact eat_yes l pre rest ao c i s w hs hl hz hpre hi hp

theorem eat_no_at (l pre rest : List UInt8) (ao : Option Addr) (k c : Nat) (i : Int) (s : ByteArray) (w : World) (hs : Bs w ao l) (hk : k = l.length) (hl : l.length ≤ 1000000000) (hz : s.size ≤ 1000000000)
    (hpre : l = pre ++ rest) (hi : i = (pre.length : Int)) (hp : s.data.toList.isPrefixOf rest = false) :
    Calls Tryd.prog 28 #[.slice ao k c, .int .i64 i, .string s] w fun e w' => e = .returned (.tuple #[.int .i64 i, .bool false]) ∧ ∃ n, w' = w.drewN n := by
  subst hk
  exact eat_no l pre rest ao c i s w hs hl hz hpre hi hp

set_option maxRecDepth 100000 in
set_option maxHeartbeats 1000000 in
theorem readJSON_true (n : Int) (ao : Option Addr) (k c : Nat) (w : World) (h0 : -9223372036854775808 ≤ n) (h1 : n ≤ 9223372036854775807) (hs : Bs w ao (json n true)) (hk : k = (json n true).length) :
    Calls Tryd.prog 13 #[.slice ao k c] w fun r w' => r = .returned (.tuple #[.int .i64 n, .bool true, .bool true]) ∧ ∃ m, w' = w.drewN m := by
  have hlen := json_len n true
  have hfl : (flagText true).length = 6 := rfl
  have hit := itoa_len_le n h0 h1
  have HN : Hid (k = 18 + 6 + (Lib.itoa n).length) := by show _ = _; omega
  have HK : Hid (k = (json n true).length) := hk
  have HJ : Hid (json n true = [123, 34, 36, 34, 58] ++ (Lib.itoa n ++ ([44, 34, 64, 101, 110, 97, 98, 108, 101, 100, 34, 58] ++ ([34, 116, 114, 117, 101, 34] ++ [125])))) := rfl
  have HL : Hid ((json n true).length ≤ 1000000000) := by show _ ≤ _; omega
  clear hk hlen hfl
  have HS : Hid (Bs w ao (json n true)) := hs
  clear hs
  generalize json n true = J at *
  go_enter Tryd.func13, Tryd.ntmps13
  go_wp2_with fail
  refine (eat_yes_at J [] J ao k c 0 5 ⟨#[123, 34, 36, 34, 58]⟩ w HS.out HK.out HL.out (by decide) rfl rfl rfl (by rw [HJ.out]; exact prefix_app [123, 34, 36, 34, 58] _)).mono ?_
  rintro r w1 ⟨rfl, n1, rfl⟩
  go_wp2_with fail
  refine (readInt_any J [123, 34, 36, 34, 58] _ n 44 ao k c 5 (w.drewN n1) (HS.out.drewN _) HK.out HL.out h0 h1 (by rw [HJ.out]; rfl) rfl (by left; decide)).mono ?_
  rintro r w2 ⟨rfl, rfl⟩
  go_wp2_with fail
  refine (eat_yes_at J ([123, 34, 36, 34, 58] ++ Lib.itoa n) ([44, 34, 64, 101, 110, 97, 98, 108, 101, 100, 34, 58] ++ ([34, 116, 114, 117, 101, 34] ++ [125])) ao k c _ (17 + ((Lib.itoa n).length : Int)) ⟨#[44, 34, 64, 101, 110, 97, 98, 108, 101, 100, 34, 58]⟩ (w.drewN n1) (HS.out.drewN _) HK.out HL.out (by decide) (by rw [HJ.out]; simp only [List.append_assoc]) (by simp; omega) (by show _ = _ + (12 : Int); simp; omega) (prefix_app [44, 34, 64, 101, 110, 97, 98, 108, 101, 100, 34, 58] _)).mono ?_
  rintro r w3 ⟨rfl, n3, rfl⟩
  go_wp2_with fail
  refine (eat_yes_at J ([123, 34, 36, 34, 58] ++ Lib.itoa n ++ [44, 34, 64, 101, 110, 97, 98, 108, 101, 100, 34, 58]) ([34, 116, 114, 117, 101, 34] ++ [125]) ao k c _ (23 + ((Lib.itoa n).length : Int)) ⟨#[34, 116, 114, 117, 101, 34]⟩ _ (HS.out.drewN _) HK.out HL.out (by decide) (by rw [HJ.out]; simp only [List.append_assoc]) (by simp; omega) (by show _ = _ + (6 : Int); simp; omega) (prefix_app [34, 116, 114, 117, 101, 34] _)).mono ?_
  rintro r w4 ⟨rfl, n4, rfl⟩
  go_wp2_with fail
  refine (eat_yes_at J ([123, 34, 36, 34, 58] ++ Lib.itoa n ++ [44, 34, 64, 101, 110, 97, 98, 108, 101, 100, 34, 58] ++ [34, 116, 114, 117, 101, 34]) [125] ao k c _ (k : Int) ⟨#[125]⟩ _ (HS.out.drewN _) HK.out HL.out (by decide) (by rw [HJ.out]; simp only [List.append_assoc]) (by simp; omega) (by show _ = _ + (1 : Int); rw [HN.out]; simp; omega) (prefix_app [125] [])).mono ?_
  rintro r w6 ⟨rfl, n6, rfl⟩
  go_wp2_with fail
  go_ret3
  exact ⟨rfl, _, rfl⟩

set_option maxRecDepth 100000 in
set_option maxHeartbeats 1000000 in
theorem readJSON_false (n : Int) (ao : Option Addr) (k c : Nat) (w : World) (h0 : -9223372036854775808 ≤ n) (h1 : n ≤ 9223372036854775807) (hs : Bs w ao (json n false)) (hk : k = (json n false).length) :
    Calls Tryd.prog 13 #[.slice ao k c] w fun r w' => r = .returned (.tuple #[.int .i64 n, .bool false, .bool true]) ∧ ∃ m, w' = w.drewN m := by
  have hlen := json_len n false
  have hfl : (flagText false).length = 7 := rfl
  have hit := itoa_len_le n h0 h1
  have HN : Hid (k = 18 + 7 + (Lib.itoa n).length) := by show _ = _; omega
  have HK : Hid (k = (json n false).length) := hk
  have HJ : Hid (json n false = [123, 34, 36, 34, 58] ++ (Lib.itoa n ++ ([44, 34, 64, 101, 110, 97, 98, 108, 101, 100, 34, 58] ++ ([34, 102, 97, 108, 115, 101, 34] ++ [125])))) := rfl
  have HL : Hid ((json n false).length ≤ 1000000000) := by show _ ≤ _; omega
  clear hk hlen hfl
  have HS : Hid (Bs w ao (json n false)) := hs
  clear hs
  generalize json n false = J at *
  go_enter Tryd.func13, Tryd.ntmps13
  go_wp2_with fail
  refine (eat_yes_at J [] J ao k c 0 5 ⟨#[123, 34, 36, 34, 58]⟩ w HS.out HK.out HL.out (by decide) rfl rfl rfl (by rw [HJ.out]; exact prefix_app [123, 34, 36, 34, 58] _)).mono ?_
  rintro r w1 ⟨rfl, n1, rfl⟩
  go_wp2_with fail
  refine (readInt_any J [123, 34, 36, 34, 58] _ n 44 ao k c 5 (w.drewN n1) (HS.out.drewN _) HK.out HL.out h0 h1 (by rw [HJ.out]; rfl) rfl (by left; decide)).mono ?_
  rintro r w2 ⟨rfl, rfl⟩
  go_wp2_with fail
  refine (eat_yes_at J ([123, 34, 36, 34, 58] ++ Lib.itoa n) ([44, 34, 64, 101, 110, 97, 98, 108, 101, 100, 34, 58] ++ ([34, 102, 97, 108, 115, 101, 34] ++ [125])) ao k c _ (17 + ((Lib.itoa n).length : Int)) ⟨#[44, 34, 64, 101, 110, 97, 98, 108, 101, 100, 34, 58]⟩ (w.drewN n1) (HS.out.drewN _) HK.out HL.out (by decide) (by rw [HJ.out]; simp only [List.append_assoc]) (by simp; omega) (by show _ = _ + (12 : Int); simp; omega) (prefix_app [44, 34, 64, 101, 110, 97, 98, 108, 101, 100, 34, 58] _)).mono ?_
  rintro r w3 ⟨rfl, n3, rfl⟩
  go_wp2_with fail
  refine (eat_no_at J ([123, 34, 36, 34, 58] ++ Lib.itoa n ++ [44, 34, 64, 101, 110, 97, 98, 108, 101, 100, 34, 58]) ([34, 102, 97, 108, 115, 101, 34] ++ [125]) ao k c _ ⟨#[34, 116, 114, 117, 101, 34]⟩ _ (HS.out.drewN _) HK.out HL.out (by decide) (by rw [HJ.out]; simp only [List.append_assoc]) (by simp; omega) (by decide)).mono ?_
  rintro r w4 ⟨rfl, n4, rfl⟩
  go_wp2_with fail
  refine (eat_yes_at J ([123, 34, 36, 34, 58] ++ Lib.itoa n ++ [44, 34, 64, 101, 110, 97, 98, 108, 101, 100, 34, 58]) ([34, 102, 97, 108, 115, 101, 34] ++ [125]) ao k c _ (24 + ((Lib.itoa n).length : Int)) ⟨#[34, 102, 97, 108, 115, 101, 34]⟩ _ (HS.out.drewN _) HK.out HL.out (by decide) (by rw [HJ.out]; simp only [List.append_assoc]) (by simp; omega) (by show _ = _ + (7 : Int); simp; omega) (prefix_app [34, 102, 97, 108, 115, 101, 34] _)).mono ?_
  rintro r w5 ⟨rfl, n5, rfl⟩
  go_wp2_with fail
  refine (eat_yes_at J ([123, 34, 36, 34, 58] ++ Lib.itoa n ++ [44, 34, 64, 101, 110, 97, 98, 108, 101, 100, 34, 58] ++ [34, 102, 97, 108, 115, 101, 34]) [125] ao k c _ (k : Int) ⟨#[125]⟩ _ (HS.out.drewN _) HK.out HL.out (by decide) (by rw [HJ.out]; simp only [List.append_assoc]) (by simp; omega) (by show _ = _ + (1 : Int); rw [HN.out]; simp; omega) (prefix_app [125] [])).mono ?_
  rintro r w6 ⟨rfl, n6, rfl⟩
  go_wp2_with fail
  go_ret3
  exact ⟨rfl, _, rfl⟩

/-- readJSONPort reads back what appendJSON wrote. -/
theorem readJSON_any (n : Int) (e : Bool) (ao : Option Addr) (k c : Nat) (w : World) (h0 : -9223372036854775808 ≤ n) (h1 : n ≤ 9223372036854775807) (hs : Bs w ao (json n e)) (hk : k = (json n e).length) :
    Calls Tryd.prog 13 #[.slice ao k c] w fun r w' => r = .returned (.tuple #[.int .i64 n, .bool e, .bool true]) ∧ ∃ m, w' = w.drewN m := by
  cases e
  · exact readJSON_false n ao k c w h0 h1 hs hk
  · exact readJSON_true n ao k c w h0 h1 hs hk
end Go.Proofs.Qxb6605507aDoor
