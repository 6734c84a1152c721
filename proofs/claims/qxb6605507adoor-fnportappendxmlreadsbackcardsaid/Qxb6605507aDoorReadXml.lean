import Derived.Test.Qxb6605507aDoorReadJson
import Derived.Test.Qxb6605507aDoorXml
namespace Go.Proofs.Qxb6605507aDoor
open Go Go.RowKit
set_option linter.unusedSimpArgs false

set_option maxRecDepth 100000 in
set_option maxHeartbeats 2000000 in
theorem readXML_true (n : Int) (ao : Option Addr) (k c : Nat) (s : ByteArray) (w : World) (h0 : -9223372036854775808 ≤ n) (h1 : n ≤ 9223372036854775807) (hs : Bs w ao (xml n true s.data.toList)) (hk : k = (xml n true s.data.toList).length) (hsz : s.size ≤ 1048576) :
    Calls Tryd.prog 15 #[.slice ao k c, .string s] w fun r w' => r = .returned (.tuple #[.int .i64 n, .bool true, .bool true]) ∧ ∃ m, w' = w.drewN m := by
  have hlen := xml_len n true s.data.toList
  have hfl : (boolText true).length = 4 := rfl
  have hit := itoa_len_le n h0 h1
  have hsl : s.data.toList.length = s.size := by rw [Array.length_toList]; rfl
  have HZ : Hid (s.data.toList.length = s.size) := hsl
  have HN : Hid (k = 16 + 4 + 2 * s.size + (Lib.itoa n).length) := by show _ = _; omega
  have HK : Hid (k = (xml n true s.data.toList).length) := hk
  have HJ : Hid (xml n true s.data.toList = ([60] ++ (s.data.toList ++ ([32, 101, 110, 97, 98, 108, 101, 100, 61, 34] ++ ([116, 114, 117, 101] ++ ([34, 62] ++ (Lib.itoa n ++ ([60, 47] ++ (s.data.toList ++ [62]))))))))) := rfl
  have HL : Hid ((xml n true s.data.toList).length ≤ 1000000000) := by show _ ≤ _; omega
  clear hk hlen hfl hsl
  have HS : Hid (Bs w ao (xml n true s.data.toList)) := hs
  clear hs
  generalize xml n true s.data.toList = J at *
  go_enter Tryd.func15, Tryd.ntmps15
  go_wp2_with fail
  refine (eat_yes_at J [] ([60] ++ (s.data.toList ++ ([32, 101, 110, 97, 98, 108, 101, 100, 61, 34] ++ ([116, 114, 117, 101] ++ ([34, 62] ++ (Lib.itoa n ++ ([60, 47] ++ (s.data.toList ++ [62])))))))) ao k c 0 1 ⟨#[60]⟩ w HS.out HK.out HL.out (by first | decide | omega) (by rw [HJ.out]; try simp only [List.append_assoc, List.nil_append]) rfl rfl (prefix_app [60] _)).mono ?_
  rintro r w1 ⟨rfl, n1, rfl⟩
  go_wp2_with fail
  refine (eat_yes_at J ([60]) (s.data.toList ++ ([32, 101, 110, 97, 98, 108, 101, 100, 61, 34] ++ ([116, 114, 117, 101] ++ ([34, 62] ++ (Lib.itoa n ++ ([60, 47] ++ (s.data.toList ++ [62]))))))) ao k c _ (1 + (s.size : Int)) s _ (HS.out.drewN _) HK.out HL.out (by first | decide | omega) (by rw [HJ.out]; try simp only [List.append_assoc, List.nil_append]) (by simp [HZ.out]; try omega) (by show _ = _ + (s.size : Int); simp [HZ.out]; try omega) (prefix_app s.data.toList _)).mono ?_
  rintro r w2 ⟨rfl, n2, rfl⟩
  go_wp2_with fail
  refine (eat_yes_at J ([60] ++ s.data.toList) ([32, 101, 110, 97, 98, 108, 101, 100, 61, 34] ++ ([116, 114, 117, 101] ++ ([34, 62] ++ (Lib.itoa n ++ ([60, 47] ++ (s.data.toList ++ [62])))))) ao k c _ (11 + (s.size : Int)) ⟨#[32, 101, 110, 97, 98, 108, 101, 100, 61, 34]⟩ _ (HS.out.drewN _) HK.out HL.out (by first | decide | omega) (by rw [HJ.out]; try simp only [List.append_assoc, List.nil_append]) (by simp [HZ.out]; try omega) (by show _ = _ + (10 : Int); simp [HZ.out]; try omega) (prefix_app [32, 101, 110, 97, 98, 108, 101, 100, 61, 34] _)).mono ?_
  rintro r w3 ⟨rfl, n3, rfl⟩
  go_wp2_with fail
  refine (eat_yes_at J ([60] ++ s.data.toList ++ [32, 101, 110, 97, 98, 108, 101, 100, 61, 34]) ([116, 114, 117, 101] ++ ([34, 62] ++ (Lib.itoa n ++ ([60, 47] ++ (s.data.toList ++ [62]))))) ao k c _ (15 + (s.size : Int)) ⟨#[116, 114, 117, 101]⟩ _ (HS.out.drewN _) HK.out HL.out (by first | decide | omega) (by rw [HJ.out]; try simp only [List.append_assoc, List.nil_append]) (by simp [HZ.out]; try omega) (by show _ = _ + (4 : Int); simp [HZ.out]; try omega) (prefix_app [116, 114, 117, 101] _)).mono ?_
  rintro r w4 ⟨rfl, n4, rfl⟩
  go_wp2_with fail
  refine (eat_yes_at J ([60] ++ s.data.toList ++ [32, 101, 110, 97, 98, 108, 101, 100, 61, 34] ++ [116, 114, 117, 101]) ([34, 62] ++ (Lib.itoa n ++ ([60, 47] ++ (s.data.toList ++ [62])))) ao k c _ (17 + (s.size : Int)) ⟨#[34, 62]⟩ _ (HS.out.drewN _) HK.out HL.out (by first | decide | omega) (by rw [HJ.out]; try simp only [List.append_assoc, List.nil_append]) (by simp [HZ.out]; try omega) (by show _ = _ + (2 : Int); simp [HZ.out]; try omega) (prefix_app [34, 62] _)).mono ?_
  rintro r w5 ⟨rfl, n5, rfl⟩
  go_wp2_with fail
  refine (readInt_any J ([60] ++ s.data.toList ++ [32, 101, 110, 97, 98, 108, 101, 100, 61, 34] ++ [116, 114, 117, 101] ++ [34, 62]) _ n 60 ao k c _ _ (HS.out.drewN _) HK.out HL.out h0 h1 (by rw [HJ.out]; simp only [List.append_assoc]; rfl) (by simp [HZ.out]; try omega) (by right; decide)).mono ?_
  rintro r w9 ⟨rfl, rfl⟩

  go_wp2_with fail
  refine (eat_yes_at J ([60] ++ s.data.toList ++ [32, 101, 110, 97, 98, 108, 101, 100, 61, 34] ++ [116, 114, 117, 101] ++ [34, 62] ++ Lib.itoa n) ([60, 47] ++ (s.data.toList ++ [62])) ao k c _ (19 + (s.size : Int) + ((Lib.itoa n).length : Int)) ⟨#[60, 47]⟩ _ (HS.out.drewN _) HK.out HL.out (by first | decide | omega) (by rw [HJ.out]; try simp only [List.append_assoc, List.nil_append]) (by simp [HZ.out]; try omega) (by show _ = _ + (2 : Int); simp [HZ.out]; try omega) (prefix_app [60, 47] _)).mono ?_
  rintro r w6 ⟨rfl, n6, rfl⟩
  go_wp2_with fail
  refine (eat_yes_at J ([60] ++ s.data.toList ++ [32, 101, 110, 97, 98, 108, 101, 100, 61, 34] ++ [116, 114, 117, 101] ++ [34, 62] ++ Lib.itoa n ++ [60, 47]) (s.data.toList ++ [62]) ao k c _ (19 + (s.size : Int) + ((Lib.itoa n).length : Int) + (s.size : Int)) s _ (HS.out.drewN _) HK.out HL.out (by first | decide | omega) (by rw [HJ.out]; try simp only [List.append_assoc, List.nil_append]) (by simp [HZ.out]; try omega) (by show _ = _ + (s.size : Int); simp [HZ.out]; try omega) (prefix_app s.data.toList _)).mono ?_
  rintro r w7 ⟨rfl, n7, rfl⟩
  go_wp2_with fail
  refine (eat_yes_at J ([60] ++ s.data.toList ++ [32, 101, 110, 97, 98, 108, 101, 100, 61, 34] ++ [116, 114, 117, 101] ++ [34, 62] ++ Lib.itoa n ++ [60, 47] ++ s.data.toList) [62] ao k c _ (k : Int) ⟨#[62]⟩ _ (HS.out.drewN _) HK.out HL.out (by first | decide | omega) (by rw [HJ.out]; try simp only [List.append_assoc, List.nil_append]) (by simp [HZ.out]; try omega) (by show _ = _ + (1 : Int); rw [HN.out]; simp [HZ.out]; try omega) (prefix_app [62] [])).mono ?_
  rintro r w8 ⟨rfl, n8, rfl⟩
  go_wp2_with fail
  go_ret3
  exact ⟨rfl, _, rfl⟩

set_option maxRecDepth 100000 in
set_option maxHeartbeats 2000000 in
theorem readXML_false (n : Int) (ao : Option Addr) (k c : Nat) (s : ByteArray) (w : World) (h0 : -9223372036854775808 ≤ n) (h1 : n ≤ 9223372036854775807) (hs : Bs w ao (xml n false s.data.toList)) (hk : k = (xml n false s.data.toList).length) (hsz : s.size ≤ 1048576) :
    Calls Tryd.prog 15 #[.slice ao k c, .string s] w fun r w' => r = .returned (.tuple #[.int .i64 n, .bool false, .bool true]) ∧ ∃ m, w' = w.drewN m := by
  have hlen := xml_len n false s.data.toList
  have hfl : (boolText false).length = 5 := rfl
  have hit := itoa_len_le n h0 h1
  have hsl : s.data.toList.length = s.size := by rw [Array.length_toList]; rfl
  have HZ : Hid (s.data.toList.length = s.size) := hsl
  have HN : Hid (k = 16 + 5 + 2 * s.size + (Lib.itoa n).length) := by show _ = _; omega
  have HK : Hid (k = (xml n false s.data.toList).length) := hk
  have HJ : Hid (xml n false s.data.toList = ([60] ++ (s.data.toList ++ ([32, 101, 110, 97, 98, 108, 101, 100, 61, 34] ++ ([102, 97, 108, 115, 101] ++ ([34, 62] ++ (Lib.itoa n ++ ([60, 47] ++ (s.data.toList ++ [62]))))))))) := rfl
  have HL : Hid ((xml n false s.data.toList).length ≤ 1000000000) := by show _ ≤ _; omega
  clear hk hlen hfl hsl
  have HS : Hid (Bs w ao (xml n false s.data.toList)) := hs
  clear hs
  generalize xml n false s.data.toList = J at *
  go_enter Tryd.func15, Tryd.ntmps15
  go_wp2_with fail
  refine (eat_yes_at J [] ([60] ++ (s.data.toList ++ ([32, 101, 110, 97, 98, 108, 101, 100, 61, 34] ++ ([102, 97, 108, 115, 101] ++ ([34, 62] ++ (Lib.itoa n ++ ([60, 47] ++ (s.data.toList ++ [62])))))))) ao k c 0 1 ⟨#[60]⟩ w HS.out HK.out HL.out (by first | decide | omega) (by rw [HJ.out]; try simp only [List.append_assoc, List.nil_append]) rfl rfl (prefix_app [60] _)).mono ?_
  rintro r w1 ⟨rfl, n1, rfl⟩
  go_wp2_with fail
  refine (eat_yes_at J ([60]) (s.data.toList ++ ([32, 101, 110, 97, 98, 108, 101, 100, 61, 34] ++ ([102, 97, 108, 115, 101] ++ ([34, 62] ++ (Lib.itoa n ++ ([60, 47] ++ (s.data.toList ++ [62]))))))) ao k c _ (1 + (s.size : Int)) s _ (HS.out.drewN _) HK.out HL.out (by first | decide | omega) (by rw [HJ.out]; try simp only [List.append_assoc, List.nil_append]) (by simp [HZ.out]; try omega) (by show _ = _ + (s.size : Int); simp [HZ.out]; try omega) (prefix_app s.data.toList _)).mono ?_
  rintro r w2 ⟨rfl, n2, rfl⟩
  go_wp2_with fail
  refine (eat_yes_at J ([60] ++ s.data.toList) ([32, 101, 110, 97, 98, 108, 101, 100, 61, 34] ++ ([102, 97, 108, 115, 101] ++ ([34, 62] ++ (Lib.itoa n ++ ([60, 47] ++ (s.data.toList ++ [62])))))) ao k c _ (11 + (s.size : Int)) ⟨#[32, 101, 110, 97, 98, 108, 101, 100, 61, 34]⟩ _ (HS.out.drewN _) HK.out HL.out (by first | decide | omega) (by rw [HJ.out]; try simp only [List.append_assoc, List.nil_append]) (by simp [HZ.out]; try omega) (by show _ = _ + (10 : Int); simp [HZ.out]; try omega) (prefix_app [32, 101, 110, 97, 98, 108, 101, 100, 61, 34] _)).mono ?_
  rintro r w3 ⟨rfl, n3, rfl⟩
  go_wp2_with fail
  refine (eat_no_at J ([60] ++ s.data.toList ++ [32, 101, 110, 97, 98, 108, 101, 100, 61, 34]) ([102, 97, 108, 115, 101] ++ ([34, 62] ++ (Lib.itoa n ++ ([60, 47] ++ (s.data.toList ++ [62]))))) ao k c _ ⟨#[116, 114, 117, 101]⟩ _ (HS.out.drewN _) HK.out HL.out (by decide) (by rw [HJ.out]; simp only [List.append_assoc]) (by simp [HZ.out]; try omega) rfl).mono ?_
  rintro r w31 ⟨rfl, n31, rfl⟩
  go_wp2_with fail
  refine (eat_yes_at J ([60] ++ s.data.toList ++ [32, 101, 110, 97, 98, 108, 101, 100, 61, 34]) ([102, 97, 108, 115, 101] ++ ([34, 62] ++ (Lib.itoa n ++ ([60, 47] ++ (s.data.toList ++ [62]))))) ao k c _ (16 + (s.size : Int)) ⟨#[102, 97, 108, 115, 101]⟩ _ (HS.out.drewN _) HK.out HL.out (by first | decide | omega) (by rw [HJ.out]; try simp only [List.append_assoc, List.nil_append]) (by simp [HZ.out]; try omega) (by show _ = _ + (5 : Int); simp [HZ.out]; try omega) (prefix_app [102, 97, 108, 115, 101] _)).mono ?_
  rintro r w4 ⟨rfl, n4, rfl⟩
  go_wp2_with fail
  refine (eat_yes_at J ([60] ++ s.data.toList ++ [32, 101, 110, 97, 98, 108, 101, 100, 61, 34] ++ [102, 97, 108, 115, 101]) ([34, 62] ++ (Lib.itoa n ++ ([60, 47] ++ (s.data.toList ++ [62])))) ao k c _ (18 + (s.size : Int)) ⟨#[34, 62]⟩ _ (HS.out.drewN _) HK.out HL.out (by first | decide | omega) (by rw [HJ.out]; try simp only [List.append_assoc, List.nil_append]) (by simp [HZ.out]; try omega) (by show _ = _ + (2 : Int); simp [HZ.out]; try omega) (prefix_app [34, 62] _)).mono ?_
  rintro r w5 ⟨rfl, n5, rfl⟩
  go_wp2_with fail
  refine (readInt_any J ([60] ++ s.data.toList ++ [32, 101, 110, 97, 98, 108, 101, 100, 61, 34] ++ [102, 97, 108, 115, 101] ++ [34, 62]) _ n 60 ao k c _ _ (HS.out.drewN _) HK.out HL.out h0 h1 (by rw [HJ.out]; simp only [List.append_assoc]; rfl) (by simp [HZ.out]; try omega) (by right; decide)).mono ?_
  rintro r w9 ⟨rfl, rfl⟩

  go_wp2_with fail
  refine (eat_yes_at J ([60] ++ s.data.toList ++ [32, 101, 110, 97, 98, 108, 101, 100, 61, 34] ++ [102, 97, 108, 115, 101] ++ [34, 62] ++ Lib.itoa n) ([60, 47] ++ (s.data.toList ++ [62])) ao k c _ (20 + (s.size : Int) + ((Lib.itoa n).length : Int)) ⟨#[60, 47]⟩ _ (HS.out.drewN _) HK.out HL.out (by first | decide | omega) (by rw [HJ.out]; try simp only [List.append_assoc, List.nil_append]) (by simp [HZ.out]; try omega) (by show _ = _ + (2 : Int); simp [HZ.out]; try omega) (prefix_app [60, 47] _)).mono ?_
  rintro r w6 ⟨rfl, n6, rfl⟩
  go_wp2_with fail
  refine (eat_yes_at J ([60] ++ s.data.toList ++ [32, 101, 110, 97, 98, 108, 101, 100, 61, 34] ++ [102, 97, 108, 115, 101] ++ [34, 62] ++ Lib.itoa n ++ [60, 47]) (s.data.toList ++ [62]) ao k c _ (20 + (s.size : Int) + ((Lib.itoa n).length : Int) + (s.size : Int)) s _ (HS.out.drewN _) HK.out HL.out (by first | decide | omega) (by rw [HJ.out]; try simp only [List.append_assoc, List.nil_append]) (by simp [HZ.out]; try omega) (by show _ = _ + (s.size : Int); simp [HZ.out]; try omega) (prefix_app s.data.toList _)).mono ?_
  rintro r w7 ⟨rfl, n7, rfl⟩
  go_wp2_with fail
  refine (eat_yes_at J ([60] ++ s.data.toList ++ [32, 101, 110, 97, 98, 108, 101, 100, 61, 34] ++ [102, 97, 108, 115, 101] ++ [34, 62] ++ Lib.itoa n ++ [60, 47] ++ s.data.toList) [62] ao k c _ (k : Int) ⟨#[62]⟩ _ (HS.out.drewN _) HK.out HL.out (by first | decide | omega) (by rw [HJ.out]; try simp only [List.append_assoc, List.nil_append]) (by simp [HZ.out]; try omega) (by show _ = _ + (1 : Int); rw [HN.out]; simp [HZ.out]; try omega) (prefix_app [62] [])).mono ?_
  rintro r w8 ⟨rfl, n8, rfl⟩
  go_wp2_with fail
  go_ret3
  exact ⟨rfl, _, rfl⟩

/-- readXMLPort reads back what appendXML wrote. -/
theorem readXML_any (n : Int) (e : Bool) (ao : Option Addr) (k c : Nat) (s : ByteArray) (w : World) (h0 : -9223372036854775808 ≤ n) (h1 : n ≤ 9223372036854775807) (hs : Bs w ao (xml n e s.data.toList)) (hk : k = (xml n e s.data.toList).length) (hsz : s.size ≤ 1048576) :
    Calls Tryd.prog 15 #[.slice ao k c, .string s] w fun r w' => r = .returned (.tuple #[.int .i64 n, .bool e, .bool true]) ∧ ∃ m, w' = w.drewN m := by
  cases e
  · exact readXML_false n ao k c s w h0 h1 hs hk hsz
  · exact readXML_true n ao k c s w h0 h1 hs hk hsz
end Go.Proofs.Qxb6605507aDoor
