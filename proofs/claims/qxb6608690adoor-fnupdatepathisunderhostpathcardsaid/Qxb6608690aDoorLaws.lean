/-
  THE WALKS of the four laws of seat b6608690aD: each returns true and writes nothing that was there.
-/
import Derived.Test.Qxb6608690aDoorPaths
namespace Go.Proofs.Qxb6608690aDoor
open Go.RowKit Pl

theorem host_pfx (s : ByteArray) : (((hostS s).extract 0 (⟨#[47, 97, 112, 105, 47, 118, 49, 47, 104, 111, 115, 116, 115, 47]⟩ : ByteArray).size).toList == (⟨#[47, 97, 112, 105, 47, 118, 49, 47, 104, 111, 115, 116, 115, 47]⟩ : ByteArray).toList) = true := by
  rw [Lib.extract_toList, hostS_data, beq_iff_eq, Lib.toList_data]
  show List.take 14 (List.drop 0 (pfxL ++ _)) = pfxL
  rw [List.drop_zero]
  exact List.take_left' rfl
theorem host_seg (s : ByteArray) : ((hostS s).extract 14 (hostS s).size).data.toList = esc s.data.toList := by
  rw [Lib.extract_data, hostS_data, List.take_of_length_le]
  · exact List.drop_left' rfl
  · rw [List.length_drop, ← hostS_data, len_data]; exact Nat.le_refl _

theorem tab_later {w w1 : World} (h : Hid (Tab w)) (hb : Below w.heap.size w w1) (hB : 0 < w.heap.size) : Hid (Tab w1) := h.out.below hb hB

set_option maxHeartbeats 400000 in
theorem law3 (s : ByteArray) (w : World) (hs : s.size ≤ maxLen) (hT : Tab w) (hB : 0 < w.heap.size) :
    Calls Tryd.prog 3 #[.string s] w fun e w' => e = .returned (.bool true) ∧ Below w.heap.size w w' := by
  unfold maxLen at hs
  have HT : Hid (Tab w) := hT
  clear hT
  by_cases hl : s.size ≤ 1048576
  · clear hs
    have hz := escS_le s
    have hz2 : 14 ≤ (hostS s).size := by rw [hostS_size]; omega
    have hz3 : (hostS s).size ≤ 3145742 := by rw [hostS_size]; omega
    have HP := (show Hid _ from host_pfx s)
    have HG := (show Hid _ from host_seg s)
    go_enter Tryd.func3, Tryd.ntmps3
    go_wp2_with (first
      | (go_at_call 8; refine (hostPath_any _ _ hl HT.out hB).mono ?_; rintro e w' ⟨rfl, hb⟩)
      | (go_at_call 9; refine (hasPrefix_yes _ _ _ (by show 14 ≤ _; assumption) HP.out).mono ?_; rintro e w' ⟨rfl, rfl⟩)
      | (go_at_call 10; refine (canon_any _ _ _ hl HG.out).mono ?_; rintro e w' ⟨rfl, rfl⟩)
      | go_in)
    go_ret
    exact ⟨rfl, hb⟩
  · go_enter Tryd.func3, Tryd.ntmps3
    go_wp2
    go_ret
    exact ⟨rfl, Below.refl _ _⟩

theorem upd_eq (s : ByteArray) : ((updS s).toList == (hostS s ++ ⟨#[47, 117, 112, 100, 97, 116, 101]⟩).toList) = true := by
  rw [beq_iff_eq, Lib.toList_data, Lib.toList_data, updS_data, ByteArray.data_append, Array.toList_append, hostS_data]; rfl
theorem upd_pfx (s : ByteArray) : (((updS s).extract 0 (⟨#[47, 97, 112, 105, 47, 118, 49, 47, 104, 111, 115, 116, 115, 47]⟩ : ByteArray).size).toList == (⟨#[47, 97, 112, 105, 47, 118, 49, 47, 104, 111, 115, 116, 115, 47]⟩ : ByteArray).toList) = true := by
  rw [Lib.extract_toList, updS_data, beq_iff_eq, Lib.toList_data, List.append_assoc]
  show List.take 14 (List.drop 0 (pfxL ++ _)) = pfxL
  rw [List.drop_zero]
  exact List.take_left' rfl
theorem upd_sfx (s : ByteArray) : (((updS s).extract ((updS s).size - (⟨#[47, 117, 112, 100, 97, 116, 101]⟩ : ByteArray).size) (updS s).size).toList == (⟨#[47, 117, 112, 100, 97, 116, 101]⟩ : ByteArray).toList) = true := by
  have hz := updS_size s
  have he := escS_size s
  have e7 : (⟨#[47, 117, 112, 100, 97, 116, 101]⟩ : ByteArray).size = 7 := rfl
  rw [Lib.extract_toList, updS_data, beq_iff_eq, Lib.toList_data, e7, show (updS s).size - 7 = (pfxL ++ esc s.data.toList).length by rw [List.length_append]; show _ = 14 + _; omega]
  rw [List.drop_left' rfl, List.take_of_length_le]
  · rfl
  · show 7 ≤ _
    rw [List.length_append]; show _ ≤ _ - (14 + _); omega
theorem upd_seg (s : ByteArray) : ((updS s).extract 14 ((updS s).size - 7)).data.toList = esc s.data.toList := by
  have hz := updS_size s
  have he := escS_size s
  rw [Lib.extract_data, updS_data, List.append_assoc, show List.drop 14 (pfxL ++ (esc s.data.toList ++ updL)) = esc s.data.toList ++ updL from List.drop_left' rfl, show (updS s).size - 7 - 14 = (esc s.data.toList).length by omega]
  exact List.take_left' rfl

set_option maxHeartbeats 400000 in
theorem law5 (s : ByteArray) (w : World) (hs : s.size ≤ maxLen) (hT : Tab w) (hB : 0 < w.heap.size) :
    Calls Tryd.prog 5 #[.string s] w fun e w' => e = .returned (.bool true) ∧ Below w.heap.size w w' := by
  unfold maxLen at hs
  have HT : Hid (Tab w) := hT
  clear hT
  by_cases hl : s.size ≤ 1048576
  · clear hs
    have hz := escS_le s
    have hz1 : (hostS s).size ≤ 3145742 := by rw [hostS_size]; omega
    have hz2 : 21 ≤ (updS s).size := by rw [updS_size]; omega
    have hz3 : (updS s).size ≤ 3145749 := by rw [updS_size]; omega
    have hq := upd_eq s
    have HP := (show Hid _ from upd_pfx s)
    have HS := (show Hid _ from upd_sfx s)
    have HG := (show Hid _ from upd_seg s)
    go_enter Tryd.func5, Tryd.ntmps5
    go_wp2_with (first
      | (go_at_call 14; go_in)
      | (go_at_call 15; refine (updPath_any _ _ hl HT.out hB).mono ?_; rintro e w1 ⟨rfl, hb1⟩)
      | (go_at_call 8; refine (hostPath_any _ _ hl (HT.out.below hb1 hB) (Nat.lt_of_lt_of_le hB hb1.size)).mono ?_; rintro e w2 ⟨rfl, hb2⟩)
      | (go_at_call 9; refine (hasPrefix_yes _ _ _ (by show 14 ≤ _; omega) HP.out).mono ?_; rintro e w' ⟨rfl, rfl⟩)
      | (go_at_call 16; refine (hasSuffix_yes _ _ _ (by show 7 ≤ _; omega) (by omega) HS.out).mono ?_; rintro e w' ⟨rfl, rfl⟩)
      | (go_at_call 10; refine (canon_any _ _ _ hl HG.out).mono ?_; rintro e w' ⟨rfl, rfl⟩))
    go_ret
    exact ⟨rfl, hb1.trans (hb2.mono hb1.size)⟩
  · go_enter Tryd.func5, Tryd.ntmps5
    go_wp2
    go_ret
    exact ⟨rfl, Below.refl _ _⟩
end Go.Proofs.Qxb6608690aDoor
