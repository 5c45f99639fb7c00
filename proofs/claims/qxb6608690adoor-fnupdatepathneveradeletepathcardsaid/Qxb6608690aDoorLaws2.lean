/-
  THE WALKS of the two laws over two hosts.
-/
import Derived.Test.Qxb6608690aDoorLaws
namespace Go.Proofs.Qxb6608690aDoor
open Go.RowKit Pl

theorem host_inj (a b : ByteArray) : ((hostS a).toList == (hostS b).toList) = (a.toList == b.toList) := by
  rw [Bool.eq_iff_iff, beq_iff_eq, beq_iff_eq]
  rw [Lib.toList_data, Lib.toList_data, Lib.toList_data, Lib.toList_data, hostS_data, hostS_data]
  constructor
  · intro h; exact esc_inj _ _ (List.append_cancel_left h)
  · intro h; rw [h]
theorem upd_inj (a b : ByteArray) : ((updS a).toList == (updS b).toList) = (a.toList == b.toList) := by
  rw [Bool.eq_iff_iff, beq_iff_eq, beq_iff_eq]
  rw [Lib.toList_data, Lib.toList_data, Lib.toList_data, Lib.toList_data, updS_data, updS_data]
  constructor
  · intro h; exact esc_inj _ _ (List.append_cancel_left (List.append_cancel_right h))
  · intro h; rw [h]
theorem host_slash (s : ByteArray) : slashes (hostS s).data.toList = 4 := by
  rw [hostS_data, slashes_append, slashes_esc]; rfl
theorem upd_slash (s : ByteArray) : slashes (updS s).data.toList = 5 := by
  rw [updS_data, slashes_append, slashes_append, slashes_esc]; rfl
theorem upd_ne_host (a b : ByteArray) : ((updS a).toList == (hostS b).toList) = false := by
  rw [beq_eq_false_iff_ne, Lib.toList_data, Lib.toList_data]
  intro h
  have := congrArg slashes h
  rw [upd_slash, host_slash] at this
  exact absurd this (by decide)

theorem bytes11 (a b : ByteArray) (w : World) (ha : a.size ≤ 524288) (hb : b.size ≤ 524288) :
    Calls Tryd.prog 11 #[.string a, .string b] w fun e w' => e = .returned (.bool true) ∧ w' = w := by
  go_enter Tryd.func11, Tryd.ntmps11
  go_wp2
  go_ret
  exact ⟨rfl, rfl⟩
theorem bytes17 (a b : ByteArray) (w : World) (ha : a.size ≤ 524288) (hb : b.size ≤ 524288) :
    Calls Tryd.prog 17 #[.string a, .string b] w fun e w' => e = .returned (.bool true) ∧ w' = w := by
  go_enter Tryd.func17, Tryd.ntmps17
  go_wp2
  go_ret
  exact ⟨rfl, rfl⟩

set_option maxHeartbeats 400000 in
theorem law4 (a b : ByteArray) (w : World) (ha : a.size ≤ maxLen) (hb : b.size ≤ maxLen) (hT : Tab w) (hB : 0 < w.heap.size) :
    Calls Tryd.prog 4 #[.string a, .string b] w fun e w' => e = .returned (.bool true) ∧ Below w.heap.size w w' := by
  unfold maxLen at ha hb
  have HT : Hid (Tab w) := hT
  clear hT
  by_cases hla : a.size ≤ 524288
  · by_cases hlb : b.size ≤ 524288
    · clear ha hb
      have hz := escS_le a
      have hz3 : (hostS a).size ≤ 3145742 := by rw [hostS_size]; omega
      have hz4 : (esc a.data.toList).length ≤ 3145742 := by rw [← escS_size]; omega
      have hq := host_inj a b
      have hln : (((hostS a).size : Int) == 14 + ((esc a.data.toList).length : Int)) = true := by rw [hostS_size, escS_size, beq_iff_eq]; omega
      have hsl : ((slashes (hostS a).data.toList : Int) == 4) = true := by rw [host_slash]; rfl
      go_enter Tryd.func4, Tryd.ntmps4
      go_wp2_with (go_at_call 11; refine (bytes11 _ _ _ hla hlb).mono ?_; rintro e w' ⟨rfl, rfl⟩)
      refine (hostPath_any a _ (by omega) HT.out hB).mono ?_
      rintro e w1 ⟨rfl, hb1⟩
      go_wp2_with fail
      refine (hostPath_any b _ (by omega) (HT.out.below hb1 hB) (Nat.lt_of_lt_of_le hB hb1.size)).mono ?_
      rintro e w2 ⟨rfl, hb2⟩
      have HB := (show Hid _ from hb1.trans (hb2.mono hb1.size))
      clear hb1 hb2 HT
      go_wp2_with (first
        | (go_at_call 12; refine (escLen_any _ _ (by omega)).mono ?_; rintro e w' ⟨rfl, rfl⟩)
        | (go_at_call 13; refine (slash_any _ _ (by omega)).mono ?_; rintro e w' ⟨rfl, rfl⟩))
      go_ret
      exact ⟨rfl, HB.out⟩
    · go_enter Tryd.func4, Tryd.ntmps4
      go_wp2
      all_goals
        go_ret
        exact ⟨rfl, Below.refl _ _⟩
  · go_enter Tryd.func4, Tryd.ntmps4
    go_wp2
    all_goals
      go_ret
      exact ⟨rfl, Below.refl _ _⟩

set_option maxHeartbeats 400000 in
theorem law6 (a b : ByteArray) (w : World) (ha : a.size ≤ maxLen) (hb : b.size ≤ maxLen) (hT : Tab w) (hB : 0 < w.heap.size) :
    Calls Tryd.prog 6 #[.string a, .string b] w fun e w' => e = .returned (.bool true) ∧ Below w.heap.size w w' := by
  unfold maxLen at ha hb
  have HT : Hid (Tab w) := hT
  clear hT
  by_cases hla : a.size ≤ 524288
  · by_cases hlb : b.size ≤ 524288
    · clear ha hb
      have hz := escS_le a
      have hz3 : (updS a).size ≤ 3145749 := by rw [updS_size]; omega
      have hz4 : (esc a.data.toList).length ≤ 3145742 := by rw [← escS_size]; omega
      have hq := upd_inj a b
      have hne := upd_ne_host a b
      have hln : (((updS a).size : Int) == 14 + ((esc a.data.toList).length : Int) + 7) = true := by rw [updS_size, escS_size, beq_iff_eq]; omega
      have hsl : ((slashes (updS a).data.toList : Int) == 5) = true := by rw [upd_slash]; rfl
      go_enter Tryd.func6, Tryd.ntmps6
      go_wp2_with (go_at_call 17; refine (bytes17 _ _ _ hla hlb).mono ?_; rintro e w' ⟨rfl, rfl⟩)
      refine (updPath_any a _ (by omega) HT.out hB).mono ?_
      rintro e w1 ⟨rfl, hb1⟩
      go_wp2_with fail
      refine (updPath_any b _ (by omega) (HT.out.below hb1 hB) (Nat.lt_of_lt_of_le hB hb1.size)).mono ?_
      rintro e w2 ⟨rfl, hb2⟩
      have HB := (show Hid _ from hb1.trans (hb2.mono hb1.size))
      have hB2 := Nat.lt_of_lt_of_le hB HB.out.size
      clear hb1 hb2
      go_wp2_with fail
      refine (hostPath_any b _ (by omega) (HT.out.below HB.out hB) hB2).mono ?_
      rintro e w3 ⟨rfl, hb3⟩
      have HB3 := (show Hid _ from HB.out.trans (hb3.mono HB.out.size))
      clear hb3 HT HB hB2
      go_wp2_with (first
        | (go_at_call 12; refine (escLen_any _ _ (by omega)).mono ?_; rintro e w' ⟨rfl, rfl⟩)
        | (go_at_call 13; refine (slash_any _ _ (by omega)).mono ?_; rintro e w' ⟨rfl, rfl⟩))
      go_ret
      exact ⟨rfl, HB3.out⟩
    · go_enter Tryd.func6, Tryd.ntmps6
      go_wp2
      all_goals
        go_ret
        exact ⟨rfl, Below.refl _ _⟩
  · go_enter Tryd.func6, Tryd.ntmps6
    go_wp2
    all_goals
      go_ret
      exact ⟨rfl, Below.refl _ _⟩
end Go.Proofs.Qxb6608690aDoor
