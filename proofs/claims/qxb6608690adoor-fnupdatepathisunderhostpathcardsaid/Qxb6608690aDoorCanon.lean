/-
  THE WALK of zzIsCanonicalEscape (10) at a canonical escape.
-/
import Derived.Test.Qxb6608690aDoorMid
namespace Go.Proofs.Qxb6608690aDoor
open Go.RowKit Pl

theorem at_data (s : ByteArray) (k : Nat) (h : k < s.size) : s[k] = s.data.toList[k]'(by simpa using h) := rfl

/-- What the escape holds where byte k begins. -/
theorem esc_at_keep (l : List UInt8) (k : Nat) (h : k < l.length) (hk : keepN l[k].toNat = true) :
    ∃ hi : (esc (l.take k)).length < (esc l).length, (esc l)[(esc (l.take k)).length] = l[k] ∧ (esc (l.take (k + 1))).length = (esc (l.take k)).length + 1 := by
  have e : esc l = esc (l.take k) ++ (l[k] :: esc (l.drop (k + 1))) := by
    have e0 : l = l.take k ++ (l[k] :: l.drop (k + 1)) := by simp
    rw [show esc l = esc (l.take k ++ (l[k] :: l.drop (k + 1))) by rw [← e0], esc_append, esc_cons, escB_keep hk]; rfl
  have e2 : esc (l.take (k + 1)) = esc (l.take k) ++ [l[k]] := by
    rw [List.take_succ_eq_append_getElem h, esc_snoc, escB_keep hk]
  refine ⟨by rw [e]; simp, ?_, by rw [e2]; simp⟩
  simp only [e]
  simp

theorem esc_at_esc (l : List UInt8) (k : Nat) (h : k < l.length) (hk : keepN l[k].toNat = false) :
    ∃ hi : (esc (l.take k)).length + 2 < (esc l).length, (esc l)[(esc (l.take k)).length] = 37 ∧ (esc l)[(esc (l.take k)).length + 1] = hexD (l[k].toNat / 16) ∧
      (esc l)[(esc (l.take k)).length + 2] = hexD (l[k].toNat % 16) ∧ (esc (l.take (k + 1))).length = (esc (l.take k)).length + 3 := by
  have e : esc l = esc (l.take k) ++ (37 :: hexD (l[k].toNat / 16) :: hexD (l[k].toNat % 16) :: esc (l.drop (k + 1))) := by
    have e0 : l = l.take k ++ (l[k] :: l.drop (k + 1)) := by simp
    rw [show esc l = esc (l.take k ++ (l[k] :: l.drop (k + 1))) by rw [← e0], esc_append, esc_cons, escB_esc hk]; rfl
  have e2 : esc (l.take (k + 1)) = esc (l.take k) ++ [37, hexD (l[k].toNat / 16), hexD (l[k].toNat % 16)] := by
    rw [List.take_succ_eq_append_getElem h, esc_snoc, escB_esc hk]
  refine ⟨by rw [e]; simp, ?_, ?_, ?_, by rw [e2]; simp⟩
  all_goals
    simp only [e]
    simp [List.getElem_append_right]

theorem keep_ne37 {n : Nat} (h : keepN n = true) : ((n : Int) == 37) = false := by
  rw [beq_eq_false_iff_ne]
  intro e
  have : n = 37 := by omega
  rw [this] at h
  exact absurd h (by decide)

theorem keep_int (x : Int) (n : Nat) (h : x = (n : Int)) (w : World) :
    Calls Tryd.prog 20 #[.int .u8 x] w fun e w' => e = .returned (.bool (keepN n)) ∧ w' = w := by
  subst h
  exact keep_any n w

set_option maxHeartbeats 400000 in
theorem canon_any (seg host : ByteArray) (w : World) (hs : host.size ≤ 1048576) (he : seg.data.toList = esc host.data.toList) :
    Calls Tryd.prog 10 #[.string seg, .string host] w fun e w' => e = .returned (.bool true) ∧ w' = w := by
  have HE : Hid (seg.data.toList = esc host.data.toList) := he
  have hsz : seg.size ≤ 3 * host.size := by
    have := esc_le3 host.data.toList
    rw [← he] at this
    simpa using this
  clear he
  go_enter Tryd.func10, Tryd.ntmps10
  go_wp2
  go_loop [5, 6] (fun i j => ∃ k I : Nat, k ≤ host.size ∧ Hid (I = (esc (host.data.toList.take k)).length) ∧ j = .int .i64 k ∧ i = .int .i64 (I : Int)) (fun _ j => host.size - (intOf j).toNat)
  case atStart => exact ⟨0, 0, Nat.zero_le _, rfl, rfl, rfl⟩
  case round =>
    obtain ⟨k, I, hk, HI, rfl, rfl⟩ := hrel
    by_cases hlt : k < host.size
    · by_cases hkp : keepN host[k].toNat = true
      · obtain ⟨hi, h1, h2⟩ := esc_at_keep host.data.toList k (by simpa using hlt) hkp
        have hI : I < seg.size := by
          have : (esc (host.data.toList.take k)).length < seg.data.toList.length := by rw [HE.out]; exact hi
          rw [HI.out]; simpa using this
        have hb : seg[I] = host[k] := by
          have : seg.data.toList[I]'(by simpa using hI) = host[k] := by
            simp only [HE.out, HI.out]
            exact h1
          exact this
        have HN : Hid (I + 1 = (esc (host.data.toList.take (k + 1))).length) := by rw [HI.out]; exact h2.symm
        have h37 := keep_ne37 hkp
        clear h1 h2 hi
        go_wp2_with (go_at_call 20; refine (keep_any _ _).mono ?_; rintro e w' ⟨rfl, rfl⟩)
        go_round
        case rel => exact ⟨k + 1, I + 1, by omega, HN, by go_num, by go_num⟩
        case measure => simp [intOf]; omega
      · simp only [Bool.not_eq_true] at hkp
        obtain ⟨hi, h1, h2, h3, h4⟩ := esc_at_esc host.data.toList k (by simpa using hlt) hkp
        have hI : I + 2 < seg.size := by
          have : (esc (host.data.toList.take k)).length + 2 < seg.data.toList.length := by rw [HE.out]; exact hi
          rw [HI.out]; simpa using this
        have hb0 : seg[I] = 37 := by
          have : seg.data.toList[I]'(by simp; omega) = 37 := by
            simp only [HE.out, HI.out]
            exact h1
          exact this
        have hb1 : seg[I + 1] = hexD (host[k].toNat / 16) := by
          have : seg.data.toList[I + 1]'(by simp; omega) = hexD (host[k].toNat / 16) := by
            simp only [HE.out, HI.out]
            exact h2
          exact this
        have hb2 : seg[I + 2] = hexD (host[k].toNat % 16) := by
          have : seg.data.toList[I + 2]'(by simp; omega) = hexD (host[k].toNat % 16) := by
            simp only [HE.out, HI.out]
            exact h3
          exact this
        have HN : Hid (I + 3 = (esc (host.data.toList.take (k + 1))).length) := by rw [HI.out]; exact h4.symm
        have hcl := host[k].toNat_lt
        obtain ⟨D1, hD1, hd1⟩ : ∃ D, D < 16 ∧ D = host[k].toNat / 16 := ⟨host[k].toNat / 16, by omega, rfl⟩
        obtain ⟨D2, hD2, hd2⟩ : ∃ D, D < 16 ∧ D = host[k].toNat % 16 := ⟨host[k].toNat % 16, by omega, rfl⟩
        have HC : Hid (host[k].toNat = D1 * 16 + D2) := by show _ = _; omega
        have v1 : hexV seg[I + 1].toNat = (D1 : Int) := by rw [hb1, ← hd1]; exact hexV_hexD _ hD1
        have v2 : hexV seg[I + 2].toNat = (D2 : Int) := by rw [hb2, ← hd2]; exact hexV_hexD _ hD2
        clear hd1 hd2
        have l1 := seg[I + 1].toNat_lt
        have l2 := seg[I + 2].toNat_lt
        have t37 : ((seg[I].toNat : Int) == 37) = true := by rw [hb0]; rfl
        have HD : Hid ((D1 : Int) * 16 + (D2 : Int) = (host[k].toNat : Int)) := by show _ = _; have := HC.out; omega
        have hne : ((host[k].toNat : Int) != (D1 : Int) * 16 + (D2 : Int)) = false := by rw [HD.out]; simp
        clear h1 h2 h3 h4 hi hb0 hb1 hb2 HC
        go_wp2_with (first
          | (go_at_call 19; refine (hexVal_any _ (by assumption) _).mono ?_; rintro e w' ⟨rfl, rfl⟩)
          | (go_at_call 20; refine (keep_int _ host[k].toNat HD.out _).mono ?_; rintro e w' ⟨rfl, rfl⟩))
        go_round
        case rel => exact ⟨k + 1, I + 3, by omega, HN, by go_num, by go_num⟩
        case measure => simp [intOf]; omega
    · have hI : ¬ I < seg.size := by
        have : k = host.size := by omega
        have h1 := HI.out
        rw [take_all host k (by omega), ← HE.out, len_data] at h1
        omega
      have hkk : k = host.size := by omega
      subst hkk
      go_wp2
      go_ret
      exact ⟨ret_bool (by simp), rfl⟩
end Go.Proofs.Qxb6608690aDoor
