/-
  THE WALKS of zzEscapedLen (12), zzCountSlash (13), zzHasPrefix (9), zzHasSuffix (16), net/url.shouldEscape (23).
-/
import Derived.Test.Qxb6608690aDoorSmall
namespace Go.Proofs.Qxb6608690aDoor
open Go.RowKit Pl

theorem take_snoc (s : ByteArray) (k : Nat) (h : k < s.size) : s.data.toList.take (k + 1) = s.data.toList.take k ++ [s[k]] := by
  rw [List.take_succ_eq_append_getElem (by simpa using h)]; rfl
theorem take_all (s : ByteArray) (k : Nat) (h : s.size ≤ k) : s.data.toList.take k = s.data.toList :=
  List.take_of_length_le (by simpa using h)
theorem len_data (s : ByteArray) : s.data.toList.length = s.size := by simp

theorem esc_le3 (l : List UInt8) : (esc l).length ≤ 3 * l.length := by
  have := esc_length l
  have := hexC_le l
  omega

set_option maxHeartbeats 400000 in
theorem escLen_any (s : ByteArray) (w : World) (hs : s.size ≤ 4611686018427) :
    Calls Tryd.prog 12 #[.string s] w fun e w' => e = .returned (.int .i64 ((esc s.data.toList).length : Int)) ∧ w' = w := by
  go_enter Tryd.func12, Tryd.ntmps12
  go_wp2
  go_loop [3, 4] (fun n i => ∃ k : Nat, k ≤ s.size ∧ i = .int .i64 k ∧ n = .int .i64 ((esc (s.data.toList.take k)).length : Int)) (fun _ i => s.size - (intOf i).toNat)
  case atStart => exact ⟨0, Nat.zero_le _, rfl, rfl⟩
  case round =>
    obtain ⟨k, hk, rfl, rfl⟩ := hrel
    have hd := esc_le3 (s.data.toList.take k)
    have hl : (s.data.toList.take k).length ≤ k := List.length_take_le _ _
    by_cases hlt : k < s.size
    · have HS : Hid (esc (s.data.toList.take (k + 1)) = esc (s.data.toList.take k) ++ escB s[k]) := by rw [take_snoc s k hlt, esc_snoc]; rfl
      by_cases hkp : keepN s[k].toNat = true
      · go_wp2_with (go_at_call 20; refine (keep_any _ _).mono ?_; rintro e w' ⟨rfl, rfl⟩)
        go_round
        case rel => exact ⟨k + 1, by omega, by go_num, by rw [HS.out, escB_keep hkp]; simp⟩
        case measure => simp [intOf]; omega
      · simp only [Bool.not_eq_true] at hkp
        go_wp2_with (go_at_call 20; refine (keep_any _ _).mono ?_; rintro e w' ⟨rfl, rfl⟩)
        go_round
        case rel => exact ⟨k + 1, by omega, by go_num, by rw [HS.out, escB_esc hkp]; simp⟩
        case measure => simp [intOf]; omega
    · go_wp2
      go_ret
      exact ⟨ret_int (by rw [take_all s k (by omega)]), rfl⟩

set_option maxHeartbeats 400000 in
theorem slash_any (s : ByteArray) (w : World) (hs : s.size ≤ 4611686018427) :
    Calls Tryd.prog 13 #[.string s] w fun e w' => e = .returned (.int .i64 (slashes s.data.toList : Int)) ∧ w' = w := by
  go_enter Tryd.func13, Tryd.ntmps13
  go_wp2
  go_loop [3, 4] (fun n i => ∃ k : Nat, k ≤ s.size ∧ i = .int .i64 k ∧ n = .int .i64 (slashes (s.data.toList.take k) : Int)) (fun _ i => s.size - (intOf i).toNat)
  case atStart => exact ⟨0, Nat.zero_le _, rfl, rfl⟩
  case round =>
    obtain ⟨k, hk, rfl, rfl⟩ := hrel
    have hd := slashes_le (s.data.toList.take k)
    have hl : (s.data.toList.take k).length ≤ k := List.length_take_le _ _
    by_cases hlt : k < s.size
    · have HS : Hid (slashes (s.data.toList.take (k + 1)) = slashes (s.data.toList.take k) + (if s[k].toNat = 47 then 1 else 0)) := by rw [take_snoc s k hlt, slashes_snoc]; rfl
      go_wp2
      all_goals
        go_round
        case rel =>
          refine ⟨k + 1, by omega, by go_num, ?_⟩
          rw [HS.out]
          simp only [beq_iff_eq, beq_eq_false_iff_ne] at *
          first | (rw [if_pos (by omega)]; go_num) | (rw [if_neg (by omega)]; go_num)
        case measure => simp [intOf]; omega
    · go_wp2
      go_ret
      exact ⟨ret_int (by rw [take_all s k (by omega)]), rfl⟩

set_option maxHeartbeats 400000 in
theorem hasPrefix_yes (s p : ByteArray) (w : World) (hp : p.size ≤ s.size) (he : ((s.extract 0 p.size).toList == p.toList) = true) :
    Calls Tryd.prog 9 #[.string s, .string p] w fun e w' => e = .returned (.bool true) ∧ w' = w := by
  have hp' : (p.size : Int) ≤ (s.size : Int) := by omega
  go_enter Tryd.func9, Tryd.ntmps9
  go_wp2
  go_ret
  exact ⟨rfl, rfl⟩

set_option maxHeartbeats 400000 in
theorem hasSuffix_yes (s p : ByteArray) (w : World) (hp : p.size ≤ s.size) (hm : s.size ≤ 4611686018427) (he : ((s.extract (s.size - p.size) s.size).toList == p.toList) = true) :
    Calls Tryd.prog 16 #[.string s, .string p] w fun e w' => e = .returned (.bool true) ∧ w' = w := by
  have hp' : (p.size : Int) ≤ (s.size : Int) := by omega
  have e1 : (((s.size : Int) - (p.size : Int)).toNat) = s.size - p.size := by omega
  go_enter Tryd.func16, Tryd.ntmps16
  go_wp2
  go_ret
  exact ⟨rfl, rfl⟩

/-- net/url.table, its numbers. -/
def tabL : List Int := [0, 0, 0, 0, 0, 0, 0, 0, 0, 0, 0, 0, 0, 0, 0, 0, 0, 0, 0, 0, 0, 0, 0, 0, 0, 0, 0, 0, 0, 0, 0, 0, 0, 76, 12, 0, 95, 0, 95, 12, 76, 76, 76, 95, 93, 127, 127, 65, 255, 255, 255, 255, 255, 255, 255, 255, 255, 255, 79, 93, 12, 95, 12, 64, 67, 255, 255, 255, 255, 255, 255, 127, 127, 127, 127, 127, 127, 127, 127, 127, 127, 127, 127, 127, 127, 127, 127, 127, 127, 127, 127, 12, 0, 12, 0, 127, 0, 255, 255, 255, 255, 255, 255, 127, 127, 127, 127, 127, 127, 127, 127, 127, 127, 127, 127, 127, 127, 127, 127, 127, 127, 127, 127, 0, 0, 0, 127, 0, 0, 0, 0, 0, 0, 0, 0, 0, 0, 0, 0, 0, 0, 0, 0, 0, 0, 0, 0, 0, 0, 0, 0, 0, 0, 0, 0, 0, 0, 0, 0, 0, 0, 0, 0, 0, 0, 0, 0, 0, 0, 0, 0, 0, 0, 0, 0, 0, 0, 0, 0, 0, 0, 0, 0, 0, 0, 0, 0, 0, 0, 0, 0, 0, 0, 0, 0, 0, 0, 0, 0, 0, 0, 0, 0, 0, 0, 0, 0, 0, 0, 0, 0, 0, 0, 0, 0, 0, 0, 0, 0, 0, 0, 0, 0, 0, 0, 0, 0, 0, 0, 0, 0, 0, 0, 0, 0, 0, 0, 0, 0, 0, 0, 0, 0, 0, 0, 0, 0, 0, 0, 0, 0, 0, 0, 0, 0, 0]
set_option maxRecDepth 100000 in
theorem tab_keep : ∀ n : Fin 256, (bits BinOp.and IntKind.u8 (tabL.getD n.val 0) 2 == 0) = !keepN n.val := by decide +kernel
/-- The world holds net/url.table. -/
def Tab (w : World) : Prop := ∀ n, n < 256 → w.cell? ⟨0, n, none⟩ = some (.int .u8 (tabL.getD n 0))
theorem Tab.below {B : Nat} {w w' : World} (h : Tab w) (hb : Below B w w') (hB : 0 < B) : Tab w' := fun n hn => (hb.cell (p := ⟨0, n, none⟩) hB).trans (h n hn)

set_option maxHeartbeats 400000 in
theorem shouldEscape_at (n : Nat) (t : Int) (w : World) (hn : n < 256) (hc : w.cell? ⟨0, n, none⟩ = some (.int .u8 t)) :
    Calls Tryd.prog 23 #[.int .u8 (n : Int), .int .u8 2] w fun e w' => e = .returned (.bool (bits BinOp.and IntKind.u8 t 2 == 0)) ∧ w' = w := by
  go_enter Tryd.func23, Tryd.ntmps23
  go_wp2
  go_ret
  exact ⟨rfl, rfl⟩
theorem shouldEscape_any (n : Nat) (w : World) (hn : n < 256) (hT : Tab w) :
    Calls Tryd.prog 23 #[.int .u8 (n : Int), .int .u8 2] w fun e w' => e = .returned (.bool (!keepN n)) ∧ w' = w := by
  have h := shouldEscape_at n _ w hn (hT n hn)
  rw [tab_keep ⟨n, hn⟩] at h
  exact h

end Go.Proofs.Qxb6608690aDoor
