/-
  THE WALKS of the small functions of seat b6608690aD: zzKeep (20), zzHexVal (19), zzEscapedLen (12), zzCountSlash (13), zzHasPrefix (9), zzHasSuffix (16), net/url.shouldEscape (23).
-/
import Derived.Test.Qxb6608690aDoorRows
import Derived.Test.Qxb6608690aDoorPlain
import Derived.WalkKit
import Derived.WalkSpells
import Derived.WalkLawsBesides
namespace Go.Proofs.Qxb6608690aDoor
open Go.RowKit Pl

theorem ret_int {k : IntKind} {a b : Int} (h : a = b) : Ending.returned (.int k a) = .returned (.int k b) := by rw [h]
theorem ret_bool {a b : Bool} (h : a = b) : Ending.returned (.bool a) = .returned (.bool b) := by rw [h]

set_option maxHeartbeats 400000 in
theorem keep_any (n : Nat) (w : World) :
    Calls Tryd.prog 20 #[.int .u8 (n : Int)] w fun e w' => e = .returned (.bool (keepN n)) ∧ w' = w := by
  go_enter Tryd.func20, Tryd.ntmps20
  go_wp2
  all_goals
    go_ret
    refine ⟨ret_bool ?_, rfl⟩
    try simp only [beq_iff_eq, beq_eq_false_iff_ne] at *
    symm
    first | (rw [keepN_true]; omega) | (rw [keepN_false]; omega)

theorem hexV_a {n : Nat} (h1 : 48 ≤ (n : Int)) (h2 : (n : Int) ≤ 57) : hexV n = (n : Int) - 48 := by unfold hexV; rw [if_pos (by omega)]
theorem hexV_b {n : Nat} (h1 : 65 ≤ (n : Int)) (h2 : (n : Int) ≤ 70) : hexV n = (n : Int) - 55 := by unfold hexV; rw [if_neg (by omega), if_pos (by omega)]
theorem hexV_c {n : Nat} (h1 : ¬ (48 ≤ (n : Int) ∧ (n : Int) ≤ 57)) (h2 : ¬ (65 ≤ (n : Int) ∧ (n : Int) ≤ 70)) : hexV n = -1 := by unfold hexV; rw [if_neg (by omega), if_neg (by omega)]

set_option maxHeartbeats 400000 in
set_option maxRecDepth 100000 in
theorem hexVal_any (n : Nat) (hn : n < 256) (w : World) :
    Calls Tryd.prog 19 #[.int .u8 (n : Int)] w fun e w' => e = .returned (.int .i64 (hexV n)) ∧ w' = w := by
  have hn' : (n : Int) < 256 := by omega
  go_enter Tryd.func19, Tryd.ntmps19
  go_wp2
  all_goals
    go_ret
    refine ⟨ret_int ?_, rfl⟩
    first | (rw [hexV_a (by omega) (by omega)]) | (rw [hexV_b (by omega) (by omega)]; omega) | (rw [hexV_c (by omega) (by omega)])

end Go.Proofs.Qxb6608690aDoor
