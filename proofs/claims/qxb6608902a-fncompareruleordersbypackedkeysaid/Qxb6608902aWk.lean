/-
  THE WALKS of the callees of FnCompareRuleOrdersByPackedKey.
-/
import Derived.Test.Qxb6608902aRows
import Derived.WalkKit
import Derived.WalkSpells
import Derived.WalkLawsBesides
namespace Go.Proofs.Qxb6608902a
open Go.RowKit

/-- cmp.Compare, over the numbers. -/
def cmpI (p q : Int) : Int := if p < q then -1 else if q < p then 1 else 0
/-- compareServiceID. -/
def cmpS (x : Int) (a : Bool) (y : Int) (b : Bool) : Int := if a = b then cmpI x y else if a = true then 1 else -1
theorem ret_int {k : IntKind} {a b : Int} (h : a = b) : Ending.returned (.int k a) = .returned (.int k b) := by rw [h]

theorem compare_any (x y : Int) (w : World) : Calls Try.prog 59 #[.int .u32 x, .int .u32 y] w fun e w' => e = .returned (.int .i64 (cmpI x y)) ∧ w' = w := by
  go_enter Try.func59, Try.ntmps59
  go_wp2
  all_goals
    go_ret
    refine ⟨ret_int ?_, rfl⟩
    unfold cmpI
    first | (rw [if_pos (by omega)]) | (rw [if_neg (by omega), if_pos (by omega)]) | (rw [if_neg (by omega), if_neg (by omega)])

theorem sid_any (x : Int) (b : Bool) (w : World) : Calls Try.prog 8 #[.int .u32 x, .bool b] w fun e w' => e = .returned (.agg #[.int .u32 x, .bool b]) ∧ Below w.heap.size w w' := by
  go_enter Try.func8, Try.ntmps8
  go_wp2
  exact bodyPost_ret (v := .agg #[.int .u32 x, .bool b]) (by simp [results, Try.results8, go_sem]) rfl ⟨rfl, (Below.refl _ _).alloc (Nat.le_refl _) _⟩

theorem cmpSID_any (x : Int) (a : Bool) (y : Int) (b : Bool) (w : World) :
    Calls Try.prog 50 #[.agg #[.int .u32 x, .bool a], .agg #[.int .u32 y, .bool b]] w fun e w' => e = .returned (.int .i64 (cmpS x a y b)) ∧ Below w.heap.size w w' := by
  cases a <;> cases b
  all_goals
    go_enter Try.func50, Try.ntmps50
    go_wp2_with (go_at_call 59; refine (compare_any _ _ _).mono ?_; rintro e w' ⟨rfl, rfl⟩)
    go_ret
    exact ⟨rfl, ((Below.refl _ _).alloc (Nat.le_refl _) _).alloc (by simp) _⟩

theorem key_any (x : Int) (b : Bool) (m : Int) (w : World) : Calls Try.prog 7 #[.agg #[.int .u32 x, .bool b], .int .u8 m] w fun e w' => e = .returned (.agg #[.int .u32 x, .bool b, .int .u8 m]) ∧ Below w.heap.size w w' := by
  go_enter Try.func7, Try.ntmps7
  go_wp2
  exact bodyPost_ret (v := .agg #[.int .u32 x, .bool b, .int .u8 m]) (by simp [results, Try.results7, go_sem]) rfl ⟨rfl, ((Below.refl _ _).alloc (Nat.le_refl _) _).alloc (by simp) _⟩

theorem rule_any (x : Int) (a c : Bool) (kx : Int) (kb : Bool) (m : Int) (w : World) :
    Calls Try.prog 10 #[.agg #[.int .u32 x, .bool a], .bool c, .agg #[.int .u32 kx, .bool kb, .int .u8 m]] w fun e w' => e = .returned (.agg #[.int .u32 x, .bool a, .bool c, .int .u32 kx, .bool kb, .int .u8 m]) ∧ Below w.heap.size w w' := by
  go_enter Try.func10, Try.ntmps10
  go_wp2
  exact bodyPost_ret (v := .agg #[.int .u32 x, .bool a, .bool c, .int .u32 kx, .bool kb, .int .u8 m]) (by simp [results, Try.results10, go_sem]) rfl ⟨rfl, (((Below.refl _ _).alloc (Nat.le_refl _) _).alloc (by simp) _).alloc (by simp; omega) _⟩

theorem cmpRule_any (x : Int) (a c : Bool) (kx : Int) (kb : Bool) (m : Int) (y : Int) (b : Bool) (w : World) :
    Calls Try.prog 28 #[.agg #[.int .u32 x, .bool a, .bool c, .int .u32 kx, .bool kb, .int .u8 m], .agg #[.int .u32 y, .bool b]] w fun e w' => e = .returned (.int .i64 (cmpS x a y b)) ∧ Below w.heap.size w w' := by
  go_enter Try.func28, Try.ntmps28
  go_wp2_with (go_at_call 50; refine (cmpSID_any _ _ _ _ _).mono ?_; rintro e w' ⟨rfl, hb⟩)
  go_ret
  exact ⟨rfl, (((Below.refl _ _).alloc (Nat.le_refl _) _).alloc (by simp) _).trans (hb.mono (by simp; omega))⟩

theorem zzcmpRule_any (x : Int) (a c : Bool) (kx : Int) (kb : Bool) (m : Int) (y : Int) (b : Bool) (w : World) :
    Calls Try.prog 9 #[.agg #[.int .u32 x, .bool a, .bool c, .int .u32 kx, .bool kb, .int .u8 m], .agg #[.int .u32 y, .bool b]] w fun e w' => e = .returned (.int .i64 (cmpS x a y b)) ∧ Below w.heap.size w w' := by
  go_enter Try.func9, Try.ntmps9
  go_wp2_with (go_at_call 28; refine (cmpRule_any _ _ _ _ _ _ _ _ _).mono ?_; rintro e w' ⟨rfl, hb⟩)
  go_ret
  exact ⟨rfl, (((Below.refl _ _).alloc (Nat.le_refl _) _).alloc (by simp) _).trans (hb.mono (by simp; omega))⟩

/-- packSID. -/
def pack (x : Int) (a : Bool) : Int := if a = true then x + 4294967296 else x
theorem pack_any (x : Int) (a : Bool) (w : World) (h0 : 0 ≤ x) (h1 : x ≤ 4294967295) :
    Calls Try.prog 12 #[.int .u32 x, .bool a] w fun e w' => e = .returned (.int .u64 (pack x a)) ∧ w' = w := by
  cases a
  all_goals
    go_enter Try.func12, Try.ntmps12
    go_wp2
    go_ret
    exact ⟨ret_int (by simp [pack]), rfl⟩

theorem cmpU_any (x y : Int) (w : World) : Calls Try.prog 11 #[.int .u64 x, .int .u64 y] w fun e w' => e = .returned (.int .i64 (cmpI x y)) ∧ w' = w := by
  go_enter Try.func11, Try.ntmps11
  go_wp2
  all_goals
    go_ret
    refine ⟨ret_int ?_, rfl⟩
    unfold cmpI
    first | (rw [if_pos (by omega)]) | (rw [if_neg (by omega), if_pos (by omega)]) | (rw [if_neg (by omega), if_neg (by omega)])

/-! The plain law. -/
theorem cmpI_neg (x y : Int) : cmpI x y = - cmpI y x := by
  unfold cmpI
  by_cases h : x < y
  · rw [if_pos h, if_neg (by omega), if_pos h]
  · by_cases h2 : y < x
    · rw [if_neg h, if_pos h2, if_pos h2]; rfl
    · rw [if_neg h, if_neg h2, if_neg h2, if_neg h]; rfl
theorem cmpS_neg (x : Int) (a : Bool) (y : Int) (b : Bool) : cmpS x a y b = - cmpS y b x a := by
  unfold cmpS
  cases a <;> cases b <;> simp
  all_goals exact cmpI_neg x y
theorem cmpS_pack (x : Int) (a : Bool) (y : Int) (b : Bool) (hx0 : 0 ≤ x) (hx1 : x ≤ 4294967295) (hy0 : 0 ≤ y) (hy1 : y ≤ 4294967295) : cmpS x a y b = cmpI (pack x a) (pack y b) := by
  unfold cmpS pack cmpI
  cases a <;> cases b <;> simp <;> (repeat' split) <;> omega
theorem cmpS_range (x : Int) (a : Bool) (y : Int) (b : Bool) : -1 ≤ cmpS x a y b ∧ cmpS x a y b ≤ 1 := by
  unfold cmpS cmpI
  cases a <;> cases b <;> simp <;> (repeat' split) <;> omega
end Go.Proofs.Qxb6608902a
