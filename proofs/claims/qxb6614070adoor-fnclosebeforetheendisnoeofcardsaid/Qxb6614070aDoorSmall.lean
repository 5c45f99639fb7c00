/-
  THE WALKS of zzCloneBytes (7), zzCloneU16 (14), zzSameBytes (12), zzMin (17), the two zzBytes (13, 19).
-/
import Derived.Test.Qxb6614070aDoorReader
namespace Go.Proofs.Qxb6614070aDoor
open Go.RowKit

theorem info5 : (Tryd.prog.info? 5).map (fun i => (i.zero, i.size, i.bytes)) = some (some (Value.int .u8 0), 1, 1) := by kernel_rfl
theorem info43 : (Tryd.prog.info? 43).map (fun i => (i.zero, i.size, i.bytes)) = some (some (Value.int .u16 0), 1, 2) := by kernel_rfl
theorem size43 : (Tryd.prog.info? 43).map (·.size) = some 1 := by kernel_rfl

theorem clone_u8 (base : Nat) (v : Value) (xs : List Int) (w : World) (hbase : base ≤ w.heap.size) (hr : Reads .u8 w v xs) (hm : xs.length ≤ 1048576) :
    Calls Tryd.prog 7 #[v] w fun e w' => ∃ v', e = .returned v' ∧ Own .u8 5 base w' v' xs ∧ Below w.heap.size w w' ∧ Within w.heap.size w'.heap.size v' := by
  rcases hr with ⟨rfl, rfl⟩ | ⟨x, c, rfl, hc, hcell⟩
  · have hnil := fun w => Lib.run_eql_slice_nil (P := Tryd.prog) w 22 5 none 0 0 0 0 Tryd.underlying22
    go_enter Tryd.func7, Tryd.ntmps7
    go_wp2
    go_ret
    exact ⟨_, rfl, World.ownsRow_nil _ _ _ _, Below.refl _ _, fun b hb => by cases hb⟩
  · have hnil := fun w => Lib.run_eql_slice_nil (P := Tryd.prog) w 22 5 (some x) xs.length c 0 0 Tryd.underlying22
    have hmk := fun w => run_make_row' (P := Tryd.prog) 22 5 (.int .u8 0) 1 Tryd.underlying22 info5 rfl .i64 .i64 xs.length (by omega) (by omega) w
    obtain ⟨w2, hcp, hown, hbel⟩ := copy_made (P := Tryd.prog) (ty := 3) Tryd.underlying22 size5 base w (.slice (some x) xs.length c) xs hbase (.inr ⟨x, c, rfl, hc, hcell⟩) (by unfold maxLen; omega)
    have HO : Hid (Own .u8 5 base w2 (.slice (some ⟨w.heap.size, 0, none⟩) xs.length xs.length) xs) := hown
    have HB : Hid (Below w.heap.size w w2) := hbel
    clear hcell hown hbel
    go_enter Tryd.func7, Tryd.ntmps7
    go_wp2
    go_ret
    exact ⟨_, rfl, HO.out, HB.out, fun b hb => by cases hb; exact ⟨Nat.le_refl _, (HO.out.lt _ rfl).2⟩⟩

theorem clone_u16 (base : Nat) (v : Value) (xs : List Int) (w : World) (hbase : base ≤ w.heap.size) (hr : Reads .u16 w v xs) (hm : xs.length ≤ 1048576) :
    Calls Tryd.prog 14 #[v] w fun e w' => ∃ v', e = .returned v' ∧ Own .u16 43 base w' v' xs ∧ Below w.heap.size w w' ∧ Within w.heap.size w'.heap.size v' := by
  rcases hr with ⟨rfl, rfl⟩ | ⟨x, c, rfl, hc, hcell⟩
  · have hnil := fun w => Lib.run_eql_slice_nil (P := Tryd.prog) w 36 43 none 0 0 0 0 Tryd.underlying36
    go_enter Tryd.func14, Tryd.ntmps14
    go_wp2
    go_ret
    exact ⟨_, rfl, World.ownsRow_nil _ _ _ _, Below.refl _ _, fun b hb => by cases hb⟩
  · have hnil := fun w => Lib.run_eql_slice_nil (P := Tryd.prog) w 36 43 (some x) xs.length c 0 0 Tryd.underlying36
    have hmk := fun w => run_make_row' (P := Tryd.prog) 36 43 (.int .u16 0) 2 Tryd.underlying36 info43 rfl .i64 .i64 xs.length (by omega) (by omega) w
    obtain ⟨w2, hcp, hown, hbel⟩ := copy_made (P := Tryd.prog) (ty := 3) Tryd.underlying36 size43 base w (.slice (some x) xs.length c) xs hbase (.inr ⟨x, c, rfl, hc, hcell⟩) (by unfold maxLen; omega)
    have HO : Hid (Own .u16 43 base w2 (.slice (some ⟨w.heap.size, 0, none⟩) xs.length xs.length) xs) := hown
    have HB : Hid (Below w.heap.size w w2) := hbel
    clear hcell hown hbel
    go_enter Tryd.func14, Tryd.ntmps14
    go_wp2
    go_ret
    exact ⟨_, rfl, HO.out, HB.out, fun b hb => by cases hb; exact ⟨Nat.le_refl _, (HO.out.lt _ rfl).2⟩⟩

/-- Two slices that lead to the same bytes are the same. -/
theorem same_yes (v1 v2 : Value) (xs : List Int) (w : World) (h1 : Reads .u8 w v1 xs) (h2 : Reads .u8 w v2 xs) (hm : xs.length ≤ 1073741824) :
    Calls Tryd.prog 12 #[v1, v2] w fun e w' => e = .returned (.bool true) ∧ Below w.heap.size w w' := by
  by_cases hp : 0 < xs.length
  · obtain ⟨b1, o1, c1, rfl, hb1, _, k1⟩ := h1.at hp
    obtain ⟨b2, o2, c2, rfl, hb2, _, k2⟩ := h2.at hp
    have K1 : Hid (∀ j, j < xs.length → w.cell? ⟨b1, o1 + j, none⟩ = some (.int .u8 (xs.getD j 0))) := k1
    have K2 : Hid (∀ j, j < xs.length → w.cell? ⟨b2, o2 + j, none⟩ = some (.int .u8 (xs.getD j 0))) := k2
    clear k1 k2 h1 h2
    obtain ⟨n, hn⟩ : ∃ n, n = xs.length := ⟨_, rfl⟩
    rw [← hn] at K1 K2 hp hm ⊢
    clear hn
    go_enter Tryd.func12, Tryd.ntmps12
    go_wp2
    go_loopw [5] (fun i wr => ∃ k : Nat, k ≤ n ∧ i = .int .i64 k ∧ Hid (Below w.heap.size w wr)) (fun i _ => n - (intOf i).toNat)
    case atStart => exact ⟨0, Nat.zero_le _, rfl, Below.refl _ _⟩
    case round =>
      obtain ⟨k, hk, rfl, hbel⟩ := hrel
      by_cases hlt : k < n
      · have q1 : wr.cell? ⟨b1, o1 + k, none⟩ = some (.int .u8 (xs.getD k 0)) := (hbel.out.cell (p := ⟨b1, o1 + k, none⟩) hb1).trans (K1.out k hlt)
        have q2 : wr.cell? ⟨b2, o2 + k, none⟩ = some (.int .u8 (xs.getD k 0)) := (hbel.out.cell (p := ⟨b2, o2 + k, none⟩) hb2).trans (K2.out k hlt)
        have hlt' : (k : Int) < (n : Int) := by omega
        go_wp2_with fail
        go_quiet (fail)
        go_wp2
        go_roundw
        case rel => exact ⟨k + 1, by omega, by go_num, below_drewN hbel.out _⟩
        case measure => simp [intOf]; omega
      · go_wp2
        go_ret
        exact ⟨rfl, hbel.out⟩
  · obtain ⟨a1, c1, rfl⟩ := h1.len
    obtain ⟨a2, c2, rfl⟩ := h2.len
    have h0 : xs.length = 0 := by omega
    rw [h0]
    go_enter Tryd.func12, Tryd.ntmps12
    go_wp2
    go_loop [5] (fun i => i = .int .i64 0) (fun _ => 0)
    case atStart => rfl
    case round =>
      subst hrel
      go_wp2
      go_ret
      exact ⟨rfl, Below.refl _ _⟩


theorem min_any (a b : Nat) (w : World) : Calls Tryd.prog 17 #[.int .i64 (a : Int), .int .i64 (b : Int)] w fun e w' => e = .returned (.int .i64 ((Nat.min b a : Nat) : Int)) ∧ w = w' := by
  by_cases h : a < b
  · have e1 : Nat.min b a = a := Nat.min_eq_right (by omega)
    rw [e1]
    go_enter Tryd.func17, Tryd.ntmps17
    go_wp2
    go_ret
    exact ⟨rfl, rfl⟩
  · have e1 : Nat.min b a = b := Nat.min_eq_left (by omega)
    rw [e1]
    go_enter Tryd.func17, Tryd.ntmps17
    go_wp2
    go_ret
    exact ⟨rfl, rfl⟩

theorem bytes13 (a1 a2 : Option Addr) (n1 c1 n2 c2 : Nat) (v : Value) (w : World) (h1 : n1 ≤ 524288) (h2 : n2 ≤ 4096) :
    Calls Tryd.prog 13 #[.slice a1 n1 c1, .slice a2 n2 c2, v] w fun e w' => e = .returned (.bool true) ∧ w = w' := by
  go_enter Tryd.func13, Tryd.ntmps13
  go_wp2
  go_ret
  exact ⟨rfl, rfl⟩
theorem bytes19 (a1 a2 : Option Addr) (n1 c1 n2 c2 : Nat) (v : Value) (w : World) (h1 : n1 ≤ 524288) (h2 : n2 ≤ 4096) :
    Calls Tryd.prog 19 #[.slice a1 n1 c1, .slice a2 n2 c2, v] w fun e w' => e = .returned (.bool true) ∧ w = w' := by
  go_enter Tryd.func19, Tryd.ntmps19
  go_wp2
  go_ret
  exact ⟨rfl, rfl⟩
end Go.Proofs.Qxb6614070aDoor
