/-
  THE WALKS of zzb1Clone (10), zzb1Same (13), (*Transaction).appendFields (28), ZZtransactionAppendFields (20), zzBytes.. (21).
-/
import Derived.Test.Qxb6608695aRows
import Derived.Test.Qxb6608695aKit
import Derived.Deep.QuietTactic
import Derived.BigQuiet
namespace Go.Proofs.Qxb6608695a
open Go.RowKit

theorem info5 : (Try.prog.info? 5).map (fun i => (i.zero, i.size, i.bytes)) = some (some (Value.int .u8 0), 1, 1) := by kernel_rfl
theorem size5 : (Try.prog.info? 5).map (·.size) = some 1 := by kernel_rfl

/-- A copy of a slice of bytes. -/
theorem clone_any (base : Nat) (v : Value) (xs : List Int) (w : World) (hbase : base ≤ w.heap.size) (hr : Reads .u8 w v xs) (hm : xs.length ≤ 1048576) :
    Calls Try.prog 10 #[v] w fun e w' => ∃ v', e = .returned v' ∧ Own .u8 5 base w' v' xs ∧ Below w.heap.size w w' ∧ Within w.heap.size w'.heap.size v' := by
  rcases hr with ⟨rfl, rfl⟩ | ⟨x, c, rfl, hc, hcell⟩
  · have hnil := fun w => Lib.run_eql_slice_nil (P := Try.prog) w 22 5 none 0 0 0 0 Try.underlying22
    go_enter Try.func10, Try.ntmps10
    go_wp2
    go_ret
    exact ⟨_, rfl, World.ownsRow_nil _ _ _ _, Below.refl _ _, fun b hb => by cases hb⟩
  · have hnil := fun w => Lib.run_eql_slice_nil (P := Try.prog) w 22 5 (some x) xs.length c 0 0 Try.underlying22
    have hmk := fun w => run_make_row' (P := Try.prog) 22 5 (.int .u8 0) 1 Try.underlying22 info5 rfl .i64 .i64 xs.length (by omega) (by omega) w
    obtain ⟨w2, hcp, hown, hbel⟩ := copy_made (P := Try.prog) (ty := 3) Try.underlying22 size5 base w (.slice (some x) xs.length c) xs hbase (.inr ⟨x, c, rfl, hc, hcell⟩) (by unfold maxLen; omega)
    have HO : Hid (Own .u8 5 base w2 (.slice (some ⟨w.heap.size, 0, none⟩) xs.length xs.length) xs) := hown
    have HB : Hid (Below w.heap.size w w2) := hbel
    clear hcell hown hbel
    go_enter Try.func10, Try.ntmps10
    go_wp2
    go_ret
    exact ⟨_, rfl, HO.out, HB.out, fun b hb => by cases hb; exact ⟨Nat.le_refl _, (HO.out.lt _ rfl).2⟩⟩

theorem Reads.len {k : IntKind} {w : World} {v : Value} {xs : List Int} (h : Reads k w v xs) : ∃ a c, v = .slice a xs.length c := by
  rcases h with ⟨rfl, rfl⟩ | ⟨x, c, rfl, _⟩
  · exact ⟨none, 0, rfl⟩
  · exact ⟨_, _, rfl⟩
theorem Reads.at {k : IntKind} {w : World} {v : Value} {xs : List Int} (h : Reads k w v xs) (hp : 0 < xs.length) :
    ∃ b o c, v = .slice (some ⟨b, o, none⟩) xs.length c ∧ b < w.heap.size ∧ xs.length ≤ c ∧ ∀ j, j < xs.length → w.cell? ⟨b, o + j, none⟩ = some (.int k (xs.getD j 0)) := by
  rcases h with ⟨rfl, rfl⟩ | ⟨x, c, rfl, hc, hcell⟩
  · simp at hp
  · obtain ⟨b, o, rfl, h'⟩ := ints_at hcell hp
    exact ⟨b, o, c, rfl, World.block_lt_of_cell? _ _ (h' 0 hp), hc, h'⟩

/-- Two slices that lead to the same bytes are the same. -/
theorem same_yes (v1 v2 : Value) (xs : List Int) (w : World) (h1 : Reads .u8 w v1 xs) (h2 : Reads .u8 w v2 xs) (hm : xs.length ≤ 1073741824) :
    Calls Try.prog 13 #[v1, v2] w fun e w' => e = .returned (.bool true) ∧ Below w.heap.size w w' := by
  by_cases hp : 0 < xs.length
  · obtain ⟨b1, o1, c1, rfl, hb1, _, k1⟩ := h1.at hp
    obtain ⟨b2, o2, c2, rfl, hb2, _, k2⟩ := h2.at hp
    have K1 : Hid (∀ j, j < xs.length → w.cell? ⟨b1, o1 + j, none⟩ = some (.int .u8 (xs.getD j 0))) := k1
    have K2 : Hid (∀ j, j < xs.length → w.cell? ⟨b2, o2 + j, none⟩ = some (.int .u8 (xs.getD j 0))) := k2
    clear k1 k2 h1 h2
    obtain ⟨n, hn⟩ : ∃ n, n = xs.length := ⟨_, rfl⟩
    rw [← hn] at K1 K2 hp hm ⊢
    clear hn
    go_enter Try.func13, Try.ntmps13
    go_wp2
    go_loopw [5] (fun i wr => ∃ k : Nat, k ≤ n ∧ i = .int .i64 k ∧ Hid (Below w.heap.size w wr)) (fun i _ => n - (intOf i).toNat)
    case atStart => exact ⟨0, Nat.zero_le _, rfl, Below.refl _ _⟩
    case round =>
      obtain ⟨k, hk, rfl, hbel⟩ := hrel
      by_cases hlt : k < n
      · have q1 : wr.cell? ⟨b1, o1 + k, none⟩ = some (.int .u8 (xs.getD k 0)) := (hbel.out.cell (p := ⟨b1, o1 + k, none⟩) hb1).trans (K1.out k hlt)
        have q2 : wr.cell? ⟨b2, o2 + k, none⟩ = some (.int .u8 (xs.getD k 0)) := (hbel.out.cell (p := ⟨b2, o2 + k, none⟩) hb2).trans (K2.out k hlt)
        have hlt' : (k : Int) < (n : Int) := by omega
        go_wp2_with fail
        go_quiet (fail)
        go_wp2
        go_roundw
        case rel => exact ⟨k + 1, by omega, by go_num, below_drewN hbel.out _⟩
        case measure => simp [intOf]; omega
      · go_wp2
        go_ret
        exact ⟨rfl, hbel.out⟩
  · obtain ⟨a1, c1, rfl⟩ := h1.len
    obtain ⟨a2, c2, rfl⟩ := h2.len
    have h0 : xs.length = 0 := by omega
    rw [h0]
    go_enter Try.func13, Try.ntmps13
    go_wp2
    go_loop [5] (fun i => i = .int .i64 0) (fun _ => 0)
    case atStart => rfl
    case round =>
      subst hrel
      go_wp2
      go_ret
      exact ⟨rfl, Below.refl _ _⟩

/-- (*Transaction).appendFields onto a row of the call's own. -/
theorem append_any (T base : Nat) (v x : Value) (xs ys : List Int) (w : World) (hbase : base ≤ w.heap.size) (hc : w.cell? ⟨T, 0, none⟩ = some x) (ho : Own .u8 5 base w v xs) (hr : Reads .u8 w x ys) (hm : xs.length + ys.length ≤ 1073741824) :
    Calls Try.prog 28 #[.pointer (some ⟨T, 0, none⟩), v] w fun e w' => ∃ v', e = .returned (.tuple #[v', .nilIface]) ∧ Own .u8 5 base w' v' (xs ++ ys) ∧ w.grownBy w' v.ownBlock ∧ (v'.ownBlock = v.ownBlock ∨ v'.ownBlock = some w.heap.size) := by
  obtain ⟨a, cc, rfl⟩ := hr.len
  obtain ⟨v', w', hrun, h1, h2, h3⟩ := append_own (P := Try.prog) (ty := 22) Try.underlying22 info5 base w v (.slice a ys.length cc) xs ys hbase ho hr hm (by decide)
  have H1 := (show Hid _ from h1)
  have H2 := (show Hid _ from h2)
  have H3 := (show Hid _ from h3)
  have HR := (show Hid _ from hrun)
  clear h1 h2 h3 ho hr hrun
  go_enter Try.func28, Try.ntmps28
  go_wp2_with (at_builtin; refine wpList_append_run rfl _ _ 22 rfl _ _ rfl rfl _ _ HR.out ?_)
  go_ret2
  exact ⟨v', rfl, H1.out, H2.out, H3.out⟩

theorem appendZZ_any (T base : Nat) (v x : Value) (xs ys : List Int) (w : World) (hbase : base ≤ w.heap.size) (hc : w.cell? ⟨T, 0, none⟩ = some x) (ho : Own .u8 5 base w v xs) (hr : Reads .u8 w x ys) (hm : xs.length + ys.length ≤ 1073741824) :
    Calls Try.prog 20 #[.pointer (some ⟨T, 0, none⟩), v] w fun e w' => ∃ v', e = .returned (.tuple #[v', .nilIface]) ∧ Own .u8 5 base w' v' (xs ++ ys) ∧ w.grownBy w' v.ownBlock ∧ (v'.ownBlock = v.ownBlock ∨ v'.ownBlock = some w.heap.size) := by
  have HC := (show Hid _ from hc)
  have HO := (show Hid _ from ho)
  have HR := (show Hid _ from hr)
  clear hc ho hr
  go_enter Try.func20, Try.ntmps20
  go_wp2_with fail
  refine (append_any T base v x xs ys _ hbase HC.out HO.out HR.out hm).mono ?_
  rintro e w' ⟨v', rfl, h1, h2, h3⟩
  have H1 := (show Hid _ from h1)
  have H2 := (show Hid _ from h2)
  have H3 := (show Hid _ from h3)
  clear h1 h2 h3
  go_wp2
  go_ret2
  exact ⟨v', rfl, H1.out, H2.out, H3.out⟩

theorem bytes21 (a1 a2 a3 : Option Addr) (n1 c1 n2 c2 n3 c3 : Nat) (w : World) (h1 : n1 ≤ 262144) (h2 : n2 ≤ 262144) (h3 : n3 ≤ 262144) :
    Calls Try.prog 21 #[.slice a1 n1 c1, .slice a2 n2 c2, .slice a3 n3 c3] w fun e w' => e = .returned (.bool true) ∧ w' = w := by
  go_enter Try.func21, Try.ntmps21
  go_wp2
  go_ret
  exact ⟨rfl, rfl⟩
end Go.Proofs.Qxb6608695a
