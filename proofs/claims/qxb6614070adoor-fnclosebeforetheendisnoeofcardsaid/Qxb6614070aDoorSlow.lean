/-
  sync.Once round the closures of a poolBody: doSlow (29), Do (25).
-/
import Derived.Test.Qxb6614070aDoorOnce
namespace Go.Proofs.Qxb6614070aDoor
open Go.RowKit

set_option maxRecDepth 100000 in
set_option maxHeartbeats 1600000 in
/-- '(*sync.Once).doSlow', not yet done and the lock free, round Close$1. -/
theorem slow_close (BV PB RD EV EN : Nat) (c : Int) (x : Bool) (w : World) (hBV : w.cell? ⟨BV, 0, none⟩ = some (.pointer (some ⟨PB, 0, none⟩))) (hPB : w.rowIs PB 82 5 (pbf RD EV 0 0)) (hEV : w.rowIs EV 40 1 (evf EN)) (hEN : w.rowIs EN 49 2 (enf c x))
    (hne : EV ≠ EN) (m1 : BV ≠ PB) (m2 : EV ≠ PB) (m3 : EN ≠ PB) (hc0 : 0 ≤ c) (hc1 : c ≤ 1000000) :
    Calls Tryd.prog 29 #[.pointer (some ⟨PB, 2, none⟩), .func (.func 27) #[] #[.pointer (some ⟨BV, 0, none⟩)]] w fun e w' => e = .returned (.tuple #[]) ∧ w'.rowIs PB 82 5 (pbf RD EV 1 0) ∧ w'.rowIs EN 49 2 (enf (c + 1) false) ∧ Chg [PB, EN] w w' := by
  have hnot : ∀ (x : Bool) (w : World), (Op.unary .not (.bool x)).run Tryd.prog w = .ok (.bool (!x)) w := fun _ _ => rfl
  have p3 : w.cell? ⟨PB, 3, none⟩ = some (.int .i32 0) := hPB.cell (by decide)
  have f3 : w.frozen? ⟨PB, 3, none⟩ = false := hPB.frozen _
  obtain ⟨w1, hw1⟩ : ∃ w1, w1 = w.setCell ⟨PB, 3, none⟩ (.int .i32 1) := ⟨_, rfl⟩
  have HB1 : Hid (w1.rowIs PB 82 5 (pbf RD EV 0 1)) := by
    rw [hw1]
    exact (hPB.set 3 _).congr (fun j hj => by unfold pbf; by_cases h : j = 3 <;> simp [h])
  have HV1 : Hid (w1.rowIs EV 40 1 (evf EN)) := by rw [hw1]; exact hEV.setOther m2 _
  have HN1 : Hid (w1.rowIs EN 49 2 (enf c x)) := by rw [hw1]; exact hEN.setOther m3 _
  have HC1 : Hid (Chg [PB, EN] w w1) := by rw [hw1]; exact (Chg.refl _ _).setCell (.inl (by simp)) _
  have CB1 : Hid (w1.cell? ⟨BV, 0, none⟩ = some (.pointer (some ⟨PB, 0, none⟩))) := by rw [hw1]; exact ((Chg.refl [PB] w).setCell (p := ⟨PB, 3, none⟩) (.inl (by simp)) _).cell hBV (by simpa using m1)
  have hl := run_call_load (P := Tryd.prog) Tryd.func30 (by kernel_rfl) (by kernel_rfl) (by kernel_rfl) .u32 (by kernel_rfl) (w := w1) (a := ⟨PB, 2, none⟩) (x := 0) (HB1.out.cell (by decide))
  have P3 : Hid (w.cell? ⟨PB, 3, none⟩ = some (.int .i32 0)) := p3
  have HW : Hid (w1 = w.setCell ⟨PB, 3, none⟩ (.int .i32 1)) := hw1
  clear hPB hEV hEN hBV p3 hw1
  go_enter_defers Tryd.func29, Tryd.ntmps29
  go_wp2_with (first
    | (go_at_call 31; refine (lock_free ⟨PB, 3, none⟩ _ P3.out (by assumption)).mono ?_; rw [← HW.out]; rintro e w' ⟨rfl, rfl⟩)
    | (go_at_call 27; refine (close1_any BV PB RD EV EN 0 1 c x _ CB1.out HB1.out HV1.out HN1.out hne hc0 hc1).mono ?_; rintro e w2 ⟨rfl, h1, h2⟩)
    | (go_at_call 28; go_in))
  have HB2 : w2.rowIs PB 82 5 (pbf RD EV 0 1) := h2.row HB1.out (by simpa using Ne.symm m3)
  have HC2 := HC1.out.trans (h2.mono (S' := [PB, EN]) (by simp))
  refine leaves_cons (f := 33) (args := #[.pointer (some ⟨PB, 2, none⟩), .bool true]) (by simp) (by simp [go_sem]) ?_
  refine (store_deferred ⟨PB, 2, none⟩ (.int .u32 0) .returning _ (HB2.cell (by decide)) (HB2.frozen _)).mono ?_
  rintro e u' w3 ⟨rfl, rfl, hw3⟩
  have HB3 : w3.rowIs PB 82 5 (pbf RD EV 1 1) := by
    rw [hw3]
    exact (HB2.drew.set 2 _).congr (fun j hj => by unfold pbf; by_cases h : j = 2 <;> simp [h])
  have HN3 : w3.rowIs EN 49 2 (enf (c + 1) false) := by rw [hw3]; exact h1.drew.setOther m3 _
  have HC3 := HC2.drew.setCell (p := ⟨PB, 2, none⟩) (.inl (by simp)) (.int .u32 1)
  rw [← hw3] at HC3
  refine leaves_cons (f := 32) (args := #[.pointer (some ⟨PB, 3, none⟩)]) (by simp [settle]) (by simp [go_sem]) ?_
  refine (unlock_deferred ⟨PB, 3, none⟩ _ _ (HB3.cell (by decide)) (HB3.frozen _)).mono ?_
  rintro e u' w4 ⟨rfl, rfl, hw4⟩
  have HB4 : w4.rowIs PB 82 5 (pbf RD EV 1 0) := by
    rw [hw4]
    exact (HB3.set 3 _).congr (fun j hj => by unfold pbf; by_cases h : j = 3 <;> simp [h])
  have HN4 : w4.rowIs EN 49 2 (enf (c + 1) false) := by rw [hw4]; exact HN3.setOther m3 _
  have HC4 := HC3.setCell (p := ⟨PB, 3, none⟩) (.inl (by simp)) (.int .i32 0)
  rw [← hw4] at HC4
  simp only [Leaves, settle]
  exact ⟨.tuple #[], results_none rfl _ _ _, rfl, HB4, HN4, HC4⟩

set_option maxRecDepth 100000 in
set_option maxHeartbeats 1600000 in
/-- '(*sync.Once).doSlow', not yet done and the lock free, round Read$1. -/
theorem slow_read (BV ER PB RD EV EN : Nat) (a0 : Addr) (c : Int) (x : Bool) (w : World) (hBV : w.cell? ⟨BV, 0, none⟩ = some (.pointer (some ⟨PB, 0, none⟩))) (hER : w.cell? ⟨ER, 0, none⟩ = some (.iface 111 (.pointer (some a0)))) (hG : w.cell? ⟨0, 0, none⟩ = some (.iface 111 (.pointer (some a0)))) (hPB : w.rowIs PB 82 5 (pbf RD EV 0 0)) (hEV : w.rowIs EV 40 1 (evf EN)) (hEN : w.rowIs EN 49 2 (enf c x))
    (hne : EV ≠ EN) (m1 : BV ≠ PB) (m2 : EV ≠ PB) (m3 : EN ≠ PB) (m4 : ER ≠ PB) (m5 : 0 ≠ PB) (n1 : BV ≠ EN) (n2 : ER ≠ EN) (n3 : 0 ≠ EN) (hc0 : 0 ≤ c) (hc1 : c ≤ 1000000) :
    Calls Tryd.prog 29 #[.pointer (some ⟨PB, 2, none⟩), .func (.func 26) #[] #[.pointer (some ⟨BV, 0, none⟩), .pointer (some ⟨ER, 0, none⟩)]] w fun e w' => e = .returned (.tuple #[]) ∧ w'.rowIs PB 82 5 (pbf RD EV 1 0) ∧ w'.rowIs EN 49 2 (enf (c + 1) true) ∧ Chg [PB, EN] w w' := by
  have hnot : ∀ (x : Bool) (w : World), (Op.unary .not (.bool x)).run Tryd.prog w = .ok (.bool (!x)) w := fun _ _ => rfl
  have p3 : w.cell? ⟨PB, 3, none⟩ = some (.int .i32 0) := hPB.cell (by decide)
  have f3 : w.frozen? ⟨PB, 3, none⟩ = false := hPB.frozen _
  obtain ⟨w1, hw1⟩ : ∃ w1, w1 = w.setCell ⟨PB, 3, none⟩ (.int .i32 1) := ⟨_, rfl⟩
  have HB1 : Hid (w1.rowIs PB 82 5 (pbf RD EV 0 1)) := by
    rw [hw1]
    exact (hPB.set 3 _).congr (fun j hj => by unfold pbf; by_cases h : j = 3 <;> simp [h])
  have HV1 : Hid (w1.rowIs EV 40 1 (evf EN)) := by rw [hw1]; exact hEV.setOther m2 _
  have HN1 : Hid (w1.rowIs EN 49 2 (enf c x)) := by rw [hw1]; exact hEN.setOther m3 _
  have HC1 : Hid (Chg [PB, EN] w w1) := by rw [hw1]; exact (Chg.refl _ _).setCell (.inl (by simp)) _
  have CB1 : Hid (w1.cell? ⟨BV, 0, none⟩ = some (.pointer (some ⟨PB, 0, none⟩))) := by rw [hw1]; exact ((Chg.refl [PB] w).setCell (p := ⟨PB, 3, none⟩) (.inl (by simp)) _).cell hBV (by simpa using m1)
  have CE1 : Hid (w1.cell? ⟨ER, 0, none⟩ = some (.iface 111 (.pointer (some a0)))) := by rw [hw1]; exact ((Chg.refl [PB] w).setCell (p := ⟨PB, 3, none⟩) (.inl (by simp)) _).cell hER (by simpa using m4)
  have CG1 : Hid (w1.cell? ⟨0, 0, none⟩ = some (.iface 111 (.pointer (some a0)))) := by rw [hw1]; exact ((Chg.refl [PB] w).setCell (p := ⟨PB, 3, none⟩) (.inl (by simp)) _).cell hG (by simpa using m5)
  have hl := run_call_load (P := Tryd.prog) Tryd.func30 (by kernel_rfl) (by kernel_rfl) (by kernel_rfl) .u32 (by kernel_rfl) (w := w1) (a := ⟨PB, 2, none⟩) (x := 0) (HB1.out.cell (by decide))
  have P3 : Hid (w.cell? ⟨PB, 3, none⟩ = some (.int .i32 0)) := p3
  have HW : Hid (w1 = w.setCell ⟨PB, 3, none⟩ (.int .i32 1)) := hw1
  clear hPB hEV hEN hBV p3 hw1 hER hG
  go_enter_defers Tryd.func29, Tryd.ntmps29
  go_wp2_with (first
    | (go_at_call 31; refine (lock_free ⟨PB, 3, none⟩ _ P3.out (by assumption)).mono ?_; rw [← HW.out]; rintro e w' ⟨rfl, rfl⟩)
    | (go_at_call 26; refine (read1_any BV ER PB RD EV EN a0 0 1 c x _ CB1.out CE1.out CG1.out HB1.out HV1.out HN1.out hne n1 n2 n3 (Ne.symm m3) hc0 hc1).mono ?_; rintro e w2 ⟨rfl, h1, h2⟩)
    | (go_at_call 28; go_in))
  have HB2 : w2.rowIs PB 82 5 (pbf RD EV 0 1) := h2.row HB1.out (by simpa using Ne.symm m3)
  have HC2 := HC1.out.trans (h2.mono (S' := [PB, EN]) (by simp))
  refine leaves_cons (f := 33) (args := #[.pointer (some ⟨PB, 2, none⟩), .bool true]) (by simp) (by simp [go_sem]) ?_
  refine (store_deferred ⟨PB, 2, none⟩ (.int .u32 0) .returning _ (HB2.cell (by decide)) (HB2.frozen _)).mono ?_
  rintro e u' w3 ⟨rfl, rfl, hw3⟩
  have HB3 : w3.rowIs PB 82 5 (pbf RD EV 1 1) := by
    rw [hw3]
    exact (HB2.drew.set 2 _).congr (fun j hj => by unfold pbf; by_cases h : j = 2 <;> simp [h])
  have HN3 : w3.rowIs EN 49 2 (enf (c + 1) true) := by rw [hw3]; exact h1.drew.setOther m3 _
  have HC3 := HC2.drew.setCell (p := ⟨PB, 2, none⟩) (.inl (by simp)) (.int .u32 1)
  rw [← hw3] at HC3
  refine leaves_cons (f := 32) (args := #[.pointer (some ⟨PB, 3, none⟩)]) (by simp [settle]) (by simp [go_sem]) ?_
  refine (unlock_deferred ⟨PB, 3, none⟩ _ _ (HB3.cell (by decide)) (HB3.frozen _)).mono ?_
  rintro e u' w4 ⟨rfl, rfl, hw4⟩
  have HB4 : w4.rowIs PB 82 5 (pbf RD EV 1 0) := by
    rw [hw4]
    exact (HB3.set 3 _).congr (fun j hj => by unfold pbf; by_cases h : j = 3 <;> simp [h])
  have HN4 : w4.rowIs EN 49 2 (enf (c + 1) true) := by rw [hw4]; exact HN3.setOther m3 _
  have HC4 := HC3.setCell (p := ⟨PB, 3, none⟩) (.inl (by simp)) (.int .i32 0)
  rw [← hw4] at HC4
  simp only [Leaves, settle]
  exact ⟨.tuple #[], results_none rfl _ _ _, rfl, HB4, HN4, HC4⟩

set_option maxRecDepth 100000 in
set_option maxHeartbeats 800000 in
/-- '(*sync.Once).Do', not yet done, the lock free, round Close$1. -/
theorem do_close (BV PB RD EV EN : Nat) (c : Int) (x : Bool) (w : World) (hBV : w.cell? ⟨BV, 0, none⟩ = some (.pointer (some ⟨PB, 0, none⟩))) (hPB : w.rowIs PB 82 5 (pbf RD EV 0 0)) (hEV : w.rowIs EV 40 1 (evf EN)) (hEN : w.rowIs EN 49 2 (enf c x))
    (hne : EV ≠ EN) (m1 : BV ≠ PB) (m2 : EV ≠ PB) (m3 : EN ≠ PB) (hc0 : 0 ≤ c) (hc1 : c ≤ 1000000) :
    Calls Tryd.prog 25 #[.pointer (some ⟨PB, 2, none⟩), .func (.func 27) #[] #[.pointer (some ⟨BV, 0, none⟩)]] w fun e w' => e = .returned (.tuple #[]) ∧ w'.rowIs PB 82 5 (pbf RD EV 1 0) ∧ w'.rowIs EN 49 2 (enf (c + 1) false) ∧ Chg [PB, EN] w w' := by
  have hnot : ∀ (x : Bool) (w : World), (Op.unary .not (.bool x)).run Tryd.prog w = .ok (.bool (!x)) w := fun _ _ => rfl
  have hl := run_call_load (P := Tryd.prog) Tryd.func30 (by kernel_rfl) (by kernel_rfl) (by kernel_rfl) .u32 (by kernel_rfl) (w := w) (a := ⟨PB, 2, none⟩) (x := 0) (hPB.cell (by decide))
  have XBV : Hid (w.cell? ⟨BV, 0, none⟩ = some (.pointer (some ⟨PB, 0, none⟩))) := hBV
  have XPB : Hid (w.rowIs PB 82 5 (pbf RD EV 0 0)) := hPB
  have XEV : Hid (w.rowIs EV 40 1 (evf EN)) := hEV
  have XEN : Hid (w.rowIs EN 49 2 (enf c x)) := hEN
  clear hPB hEV hEN hBV
  go_enter Tryd.func25, Tryd.ntmps25
  go_wp2_with (first
    | (go_at_call 29; refine (slow_close BV PB RD EV EN c x w XBV.out XPB.out XEV.out XEN.out hne m1 m2 m3 hc0 hc1).mono ?_; rintro e w' ⟨rfl, h1, h2, h3⟩)
    | (go_at_call 28; go_in))
  go_end0
  exact ⟨rfl, h1, h2, h3⟩

set_option maxRecDepth 100000 in
set_option maxHeartbeats 800000 in
/-- '(*sync.Once).Do', not yet done, the lock free, round Read$1. -/
theorem do_read (BV ER PB RD EV EN : Nat) (a0 : Addr) (c : Int) (x : Bool) (w : World) (hBV : w.cell? ⟨BV, 0, none⟩ = some (.pointer (some ⟨PB, 0, none⟩))) (hER : w.cell? ⟨ER, 0, none⟩ = some (.iface 111 (.pointer (some a0)))) (hG : w.cell? ⟨0, 0, none⟩ = some (.iface 111 (.pointer (some a0)))) (hPB : w.rowIs PB 82 5 (pbf RD EV 0 0)) (hEV : w.rowIs EV 40 1 (evf EN)) (hEN : w.rowIs EN 49 2 (enf c x))
    (hne : EV ≠ EN) (m1 : BV ≠ PB) (m2 : EV ≠ PB) (m3 : EN ≠ PB) (m4 : ER ≠ PB) (m5 : 0 ≠ PB) (n1 : BV ≠ EN) (n2 : ER ≠ EN) (n3 : 0 ≠ EN) (hc0 : 0 ≤ c) (hc1 : c ≤ 1000000) :
    Calls Tryd.prog 25 #[.pointer (some ⟨PB, 2, none⟩), .func (.func 26) #[] #[.pointer (some ⟨BV, 0, none⟩), .pointer (some ⟨ER, 0, none⟩)]] w fun e w' => e = .returned (.tuple #[]) ∧ w'.rowIs PB 82 5 (pbf RD EV 1 0) ∧ w'.rowIs EN 49 2 (enf (c + 1) true) ∧ Chg [PB, EN] w w' := by
  have hnot : ∀ (x : Bool) (w : World), (Op.unary .not (.bool x)).run Tryd.prog w = .ok (.bool (!x)) w := fun _ _ => rfl
  have hl := run_call_load (P := Tryd.prog) Tryd.func30 (by kernel_rfl) (by kernel_rfl) (by kernel_rfl) .u32 (by kernel_rfl) (w := w) (a := ⟨PB, 2, none⟩) (x := 0) (hPB.cell (by decide))
  have XBV : Hid (w.cell? ⟨BV, 0, none⟩ = some (.pointer (some ⟨PB, 0, none⟩))) := hBV
  have XPB : Hid (w.rowIs PB 82 5 (pbf RD EV 0 0)) := hPB
  have XEV : Hid (w.rowIs EV 40 1 (evf EN)) := hEV
  have XEN : Hid (w.rowIs EN 49 2 (enf c x)) := hEN
  have XER : Hid (w.cell? ⟨ER, 0, none⟩ = some (.iface 111 (.pointer (some a0)))) := hER
  have XG : Hid (w.cell? ⟨0, 0, none⟩ = some (.iface 111 (.pointer (some a0)))) := hG
  clear hPB hEV hEN hBV hER hG
  go_enter Tryd.func25, Tryd.ntmps25
  go_wp2_with (first
    | (go_at_call 29; refine (slow_read BV ER PB RD EV EN a0 c x w XBV.out XER.out XG.out XPB.out XEV.out XEN.out hne m1 m2 m3 m4 m5 n1 n2 n3 hc0 hc1).mono ?_; rintro e w' ⟨rfl, h1, h2, h3⟩)
    | (go_at_call 28; go_in))
  go_end0
  exact ⟨rfl, h1, h2, h3⟩

/-- '(*sync.Once).Do', done already: the function is not called. -/
theorem do_done (PB RD EV : Nat) (fv : Value) (w : World) (hPB : w.rowIs PB 82 5 (pbf RD EV 1 0)) :
    Calls Tryd.prog 25 #[.pointer (some ⟨PB, 2, none⟩), fv] w fun e w' => e = .returned (.tuple #[]) ∧ w = w' := by
  have hl := run_call_load (P := Tryd.prog) Tryd.func30 (by kernel_rfl) (by kernel_rfl) (by kernel_rfl) .u32 (by kernel_rfl) (w := w) (a := ⟨PB, 2, none⟩) (x := 1) (hPB.cell (by decide))
  have hnot : ∀ (x : Bool) (w : World), (Op.unary .not (.bool x)).run Tryd.prog w = .ok (.bool (!x)) w := fun _ _ => rfl
  clear hPB
  go_enter Tryd.func25, Tryd.ntmps25
  go_wp2
  go_end0
  exact ⟨rfl, rfl⟩
end Go.Proofs.Qxb6614070aDoor
