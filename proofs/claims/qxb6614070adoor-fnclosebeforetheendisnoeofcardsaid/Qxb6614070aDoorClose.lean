/-
  THE WALK of (*poolBody).Close (18).
-/
import Derived.Test.Qxb6614070aDoorRead
namespace Go.Proofs.Qxb6614070aDoor
open Go.RowKit

theorem method_close (a : Addr) (w : World) : (method 242 90 (.agg #[.iface 55 (.pointer (some a))]) "Close").run Tryd.prog w = .ok (80, .agg #[.iface 55 (.pointer (some a))]) w := by kernel_rfl

theorem nopClose_any (v : Value) (w : World) : Calls Tryd.prog 80 #[.agg #[v]] w fun e w' => e = .returned .nilIface ∧ Chg [] w w' := by
  go_enter Tryd.func80, Tryd.ntmps80
  go_wp2
  go_ret
  exact ⟨rfl, (Chg.refl _ _).alloc _⟩

set_option maxRecDepth 100000 in
set_option maxHeartbeats 800000 in
/-- Close, the exchange not yet ended: it is ended, without eof. -/
theorem close_first (PB EV EN RD : Nat) (cn : Int) (x : Bool) (w : World)
    (hPB : w.rowIs PB 82 5 (pbf RD EV 0 0)) (hEV : w.rowIs EV 40 1 (evf EN)) (hEN : w.rowIs EN 49 2 (enf cn x))
    (hne : EV ≠ EN) (m2 : EV ≠ PB) (m3 : EN ≠ PB) (hc0 : 0 ≤ cn) (hc1 : cn ≤ 1000000) :
    Calls Tryd.prog 18 #[.pointer (some ⟨PB, 0, none⟩)] w fun e w' => e = .returned .nilIface ∧ w'.rowIs PB 82 5 (pbf RD EV 1 0) ∧ w'.rowIs EN 49 2 (enf (cn + 1) false) ∧ Chg [PB, EN] w w' := by
  have hmf : ∀ (fn : Fn) (first cap : Array Value) (w : World), (Instr.makeFunc fn first cap).run Tryd.prog w = .ok (.func fn first cap) w := fun _ _ _ _ => rfl
  have p0 : w.cell? ⟨PB, 0, none⟩ = some (.iface 90 (.agg #[.iface 55 (.pointer (some ⟨RD, 0, none⟩))])) := hPB.cell (by decide)
  have hb : PB < w.heap.size := hPB.lt
  have p0' : ∀ o, (w.alloc o).cell? ⟨PB, 0, none⟩ = some (.iface 90 (.agg #[.iface 55 (.pointer (some ⟨RD, 0, none⟩))])) := fun o => (World.cell?_alloc_past _ _ _ hb).trans p0
  have XPB : Hid (w.rowIs PB 82 5 (pbf RD EV 0 0)) := hPB
  have XEV : Hid (w.rowIs EV 40 1 (evf EN)) := hEV
  have XEN : Hid (w.rowIs EN 49 2 (enf cn x)) := hEN
  have hmc := method_close ⟨RD, 0, none⟩
  clear hPB hEV hEN
  go_enter Tryd.func18, Tryd.ntmps18
  go_wp2_with fail
  obtain ⟨W1, hW1⟩ : ∃ W1, W1 = w.alloc (Obj.cells #[Value.pointer (some { block := PB, off := 0 })] 39) := ⟨_, rfl⟩
  rw [← hW1]
  have CW : Chg [] w W1 := by rw [hW1]; exact (Chg.refl _ _).alloc _
  have b1 : W1.cell? ⟨w.heap.size, 0, none⟩ = some (.pointer (some ⟨PB, 0, none⟩)) := by rw [hW1]; simp
  have lEV := XEV.out.lt
  have lEN := XEN.out.lt
  refine (do_close w.heap.size PB RD EV EN cn x W1 b1 (CW.row XPB.out (by simp)) (CW.row XEV.out (by simp)) (CW.row XEN.out (by simp)) hne (by omega) m2 m3 hc0 hc1).mono ?_
  rintro e W3 ⟨rfl, h1, h2, h3⟩
  have Z1 : Hid (W3.rowIs PB 82 5 (pbf RD EV 1 0)) := h1
  have Z2 : Hid (W3.rowIs EN 49 2 (enf (cn + 1) false)) := h2
  have Z3 : Hid (Chg [PB, EN] w W3) := (CW.mono (by simp)).trans h3
  have b3 : W3.cell? ⟨w.heap.size, 0, none⟩ = some (.pointer (some ⟨PB, 0, none⟩)) := h3.cell b1 (by simp; omega)
  have q3 : W3.cell? ⟨PB, 0, none⟩ = some (.iface 90 (.agg #[.iface 55 (.pointer (some ⟨RD, 0, none⟩))])) := Z1.out.cell (by decide)
  clear h1 h2 h3 CW hW1 b1 p0 p0'
  go_wp2_with (go_at_call 80; refine (nopClose_any _ _).mono ?_; rintro e W4 ⟨rfl, h4⟩)
  go_ret
  exact ⟨rfl, h4.row Z1.out (by simp), h4.row Z2.out (by simp), Z3.out.trans (h4.mono (by simp))⟩

set_option maxRecDepth 100000 in
set_option maxHeartbeats 800000 in
/-- Close, the exchange ended already. -/
theorem close_again (PB EV RD : Nat) (w : World) (hPB : w.rowIs PB 82 5 (pbf RD EV 1 0)) :
    Calls Tryd.prog 18 #[.pointer (some ⟨PB, 0, none⟩)] w fun e w' => e = .returned .nilIface ∧ Chg [] w w' := by
  have hmf : ∀ (fn : Fn) (first cap : Array Value) (w : World), (Instr.makeFunc fn first cap).run Tryd.prog w = .ok (.func fn first cap) w := fun _ _ _ _ => rfl
  have p0 : w.cell? ⟨PB, 0, none⟩ = some (.iface 90 (.agg #[.iface 55 (.pointer (some ⟨RD, 0, none⟩))])) := hPB.cell (by decide)
  have hb : PB < w.heap.size := hPB.lt
  have p0' : ∀ o, (w.alloc o).cell? ⟨PB, 0, none⟩ = some (.iface 90 (.agg #[.iface 55 (.pointer (some ⟨RD, 0, none⟩))])) := fun o => (World.cell?_alloc_past _ _ _ hb).trans p0
  have XPB : Hid (w.rowIs PB 82 5 (pbf RD EV 1 0)) := hPB
  have hmc := method_close ⟨RD, 0, none⟩
  clear hPB
  go_enter Tryd.func18, Tryd.ntmps18
  go_wp2_with fail
  obtain ⟨W1, hW1⟩ : ∃ W1, W1 = w.alloc (Obj.cells #[Value.pointer (some { block := PB, off := 0 })] 39) := ⟨_, rfl⟩
  rw [← hW1]
  have CW : Hid (Chg [] w W1) := by rw [hW1]; exact (Chg.refl _ _).alloc _
  have b1 : W1.cell? ⟨w.heap.size, 0, none⟩ = some (.pointer (some ⟨PB, 0, none⟩)) := by rw [hW1]; simp
  have q1 : W1.cell? ⟨PB, 0, none⟩ = some (.iface 90 (.agg #[.iface 55 (.pointer (some ⟨RD, 0, none⟩))])) := CW.out.cell p0 (by simp)
  clear hW1 p0 p0'
  refine (do_done PB RD EV _ W1 (CW.out.row XPB.out (by simp))).mono ?_
  rintro e W3 ⟨rfl, rfl⟩
  go_wp2_with (go_at_call 80; refine (nopClose_any _ _).mono ?_; rintro e W4 ⟨rfl, h4⟩)
  go_ret
  exact ⟨rfl, CW.out.trans h4⟩
end Go.Proofs.Qxb6614070aDoor
