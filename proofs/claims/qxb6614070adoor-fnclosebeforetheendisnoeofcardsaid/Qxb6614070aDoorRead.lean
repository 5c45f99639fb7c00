/-
  THE WALKS of (*poolBody).Read (16), Close (18).
-/
import Derived.Test.Qxb6614070aDoorSlow
import Derived.Test.Qxb6614070aDoorReader
namespace Go.Proofs.Qxb6614070aDoor
open Go.RowKit

theorem method_read (a : Addr) (w : World) : (method 242 90 (.agg #[.iface 55 (.pointer (some a))]) "Read").run Tryd.prog w = .ok (79, .pointer (some a)) w := by kernel_rfl

set_option maxRecDepth 100000 in
set_option maxHeartbeats 800000 in
/-- Read ahead of the end. -/
theorem read_some (PB EV RD DB PP cap k cp pos m : Nat) (d pr : Int) (xs : List Int) (g : Nat → Value) (w : World)
    (hPB : w.rowIs PB 82 5 (pbf RD EV d 0)) (hRD : w.rowIs RD 85 3 (rdf (.slice (some ⟨DB, 0, none⟩) xs.length cap) pos pr)) (hPP : w.rowIs PP 5 65536 g) (hDB : ∀ j, j < xs.length → w.cell? ⟨DB, j, none⟩ = some (.int .u8 (xs.getD j 0)))
    (n1 : RD ≠ PP) (n2 : DB ≠ PP) (n3 : DB ≠ RD) (hcap : xs.length ≤ cap) (hl : xs.length ≤ 1048576) (hpos : pos < xs.length) (hk : k ≤ 65536) (hm : m = Nat.min (xs.length - pos) k) :
    Calls Tryd.prog 16 #[.pointer (some ⟨PB, 0, none⟩), .slice (some ⟨PP, 0, none⟩) k cp] w fun e w' => e = .returned (.tuple #[.int .i64 (m : Int), .nilIface]) ∧
      w'.rowIs RD 85 3 (rdf (.slice (some ⟨DB, 0, none⟩) xs.length cap) ((pos + m : Nat) : Int) (-1)) ∧ w'.rowIs PP 5 65536 (fun j => if j < m then .int .u8 (xs.getD (pos + j) 0) else g j) ∧ Chg [RD, PP] w w' := by
  have p0 : w.cell? ⟨PB, 0, none⟩ = some (.iface 90 (.agg #[.iface 55 (.pointer (some ⟨RD, 0, none⟩))])) := hPB.cell (by decide)
  have hb : PB < w.heap.size := hPB.lt
  have p0' : ∀ o, (w.alloc o).cell? ⟨PB, 0, none⟩ = some (.iface 90 (.agg #[.iface 55 (.pointer (some ⟨RD, 0, none⟩))])) := fun o => (World.cell?_alloc_past _ _ _ hb).trans p0
  have HM : Hid (m = Nat.min (xs.length - pos) k) := hm
  have XPB : Hid (w.rowIs PB 82 5 (pbf RD EV d 0)) := hPB
  have XRD : Hid (w.rowIs RD 85 3 (rdf (.slice (some ⟨DB, 0, none⟩) xs.length cap) pos pr)) := hRD
  have XPP : Hid (w.rowIs PP 5 65536 g) := hPP
  have XDB : Hid (∀ j, j < xs.length → w.cell? ⟨DB, j, none⟩ = some (.int .u8 (xs.getD j 0))) := hDB
  have hmr := method_read ⟨RD, 0, none⟩
  clear hPB hRD hPP hDB hm
  go_enter Tryd.func16, Tryd.ntmps16
  go_wp2_with fail
  have CA : ∀ o, Chg [] w (w.alloc o) := fun o => (Chg.refl _ _).alloc o
  refine (reader_some RD DB PP cap k cp pos m pr xs g _ ((CA _).row XRD.out (by simp)) ((CA _).row XPP.out (by simp)) (fun j hj => (CA _).cell (XDB.out j hj) (by simp)) n1 n2 n3 hcap hl hpos hk HM.out).mono ?_
  rintro e w1 ⟨rfl, h1, h2, h3⟩
  have Y1 : Hid (w1.rowIs RD 85 3 (rdf (.slice (some ⟨DB, 0, none⟩) xs.length cap) ((pos + m : Nat) : Int) (-1))) := h1
  have Y2 : Hid (w1.rowIs PP 5 65536 (fun j => if j < m then .int .u8 (xs.getD (pos + j) 0) else g j)) := h2
  have Y3 : Hid (Chg [RD, PP] w w1) := ((CA _).mono (by simp)).trans h3
  clear h1 h2 h3 CA
  go_wp2_with fail
  go_quiet (fail)
  go_wp2
  go_ret2
  have CZ : Chg [] w1 ((w1.alloc (Obj.cells #[Value.nilIface] 31)).drewN nq) := ((Chg.refl _ _).alloc _).trans (Chg.ofBelow _ (below_drewN (Below.refl _ _) _))
  exact ⟨rfl, CZ.row Y1.out (by simp), CZ.row Y2.out (by simp), Y3.out.trans (CZ.mono (by simp))⟩

set_option maxRecDepth 100000 in
set_option maxHeartbeats 800000 in
/-- Read at the end, the exchange not yet ended: it is ended, with eof. -/
theorem read_end_first (PB EV EN RD n c pos : Nat) (a : Option Addr) (a0 : Addr) (cn pr : Int) (x : Bool) (p : Value) (w : World)
    (hPB : w.rowIs PB 82 5 (pbf RD EV 0 0)) (hEV : w.rowIs EV 40 1 (evf EN)) (hEN : w.rowIs EN 49 2 (enf cn x)) (hRD : w.rowIs RD 85 3 (rdf (.slice a n c) pos pr)) (hG : w.cell? ⟨0, 0, none⟩ = some (.iface 111 (.pointer (some a0))))
    (hne : EV ≠ EN) (m2 : EV ≠ PB) (m3 : EN ≠ PB) (m5 : 0 ≠ PB) (n3 : 0 ≠ EN) (hc0 : 0 ≤ cn) (hc1 : cn ≤ 1000000) (hpos : n ≤ pos) :
    Calls Tryd.prog 16 #[.pointer (some ⟨PB, 0, none⟩), p] w fun e w' => e = .returned (.tuple #[.int .i64 0, .iface 111 (.pointer (some a0))]) ∧
      w'.rowIs PB 82 5 (pbf RD EV 1 0) ∧ w'.rowIs EN 49 2 (enf (cn + 1) true) ∧ Chg [PB, EN] w w' := by
  have hmf : ∀ (fn : Fn) (first cap : Array Value) (w : World), (Instr.makeFunc fn first cap).run Tryd.prog w = .ok (.func fn first cap) w := fun _ _ _ _ => rfl
  have p0 : w.cell? ⟨PB, 0, none⟩ = some (.iface 90 (.agg #[.iface 55 (.pointer (some ⟨RD, 0, none⟩))])) := hPB.cell (by decide)
  have hb : PB < w.heap.size := hPB.lt
  have p0' : ∀ o, (w.alloc o).cell? ⟨PB, 0, none⟩ = some (.iface 90 (.agg #[.iface 55 (.pointer (some ⟨RD, 0, none⟩))])) := fun o => (World.cell?_alloc_past _ _ _ hb).trans p0
  have XPB : Hid (w.rowIs PB 82 5 (pbf RD EV 0 0)) := hPB
  have XEV : Hid (w.rowIs EV 40 1 (evf EN)) := hEV
  have XEN : Hid (w.rowIs EN 49 2 (enf cn x)) := hEN
  have XRD : Hid (w.rowIs RD 85 3 (rdf (.slice a n c) pos pr)) := hRD
  have XG : Hid (w.cell? ⟨0, 0, none⟩ = some (.iface 111 (.pointer (some a0)))) := hG
  have hmr := method_read ⟨RD, 0, none⟩
  clear hPB hEV hEN hRD hG
  go_enter Tryd.func16, Tryd.ntmps16
  go_wp2_with fail
  have CA : ∀ o, Chg [] w (w.alloc o) := fun o => (Chg.refl _ _).alloc o
  refine (reader_end RD a n c pos pr p _ _ ((CA _).row XRD.out (by simp)) ((CA _).cell XG.out (by simp)) hpos).mono ?_
  rintro e w1 ⟨rfl, h1⟩
  have K1 : Hid (Chg [] (w.alloc (Obj.cells #[Value.pointer (some { block := PB, off := 0 })] 39)) w1) := Chg.ofBelow _ h1
  have Y1 : Hid (Chg [] w w1) := (CA _).trans K1.out
  have b1 : w1.cell? ⟨w.heap.size, 0, none⟩ = some (.pointer (some ⟨PB, 0, none⟩)) := K1.out.cell (a := ⟨w.heap.size, 0, none⟩) (by simp) (by simp)
  have q0 : w1.cell? ⟨PB, 0, none⟩ = some (.iface 90 (.agg #[.iface 55 (.pointer (some ⟨RD, 0, none⟩))])) := Y1.out.cell p0 (by simp)
  have hs1 : w.heap.size < w1.heap.size := by have := K1.out.size; simp at this; omega
  have hb1 : PB < w1.heap.size := by omega
  clear h1 CA p0 p0'
  go_wp2_with fail
  obtain ⟨W2, hW2⟩ : ∃ W2, W2 = w1.alloc (Obj.cells #[Value.iface 111 (Value.pointer (some a0))] 31) := ⟨_, rfl⟩
  rw [← hW2]
  have CB : Chg [] w1 W2 := by rw [hW2]; exact (Chg.refl _ _).alloc _
  have e2 : W2.cell? ⟨w1.heap.size, 0, none⟩ = some (.iface 111 (.pointer (some a0))) := by rw [hW2]; simp
  have CW : Chg [] w W2 := Y1.out.trans CB
  have lEV := XEV.out.lt
  have lEN := XEN.out.lt
  refine (do_read w.heap.size w1.heap.size PB RD EV EN a0 cn x W2 (CB.cell b1 (by simp)) e2 (CW.cell XG.out (by simp)) (CW.row XPB.out (by simp)) (CW.row XEV.out (by simp)) (CW.row XEN.out (by simp)) hne (by omega) m2 m3 (by omega) m5 (by omega) (by omega) n3 hc0 hc1).mono ?_
  rintro e W3 ⟨rfl, h1, h2, h3⟩
  have Z1 : Hid (W3.rowIs PB 82 5 (pbf RD EV 1 0)) := h1
  have Z2 : Hid (W3.rowIs EN 49 2 (enf (cn + 1) true)) := h2
  have Z3 : Hid (Chg [PB, EN] w W3) := (CW.mono (by simp)).trans h3
  have e3 : W3.cell? ⟨w1.heap.size, 0, none⟩ = some (.iface 111 (.pointer (some a0))) := h3.cell e2 (by simp; omega)
  clear h1 h2 h3 CW CB hW2 e2 b1 q0
  go_wp2_with fail
  go_quiet (fail)
  go_wp2
  go_ret2
  have CZ : Chg [] W3 (W3.drewN nq) := Chg.ofBelow _ (below_drewN (Below.refl _ _) _)
  exact ⟨rfl, CZ.row Z1.out (by simp), CZ.row Z2.out (by simp), Z3.out.trans (CZ.mono (by simp))⟩

set_option maxRecDepth 100000 in
set_option maxHeartbeats 800000 in
/-- Read at the end, the exchange ended already. -/
theorem read_end_again (PB EV RD n c pos : Nat) (a : Option Addr) (a0 : Addr) (pr : Int) (p : Value) (w : World)
    (hPB : w.rowIs PB 82 5 (pbf RD EV 1 0)) (hRD : w.rowIs RD 85 3 (rdf (.slice a n c) pos pr)) (hG : w.cell? ⟨0, 0, none⟩ = some (.iface 111 (.pointer (some a0)))) (hpos : n ≤ pos) :
    Calls Tryd.prog 16 #[.pointer (some ⟨PB, 0, none⟩), p] w fun e w' => e = .returned (.tuple #[.int .i64 0, .iface 111 (.pointer (some a0))]) ∧ Chg [] w w' := by
  have hmf : ∀ (fn : Fn) (first cap : Array Value) (w : World), (Instr.makeFunc fn first cap).run Tryd.prog w = .ok (.func fn first cap) w := fun _ _ _ _ => rfl
  have p0 : w.cell? ⟨PB, 0, none⟩ = some (.iface 90 (.agg #[.iface 55 (.pointer (some ⟨RD, 0, none⟩))])) := hPB.cell (by decide)
  have hb : PB < w.heap.size := hPB.lt
  have p0' : ∀ o, (w.alloc o).cell? ⟨PB, 0, none⟩ = some (.iface 90 (.agg #[.iface 55 (.pointer (some ⟨RD, 0, none⟩))])) := fun o => (World.cell?_alloc_past _ _ _ hb).trans p0
  have XPB : Hid (w.rowIs PB 82 5 (pbf RD EV 1 0)) := hPB
  have XRD : Hid (w.rowIs RD 85 3 (rdf (.slice a n c) pos pr)) := hRD
  have XG : Hid (w.cell? ⟨0, 0, none⟩ = some (.iface 111 (.pointer (some a0)))) := hG
  have hmr := method_read ⟨RD, 0, none⟩
  clear hPB hRD hG
  go_enter Tryd.func16, Tryd.ntmps16
  go_wp2_with fail
  have CA : ∀ o, Chg [] w (w.alloc o) := fun o => (Chg.refl _ _).alloc o
  refine (reader_end RD a n c pos pr p _ _ ((CA _).row XRD.out (by simp)) ((CA _).cell XG.out (by simp)) hpos).mono ?_
  rintro e w1 ⟨rfl, h1⟩
  have K1 : Hid (Chg [] (w.alloc (Obj.cells #[Value.pointer (some { block := PB, off := 0 })] 39)) w1) := Chg.ofBelow _ h1
  have Y1 : Hid (Chg [] w w1) := (CA _).trans K1.out
  have b1 : w1.cell? ⟨w.heap.size, 0, none⟩ = some (.pointer (some ⟨PB, 0, none⟩)) := K1.out.cell (a := ⟨w.heap.size, 0, none⟩) (by simp) (by simp)
  have q0 : w1.cell? ⟨PB, 0, none⟩ = some (.iface 90 (.agg #[.iface 55 (.pointer (some ⟨RD, 0, none⟩))])) := Y1.out.cell p0 (by simp)
  have hs1 : w.heap.size < w1.heap.size := by have := K1.out.size; simp at this; omega
  have hb1 : PB < w1.heap.size := by omega
  clear h1 CA p0 p0'
  go_wp2_with fail
  obtain ⟨W2, hW2⟩ : ∃ W2, W2 = w1.alloc (Obj.cells #[Value.iface 111 (Value.pointer (some a0))] 31) := ⟨_, rfl⟩
  rw [← hW2]
  have CB : Chg [] w1 W2 := by rw [hW2]; exact (Chg.refl _ _).alloc _
  have e2 : W2.cell? ⟨w1.heap.size, 0, none⟩ = some (.iface 111 (.pointer (some a0))) := by rw [hW2]; simp
  have CW : Hid (Chg [] w W2) := Y1.out.trans CB
  clear hW2 CB b1 q0
  refine (do_done PB RD EV _ W2 (CW.out.row XPB.out (by simp))).mono ?_
  rintro e W3 ⟨rfl, rfl⟩
  go_wp2_with fail
  go_quiet (fail)
  go_wp2
  go_ret2
  exact ⟨rfl, CW.out.trans (Chg.ofBelow _ (below_drewN (Below.refl _ _) _))⟩
end Go.Proofs.Qxb6614070aDoor
