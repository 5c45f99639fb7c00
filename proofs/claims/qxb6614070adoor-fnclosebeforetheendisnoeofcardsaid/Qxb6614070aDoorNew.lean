/-
  THE WALKS of bytes.NewReader (20), io.NopCloser (23), ZZnewPoolBody (15).
-/
import Derived.Test.Qxb6614070aDoorRead
namespace Go.Proofs.Qxb6614070aDoor
open Go.RowKit

theorem newReader_any (a : Option Addr) (n c : Nat) (w : World) :
    Calls Tryd.prog 20 #[.slice a n c] w fun e w' => e = .returned (.pointer (some ⟨w.heap.size, 0, none⟩)) ∧ w' = w.alloc (.cells #[.slice a n c, .int .i64 0, .int .i64 (-1)] 85) := by
  go_enter Tryd.func20, Tryd.ntmps20
  go_wp2
  go_ret
  exact ⟨rfl, rfl⟩

theorem assert87 (v : Value) (w : World) : (Instr.typeAssert (.iface 55 v) 58 87 true).run Tryd.prog w = .ok (.tuple #[.iface 55 v, .bool true]) w := by kernel_rfl

set_option maxRecDepth 100000 in
theorem nopCloser_any (a : Addr) (w : World) :
    Calls Tryd.prog 23 #[.iface 55 (.pointer (some a))] w fun e w' => e = .returned (.iface 90 (.agg #[.iface 55 (.pointer (some a))])) ∧ w = w' := by
  have hta := assert87 (.pointer (some a))
  go_enter Tryd.func23, Tryd.ntmps23
  go_wp2
  go_ret
  exact ⟨rfl, rfl⟩

theorem keepN {W1 v : World} {E : Nat} {x : Value} (o : Obj) (h : v.cell? ⟨E, 0, none⟩ = some x ∧ Hid (Chg [] W1 v)) : (v.alloc o).cell? ⟨E, 0, none⟩ = some x ∧ Hid (Chg [] W1 (v.alloc o)) :=
  ⟨((Chg.refl [] v).alloc o).cell h.1 (by simp), (h.2.out.alloc o : Chg [] W1 _)⟩

theorem newBody_post (a : Option Addr) (n c : Nat) (w W1 : World) (rEN : W1.rowIs w.heap.size 49 2 (enf 0 false)) (rEV : W1.rowIs (w.heap.size + 1) 40 1 (evf w.heap.size)) (K1 : Chg [] w W1) (hz : W1.heap.size = w.heap.size + 1 + 1) :
    let w' := ((W1.alloc (.cells #[.slice a n c, .int .i64 0, .int .i64 (-1)] 85)).alloc (.cells #[.iface 90 (.agg #[.iface 55 (.pointer (some ⟨W1.heap.size, 0, none⟩))]), .func (.func 24) #[] #[.pointer (some ⟨w.heap.size + 1, 0, none⟩)], .int .u32 0, .int .i32 0, .int .u32 0] 82)).drew
    w'.rowIs (W1.heap.size + 1) 82 5 (pbf W1.heap.size (w.heap.size + 1) 0 0) ∧ w'.rowIs (w.heap.size + 1) 40 1 (evf w.heap.size) ∧ w'.rowIs w.heap.size 49 2 (enf 0 false) ∧ w'.rowIs W1.heap.size 85 3 (rdf (.slice a n c) 0 (-1)) ∧
      w.heap.size ≤ w.heap.size ∧ w.heap.size < w.heap.size + 1 ∧ w.heap.size + 1 < W1.heap.size ∧ W1.heap.size < W1.heap.size + 1 ∧ Chg [] w w' := by
  intro w'
  have CW : Chg [] W1 w' := (((Chg.refl _ _).alloc _).alloc _).drew
  have rRD : (W1.alloc (.cells #[.slice a n c, .int .i64 0, .int .i64 (-1)] 85)).rowIs W1.heap.size 85 3 (rdf (.slice a n c) 0 (-1)) :=
    World.rowIs_alloc W1 #[.slice a n c, .int .i64 0, .int .i64 (-1)] 85 (rdf (.slice a n c) 0 (-1)) (fun i hi => by
      match i, hi with
      | 0, _ => rfl
      | 1, _ => rfl
      | 2, _ => rfl)
  have rPB := World.rowIs_alloc (W1.alloc (.cells #[.slice a n c, .int .i64 0, .int .i64 (-1)] 85)) #[.iface 90 (.agg #[.iface 55 (.pointer (some ⟨W1.heap.size, 0, none⟩))]), .func (.func 24) #[] #[.pointer (some ⟨w.heap.size + 1, 0, none⟩)], .int .u32 0, .int .i32 0, .int .u32 0] 82 (pbf W1.heap.size (w.heap.size + 1) 0 0) (fun i hi => by
      match i, hi with
      | 0, _ => rfl
      | 1, _ => rfl
      | 2, _ => rfl
      | 3, _ => rfl
      | 4, _ => rfl)
  rw [World.size_alloc] at rPB
  exact ⟨rPB.drew, CW.row rEV (by simp), CW.row rEN (by simp), (rRD.alloc _).drew, Nat.le_refl _, by omega, by omega, by omega, K1.trans CW⟩

set_option maxRecDepth 100000 in
set_option maxHeartbeats 800000 in
/-- A new poolBody over data: the record of the ends, the variable that holds it, the reader, the body: four new blocks. -/
theorem newBody_any (a : Option Addr) (n c : Nat) (w : World) :
    Calls Tryd.prog 15 #[.slice a n c] w fun e w' => ∃ PB EV EN RD : Nat, e = .returned (.tuple #[.pointer (some ⟨PB, 0, none⟩), .pointer (some ⟨EN, 0, none⟩)]) ∧
      w'.rowIs PB 82 5 (pbf RD EV 0 0) ∧ w'.rowIs EV 40 1 (evf EN) ∧ w'.rowIs EN 49 2 (enf 0 false) ∧ w'.rowIs RD 85 3 (rdf (.slice a n c) 0 (-1)) ∧
      w.heap.size ≤ EN ∧ EN < EV ∧ EV < RD ∧ RD < PB ∧ Chg [] w w' := by
  have hmf : ∀ (fn : Fn) (first cap : Array Value) (w : World), (Instr.makeFunc fn first cap).run Tryd.prog w = .ok (.func fn first cap) w := fun _ _ _ _ => rfl
  go_enter Tryd.func15, Tryd.ntmps15
  go_wp2_with fail
  obtain ⟨W1, hW1⟩ : ∃ W1, W1 = (w.alloc (Obj.cells #[Value.int IntKind.i64 0, Value.bool false] 49)).alloc (Obj.cells #[Value.pointer (some { block := w.heap.size, off := 0 })] 40) := ⟨_, rfl⟩
  rw [← hW1]
  have hEN : w.heap.size < W1.heap.size := by rw [hW1]; simp; omega
  have hz1 : W1.heap.size = w.heap.size + 1 + 1 := by rw [hW1]; simp
  have c1 : W1.cell? ⟨w.heap.size + 1, 0, none⟩ = some (.pointer (some ⟨w.heap.size, 0, none⟩)) := by rw [hW1]; simp
  have rEN : Hid (W1.rowIs w.heap.size 49 2 (enf 0 false)) := by
    rw [hW1]
    exact (World.rowIs_alloc w _ 49 (enf 0 false) (fun i hi => by
      match i, hi with
      | 0, _ => rfl
      | 1, _ => rfl)).alloc _
  have rEV : Hid (W1.rowIs (w.heap.size + 1) 40 1 (evf w.heap.size)) := by
    rw [hW1]
    have := World.rowIs_alloc (w.alloc (Obj.cells #[Value.int IntKind.i64 0, Value.bool false] 49)) #[Value.pointer (some { block := w.heap.size, off := 0 })] 40 (evf w.heap.size) (fun i hi => by
      match i, hi with
      | 0, _ => rfl)
    have h' : ((w.alloc (Obj.cells #[Value.int IntKind.i64 0, Value.bool false] 49)).alloc (Obj.cells #[Value.pointer (some { block := w.heap.size, off := 0 })] 40)).rowIs (w.heap.size + 1) 40 1 (evf w.heap.size) := by simpa using this
    exact h'
  have K1 : Hid (Chg [] w W1) := by rw [hW1]; exact ((Chg.refl _ _).alloc _).alloc _
  have HZ : Hid (W1.heap.size = w.heap.size + 1 + 1) := hz1
  clear hW1 hz1
  go_region_held3 (fun v => v.cell? ⟨w.heap.size + 1, 0, none⟩ = some (.pointer (some ⟨w.heap.size, 0, none⟩)) ∧ Hid (Chg [] W1 v))
    (first | exact keepN _ (by assumption) | exact ⟨c1, (Chg.refl [] W1).drew⟩ | assumption)
    (first
      | (go_at_call 20; refine (newReader_any _ _ _ _).mono ?_; rintro e w' ⟨rfl, rfl⟩)
      | (go_at_call 23; refine (nopCloser_any _ _).mono ?_; rintro e w' ⟨rfl, rfl⟩))
  all_goals go_wp2_with fail
  all_goals
    go_ret2
    refine ⟨W1.heap.size + 1, w.heap.size + 1, w.heap.size, W1.heap.size, rfl, ?_⟩
    exact newBody_post a n c w W1 rEN.out rEV.out K1.out HZ.out
end Go.Proofs.Qxb6614070aDoor
