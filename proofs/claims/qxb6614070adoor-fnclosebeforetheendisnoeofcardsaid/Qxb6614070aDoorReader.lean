/-
  THE WALK of (*bytes.Reader).Read (79).
-/
import Derived.Test.Qxb6614070aDoorKit
import Derived.Test.Qxb6614070aDoorRows
import Derived.Deep.RegionHeld3
import Derived.Deep.QuietTactic
import Derived.BigQuiet
namespace Go.Proofs.Qxb6614070aDoor
open Go.RowKit

/-- What a bytes.Reader's cells hold. -/
def rdf (s : Value) (pos pr : Int) : Nat → Value := fun j => if j = 0 then s else if j = 1 then .int .i64 pos else .int .i64 pr

theorem rdf_set2 (s : Value) (pos pr pr' : Int) (j : Nat) (h : j < 3) : (if j = 2 then Value.int .i64 pr' else rdf s pos pr j) = rdf s pos pr' j := by
  unfold rdf
  match j, h with
  | 0, _ => rfl
  | 1, _ => rfl
  | 2, _ => rfl
theorem rdf_set1 (s : Value) (pos pos' pr : Int) (j : Nat) (h : j < 3) : (if j = 1 then Value.int .i64 pos' else rdf s pos pr j) = rdf s pos' pr j := by
  unfold rdf
  match j, h with
  | 0, _ => rfl
  | 1, _ => rfl
  | 2, _ => rfl

/-- At the end: 0, io.EOF. -/
theorem reader_end (RD : Nat) (a : Option Addr) (n c pos : Nat) (pr : Int) (p eof : Value) (w : World) (hRD : w.rowIs RD 85 3 (rdf (.slice a n c) pos pr)) (hG : w.cell? ⟨0, 0, none⟩ = some eof) (hpos : n ≤ pos) :
    Calls Tryd.prog 79 #[.pointer (some ⟨RD, 0, none⟩), p] w fun e w' => e = .returned (.tuple #[.int .i64 0, eof]) ∧ Below w.heap.size w w' := by
  have r0 : w.cell? ⟨RD, 0, none⟩ = some (.slice a n c) := hRD.cell (by decide)
  have r1 : w.cell? ⟨RD, 1, none⟩ = some (.int .i64 pos) := hRD.cell (by decide)
  have hle : (n : Int) ≤ (pos : Int) := by omega
  clear hRD
  go_enter Tryd.func79, Tryd.ntmps79
  go_wp2_with fail
  go_quiet (fail)
  go_wp2_with fail
  go_quiet (fail)
  go_wp2
  go_ret2
  exact ⟨rfl, below_drewN (below_drewN (Below.refl _ _) _) _⟩

theorem size5 : (Tryd.prog.info? 5).map (·.size) = some 1 := by kernel_rfl

set_option maxRecDepth 100000 in
set_option maxHeartbeats 800000 in
/-- Ahead of the end: m bytes go over, the place moves on. -/
theorem reader_some (RD DB PP cap k cp pos m : Nat) (pr : Int) (xs : List Int) (g : Nat → Value) (w : World)
    (hRD : w.rowIs RD 85 3 (rdf (.slice (some ⟨DB, 0, none⟩) xs.length cap) pos pr)) (hPP : w.rowIs PP 5 65536 g) (hDB : ∀ j, j < xs.length → w.cell? ⟨DB, j, none⟩ = some (.int .u8 (xs.getD j 0)))
    (n1 : RD ≠ PP) (n2 : DB ≠ PP) (n3 : DB ≠ RD) (hcap : xs.length ≤ cap) (hl : xs.length ≤ 1048576) (hpos : pos < xs.length) (hk : k ≤ 65536) (hm : m = Nat.min (xs.length - pos) k) :
    Calls Tryd.prog 79 #[.pointer (some ⟨RD, 0, none⟩), .slice (some ⟨PP, 0, none⟩) k cp] w fun e w' => e = .returned (.tuple #[.int .i64 (m : Int), .nilIface]) ∧
      w'.rowIs RD 85 3 (rdf (.slice (some ⟨DB, 0, none⟩) xs.length cap) ((pos + m : Nat) : Int) (-1)) ∧ w'.rowIs PP 5 65536 (fun j => if j < m then .int .u8 (xs.getD (pos + j) 0) else g j) ∧ Chg [RD, PP] w w' := by
  have r0 : w.cell? ⟨RD, 0, none⟩ = some (.slice (some ⟨DB, 0, none⟩) xs.length cap) := hRD.cell (by decide)
  have r1 : w.cell? ⟨RD, 1, none⟩ = some (.int .i64 pos) := hRD.cell (by decide)
  have r2 : w.cell? ⟨RD, 2, none⟩ = some (.int .i64 pr) := hRD.cell (by decide)
  have z2 : w.frozen? ⟨RD, 2, none⟩ = false := hRD.frozen _
  have hlt : (pos : Int) < (xs.length : Int) := by omega
  have XRD : Hid (w.rowIs RD 85 3 (rdf (.slice (some ⟨DB, 0, none⟩) xs.length cap) pos pr)) := hRD
  have XPP : Hid (w.rowIs PP 5 65536 g) := hPP
  have XDB : Hid (∀ j, j < xs.length → w.cell? ⟨DB, j, none⟩ = some (.int .u8 (xs.getD j 0))) := hDB
  have HM : Hid (m = Nat.min (xs.length - pos) k) := hm
  have hmb : m ≤ 65536 := by rw [hm]; exact Nat.le_trans (Nat.min_le_right _ _) hk
  clear hRD hPP hDB hm
  go_enter Tryd.func79, Tryd.ntmps79
  go_wp2_with fail
  go_quiet (fail)
  go_wp2_with fail
  obtain ⟨w1, hw1⟩ : ∃ w1, w1 = (w.drewN nq).setCell ⟨RD, 2, none⟩ (.int .i64 (-1)) := ⟨_, rfl⟩
  rw [← hw1]
  have C0 : Chg [RD, PP] w (w.drewN nq) := Chg.ofBelow _ (below_drewN (Below.refl _ _) _)
  have C0' : Chg [] w (w.drewN nq) := Chg.ofBelow _ (below_drewN (Below.refl _ _) _)
  have R1 : Hid (w1.rowIs RD 85 3 (rdf (.slice (some ⟨DB, 0, none⟩) xs.length cap) pos (-1))) := by
    rw [hw1]
    exact ((C0'.row XRD.out (by simp)).set 2 _).congr (fun j hj => rdf_set2 _ _ _ _ j hj)
  have P1 : Hid (w1.rowIs PP 5 65536 g) := by rw [hw1]; exact (C0'.row XPP.out (by simp)).setOther (Ne.symm n1) _
  have C1 : Hid (Chg [RD, PP] w w1) := by rw [hw1]; exact C0.setCell (.inl (by simp)) _
  have D1 : ∀ j, j < xs.length → w1.cell? ⟨DB, j, none⟩ = some (.int .u8 (xs.getD j 0)) := fun j hj => C1.out.cell (XDB.out j hj) (by simp; exact ⟨n3, n2⟩)
  clear hw1 C0 C0' XRD XPP XDB
  obtain ⟨w2, hcp, hrow2, hchg⟩ := copy_into (P := Tryd.prog) (k := .u8) (ty := 3) Tryd.underlying22 size5 w1.drew PP 65536 g P1.out.drew k cp hk ⟨DB, pos, none⟩ (xs.drop pos) (cap - pos) m (by rw [List.length_drop]; exact HM.out)
    (fun i hi => by
      rw [List.length_drop] at hi
      rw [Go.WideShapes.add_plain]
      have := D1 (pos + i) (by omega)
      show w1.cell? _ = _
      rw [this]
      simp [List.getD])
  rw [List.length_drop] at hcp
  have q0 : w1.cell? ⟨RD, 0, none⟩ = some (.slice (some ⟨DB, 0, none⟩) xs.length cap) := R1.out.cell (by decide)
  have q1 : w1.cell? ⟨RD, 1, none⟩ = some (.int .i64 pos) := R1.out.cell (by decide)
  have P2 : Hid (w2.rowIs PP 5 65536 (fun j => if j < m then .int .u8 ((xs.drop pos).getD j 0) else g j)) := hrow2
  have K2 : Hid (Chg [PP] w1.drew w2) := hchg
  have hcz : ¬ cap = pos := by omega
  have hple : (pos : Int) ≤ (xs.length : Int) := by omega
  clear hrow2 hchg D1 r0 r1 r2 z2
  go_region_held3 (fun v => v.cell? ⟨RD, 0, none⟩ = some (.slice (some ⟨DB, 0, none⟩) xs.length cap) ∧ v.cell? ⟨RD, 1, none⟩ = some (.int .i64 pos))
    (first | exact ⟨q0, q1⟩ | exact ⟨K2.out.cell (a := ⟨RD, 0, none⟩) q0 (by simpa using n1), K2.out.cell (a := ⟨RD, 1, none⟩) q1 (by simpa using n1)⟩)
    (fail)
  have R2 : Hid (w2.rowIs RD 85 3 (rdf (.slice (some ⟨DB, 0, none⟩) xs.length cap) pos (-1))) := K2.out.row R1.out.drew (by simpa using n1)
  have C2 : Hid (Chg [RD, PP] w w2) := (C1.out.drew).trans (K2.out.mono (by simp))
  have u1 : w2.cell? ⟨RD, 1, none⟩ = some (.int .i64 pos) := R2.out.cell (by decide)
  have y1 : w2.frozen? ⟨RD, 1, none⟩ = false := R2.out.frozen _
  have n1' := n1
  clear hcp q0 q1 R1 P1 C1 K2 n1 n2 n3 hcap hcz hk
  go_wp2
  go_ret2
  refine ⟨rfl, ?_, P2.out.setOther (Ne.symm n1') _ |>.congr (fun j _ => ?_), C2.out.setCell (.inl (by simp)) _⟩
  · exact (R2.out.set 1 _).congr (fun j hj => by rw [Int.natCast_add]; exact rdf_set1 _ _ _ _ j hj)
  · simp [List.getD]
end Go.Proofs.Qxb6614070aDoor
