/-
  THE CLOSURES of a poolBody and sync.Once round them: ZZnewPoolBody$1 (24), Read$1 (26), Close$1 (27), doSlow (29), Do (25).
-/
import Derived.Test.Qxb6614070aDoorSync
import Derived.Test.Qxb6614070aDoorKit
import Derived.Deep.RegionHeld3
import Derived.LaidEql
namespace Go.Proofs.Qxb6614070aDoor
open Go.RowKit

/-- What a poolBody's cells hold: the reader, the function 'end', the Once's word and its lock. -/
def rcV (RD : Nat) : Value := .iface 90 (.agg #[.iface 55 (.pointer (some ⟨RD, 0, none⟩))])
def enV (EV : Nat) : Value := .func (.func 24) #[] #[.pointer (some ⟨EV, 0, none⟩)]
def pbf (RD EV : Nat) (d l : Int) : Nat → Value := fun j => if j = 0 then rcV RD else if j = 1 then enV EV else if j = 2 then .int .u32 d else if j = 3 then .int .i32 l else .int .u32 0
/-- What the record of the ends holds. -/
def enf (c : Int) (b : Bool) : Nat → Value := fun j => if j = 0 then .int .i64 c else .bool b
def evf (EN : Nat) : Nat → Value := fun _ => .pointer (some ⟨EN, 0, none⟩)

/-- 'end': the exchange's end is counted and told. -/
theorem end_any (EV EN : Nat) (c : Int) (x b : Bool) (w : World) (hEV : w.rowIs EV 40 1 (evf EN)) (hEN : w.rowIs EN 49 2 (enf c x)) (hne : EV ≠ EN) (hc0 : 0 ≤ c) (hc1 : c ≤ 1000000) :
    Calls Tryd.prog 24 #[.bool b, .pointer (some ⟨EV, 0, none⟩)] w fun e w' => e = .returned (.tuple #[]) ∧ w'.rowIs EN 49 2 (enf (c + 1) b) ∧ Chg [EN] w w' := by
  have e0 : w.cell? ⟨EV, 0, none⟩ = some (.pointer (some ⟨EN, 0, none⟩)) := hEV.cell (by decide)
  have n0 : w.cell? ⟨EN, 0, none⟩ = some (.int .i64 c) := hEN.cell (by decide)
  have f0 : w.frozen? ⟨EN, 0, none⟩ = false := hEN.frozen _
  have e1 : ∀ v, (w.setCell ⟨EN, 0, none⟩ v).cell? ⟨EV, 0, none⟩ = some (.pointer (some ⟨EN, 0, none⟩)) := fun v => (hEV.setOther (a := ⟨EN, 0, none⟩) hne v).cell (by decide)
  have n1 : ∀ v, (w.setCell ⟨EN, 0, none⟩ v).cell? ⟨EN, 1, none⟩ = some (.bool x) := fun v => by
    have := (hEN.set 0 v).cell (i := 1) (by decide)
    rwa [if_neg (by decide)] at this
  have f1 : ∀ v, (w.setCell ⟨EN, 0, none⟩ v).frozen? ⟨EN, 1, none⟩ = false := fun v => (hEN.set 0 v).frozen _
  have HN : Hid (w.rowIs EN 49 2 (enf c x)) := hEN
  clear hEV hEN
  go_enter Tryd.func24, Tryd.ntmps24
  go_wp2
  go_end0
  refine ⟨rfl, ?_, ((Chg.refl _ _).setCell (.inl (by simp)) _).setCell (.inl (by simp)) _⟩
  refine ((HN.out.set 0 _).set 1 _).congr (fun j hj => ?_)
  unfold enf
  by_cases h1 : j = 1
  · subst h1; simp
  · have h0 : j = 0 := by omega
    subst h0; simp


/-- Close$1: 'end(false)'. -/
theorem close1_any (BV PB RD EV EN : Nat) (d l c : Int) (x : Bool) (w : World) (hBV : w.cell? ⟨BV, 0, none⟩ = some (.pointer (some ⟨PB, 0, none⟩))) (hPB : w.rowIs PB 82 5 (pbf RD EV d l)) (hEV : w.rowIs EV 40 1 (evf EN)) (hEN : w.rowIs EN 49 2 (enf c x)) (hne : EV ≠ EN) (hc0 : 0 ≤ c) (hc1 : c ≤ 1000000) :
    Calls Tryd.prog 27 #[.pointer (some ⟨BV, 0, none⟩)] w fun e w' => e = .returned (.tuple #[]) ∧ w'.rowIs EN 49 2 (enf (c + 1) false) ∧ Chg [EN] w w' := by
  have p1 : w.cell? ⟨PB, 1, none⟩ = some (.func (.func 24) #[] #[.pointer (some ⟨EV, 0, none⟩)]) := hPB.cell (by decide)
  have p0 : w.cell? ⟨PB, 0, none⟩ = some (rcV RD) := hPB.cell (by decide)
  have HV : Hid (w.rowIs EV 40 1 (evf EN)) := hEV
  have HN : Hid (w.rowIs EN 49 2 (enf c x)) := hEN
  clear hEV hEN hPB
  go_enter Tryd.func27, Tryd.ntmps27
  go_wp2_with (go_at_call 24; refine (end_any EV EN c x false _ HV.out HN.out hne hc0 hc1).mono ?_; rintro e w' ⟨rfl, h1, h2⟩)
  go_end0
  exact ⟨rfl, h1, h2⟩

theorem comp111 : (Tryd.prog.info? 111).map (·.comparable) = some true := by kernel_rfl
theorem size135 : (Tryd.prog.info? 135).map (·.size) = some 1 := by kernel_rfl
/-- io.EOF is io.EOF. -/
theorem eqEOF (a : Addr) (w : World) : (binOp .eql 31 (.iface 111 (.pointer (some a))) (.iface 111 (.pointer (some a)))).run Tryd.prog w = .ok (.bool true) w := by
  obtain ⟨i, hi, hc⟩ := Option.map_eq_some_iff.1 comp111
  obtain ⟨j, hj, _⟩ := Option.map_eq_some_iff.1 size135
  exact run_eql_iface_ptr_same w a Tryd.underlying31 Tryd.underlying111 hi hc hj
theorem keepR {BV ER PB EN EV : Nat} {v w' : World} {x1 x2 x3 x4 x5 : Value} (_hne : EV ≠ EN) (n1 : BV ≠ EN) (n2 : ER ≠ EN) (n3 : 0 ≠ EN) (n4 : PB ≠ EN)
    (h : v.cell? ⟨BV, 0, none⟩ = some x1 ∧ v.cell? ⟨ER, 0, none⟩ = some x2 ∧ v.cell? ⟨0, 0, none⟩ = some x3 ∧ v.cell? ⟨PB, 1, none⟩ = some x4 ∧ v.cell? ⟨PB, 0, none⟩ = some x5) (hc : Chg [EN] v w') :
    w'.cell? ⟨BV, 0, none⟩ = some x1 ∧ w'.cell? ⟨ER, 0, none⟩ = some x2 ∧ w'.cell? ⟨0, 0, none⟩ = some x3 ∧ w'.cell? ⟨PB, 1, none⟩ = some x4 ∧ w'.cell? ⟨PB, 0, none⟩ = some x5 :=
  ⟨hc.cell h.1 (by simpa using n1), hc.cell h.2.1 (by simpa using n2), hc.cell h.2.2.1 (by simpa using n3), hc.cell h.2.2.2.1 (by simpa using n4), hc.cell h.2.2.2.2 (by simpa using n4)⟩

/-- Read$1: 'end(err == io.EOF)' where err is io.EOF. -/
theorem read1_any (BV ER PB RD EV EN : Nat) (a0 : Addr) (d l c : Int) (x : Bool) (w : World) (hBV : w.cell? ⟨BV, 0, none⟩ = some (.pointer (some ⟨PB, 0, none⟩))) (hER : w.cell? ⟨ER, 0, none⟩ = some (.iface 111 (.pointer (some a0))))
    (hG : w.cell? ⟨0, 0, none⟩ = some (.iface 111 (.pointer (some a0)))) (hPB : w.rowIs PB 82 5 (pbf RD EV d l)) (hEV : w.rowIs EV 40 1 (evf EN)) (hEN : w.rowIs EN 49 2 (enf c x)) (hne : EV ≠ EN) (n1 : BV ≠ EN) (n2 : ER ≠ EN) (n3 : 0 ≠ EN) (n4 : PB ≠ EN) (hc0 : 0 ≤ c) (hc1 : c ≤ 1000000) :
    Calls Tryd.prog 26 #[.pointer (some ⟨BV, 0, none⟩), .pointer (some ⟨ER, 0, none⟩)] w fun e w' => e = .returned (.tuple #[]) ∧ w'.rowIs EN 49 2 (enf (c + 1) true) ∧ Chg [EN] w w' := by
  have p1 : w.cell? ⟨PB, 1, none⟩ = some (.func (.func 24) #[] #[.pointer (some ⟨EV, 0, none⟩)]) := hPB.cell (by decide)
  have p0 : w.cell? ⟨PB, 0, none⟩ = some (rcV RD) := hPB.cell (by decide)
  have HV : Hid (w.rowIs EV 40 1 (evf EN)) := hEV
  have HN : Hid (w.rowIs EN 49 2 (enf c x)) := hEN
  clear hEV hEN hPB
  go_enter Tryd.func26, Tryd.ntmps26
  have heq := eqEOF a0
  go_wp2_with fail
  go_region_held3 (fun v => v.cell? ⟨BV, 0, none⟩ = some (.pointer (some ⟨PB, 0, none⟩)) ∧ v.cell? ⟨ER, 0, none⟩ = some (.iface 111 (.pointer (some a0))) ∧ v.cell? ⟨0, 0, none⟩ = some (.iface 111 (.pointer (some a0))) ∧ v.cell? ⟨PB, 1, none⟩ = some (.func (.func 24) #[] #[.pointer (some ⟨EV, 0, none⟩)]) ∧ v.cell? ⟨PB, 0, none⟩ = some (rcV RD))
    (first | exact keepR hne n1 n2 n3 n4 (by assumption) (by assumption) | exact ⟨hBV, hER, hG, p1, p0⟩)
    (first | (go_at_call 24; refine (end_any EV EN c x true _ HV.out.drew HN.out.drew hne hc0 hc1).mono ?_; rintro e w' ⟨rfl, h1, h2⟩))
  go_wp2
  go_end0
  exact ⟨rfl, h1, ((Chg.refl _ _).drew).trans h2⟩
end Go.Proofs.Qxb6614070aDoor
