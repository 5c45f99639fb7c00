/-
  THE WALK of FnCompareRuleOrdersByPackedKey.
-/
import Derived.Test.Qxb6608902aWk
import Derived.Deep.RegionHeld3
namespace Go.Proofs.Qxb6608902a
open Go.RowKit

theorem cells_after {v w' : World} {c : Array Value} {t : TypeId} (hb : Below (v.alloc (.cells c t)).heap.size (v.alloc (.cells c t)) w') (i : Nat) : w'.cell? ⟨v.heap.size, i, none⟩ = c[i]? :=
  (hb.cell (p := ⟨v.heap.size, i, none⟩) (by simp)).trans (World.cell?_alloc_at _ _ _ _ rfl)

theorem keep5 {w v w' : World} {k p q : Nat} {x0 x1 x2 y0 y1 z0 z1 : Value}
    (h : v.cell? ⟨k, 0, none⟩ = some x0 ∧ v.cell? ⟨k, 1, none⟩ = some x1 ∧ v.cell? ⟨k, 2, none⟩ = some x2 ∧ v.cell? ⟨p, 0, none⟩ = some y0 ∧ v.cell? ⟨p, 1, none⟩ = some y1 ∧ v.cell? ⟨q, 0, none⟩ = some z0 ∧ v.cell? ⟨q, 1, none⟩ = some z1 ∧ Hid (k < v.heap.size ∧ p < v.heap.size ∧ q < v.heap.size ∧ Below w.heap.size w v))
    (hb : Below v.heap.size v w') :
    w'.cell? ⟨k, 0, none⟩ = some x0 ∧ w'.cell? ⟨k, 1, none⟩ = some x1 ∧ w'.cell? ⟨k, 2, none⟩ = some x2 ∧ w'.cell? ⟨p, 0, none⟩ = some y0 ∧ w'.cell? ⟨p, 1, none⟩ = some y1 ∧ w'.cell? ⟨q, 0, none⟩ = some z0 ∧ w'.cell? ⟨q, 1, none⟩ = some z1 ∧ Hid (k < w'.heap.size ∧ p < w'.heap.size ∧ q < w'.heap.size ∧ Below w.heap.size w w') := by
  obtain ⟨h1, h2, h3, h4, h5, h6, h7, hk, hp, hq, hB⟩ := h
  have hz := hb.size
  exact ⟨(hb.cell hk).trans h1, (hb.cell hk).trans h2, (hb.cell hk).trans h3, (hb.cell hp).trans h4, (hb.cell hp).trans h5, (hb.cell hq).trans h6, (hb.cell hq).trans h7,
    Nat.lt_of_lt_of_le hk hz, Nat.lt_of_lt_of_le hp hz, Nat.lt_of_lt_of_le hq hz, hB.trans (hb.mono hB.size)⟩

set_option maxHeartbeats 1000000 in
theorem law3 (a0 : Int) (a1 : Bool) (a2 : Int) (a3 : Bool) (a4 : Bool) (a5 : Int) (a6 : Bool) (a7 : Int) (l0 : 0 ≤ a0) (u0 : a0 ≤ 4294967295) (l2 : 0 ≤ a2) (u2 : a2 ≤ 4294967295) (w : World) :
    Calls Try.prog 3 #[.int .u32 a0, .bool a1, .int .u32 a2, .bool a3, .bool a4, .int .u32 a5, .bool a6, .int .u8 a7] w fun e w' => e = .returned (.bool true) ∧ Below w.heap.size w w' := by
  go_enter Try.func3, Try.ntmps3
  go_wp2_with fail
  refine (sid_any _ _ _).mono ?_
  rintro e w1 ⟨rfl, hb1⟩
  have H1 := (show Hid _ from hb1)
  clear hb1
  go_wp2_with fail
  refine (key_any _ _ _ _).mono ?_
  rintro e w2 ⟨rfl, hb2⟩
  have H2 := (show Hid _ from H1.out.trans (hb2.mono H1.out.size))
  clear hb2 H1
  go_wp2_with fail
  refine (sid_any _ _ _).mono ?_
  rintro e w3 ⟨rfl, hb3⟩
  have H3 := (show Hid _ from hb3)
  clear hb3
  go_wp2_with fail
  refine (sid_any _ _ _).mono ?_
  rintro e w4 ⟨rfl, hb4⟩
  have z2 := H2.out.size
  have z3 := H3.out.size
  have z4 := hb4.size
  simp only [World.size_alloc] at z3 z4
  have c0 := (hb4.cell (p := ⟨w2.heap.size, 0, none⟩) (by simp; omega)).trans ((World.cell?_alloc_lt _ _ _ (by show w2.heap.size < _; omega)).trans (cells_after H3.out 0))
  have c1 := (hb4.cell (p := ⟨w2.heap.size, 1, none⟩) (by simp; omega)).trans ((World.cell?_alloc_lt _ _ _ (by show w2.heap.size < _; omega)).trans (cells_after H3.out 1))
  have c2 := (hb4.cell (p := ⟨w2.heap.size, 2, none⟩) (by simp; omega)).trans ((World.cell?_alloc_lt _ _ _ (by show w2.heap.size < _; omega)).trans (cells_after H3.out 2))
  have c3 := cells_after hb4 0
  have c4 := cells_after hb4 1
  have h3' : Below w.heap.size w w3 := (H2.out.alloc z2 _).trans (H3.out.mono (by simp; omega))
  have H4 : Hid (Below w.heap.size w w4) := (h3'.alloc h3'.size _).trans (hb4.mono (by have := h3'.size; simp; omega))
  have z34 : w3.heap.size < w4.heap.size := by omega
  have z24 : w2.heap.size < w4.heap.size := by omega
  have zw4 := H4.out.size
  clear h3' hb4 H3 H2 z2 z3 z4
  simp at c0 c1 c2 c3 c4
  obtain ⟨k, hk⟩ : ∃ k, k = w2.heap.size := ⟨_, rfl⟩
  obtain ⟨p, hp⟩ : ∃ p, p = w3.heap.size := ⟨_, rfl⟩
  rw [← hk] at c0 c1 c2 z24 ⊢
  rw [← hp] at c3 c4 z34 ⊢
  clear hk hp
  go_wp2_with fail
  obtain ⟨q, W5, hq, hW5⟩ : ∃ q W5, q = w4.heap.size ∧ W5 = w4.alloc (Obj.cells #[Value.int IntKind.u32 a2, Value.bool a3] 24) := ⟨_, _, rfl, rfl⟩
  have S0 : (fun v => v.cell? ⟨k, 0, none⟩ = some (.int .u32 a5) ∧ v.cell? ⟨k, 1, none⟩ = some (.bool a6) ∧ v.cell? ⟨k, 2, none⟩ = some (.int .u8 a7) ∧ v.cell? ⟨p, 0, none⟩ = some (.int .u32 a0) ∧ v.cell? ⟨p, 1, none⟩ = some (.bool a1) ∧ v.cell? ⟨q, 0, none⟩ = some (.int .u32 a2) ∧ v.cell? ⟨q, 1, none⟩ = some (.bool a3) ∧ Hid (k < v.heap.size ∧ p < v.heap.size ∧ q < v.heap.size ∧ Below w.heap.size w v)) W5 := by
    subst hq hW5
    exact ⟨(World.cell?_alloc_lt _ _ _ z24).trans c0, (World.cell?_alloc_lt _ _ _ z24).trans c1, (World.cell?_alloc_lt _ _ _ z24).trans c2, (World.cell?_alloc_lt _ _ _ z34).trans c3, (World.cell?_alloc_lt _ _ _ z34).trans c4,
      World.cell?_alloc_at _ _ _ _ rfl, World.cell?_alloc_at _ _ _ _ rfl, by simp; omega, by simp; omega, by simp, H4.out.alloc zw4 _⟩
  rw [← hq, ← hW5]
  clear hq hW5 c0 c1 c2 c3 c4 z34 z24 zw4 H4
  go_region_held3 (fun v => v.cell? ⟨k, 0, none⟩ = some (.int .u32 a5) ∧ v.cell? ⟨k, 1, none⟩ = some (.bool a6) ∧ v.cell? ⟨k, 2, none⟩ = some (.int .u8 a7) ∧ v.cell? ⟨p, 0, none⟩ = some (.int .u32 a0) ∧ v.cell? ⟨p, 1, none⟩ = some (.bool a1) ∧ v.cell? ⟨q, 0, none⟩ = some (.int .u32 a2) ∧ v.cell? ⟨q, 1, none⟩ = some (.bool a3) ∧ Hid (k < v.heap.size ∧ p < v.heap.size ∧ q < v.heap.size ∧ Below w.heap.size w v))
    (first | exact keep5 (by assumption) (by assumption) | exact keep5 S0 ((Below.refl _ _).drew))
    (first
      | (go_at_call 10; refine (rule_any _ _ _ _ _ _ _).mono ?_; rintro e v1 ⟨rfl, hv1⟩)
      | (go_at_call 9; refine (zzcmpRule_any _ _ _ _ _ _ _ _ _).mono ?_; rintro e v2 ⟨rfl, hv2⟩))
  have S2 := keep5 (keep5 (keep5 S0 ((Below.refl _ _).drew)) hv1) hv2
  clear hv1 hv2 S0
  go_wp2_with fail
  go_region_held3 (fun v => v.cell? ⟨k, 0, none⟩ = some (.int .u32 a5) ∧ v.cell? ⟨k, 1, none⟩ = some (.bool a6) ∧ v.cell? ⟨k, 2, none⟩ = some (.int .u8 a7) ∧ v.cell? ⟨p, 0, none⟩ = some (.int .u32 a0) ∧ v.cell? ⟨p, 1, none⟩ = some (.bool a1) ∧ v.cell? ⟨q, 0, none⟩ = some (.int .u32 a2) ∧ v.cell? ⟨q, 1, none⟩ = some (.bool a3) ∧ Hid (k < v.heap.size ∧ p < v.heap.size ∧ q < v.heap.size ∧ Below w.heap.size w v))
    (first | exact keep5 (by assumption) (by assumption) | exact keep5 S2 ((Below.refl _ _).drew))
    (first
      | (go_at_call 10; refine (rule_any _ _ _ _ _ _ _).mono ?_; rintro e v3 ⟨rfl, hv3⟩)
      | (go_at_call 9; refine (zzcmpRule_any _ _ _ _ _ _ _ _ _).mono ?_; rintro e v4 ⟨rfl, hv4⟩))
  obtain ⟨-, -, -, -, -, -, -, -, -, -, HB⟩ := keep5 (keep5 (keep5 S2 ((Below.refl _ _).drew)) hv3) hv4
  have HB' := (show Hid _ from HB)
  have e1 : (cmpS a0 a1 a2 a3 == - cmpS a2 a3 a0 a1) = true := by rw [beq_iff_eq]; exact cmpS_neg _ _ _ _
  have e2 : (cmpS a0 a1 a2 a3 == cmpI (pack a0 a1) (pack a2 a3)) = true := by rw [beq_iff_eq]; exact cmpS_pack _ _ _ _ l0 u0 l2 u2
  obtain ⟨r1, r2⟩ := cmpS_range a2 a3 a0 a1
  clear hv3 hv4 S2 HB
  go_wp2_with (first
    | (go_at_call 12; refine (pack_any _ _ _ (by assumption) (by assumption)).mono ?_; rintro e w' ⟨rfl, rfl⟩)
    | (go_at_call 11; refine (cmpU_any _ _ _).mono ?_; rintro e w' ⟨rfl, rfl⟩))
  go_ret
  exact ⟨rfl, HB'.out⟩
end Go.Proofs.Qxb6608902a
