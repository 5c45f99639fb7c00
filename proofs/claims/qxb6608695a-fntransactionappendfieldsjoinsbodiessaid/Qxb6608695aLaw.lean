/-
  THE WALK of FnTransactionAppendFieldsJoinsBodies (6).
-/
import Derived.Test.Qxb6608695aWk
namespace Go.Proofs.Qxb6608695a
open Go.RowKit

theorem bytes21' (a1 a2 a3 : Option Addr) (n1 c1 n2 c2 n3 c3 : Nat) (w : World) (h1 : n1 ≤ 262144) (h2 : n2 ≤ 262144) (h3 : n3 ≤ 262144) :
    Calls Try.prog 21 #[.slice a1 n1 c1, .slice a2 n2 c2, .slice a3 n3 c3] w fun e w' => e = .returned (.bool true) ∧ w = w' :=
  (bytes21 a1 a2 a3 n1 c1 n2 c2 n3 c3 w h1 h2 h3).mono fun _ _ h => ⟨h.1, h.2.symm⟩

set_option maxHeartbeats 1000000 in
theorem law_main (v1 v2 v3 : Value) (xs ys zs : List Int) (w : World) (h1 : Reads .u8 w v1 xs) (h2 : Reads .u8 w v2 ys) (h3 : Reads .u8 w v3 zs) (l1 : xs.length ≤ 262144) (l2 : ys.length ≤ 262144) (l3 : zs.length ≤ 262144) :
    Calls Try.prog 6 #[v1, v2, v3] w fun e w' => e = .returned (.bool true) ∧ Below w.heap.size w w' := by
  obtain ⟨i5, hi5, hz0, hz1, hz2⟩ := info_parts info5
  have I5 := (show Hid _ from hi5)
  have Z0 := (show Hid _ from hz0)
  have Z1 := (show Hid _ from hz1)
  have Z2 := (show Hid _ from hz2)
  clear hi5 hz0 hz1 hz2
  obtain ⟨a1, c1, rfl⟩ := h1.len
  obtain ⟨a2, c2, rfl⟩ := h2.len
  obtain ⟨a3, c3, rfl⟩ := h3.len
  have R1 : Hid (Reads .u8 w (.slice a1 xs.length c1) xs) := h1
  have R2 : Hid (Reads .u8 w (.slice a2 ys.length c2) ys) := h2
  have R3 : Hid (Reads .u8 w (.slice a3 zs.length c3) zs) := h3
  clear h1 h2 h3
  go_enter Try.func6, Try.ntmps6
  go_wp2_with (go_at_call 21; refine (bytes21' _ _ _ _ _ _ _ _ _ _ l1 l2 l3).mono ?_; rintro e w' ⟨rfl, rfl⟩)
  refine (clone_any w.heap.size _ xs w (Nat.le_refl _) R1.out (by omega)).mono ?_
  rintro e W1 ⟨p1, rfl, o1, b1, i1⟩
  have O1 : Hid (Own .u8 5 w.heap.size W1 p1 xs) := o1
  have B1 : Hid (Below w.heap.size w W1) := b1
  have N1 : Hid (Within w.heap.size W1.heap.size p1) := i1
  clear o1 b1 i1
  go_wp2_with fail
  refine (clone_any w.heap.size _ xs W1 B1.out.size O1.out.reads (by omega)).mono ?_
  rintro e W2 ⟨p2, rfl, o2, b2, i2⟩
  have O1' : Hid (Own .u8 5 w.heap.size W2 p1 xs) := O1.out.below b2
  have O2 : Hid (Own .u8 5 w.heap.size W2 p2 xs) := o2
  have B2 : Hid (Below w.heap.size w W2) := B1.out.trans (b2.mono B1.out.size)
  have N2 : Hid (Within W1.heap.size W2.heap.size p2) := i2
  have S2 := (show Hid _ from b2.size)
  clear o2 b2 i2 O1
  go_wp2_with fail
  refine (clone_any w.heap.size _ xs W2 B2.out.size O1'.out.reads (by omega)).mono ?_
  rintro e W3 ⟨p3, rfl, o3, b3, i3⟩
  obtain ⟨q3, d3, rfl⟩ := Reads.len (Own.reads o3)
  have O1 : Hid (Own .u8 5 w.heap.size W3 p1 xs) := O1'.out.below b3
  have O2' : Hid (Own .u8 5 w.heap.size W3 p2 xs) := O2.out.below b3
  have O3 : Hid (Own .u8 5 w.heap.size W3 (.slice q3 xs.length d3) xs) := o3
  have B3 : Hid (Below w.heap.size w W3) := B2.out.trans (b3.mono B2.out.size)
  have N3 : Hid (Within W2.heap.size W3.heap.size (.slice q3 xs.length d3)) := i3
  have S3 := (show Hid _ from b3.size)
  clear o3 b3 i3 O1' O2
  go_wp2_with fail
  refine (clone_any w.heap.size _ zs W3 B3.out.size (R3.out.below B3.out) (by omega)).mono ?_
  rintro e W4 ⟨p4, rfl, o4, b4, i4⟩
  obtain ⟨q4, d4, rfl⟩ := Reads.len (Own.reads o4)
  have O1' : Hid (Own .u8 5 w.heap.size W4 p1 xs) := O1.out.below b4
  have O2 : Hid (Own .u8 5 w.heap.size W4 p2 xs) := O2'.out.below b4
  have O3' : Hid (Own .u8 5 w.heap.size W4 (.slice q3 xs.length d3) xs) := O3.out.below b4
  have O4 : Hid (Own .u8 5 w.heap.size W4 (.slice q4 zs.length d4) zs) := o4
  have B4 : Hid (Below w.heap.size w W4) := B3.out.trans (b4.mono B3.out.size)
  have N4 : Hid (Within W3.heap.size W4.heap.size (.slice q4 zs.length d4)) := i4
  have S4 := (show Hid _ from b4.size)
  clear o4 b4 i4 O1 O2' O3
  obtain ⟨W5, hmk, om, gm⟩ := run_make_own (P := Try.prog) W4 w.heap.size 22 5 i5 (.int .u8 0) 1 Try.underlying22 I5.out Z0.out Z1.out .i64 .i64 (ys.length + zs.length) (by rw [Z2.out]; omega) (by unfold maxLen; omega) B4.out.size
  have B5 : Hid (Below w.heap.size w W5) := B4.out.grown gm B4.out.size (fun k hk => by cases hk)
  have S5 := (show Hid _ from gm.size)
  have e5 : ((ys.length + zs.length : Nat) : Int) = (ys.length : Int) + (zs.length : Int) := by omega
  rw [e5] at hmk
  obtain ⟨j1, W6, hr6, oj1, g6, s6⟩ := append_own (P := Try.prog) (ty := 22) Try.underlying22 info5 w.heap.size W5 _ (.slice a2 ys.length c2) [] ys B5.out.size om (R2.out.below B5.out) (by simp; omega) (by decide)
  have z1 := B1.out.size
  have z2 := S2.out
  have z3 := S3.out
  have z4 := S4.out
  have z5 := S5.out
  have z6 := g6.size
  have NM : Within W4.heap.size W5.heap.size (.slice (some ⟨W4.heap.size, 0, none⟩) 0 (ys.length + zs.length)) := fun b hb => by
    cases hb; exact ⟨Nat.le_refl _, (World.ownsRow.lt (w := W5) om _ rfl).2⟩
  have Q1 : Hid (Own .u8 5 w.heap.size W6 p1 xs) := (O1'.out.kept gm (fun _ _ h => by cases h)).kept g6 (apart N1.out (NM.two (m := W5.heap.size)) (by omega) (by omega))
  have Q2 : Hid (Own .u8 5 w.heap.size W6 p2 xs) := (O2.out.kept gm (fun _ _ h => by cases h)).kept g6 (apart N2.out (NM.two (m := W5.heap.size)) (by omega) (by omega))
  have Q3 : Hid (Own .u8 5 w.heap.size W6 (.slice q3 xs.length d3) xs) := (O3'.out.kept gm (fun _ _ h => by cases h)).kept g6 (apart N3.out (NM.two (m := W5.heap.size)) (by omega) (by omega))
  have Q4 : Hid (Own .u8 5 w.heap.size W6 (.slice q4 zs.length d4) zs) := (O4.out.kept gm (fun _ _ h => by cases h)).kept g6 (apart N4.out (NM.two (m := W5.heap.size)) (by omega) (by omega))
  have NJ1 : Within W4.heap.size W6.heap.size j1 := NM.next s6 oj1 (by omega)
  have B6 : Hid (Below w.heap.size w W6) := below_grown B5.out g6 (fun b hb => Nat.le_trans (by omega) (NM b hb).1) B5.out.size
  obtain ⟨j2, W7, hr7, oj2, g7, s7⟩ := append_own (P := Try.prog) (ty := 22) Try.underlying22 info5 w.heap.size W6 j1 (.slice a3 zs.length c3) ([] ++ ys) zs B6.out.size oj1 (R3.out.below B6.out) (by simp; omega) (by decide)
  have z7 := g7.size
  have oj2' : Own .u8 5 w.heap.size W7 j2 (ys ++ zs) := oj2
  clear oj2
  obtain ⟨aj, cj, hj⟩ := Reads.len (Own.reads oj2')
  rw [List.length_append] at hj
  subst hj
  have P1 : Hid (Own .u8 5 w.heap.size W7 p1 xs) := Q1.out.kept g7 (apart N1.out (NJ1.two (m := W6.heap.size)) (by omega) (by omega))
  have P2 : Hid (Own .u8 5 w.heap.size W7 p2 xs) := Q2.out.kept g7 (apart N2.out (NJ1.two (m := W6.heap.size)) (by omega) (by omega))
  have P3 : Hid (Own .u8 5 w.heap.size W7 (.slice q3 xs.length d3) xs) := Q3.out.kept g7 (apart N3.out (NJ1.two (m := W6.heap.size)) (by omega) (by omega))
  have P4 : Hid (Own .u8 5 w.heap.size W7 (.slice q4 zs.length d4) zs) := Q4.out.kept g7 (apart N4.out (NJ1.two (m := W6.heap.size)) (by omega) (by omega))
  have NJ2 : Hid (Within W4.heap.size W7.heap.size (.slice aj (ys.length + zs.length) cj)) := NJ1.next s7 oj2' (by omega)
  have B7 : Hid (Below w.heap.size w W7) := below_grown B6.out g7 (fun b hb => Nat.le_trans (by omega) (NJ1 b hb).1) B6.out.size
  have OJ : Hid (Own .u8 5 w.heap.size W7 (.slice aj (ys.length + zs.length) cj) (ys ++ zs)) := oj2'
  have HR6 := (show Hid _ from hr6)
  have HR7 := (show Hid _ from hr7)
  have Z : Hid (w.heap.size ≤ W1.heap.size ∧ W1.heap.size ≤ W2.heap.size ∧ W2.heap.size ≤ W3.heap.size ∧ W3.heap.size ≤ W4.heap.size ∧ W4.heap.size ≤ W7.heap.size) := ⟨z1, z2, z3, z4, by omega⟩
  clear hr6 hr7 oj1 oj2' g6 g7 s6 s7 om gm NM NJ1 Q1 Q2 Q3 Q4 O1' O2 O3' O4 z1 z2 z3 z4 z5 z6 z7 S2 S3 S4 S5 B1 B2 B3 B4 B5 B6 I5 Z0 Z1 Z2 e5 R1
  go_wp2_with (at_builtin; first | (refine wpList_append_run rfl _ _ 22 rfl _ _ rfl rfl _ _ HR6.out ?_) | (refine wpList_append_run rfl _ _ 22 rfl _ _ rfl rfl _ _ HR7.out ?_))
  obtain ⟨W8, hW8⟩ : ∃ W8, W8 = ((W7.alloc (Obj.cells #[Value.slice a2 ys.length c2] 44)).alloc (Obj.cells #[Value.slice a3 zs.length c3] 44)).alloc (Obj.cells #[Value.slice aj (ys.length + zs.length) cj] 44) := ⟨_, rfl⟩
  rw [← hW8]
  have t1 : W8.cell? ⟨W7.heap.size, 0, none⟩ = some (.slice a2 ys.length c2) := by
    rw [hW8, World.cell?_alloc_lt _ _ _ (by simp; omega), World.cell?_alloc_lt _ _ _ (by simp), World.cell?_alloc_at _ _ _ _ rfl]; rfl
  have t2 : W8.cell? ⟨W7.heap.size + 1, 0, none⟩ = some (.slice a3 zs.length c3) := by
    rw [hW8, World.cell?_alloc_lt _ _ _ (by simp), World.cell?_alloc_at _ _ _ _ (by simp)]; rfl
  have t3 : W8.cell? ⟨W7.heap.size + 1 + 1, 0, none⟩ = some (.slice aj (ys.length + zs.length) cj) := by
    rw [hW8, World.cell?_alloc_at _ _ _ _ (by simp)]; rfl
  have b78 : Below W7.heap.size W7 W8 := by
    rw [hW8]; exact (((Below.refl _ _).alloc (Nat.le_refl _) _).alloc (by simp) _).alloc (by simp; omega) _
  have z8 : W8.heap.size = W7.heap.size + 1 + 1 + 1 := by rw [hW8]; simp
  have T1 := (show Hid _ from t1)
  have T2 := (show Hid _ from t2)
  have T3 := (show Hid _ from t3)
  have B78 := (show Hid _ from b78)
  have Z8 := (show Hid _ from z8)
  have B8 : Hid (Below w.heap.size w W8) := B7.out.trans (b78.mono B7.out.size)
  clear hW8 t1 t2 t3 b78 z8
  refine (appendZZ_any W7.heap.size w.heap.size p1 _ xs ys W8 B8.out.size T1.out (P1.out.below B78.out) (R2.out.below B8.out) (by omega)).mono ?_
  rintro e W9 ⟨r1, rfl, or1, g9, s9⟩
  obtain ⟨y1, y2, y3, y4, y7⟩ := Z.out
  have y8 := Z8.out
  have y9 := g9.size
  have V2 : Hid (Own .u8 5 w.heap.size W9 p2 xs) := (P2.out.below B78.out).kept g9 (apart N2.out (N1.out.two (m := W8.heap.size)) (by omega) (by omega))
  have V3 : Hid (Own .u8 5 w.heap.size W9 (.slice q3 xs.length d3) xs) := (P3.out.below B78.out).kept g9 (apart N3.out (N1.out.two (m := W8.heap.size)) (by omega) (by omega))
  have V4 : Hid (Own .u8 5 w.heap.size W9 (.slice q4 zs.length d4) zs) := (P4.out.below B78.out).kept g9 (apart N4.out (N1.out.two (m := W8.heap.size)) (by omega) (by omega))
  have VJ : Hid (Own .u8 5 w.heap.size W9 (.slice aj (ys.length + zs.length) cj) (ys ++ zs)) := (OJ.out.below B78.out).kept g9 (apart NJ2.out (N1.out.two (m := W8.heap.size)) (by omega) (by omega))
  have VR : Hid (Own .u8 5 w.heap.size W9 r1 (xs ++ ys)) := or1
  have X2 : Hid (W9.cell? ⟨W7.heap.size + 1, 0, none⟩ = some (.slice a3 zs.length c3)) := g9.cell T2.out (fun h => by have := N1.out _ h.symm; simp at this; omega)
  have X3 : Hid (W9.cell? ⟨W7.heap.size + 1 + 1, 0, none⟩ = some (.slice aj (ys.length + zs.length) cj)) := g9.cell T3.out (fun h => by have := N1.out _ h.symm; simp at this; omega)
  have Y1 : Hid (Two w.heap.size W1.heap.size W8.heap.size r1) := (N1.out.two).next s9 (Nat.le_refl _)
  have B9 : Hid (Below w.heap.size w W9) := below_grown B8.out g9 (fun b hb => (N1.out b hb).1) B8.out.size
  have Z9 : Hid (W8.heap.size ≤ W9.heap.size) := y9
  clear y1 y2 y3 y4 y7 y8 y9 or1 g9 s9 P1 P2 P3 P4 OJ T1 T2 T3 N1 B78 B7 B8
  go_wp2_with fail
  refine (appendZZ_any (W7.heap.size + 1) w.heap.size r1 _ (xs ++ ys) zs W9 B9.out.size X2.out VR.out (R3.out.below B9.out) (by rw [List.length_append]; omega)).mono ?_
  rintro e W10 ⟨r2, rfl, or2, g10, s10⟩
  obtain ⟨y1, y2, y3, y4, y7⟩ := Z.out
  have y8 := Z8.out
  have y9 := Z9.out
  have y10 := g10.size
  have U2 : Hid (Own .u8 5 w.heap.size W10 p2 xs) := V2.out.kept g10 (apart N2.out Y1.out (by omega) (by omega))
  have U3 : Hid (Own .u8 5 w.heap.size W10 (.slice q3 xs.length d3) xs) := V3.out.kept g10 (apart N3.out Y1.out (by omega) (by omega))
  have U4 : Hid (Own .u8 5 w.heap.size W10 (.slice q4 zs.length d4) zs) := V4.out.kept g10 (apart N4.out Y1.out (by omega) (by omega))
  have UJ : Hid (Own .u8 5 w.heap.size W10 (.slice aj (ys.length + zs.length) cj) (ys ++ zs)) := VJ.out.kept g10 (apart NJ2.out Y1.out (by omega) (by omega))
  have UR : Hid (Own .u8 5 w.heap.size W10 r2 (xs ++ ys ++ zs)) := or2
  have X4 : Hid (W10.cell? ⟨W7.heap.size + 1 + 1, 0, none⟩ = some (.slice aj (ys.length + zs.length) cj)) := g10.cell X3.out (fun h => by have := Y1.out _ h.symm; simp at this; omega)
  have Y2 : Hid (Two w.heap.size W1.heap.size W8.heap.size r2) := Y1.out.next s10 y9
  have B10 : Hid (Below w.heap.size w W10) := below_grown B9.out g10 (Y1.out.ge (by omega)) B9.out.size
  have Z10 : Hid (W9.heap.size ≤ W10.heap.size) := y10
  clear y1 y2 y3 y4 y7 y8 y9 y10 or2 g10 s10 V2 V3 V4 VJ VR X2 X3 Y1 B9
  go_wp2_with fail
  refine (appendZZ_any (W7.heap.size + 1 + 1) w.heap.size p2 _ xs (ys ++ zs) W10 B10.out.size X4.out U2.out UJ.out.reads (by rw [List.length_append]; omega)).mono ?_
  rintro e W11 ⟨r3, rfl, or3, g11, s11⟩
  obtain ⟨y1, y2, y3, y4, y7⟩ := Z.out
  have y8 := Z8.out
  have y9 := Z9.out
  have y10 := Z10.out
  have K2 : Reads .u8 W11 r2 (xs ++ ys ++ zs) := (UR.out.kept g11 (fun b hb hp => apart N2.out Y2.out (by omega) (by omega) b hp hb)).reads
  have K3 : Hid (Reads .u8 W11 r3 (xs ++ ys ++ zs)) := by have := or3.reads; rwa [← List.append_assoc] at this
  have K4 : Hid (Reads .u8 W11 (.slice q3 xs.length d3) xs) := (U3.out.kept g11 (apart N3.out (N2.out.two (m := W4.heap.size)) (by omega) (by omega))).reads
  have K5 : Hid (Reads .u8 W11 (.slice q4 zs.length d4) zs) := (U4.out.kept g11 (apart N4.out (N2.out.two (m := W4.heap.size)) (by omega) (by omega))).reads
  have B11 : Hid (Below w.heap.size w W11) := below_grown B10.out g11 (fun b hb => Nat.le_trans y1 (N2.out b hb).1) B10.out.size
  clear y1 y2 y3 y4 y7 y8 y9 y10 or3 g11 s11 U2 U3 U4 UJ UR X4 Y2 B10 Z Z8 Z9 Z10 N2 N3 N4 NJ2 R2 R3 HR6 HR7 hmk
  obtain ⟨ar, cr, hr2⟩ := K2.len
  simp only [List.length_append] at hr2
  subst hr2
  have KR : Hid (Reads .u8 W11 (.slice ar (xs.length + ys.length + zs.length) cr) (xs ++ ys ++ zs)) := K2
  clear K2
  go_wp2_with fail
  refine (same_yes _ _ (xs ++ ys ++ zs) W11 KR.out K3.out (by simp only [List.length_append]; omega)).mono ?_
  rintro e W12 ⟨rfl, b12⟩
  have L2 : Hid (Reads .u8 W12 (.slice ar (xs.length + ys.length + zs.length) cr) (xs ++ ys ++ zs)) := KR.out.below b12
  have L4 : Hid (Reads .u8 W12 (.slice q3 xs.length d3) xs) := K4.out.below b12
  have L5 : Hid (Reads .u8 W12 (.slice q4 zs.length d4) zs) := K5.out.below b12
  have B12 : Hid (Below w.heap.size w W12) := B11.out.trans (b12.mono B11.out.size)
  clear b12 KR K3 K4 K5 B11
  have hcr := L2.out.cap
  go_wp2_with fail
  refine (same_yes _ _ xs W12 (Reads.take (ys := ys ++ zs) (by rw [← List.append_assoc]; exact L2.out)) L4.out (by omega)).mono ?_
  rintro e W13 ⟨rfl, b13⟩
  have M2 : Hid (Reads .u8 W13 (.slice ar (xs.length + ys.length + zs.length) cr) (xs ++ ys ++ zs)) := L2.out.below b13
  have M5 : Hid (Reads .u8 W13 (.slice q4 zs.length d4) zs) := L5.out.below b13
  have B13 : Hid (Below w.heap.size w W13) := B12.out.trans (b13.mono B12.out.size)
  clear b13 L2 L4 L5 B12
  have MD : Hid (Reads .u8 W13 (.slice (ar.map fun x => x.add (xs.length + ys.length)) zs.length (cr - (xs.length + ys.length))) zs) := by
    have := Reads.drop M2.out
    rwa [List.length_append] at this
  by_cases hcz : cr = xs.length + ys.length
  · have hz : zs.length = 0 := by omega
    have hzn : zs = [] := List.eq_nil_of_length_eq_zero hz
    subst hzn hcz
    go_wp2_with fail
    refine (same_yes _ _ [] W13 (reads_empty M2.out) M5.out (by decide)).mono ?_
    rintro e W14 ⟨rfl, b14⟩
    have B14 : Hid (Below w.heap.size w W14) := B13.out.trans (b14.mono B13.out.size)
    clear b14
    go_wp2
    go_ret
    exact ⟨rfl, B14.out⟩
  · go_wp2_with fail
    refine (same_yes _ _ zs W13 MD.out M5.out (by omega)).mono ?_
    rintro e W14 ⟨rfl, b14⟩
    have B14 : Hid (Below w.heap.size w W14) := B13.out.trans (b14.mono B13.out.size)
    clear b14
    go_wp2
    go_ret
    exact ⟨rfl, B14.out⟩
end Go.Proofs.Qxb6608695a
