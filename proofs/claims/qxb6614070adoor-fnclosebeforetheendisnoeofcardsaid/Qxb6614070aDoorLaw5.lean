/-
  THE WALK of the law FnCloseBeforeTheEndIsNoEOF (5).
-/
import Derived.Test.Qxb6614070aDoorLaw4
namespace Go.Proofs.Qxb6614070aDoor
open Go.RowKit

set_option maxRecDepth 100000 in
set_option maxHeartbeats 4000000 in
theorem law5_main (v1 v2 : Value) (ca : Nat) (xs rs : List Int) (a0 : Addr) (w : World) (h1 : Reads .u8 w v1 xs) (h2 : Reads .u16 w v2 rs) (hG : w.cell? ⟨0, 0, none⟩ = some (.iface 111 (.pointer (some a0))))
    (l1 : xs.length ≤ 524288) (l2 : rs.length ≤ 4096) (hr : ∀ i, 0 ≤ rs.getD i 0 ∧ rs.getD i 0 ≤ 65535) (hca : ca ≤ rs.length) :
    Calls Tryd.prog 5 #[v1, v2, .int .i64 (ca : Int)] w fun e w' => e = .returned (.bool true) ∧ Below w.heap.size w w' := by
  obtain ⟨a1, c1, rfl⟩ := h1.len
  obtain ⟨a2, c2, rfl⟩ := h2.len
  have R1 : Hid (Reads .u8 w (.slice a1 xs.length c1) xs) := h1
  have R2 : Hid (Reads .u16 w (.slice a2 rs.length c2) rs) := h2
  have G0 : Hid (w.cell? ⟨0, 0, none⟩ = some (.iface 111 (.pointer (some a0)))) := hG
  have HR : Hid (∀ i, 0 ≤ rs.getD i 0 ∧ rs.getD i 0 ≤ 65535) := hr
  have hmk : ∀ w : World, (Instr.makeSlice 22 (.int .i64 65536) (.int .i64 65536)).run Tryd.prog w = .ok (.slice (some ⟨w.heap.size, 0, none⟩) 65536 65536) (w.alloc (.cells (madeCells #[.int .u8 0] 65536) 5)) := make64k
  have hw0 : 0 < w.heap.size := World.block_lt_of_cell? _ _ hG
  clear h1 h2 hG hr
  go_enter Tryd.func5, Tryd.ntmps5
  go_wp2_with (go_at_call 19; refine (bytes19 _ _ _ _ _ _ _ _ l1 l2).mono ?_; rintro e w' ⟨rfl, rfl⟩)
  refine (clone_u8 w.heap.size _ xs w (Nat.le_refl _) R1.out (by omega)).mono ?_
  rintro e W1 ⟨p1, rfl, o1, b1, i1⟩
  have O1 : Hid (Own .u8 5 w.heap.size W1 p1 xs) := o1
  have B1 : Hid (Below w.heap.size w W1) := b1
  clear o1 b1 i1
  go_wp2_with fail
  refine (clone_u16 w.heap.size _ rs W1 B1.out.size (R2.out.below B1.out) (by omega)).mono ?_
  rintro e W2 ⟨p2, rfl, o2, b2, i2⟩
  obtain ⟨q2, d2, rfl⟩ := Reads.len (Own.reads o2)
  have O1' : Hid (Own .u8 5 w.heap.size W2 p1 xs) := O1.out.below b2
  have O2 : Hid (Own .u16 43 w.heap.size W2 (.slice q2 rs.length d2) rs) := o2
  have B2 : Hid (Below w.heap.size w W2) := B1.out.trans (b2.mono B1.out.size)
  have N2 : Hid (Within W1.heap.size W2.heap.size (.slice q2 rs.length d2)) := i2
  clear o2 b2 i2 O1 R1 R2
  go_wp2_with fail
  refine (clone_u8 w.heap.size _ xs W2 B2.out.size O1'.out.reads (by omega)).mono ?_
  rintro e W3 ⟨p3, rfl, o3, b3, i3⟩
  obtain ⟨q3, d3, rfl⟩ := Reads.len (Own.reads o3)
  have O1 : Hid (Own .u8 5 w.heap.size W3 p1 xs) := O1'.out.below b3
  have O2' : Hid (Own .u16 43 w.heap.size W3 (.slice q2 rs.length d2) rs) := O2.out.below b3
  have O3 : Hid (Own .u8 5 w.heap.size W3 (.slice q3 xs.length d3) xs) := o3
  have B3 : Hid (Below w.heap.size w W3) := B2.out.trans (b3.mono B2.out.size)
  have N3 : Hid (Within W2.heap.size W3.heap.size (.slice q3 xs.length d3)) := i3
  have S3 : Hid (W2.heap.size ≤ W3.heap.size) := b3.size
  clear o3 b3 i3 O1' O2
  go_wp2_with fail
  refine (clone_u8 w.heap.size _ xs W3 B3.out.size O1.out.reads (by omega)).mono ?_
  rintro e W4 ⟨p4, rfl, o4, b4, i4⟩
  obtain ⟨q4, d4, rfl⟩ := Reads.len (Own.reads o4)
  have O2 : Hid (Own .u16 43 w.heap.size W4 (.slice q2 rs.length d2) rs) := O2'.out.below b4
  have O3' : Hid (Own .u8 5 w.heap.size W4 (.slice q3 xs.length d3) xs) := O3.out.below b4
  have O4 : Hid (Own .u8 5 w.heap.size W4 (.slice q4 xs.length d4) xs) := o4
  have B4 : Hid (Below w.heap.size w W4) := B3.out.trans (b4.mono B3.out.size)
  have N4 : Hid (Within W3.heap.size W4.heap.size (.slice q4 xs.length d4)) := i4
  have S4 : Hid (W3.heap.size ≤ W4.heap.size) := b4.size
  clear o4 b4 i4 O1 O2' O3
  go_wp2_with fail
  refine (newBody_any _ _ _ W4).mono ?_
  rintro e W5 ⟨PB, EV, EN, RD, rfl, k1, k2, k3, k4, y1, y2, y3, y4, k5⟩
  have K1 : Hid (W5.rowIs PB 82 5 (pbf RD EV 0 0)) := k1
  have K2 : Hid (W5.rowIs EV 40 1 (evf EN)) := k2
  have K3 : Hid (W5.rowIs EN 49 2 (enf 0 false)) := k3
  have K4 : Hid (W5.rowIs RD 85 3 (rdf (.slice q4 xs.length d4) 0 (-1))) := k4
  have K5 : Hid (Chg [] W4 W5) := k5
  have Y : Hid (W4.heap.size ≤ EN ∧ EN < EV ∧ EV < RD ∧ RD < PB) := ⟨y1, y2, y3, y4⟩
  clear k1 k2 k3 k4 k5 y1 y2 y3 y4
  go_wp2_with fail
  obtain ⟨PP, W, hPP, hW⟩ : ∃ PP W, PP = W5.heap.size ∧ W = W5.alloc (.cells (madeCells #[.int .u8 0] 65536) 5) := ⟨_, _, rfl, rfl⟩
  rw [← hPP, ← hW]
  have CW : Chg [] W5 W := by rw [hW]; exact (Chg.refl _ _).alloc _
  have C4 : Chg [] W4 W := K5.out.trans CW
  obtain ⟨y1, y2, y3, y4⟩ := Y.out
  have y5 := K1.out.lt
  have y6 := B4.out.size
  have OR : Hid (Own .u16 43 w.heap.size W (.slice q2 rs.length d2) rs) := C4.own O2.out (by simp)
  have OW : Hid (Own .u8 5 w.heap.size W (.slice q3 xs.length d3) xs) := C4.own O3'.out (by simp)
  have BW : Hid (Below w.heap.size w W) := B4.out.trans (C4.below (by simp) y6)
  have LY : Hid (Lay W PB EV EN RD PP (.slice q4 xs.length d4) xs a0 w.heap.size) := ⟨y2, y3, y4, by omega, by omega, hw0, C4.own O4.out (by simp), fun b hb => by have := N4.out b hb; have := B3.out.size; omega, (BW.out.cell (p := ⟨0, 0, none⟩) hw0).trans G0.out, l1⟩
  have S0 : Hid (St W PB EV EN RD PP (.slice q4 xs.length d4) W 0 false false) := ⟨-1, _, CW.row K1.out (by simp), CW.row K2.out (by simp), CW.row K3.out (by simp), CW.row K4.out (by simp), by rw [hPP, hW]; exact World.rowIs_made W5 (.int .u8 0) 65536 5, Chg.refl _ _⟩
  have AR : Hid (∀ b, (Value.slice q2 rs.length d2).ownBlock = some b → b ∉ [RD, PP, PB, EN]) := fun b hb => by have := N2.out b hb; have := S3.out; have := S4.out; simp; omega
  have AW : Hid (∀ b, (Value.slice q3 xs.length d3).ownBlock = some b → b ∉ [RD, PP, PB, EN]) := fun b hb => by have := N3.out b hb; have := S4.out; simp; omega
  have FB : Hid (∀ wr, Chg [RD, PP, PB, EN] W wr → Below w.heap.size w wr) := fun wr hc => BW.out.trans (hc.below (by simp; omega) BW.out.size)
  clear hPP hW CW C4 y1 y2 y3 y4 y5 y6 K1 K2 K3 K4 K5 Y O2 O3' O4 B1 B2 B3 B4 N2 N3 N4 S3 S4 G0 hmk BW hw0
  go_loopw [11, 12, 13, 14] (fun vp vm vc vi wr => ∃ (i pos : Nat) (mb cb : Bool), i ≤ rs.length ∧ pos ≤ xs.length ∧ vi = .int .i64 i ∧ vp = .int .i64 pos ∧ vm = .bool mb ∧ vc = .bool cb ∧ Hid (cb = decide (ca < i)) ∧ Hid (St W PB EV EN RD PP (.slice q4 xs.length d4) wr pos (mb || cb) mb)) (fun _ _ _ vi _ => rs.length + 1 - (intOf vi).toNat)
  case atStart => exact ⟨0, 0, false, false, Nat.zero_le _, Nat.zero_le _, rfl, rfl, rfl, rfl, (by show false = _; simp : false = decide (ca < 0)), S0⟩
  case round =>
    obtain ⟨i, pos, mb, cb, hi, hp, rfl, rfl, rfl, rfl, hcb, hst⟩ := hrel
    by_cases hic : i = ca
    · subst hic
      obtain rfl : cb = false := by rw [hcb.out]; simp
      have hst' : Hid (St W PB EV EN RD PP (.slice q4 xs.length d4) wr pos mb mb) := by
        have h := hst.out
        rw [Bool.or_false] at h
        exact h
      clear hst
      go_wp2_with fail
      refine (st_close LY.out wr pos mb mb hst'.out).mono ?_
      rintro e y1 ⟨rfl, s1⟩
      have T1 : Hid (St W PB EV EN RD PP (.slice q4 xs.length d4) y1 pos true mb) := by cases mb <;> exact s1
      clear s1 hst'
      obtain ⟨pr0, g0, _, _, hEN0, _, _, _⟩ := T1.out
      have u0 : y1.cell? ⟨EN, 0, none⟩ = some (.int .i64 1) := hEN0.cell (i := 0) (by decide)
      have u1 : y1.cell? ⟨EN, 1, none⟩ = some (.bool mb) := hEN0.cell (i := 1) (by decide)
      clear hEN0
      by_cases hlt : i < rs.length
      · have hir : ((i : Int) == (rs.length : Int)) = false := by rw [beq_eq_false_iff_ne]; omega
        have hOR := Own.reads (T1.out.frame.own OR.out AR.out)
        obtain ⟨RB, ro, rc, hq2, _, _, hrcell⟩ := hOR.at (by omega)
        simp only [Value.slice.injEq, true_and] at hq2
        obtain ⟨rfl, rfl⟩ := hq2
        obtain ⟨k, hk⟩ : ∃ k : Nat, rs.getD i 0 = (k : Int) := ⟨(rs.getD i 0).toNat, by have := (HR.out i).1; omega⟩
        have hkb : k ≤ 65535 := by have := (HR.out i).2; omega
        have hcell : y1.cell? ⟨RB, ro + i, none⟩ = some (.int .u16 (k : Int)) := by rw [hrcell i hlt, hk]
        have hkb2 : (k : Int) ≤ 65535 := by omega
        clear hOR hrcell hk
        by_cases hpe : pos < xs.length
        · obtain ⟨m, hm⟩ : ∃ m, m = Nat.min (xs.length - pos) k := ⟨_, rfl⟩
          have hml : m ≤ xs.length - pos := by rw [hm]; exact Nat.min_le_left _ _
          have hmk : m ≤ k := by rw [hm]; exact Nat.min_le_right _ _
          have HM : Hid (m = Nat.min (xs.length - pos) k) := hm
          clear hm
          go_wp2_with fail
          refine (st_read_some LY.out y1 pos k m true mb T1.out hpe (by omega) HM.out).mono ?_
          rintro e x1 ⟨rfl, s1, r1⟩
          have S1 : Hid (St W PB EV EN RD PP (.slice q4 xs.length d4) x1 (pos + m) true mb) := s1
          have RP : Hid (Reads .u8 x1 (.slice (some ⟨PP, 0, none⟩) m 65536) ((xs.drop pos).take m)) := r1
          have hOW := Own.reads (s1.frame.own OW.out AW.out)
          obtain ⟨WB, wo, wc, hq3, _, hwc, _⟩ := hOW.at (by omega)
          simp only [Value.slice.injEq, true_and] at hq3
          obtain ⟨rfl, rfl⟩ := hq3
          have WQ : Hid (Reads .u8 x1 (.slice (some ⟨WB, wo + pos, none⟩) m (d3 - pos)) ((xs.drop pos).take m)) := want_mid hOW (by omega) hml
          have hs1 := slice_to PP 0 65536 65536 m (by omega)
          have hs2 := slice_mid WB wo xs.length d3 pos m (by omega) (by omega)
          have hwp : IntKind.i64.wrap ((pos : Int) + (m : Int)) = (pos : Int) + (m : Int) := by rw [IntKind.wrap_i64]; omega
          clear s1 r1 hOW hcell T1
          go_wp2_with (go_at_call 17; refine (min_int k (xs.length - pos) _ (by omega) m HM.out _).mono ?_; rintro e w' ⟨rfl, rfl⟩)
          go_region_held3 (fun v => Hid (Chg [] x1 v))
            (first | exact ((Chg.refl [] x1).drew : Chg [] x1 _) | exact (((Chg.refl [] x1).drew).trans (Chg.ofBelow [] (by assumption)) : Chg [] x1 _))
            (first | (go_at_call 12; refine (same_yes _ _ ((xs.drop pos).take m) _ (RP.out.below ((Below.refl _ _).drew)) (WQ.out.below ((Below.refl _ _).drew)) (by rw [List.length_take, List.length_drop]; omega)).mono ?_; rintro e x2 ⟨rfl, h2⟩))
          have S2 : Hid (St W PB EV EN RD PP (.slice q4 xs.length d4) x2 (pos + m) true mb) := S1.out.chg (((Chg.refl [] x1).drew).trans (Chg.ofBelow [] h2))
          clear h2
          go_wp2
          go_roundw
          case rel => exact ⟨i + 1, pos + m, mb, true, by omega, by omega, by go_num, by go_num, rfl, rfl, (by show true = _; simp : true = decide (i < i + 1)), (by simpa using S2.out : St W PB EV EN RD PP (.slice q4 xs.length d4) x2 (pos + m) (mb || true) mb)⟩
          case measure => simp [intOf]; omega
        · go_wp2_with fail
          refine (st_read_end LY.out y1 pos true mb _ T1.out (by omega)).mono ?_
          rintro e x1 ⟨rfl, s1⟩
          have S1 : Hid (St W PB EV EN RD PP (.slice q4 xs.length d4) x1 pos true mb) := by cases mb <;> exact s1
          clear s1 T1 hcell
          go_wp2
          go_roundw
          case rel => exact ⟨i + 1, pos, mb, true, by omega, by omega, by go_num, rfl, rfl, rfl, (by show true = _; simp : true = decide (i < i + 1)), (by simpa using S1.out : St W PB EV EN RD PP (.slice q4 xs.length d4) x1 pos (mb || true) mb)⟩
          case measure => simp [intOf]; omega
      · have hir : ((i : Int) == (rs.length : Int)) = true := by rw [beq_iff_eq]; omega
        obtain ⟨pr, g, _, _, hEN, _, _, hfr⟩ := T1.out
        have HF : Hid (Below w.heap.size w y1) := FB.out _ hfr
        have n0 : y1.cell? ⟨EN, 0, none⟩ = some (.int .i64 1) := hEN.cell (i := 0) (by decide)
        have n1 : y1.cell? ⟨EN, 1, none⟩ = some (.bool mb) := hEN.cell (i := 1) (by decide)
        clear hEN hfr T1
        cases mb
        all_goals
          go_wp2
          go_ret
          exact ⟨rfl, HF.out⟩
    · have hne : ((i : Int) == (ca : Int)) = false := by rw [beq_eq_false_iff_ne]; omega
      by_cases hlc : i < ca
      · obtain rfl : cb = false := by rw [hcb.out]; simp; omega
        have hst' : Hid (St W PB EV EN RD PP (.slice q4 xs.length d4) wr pos mb mb) := by
          have h := hst.out
          rw [Bool.or_false] at h
          exact h
        clear hst
        have hlt : i < rs.length := by omega
        have hir : ((i : Int) == (rs.length : Int)) = false := by rw [beq_eq_false_iff_ne]; omega
        have hOR := Own.reads (hst'.out.frame.own OR.out AR.out)
        obtain ⟨RB, ro, rc, hq2, _, _, hrcell⟩ := hOR.at (by omega)
        simp only [Value.slice.injEq, true_and] at hq2
        obtain ⟨rfl, rfl⟩ := hq2
        obtain ⟨k, hk⟩ : ∃ k : Nat, rs.getD i 0 = (k : Int) := ⟨(rs.getD i 0).toNat, by have := (HR.out i).1; omega⟩
        have hkb : k ≤ 65535 := by have := (HR.out i).2; omega
        have hcell : wr.cell? ⟨RB, ro + i, none⟩ = some (.int .u16 (k : Int)) := by rw [hrcell i hlt, hk]
        have hkb2 : (k : Int) ≤ 65535 := by omega
        clear hOR hrcell hk
        by_cases hpe : pos < xs.length
        · obtain ⟨m, hm⟩ : ∃ m, m = Nat.min (xs.length - pos) k := ⟨_, rfl⟩
          have hml : m ≤ xs.length - pos := by rw [hm]; exact Nat.min_le_left _ _
          have hmk : m ≤ k := by rw [hm]; exact Nat.min_le_right _ _
          have HM : Hid (m = Nat.min (xs.length - pos) k) := hm
          clear hm
          go_wp2_with fail
          refine (st_read_some LY.out wr pos k m mb mb hst'.out hpe (by omega) HM.out).mono ?_
          rintro e x1 ⟨rfl, s1, r1⟩
          have S1 : Hid (St W PB EV EN RD PP (.slice q4 xs.length d4) x1 (pos + m) mb mb) := s1
          have RP : Hid (Reads .u8 x1 (.slice (some ⟨PP, 0, none⟩) m 65536) ((xs.drop pos).take m)) := r1
          have hOW := Own.reads (s1.frame.own OW.out AW.out)
          obtain ⟨WB, wo, wc, hq3, _, hwc, _⟩ := hOW.at (by omega)
          simp only [Value.slice.injEq, true_and] at hq3
          obtain ⟨rfl, rfl⟩ := hq3
          have WQ : Hid (Reads .u8 x1 (.slice (some ⟨WB, wo + pos, none⟩) m (d3 - pos)) ((xs.drop pos).take m)) := want_mid hOW (by omega) hml
          have hs1 := slice_to PP 0 65536 65536 m (by omega)
          have hs2 := slice_mid WB wo xs.length d3 pos m (by omega) (by omega)
          have hwp : IntKind.i64.wrap ((pos : Int) + (m : Int)) = (pos : Int) + (m : Int) := by rw [IntKind.wrap_i64]; omega
          clear s1 r1 hOW hcell hst'
          go_wp2_with (go_at_call 17; refine (min_int k (xs.length - pos) _ (by omega) m HM.out _).mono ?_; rintro e w' ⟨rfl, rfl⟩)
          go_region_held3 (fun v => Hid (Chg [] x1 v))
            (first | exact ((Chg.refl [] x1).drew : Chg [] x1 _) | exact (((Chg.refl [] x1).drew).trans (Chg.ofBelow [] (by assumption)) : Chg [] x1 _))
            (first | (go_at_call 12; refine (same_yes _ _ ((xs.drop pos).take m) _ (RP.out.below ((Below.refl _ _).drew)) (WQ.out.below ((Below.refl _ _).drew)) (by rw [List.length_take, List.length_drop]; omega)).mono ?_; rintro e x2 ⟨rfl, h2⟩))
          have S2 : Hid (St W PB EV EN RD PP (.slice q4 xs.length d4) x2 (pos + m) mb mb) := S1.out.chg (((Chg.refl [] x1).drew).trans (Chg.ofBelow [] h2))
          clear h2
          go_wp2
          go_roundw
          case rel => exact ⟨i + 1, pos + m, mb, false, by omega, by omega, by go_num, by go_num, rfl, rfl, (by show false = _; simp; omega : false = decide (ca < i + 1)), (by simpa using S2.out : St W PB EV EN RD PP (.slice q4 xs.length d4) x2 (pos + m) (mb || false) mb)⟩
          case measure => simp [intOf]; omega
        · go_wp2_with fail
          refine (st_read_end LY.out wr pos mb mb _ hst'.out (by omega)).mono ?_
          rintro e x1 ⟨rfl, s1⟩
          have S1 : Hid (St W PB EV EN RD PP (.slice q4 xs.length d4) x1 pos true true) := by cases mb <;> exact s1
          clear s1 hst' hcell
          go_wp2
          go_roundw
          case rel => exact ⟨i + 1, pos, true, false, by omega, by omega, by go_num, rfl, rfl, rfl, (by show false = _; simp; omega : false = decide (ca < i + 1)), S1⟩
          case measure => simp [intOf]; omega
      · obtain rfl : cb = true := by rw [hcb.out]; simp; omega
        have hst' : Hid (St W PB EV EN RD PP (.slice q4 xs.length d4) wr pos true mb) := by
          have h := hst.out
          rw [Bool.or_true] at h
          exact h
        clear hst
        by_cases hlt : i < rs.length
        · have hir : ((i : Int) == (rs.length : Int)) = false := by rw [beq_eq_false_iff_ne]; omega
          have hOR := Own.reads (hst'.out.frame.own OR.out AR.out)
          obtain ⟨RB, ro, rc, hq2, _, _, hrcell⟩ := hOR.at (by omega)
          simp only [Value.slice.injEq, true_and] at hq2
          obtain ⟨rfl, rfl⟩ := hq2
          obtain ⟨k, hk⟩ : ∃ k : Nat, rs.getD i 0 = (k : Int) := ⟨(rs.getD i 0).toNat, by have := (HR.out i).1; omega⟩
          have hkb : k ≤ 65535 := by have := (HR.out i).2; omega
          have hcell : wr.cell? ⟨RB, ro + i, none⟩ = some (.int .u16 (k : Int)) := by rw [hrcell i hlt, hk]
          have hkb2 : (k : Int) ≤ 65535 := by omega
          clear hOR hrcell hk
          by_cases hpe : pos < xs.length
          · obtain ⟨m, hm⟩ : ∃ m, m = Nat.min (xs.length - pos) k := ⟨_, rfl⟩
            have hml : m ≤ xs.length - pos := by rw [hm]; exact Nat.min_le_left _ _
            have hmk : m ≤ k := by rw [hm]; exact Nat.min_le_right _ _
            have HM : Hid (m = Nat.min (xs.length - pos) k) := hm
            clear hm
            go_wp2_with fail
            refine (st_read_some LY.out wr pos k m true mb hst'.out hpe (by omega) HM.out).mono ?_
            rintro e x1 ⟨rfl, s1, r1⟩
            have S1 : Hid (St W PB EV EN RD PP (.slice q4 xs.length d4) x1 (pos + m) true mb) := s1
            have RP : Hid (Reads .u8 x1 (.slice (some ⟨PP, 0, none⟩) m 65536) ((xs.drop pos).take m)) := r1
            have hOW := Own.reads (s1.frame.own OW.out AW.out)
            obtain ⟨WB, wo, wc, hq3, _, hwc, _⟩ := hOW.at (by omega)
            simp only [Value.slice.injEq, true_and] at hq3
            obtain ⟨rfl, rfl⟩ := hq3
            have WQ : Hid (Reads .u8 x1 (.slice (some ⟨WB, wo + pos, none⟩) m (d3 - pos)) ((xs.drop pos).take m)) := want_mid hOW (by omega) hml
            have hs1 := slice_to PP 0 65536 65536 m (by omega)
            have hs2 := slice_mid WB wo xs.length d3 pos m (by omega) (by omega)
            have hwp : IntKind.i64.wrap ((pos : Int) + (m : Int)) = (pos : Int) + (m : Int) := by rw [IntKind.wrap_i64]; omega
            clear s1 r1 hOW hcell hst'
            go_wp2_with (go_at_call 17; refine (min_int k (xs.length - pos) _ (by omega) m HM.out _).mono ?_; rintro e w' ⟨rfl, rfl⟩)
            go_region_held3 (fun v => Hid (Chg [] x1 v))
              (first | exact ((Chg.refl [] x1).drew : Chg [] x1 _) | exact (((Chg.refl [] x1).drew).trans (Chg.ofBelow [] (by assumption)) : Chg [] x1 _))
              (first | (go_at_call 12; refine (same_yes _ _ ((xs.drop pos).take m) _ (RP.out.below ((Below.refl _ _).drew)) (WQ.out.below ((Below.refl _ _).drew)) (by rw [List.length_take, List.length_drop]; omega)).mono ?_; rintro e x2 ⟨rfl, h2⟩))
            have S2 : Hid (St W PB EV EN RD PP (.slice q4 xs.length d4) x2 (pos + m) true mb) := S1.out.chg (((Chg.refl [] x1).drew).trans (Chg.ofBelow [] h2))
            clear h2
            go_wp2
            go_roundw
            case rel => exact ⟨i + 1, pos + m, mb, true, by omega, by omega, by go_num, by go_num, rfl, rfl, (by show true = _; simp; omega : true = decide (ca < i + 1)), (by simpa using S2.out : St W PB EV EN RD PP (.slice q4 xs.length d4) x2 (pos + m) (mb || true) mb)⟩
            case measure => simp [intOf]; omega
          · go_wp2_with fail
            refine (st_read_end LY.out wr pos true mb _ hst'.out (by omega)).mono ?_
            rintro e x1 ⟨rfl, s1⟩
            have S1 : Hid (St W PB EV EN RD PP (.slice q4 xs.length d4) x1 pos true mb) := by cases mb <;> exact s1
            clear s1 hst' hcell
            go_wp2
            go_roundw
            case rel => exact ⟨i + 1, pos, mb, true, by omega, by omega, by go_num, rfl, rfl, rfl, (by show true = _; simp; omega : true = decide (ca < i + 1)), (by simpa using S1.out : St W PB EV EN RD PP (.slice q4 xs.length d4) x1 pos (mb || true) mb)⟩
            case measure => simp [intOf]; omega
        · have hir : ((i : Int) == (rs.length : Int)) = true := by rw [beq_iff_eq]; omega
          obtain ⟨pr, g, _, _, hEN, _, _, hfr⟩ := hst'.out
          have HF : Hid (Below w.heap.size w wr) := FB.out _ hfr
          have n0 : wr.cell? ⟨EN, 0, none⟩ = some (.int .i64 1) := hEN.cell (i := 0) (by decide)
          have n1 : wr.cell? ⟨EN, 1, none⟩ = some (.bool mb) := hEN.cell (i := 1) (by decide)
          clear hEN hfr hst'
          cases mb
          all_goals
            go_wp2
            go_ret
            exact ⟨rfl, HF.out⟩
end Go.Proofs.Qxb6614070aDoor
