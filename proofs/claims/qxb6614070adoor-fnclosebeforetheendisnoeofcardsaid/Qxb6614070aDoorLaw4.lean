/-
  THE WALK of the law FnCloseEndsTheExchangeOnce (4).
-/
import Derived.Test.Qxb6614070aDoorSt
import Derived.Test.Qxb6614070aDoorNew
namespace Go.Proofs.Qxb6614070aDoor
open Go.RowKit

theorem make64k (w : World) : (Instr.makeSlice 22 (.int .i64 65536) (.int .i64 65536)).run Tryd.prog w = .ok (.slice (some ⟨w.heap.size, 0, none⟩) 65536 65536) (w.alloc (.cells (madeCells #[.int .u8 0] 65536) 5)) :=
  run_make_row' (P := Tryd.prog) 22 5 (.int .u8 0) 1 Tryd.underlying22 info5 rfl .i64 .i64 65536 (by omega) (by omega) w
theorem min_int (a b : Nat) (z : Int) (hz : z = (b : Int)) (m : Nat) (hm : m = Nat.min b a) (w : World) : Calls Tryd.prog 17 #[.int .i64 (a : Int), .int .i64 z] w fun e w' => e = .returned (.int .i64 (m : Int)) ∧ w = w' := by
  subst hz hm
  exact min_any a b w
theorem slice22 : Tryd.prog.underlying 22 = some (.slice (Tryd.prog.elem 22)) := by kernel_rfl
theorem elem22 (v : World) : (sizeOf (Tryd.prog.elem 22)).run Tryd.prog v = .ok 1 v := by kernel_rfl
theorem slice_to (b o n c m : Nat) (hm : m ≤ c) (v : World) : (Instr.slice 22 (.slice (some ⟨b, o, none⟩) n c) none (some (.int .i64 (m : Int))) none).run Tryd.prog v = .ok (.slice (some ⟨b, o, none⟩) m c) v := by
  rw [run_slice_h v 22 (some ⟨b, o, none⟩) n c slice22 .i64 m (by omega) (by omega), elem22]
  simp [sliced, Result.andThen, Addr.add]
theorem slice_mid (b o n c p m : Nat) (hm : p + m ≤ c) (hp : p < c) (v : World) : (Instr.slice 22 (.slice (some ⟨b, o, none⟩) n c) (some (.int .i64 (p : Int))) (some (.int .i64 ((p : Int) + (m : Int)))) none).run Tryd.prog v = .ok (.slice (some ⟨b, o + p, none⟩) m (c - p)) v := by
  rw [run_slice_lh v 22 (some ⟨b, o, none⟩) n c slice22 .i64 .i64 p ((p : Int) + (m : Int)) (by omega) (by omega) (by omega), elem22]
  have e1 : ((p : Int) + (m : Int)).toNat = p + m := by omega
  have e2 : ¬ c = p := by omega
  simp [sliced, Result.andThen, e1, e2, Go.WideShapes.add_plain]
theorem want_mid {w : World} {B o n c pos m : Nat} {xs : List Int} (h : Reads .u8 w (.slice (some ⟨B, o, none⟩) n c) xs) (hp : pos ≤ xs.length) (hm : m ≤ xs.length - pos) :
    Reads .u8 w (.slice (some ⟨B, o + pos, none⟩) m (c - pos)) ((xs.drop pos).take m) := by
  have e1 : xs = xs.take pos ++ ((xs.drop pos).take m ++ (xs.drop pos).drop m) := by rw [List.take_append_drop, List.take_append_drop]
  have l1 : (xs.take pos).length = pos := by rw [List.length_take]; omega
  have l2 : ((xs.drop pos).take m).length = m := by rw [List.length_take, List.length_drop]; omega
  have h2 : Reads .u8 w (.slice (some ⟨B, o, none⟩) n c) (xs.take pos ++ ((xs.drop pos).take m ++ (xs.drop pos).drop m)) := by rw [← e1]; exact h
  have h3 := h2.drop
  rw [l1] at h3
  have h4 := h3.take
  rw [l2, Option.map_some, Go.WideShapes.add_plain] at h4
  exact h4

set_option maxRecDepth 100000 in
set_option maxHeartbeats 2000000 in
theorem law4_main (v1 v2 : Value) (cl : Nat) (xs rs : List Int) (a0 : Addr) (w : World) (h1 : Reads .u8 w v1 xs) (h2 : Reads .u16 w v2 rs) (hG : w.cell? ⟨0, 0, none⟩ = some (.iface 111 (.pointer (some a0))))
    (l1 : xs.length ≤ 524288) (l2 : rs.length ≤ 4096) (hr : ∀ i, 0 ≤ rs.getD i 0 ∧ rs.getD i 0 ≤ 65535) (hcl : cl ≤ 255) :
    Calls Tryd.prog 4 #[v1, v2, .int .u8 (cl : Int)] w fun e w' => e = .returned (.bool true) ∧ Below w.heap.size w w' := by
  obtain ⟨a1, c1, rfl⟩ := h1.len
  obtain ⟨a2, c2, rfl⟩ := h2.len
  have R1 : Hid (Reads .u8 w (.slice a1 xs.length c1) xs) := h1
  have R2 : Hid (Reads .u16 w (.slice a2 rs.length c2) rs) := h2
  have G0 : Hid (w.cell? ⟨0, 0, none⟩ = some (.iface 111 (.pointer (some a0)))) := hG
  have HR : Hid (∀ i, 0 ≤ rs.getD i 0 ∧ rs.getD i 0 ≤ 65535) := hr
  have hmk : ∀ w : World, (Instr.makeSlice 22 (.int .i64 65536) (.int .i64 65536)).run Tryd.prog w = .ok (.slice (some ⟨w.heap.size, 0, none⟩) 65536 65536) (w.alloc (.cells (madeCells #[.int .u8 0] 65536) 5)) := make64k
  have hw0 : 0 < w.heap.size := World.block_lt_of_cell? _ _ hG
  clear h1 h2 hG hr
  go_enter Tryd.func4, Tryd.ntmps4
  go_wp2_with (go_at_call 13; refine (bytes13 _ _ _ _ _ _ _ _ l1 l2).mono ?_; rintro e w' ⟨rfl, rfl⟩)
  refine (clone_u8 w.heap.size _ xs w (Nat.le_refl _) R1.out (by omega)).mono ?_
  rintro e W1 ⟨p1, rfl, o1, b1, i1⟩
  have O1 : Hid (Own .u8 5 w.heap.size W1 p1 xs) := o1
  have B1 : Hid (Below w.heap.size w W1) := b1
  clear o1 b1 i1
  go_wp2_with fail
  refine (clone_u16 w.heap.size _ rs W1 B1.out.size (R2.out.below B1.out) (by omega)).mono ?_
  rintro e W2 ⟨p2, rfl, o2, b2, i2⟩
  obtain ⟨q2, d2, rfl⟩ := Reads.len (Own.reads o2)
  have O1' : Hid (Own .u8 5 w.heap.size W2 p1 xs) := O1.out.below b2
  have O2 : Hid (Own .u16 43 w.heap.size W2 (.slice q2 rs.length d2) rs) := o2
  have B2 : Hid (Below w.heap.size w W2) := B1.out.trans (b2.mono B1.out.size)
  have N2 : Hid (Within W1.heap.size W2.heap.size (.slice q2 rs.length d2)) := i2
  clear o2 b2 i2 O1 R1 R2
  go_wp2_with fail
  refine (clone_u8 w.heap.size _ xs W2 B2.out.size O1'.out.reads (by omega)).mono ?_
  rintro e W3 ⟨p3, rfl, o3, b3, i3⟩
  obtain ⟨q3, d3, rfl⟩ := Reads.len (Own.reads o3)
  have O1 : Hid (Own .u8 5 w.heap.size W3 p1 xs) := O1'.out.below b3
  have O2' : Hid (Own .u16 43 w.heap.size W3 (.slice q2 rs.length d2) rs) := O2.out.below b3
  have O3 : Hid (Own .u8 5 w.heap.size W3 (.slice q3 xs.length d3) xs) := o3
  have B3 : Hid (Below w.heap.size w W3) := B2.out.trans (b3.mono B2.out.size)
  have N3 : Hid (Within W2.heap.size W3.heap.size (.slice q3 xs.length d3)) := i3
  have S3 : Hid (W2.heap.size ≤ W3.heap.size) := b3.size
  clear o3 b3 i3 O1' O2
  go_wp2_with fail
  refine (clone_u8 w.heap.size _ xs W3 B3.out.size O1.out.reads (by omega)).mono ?_
  rintro e W4 ⟨p4, rfl, o4, b4, i4⟩
  obtain ⟨q4, d4, rfl⟩ := Reads.len (Own.reads o4)
  have O2 : Hid (Own .u16 43 w.heap.size W4 (.slice q2 rs.length d2) rs) := O2'.out.below b4
  have O3' : Hid (Own .u8 5 w.heap.size W4 (.slice q3 xs.length d3) xs) := O3.out.below b4
  have O4 : Hid (Own .u8 5 w.heap.size W4 (.slice q4 xs.length d4) xs) := o4
  have B4 : Hid (Below w.heap.size w W4) := B3.out.trans (b4.mono B3.out.size)
  have N4 : Hid (Within W3.heap.size W4.heap.size (.slice q4 xs.length d4)) := i4
  have S4 : Hid (W3.heap.size ≤ W4.heap.size) := b4.size
  clear o4 b4 i4 O1 O2' O3
  go_wp2_with fail
  refine (newBody_any _ _ _ W4).mono ?_
  rintro e W5 ⟨PB, EV, EN, RD, rfl, k1, k2, k3, k4, y1, y2, y3, y4, k5⟩
  have K1 : Hid (W5.rowIs PB 82 5 (pbf RD EV 0 0)) := k1
  have K2 : Hid (W5.rowIs EV 40 1 (evf EN)) := k2
  have K3 : Hid (W5.rowIs EN 49 2 (enf 0 false)) := k3
  have K4 : Hid (W5.rowIs RD 85 3 (rdf (.slice q4 xs.length d4) 0 (-1))) := k4
  have K5 : Hid (Chg [] W4 W5) := k5
  have Y : Hid (W4.heap.size ≤ EN ∧ EN < EV ∧ EV < RD ∧ RD < PB) := ⟨y1, y2, y3, y4⟩
  clear k1 k2 k3 k4 k5 y1 y2 y3 y4
  go_wp2_with fail
  obtain ⟨PP, W, hPP, hW⟩ : ∃ PP W, PP = W5.heap.size ∧ W = W5.alloc (.cells (madeCells #[.int .u8 0] 65536) 5) := ⟨_, _, rfl, rfl⟩
  rw [← hPP, ← hW]
  have CW : Chg [] W5 W := by rw [hW]; exact (Chg.refl _ _).alloc _
  have C4 : Chg [] W4 W := K5.out.trans CW
  obtain ⟨y1, y2, y3, y4⟩ := Y.out
  have y5 := K1.out.lt
  have y6 := B4.out.size
  have OR : Hid (Own .u16 43 w.heap.size W (.slice q2 rs.length d2) rs) := C4.own O2.out (by simp)
  have OW : Hid (Own .u8 5 w.heap.size W (.slice q3 xs.length d3) xs) := C4.own O3'.out (by simp)
  have BW : Hid (Below w.heap.size w W) := B4.out.trans (C4.below (by simp) y6)
  have LY : Hid (Lay W PB EV EN RD PP (.slice q4 xs.length d4) xs a0 w.heap.size) := ⟨y2, y3, y4, by omega, by omega, hw0, C4.own O4.out (by simp), fun b hb => by have := N4.out b hb; have := B3.out.size; omega, (BW.out.cell (p := ⟨0, 0, none⟩) hw0).trans G0.out, l1⟩
  have S0 : Hid (St W PB EV EN RD PP (.slice q4 xs.length d4) W 0 false false) := ⟨-1, _, CW.row K1.out (by simp), CW.row K2.out (by simp), CW.row K3.out (by simp), CW.row K4.out (by simp), by rw [hPP, hW]; exact World.rowIs_made W5 (.int .u8 0) 65536 5, Chg.refl _ _⟩
  have AR : Hid (∀ b, (Value.slice q2 rs.length d2).ownBlock = some b → b ∉ [RD, PP, PB, EN]) := fun b hb => by have := N2.out b hb; have := S3.out; have := S4.out; simp; omega
  have AW : Hid (∀ b, (Value.slice q3 xs.length d3).ownBlock = some b → b ∉ [RD, PP, PB, EN]) := fun b hb => by have := N3.out b hb; have := S4.out; simp; omega
  have FB : Hid (∀ wr, Chg [RD, PP, PB, EN] W wr → Below w.heap.size w wr) := fun wr hc => BW.out.trans (hc.below (by simp; omega) BW.out.size)
  clear hPP hW CW C4 y1 y2 y3 y4 y5 y6 K1 K2 K3 K4 K5 Y O2 O3' O4 B1 B2 B3 B4 N2 N3 N4 S3 S4 G0 hmk BW hw0
  go_loopw [11, 12, 13] (fun vp vm vi wr => ∃ (i pos : Nat) (met : Bool), i ≤ rs.length ∧ pos ≤ xs.length ∧ vi = .int .i64 i ∧ vp = .int .i64 pos ∧ vm = .bool met ∧ Hid (St W PB EV EN RD PP (.slice q4 xs.length d4) wr pos met met)) (fun _ _ vi _ => rs.length - (intOf vi).toNat)
  case atStart => exact ⟨0, 0, false, Nat.zero_le _, Nat.zero_le _, rfl, rfl, rfl, S0⟩
  case round =>
    obtain ⟨i, pos, met, hi, hp, rfl, rfl, rfl, hst⟩ := hrel
    by_cases hlt : i < rs.length
    · have hfr := hst.out.frame
      have hOR := Own.reads (hfr.own OR.out AR.out)
      obtain ⟨RB, ro, rc, hq2, _, _, hrcell⟩ := hOR.at (by omega)
      simp only [Value.slice.injEq, true_and] at hq2
      obtain ⟨rfl, rfl⟩ := hq2
      obtain ⟨k, hk⟩ : ∃ k : Nat, rs.getD i 0 = (k : Int) := ⟨(rs.getD i 0).toNat, by have := (HR.out i).1; omega⟩
      have hkb : k ≤ 65535 := by have := (HR.out i).2; omega
      have hcell : wr.cell? ⟨RB, ro + i, none⟩ = some (.int .u16 (k : Int)) := by rw [hrcell i hlt, hk]
      have hkb2 : (k : Int) ≤ 65535 := by omega
      clear hfr hOR hrcell hk
      by_cases hpe : pos < xs.length
      · go_wp2_with fail
        obtain ⟨m, hm⟩ : ∃ m, m = Nat.min (xs.length - pos) k := ⟨_, rfl⟩
        refine (st_read_some LY.out wr pos k m met met hst.out hpe (by omega) hm).mono ?_
        rintro e w1 ⟨rfl, s1, r1⟩
        have S1 : Hid (St W PB EV EN RD PP (.slice q4 xs.length d4) w1 (pos + m) met met) := s1
        have RP : Hid (Reads .u8 w1 (.slice (some ⟨PP, 0, none⟩) m 65536) ((xs.drop pos).take m)) := r1
        have hOW := Own.reads (s1.frame.own OW.out AW.out)
        obtain ⟨WB, wo, wc, hq3, _, hwc, _⟩ := hOW.at (by omega)
        simp only [Value.slice.injEq, true_and] at hq3
        obtain ⟨rfl, rfl⟩ := hq3
        have hml : m ≤ xs.length - pos := by rw [hm]; exact Nat.min_le_left _ _
        have hmk : m ≤ k := by rw [hm]; exact Nat.min_le_right _ _
        have WQ : Hid (Reads .u8 w1 (.slice (some ⟨WB, wo + pos, none⟩) m (d3 - pos)) ((xs.drop pos).take m)) := want_mid hOW (by omega) hml
        have HM : Hid (m = Nat.min (xs.length - pos) k) := hm
        have hcz : ¬ d3 = pos := by omega
        have hs1 := slice_to PP 0 65536 65536 m (by omega)
        have hs2 := slice_mid WB wo xs.length d3 pos m (by omega) (by omega)
        have hwp : IntKind.i64.wrap ((pos : Int) + (m : Int)) = (pos : Int) + (m : Int) := by rw [IntKind.wrap_i64]; omega
        clear s1 r1 hOW hm hst hcell
        go_wp2_with (go_at_call 17; refine (min_int k (xs.length - pos) _ (by omega) m HM.out _).mono ?_; rintro e w' ⟨rfl, rfl⟩)
        go_region_held3 (fun v => Hid (Chg [] w1 v))
          (first | exact ((Chg.refl [] w1).drew : Chg [] w1 _) | exact (((Chg.refl [] w1).drew).trans (Chg.ofBelow [] (by assumption)) : Chg [] w1 _))
          (first | (go_at_call 12; refine (same_yes _ _ ((xs.drop pos).take m) _ (RP.out.below ((Below.refl _ _).drew)) (WQ.out.below ((Below.refl _ _).drew)) (by rw [List.length_take, List.length_drop]; omega)).mono ?_; rintro e w2 ⟨rfl, h2⟩))
        have S2 : Hid (St W PB EV EN RD PP (.slice q4 xs.length d4) w2 (pos + m) met met) := S1.out.chg (((Chg.refl [] w1).drew).trans (Chg.ofBelow [] h2))
        clear h2
        go_wp2
        go_roundw
        case rel => exact ⟨i + 1, pos + m, met, by omega, by omega, by go_num, by go_num, rfl, S2⟩
        case measure => simp [intOf]; omega
      · go_wp2_with fail
        refine (st_read_end LY.out wr pos met met _ hst.out (by omega)).mono ?_
        rintro e w1 ⟨rfl, s1⟩
        have S1 : Hid (St W PB EV EN RD PP (.slice q4 xs.length d4) w1 pos true true) := by cases met <;> exact s1
        clear s1 hst hcell
        go_wp2
        go_roundw
        case rel => exact ⟨i + 1, pos, true, by omega, by omega, by go_num, rfl, rfl, S1⟩
        case measure => simp [intOf]; omega
    · go_wp2_with fail
      go_loopw [18] (fun vj w2 => ∃ j : Nat, j ≤ cl ∧ vj = .int .i64 j ∧ Hid (St W PB EV EN RD PP (.slice q4 xs.length d4) w2 pos (met || decide (0 < j)) met)) (fun vj _ => cl - (intOf vj).toNat)
      case atStart => exact ⟨0, Nat.zero_le _, rfl, (by simpa using hst.out : St W PB EV EN RD PP (.slice q4 xs.length d4) wr pos (met || decide (0 < 0)) met)⟩
      case round =>
        obtain ⟨j, hj, rfl, hs⟩ := hrel
        clear hst
        by_cases hjl : j < cl
        · go_wp2_with fail
          refine (st_close LY.out _ pos _ _ hs.out).mono ?_
          rintro e w1 ⟨rfl, s1⟩
          have S1 : Hid (St W PB EV EN RD PP (.slice q4 xs.length d4) w1 pos (met || decide (0 < j + 1)) met) := by
            have e1 : (met || decide (0 < j + 1)) = true := by simp
            have e2 : (if (met || decide (0 < j)) = true then met else false) = met := by cases met <;> simp
            rw [e1]
            rw [e2] at s1
            exact s1
          clear s1 hs
          go_wp2
          go_roundw
          case rel => exact ⟨j + 1, by omega, by go_num, S1⟩
          case measure => simp [intOf]; omega
        · have hjc : j = cl := by omega
          subst hjc
          obtain ⟨pr, g, _, _, hEN, _, _, hfr⟩ := hs.out
          have FZ := FB.out _ hfr
          have HF := (show Hid _ from FZ)
          have n0 : wr.cell? ⟨EN, 0, none⟩ = some (.int .i64 (b01 (met || decide (0 < j)))) := hEN.cell (i := 0) (by decide)
          have n1 : wr.cell? ⟨EN, 1, none⟩ = some (.bool met) := hEN.cell (i := 1) (by decide)
          clear hEN hfr hs FZ hj hjl
          cases met with
          | true =>
            have e0 : b01 (true || decide (0 < j)) = 1 := rfl
            rw [e0] at n0
            go_wp2
            go_ret
            exact ⟨rfl, HF.out⟩
          | false =>
            by_cases hj0 : j = 0
            · subst hj0
              have e0 : b01 (false || decide (0 < 0)) = 0 := rfl
              rw [e0] at n0
              go_wp2
              go_ret
              exact ⟨rfl, HF.out⟩
            · have hj1 : 0 < j := by omega
              have e0 : b01 (false || decide (0 < j)) = 1 := by simp [b01, hj1]
              rw [e0] at n0
              have hj2 : (0 : Int) < (j : Int) := by omega
              go_wp2
              go_ret
              exact ⟨rfl, HF.out⟩
end Go.Proofs.Qxb6614070aDoor
