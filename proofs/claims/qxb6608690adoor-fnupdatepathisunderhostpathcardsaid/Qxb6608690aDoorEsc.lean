/-
  THE WALK of net/url.escape (22) at the mode of a path segment.
-/
import Derived.Test.Qxb6608690aDoorMid
import Derived.Deep.OwnRows
import Derived.Laws.IdiomStrings
import Derived.Laws.BytesArg
namespace Go.Proofs.Qxb6608690aDoor
open Go.RowKit Pl

/-- What '[]byte(s)' lays in the world W. -/
def capOf (s : ByteArray) (W : World) : Nat := grownCap W s.size 0 5
def rowOf (s : ByteArray) (W : World) : Array Value := bytesRow s (capOf s W)
def objOf (s : ByteArray) (W : World) : Obj := .cells (rowOf s W) 5 ((rowOf s W).size, (rowOf s W).size + 1)
theorem conv_run (s : ByteArray) (W : World) : (convert 9 31 (.string s)).run Tryd.prog W = .ok (.slice (some ⟨W.heap.size, 0, none⟩) s.size (capOf s W)) (W.drew.alloc (objOf s W)) :=
  run_bytes_of_string W 9 31 5 s Tryd.underlying9 Tryd.underlying31 Tryd.underlying5
theorem conv_cell (s : ByteArray) (W W' : World) (j : Nat) (h : j < s.size) : (W.alloc (objOf s W')).cell? ⟨W.heap.size, j, none⟩ = some (.int .u8 (s[j].toNat : Int)) := by
  unfold objOf
  rw [World.cell?_alloc_mark]
  have h' : j < (s.data.map (fun b => Value.int .u8 b.toNat)).size := by simpa using h
  unfold rowOf bytesRow
  rw [Array.getElem?_append_left h', Array.getElem?_eq_getElem h']
  simp
  rfl

theorem info5 : (Tryd.prog.info? 5).map (fun i => (i.zero, i.size, i.bytes)) = some (some (Value.int .u8 0), 1, 1) := by kernel_rfl
theorem arr33 : Tryd.prog.underlying 33 = some (.array (Tryd.prog.arrayLen 33) (Tryd.prog.elem 33)) := by kernel_rfl
theorem len33 : Tryd.prog.arrayLen 33 = 64 := by kernel_rfl
theorem slice_buf (b : Nat) (h : Int) (n : Nat) (e : h = (n : Int)) (hn : n ≤ 64) (W : World) :
    (Instr.sliceAt 33 (.pointer (some ⟨b, 0, none⟩)) none (some (.int .i64 h)) none).run Tryd.prog W = .ok (.slice (some ⟨b, 0, none⟩) n 64) W := by
  subst e
  rw [run_sliceAt_array_h W 33 ⟨b, 0, none⟩ arr33 .i64 n (by omega) (by rw [len33]; omega), len33]
  have : (sizeOf (Tryd.prog.elem 33)).run Tryd.prog W = .ok 1 W := by kernel_rfl
  rw [this]
  simp [slicedAt, Result.andThen, Addr.add]
theorem make_run (h : Int) (n : Nat) (e : h = (n : Int)) (hn : n ≤ 281474976710656) (W : World) :
    (Instr.makeSlice 31 (.int .i64 h) (.int .i64 h)).run Tryd.prog W = .ok (.slice (some ⟨W.heap.size, 0, none⟩) n n) (W.alloc (.cells (madeCells #[.int .u8 0] n) 5)) := by
  subst e
  exact run_make_row' (P := Tryd.prog) 31 5 (.int .u8 0) 1 Tryd.underlying31 info5 rfl .i64 .i64 n (by omega) (by omega) W

/-- The bytes of l as cells, zeros behind them. -/
def byteAt (l : List UInt8) (j : Nat) : Value := .int .u8 ((l[j]?.getD 0).toNat : Int)
theorem byteAt_nil (j : Nat) : byteAt [] j = .int .u8 0 := by simp [byteAt]
theorem byteAt_one (l : List UInt8) (c : UInt8) (j : Nat) : (if j = l.length then Value.int .u8 (c.toNat : Int) else byteAt l j) = byteAt (l ++ [c]) j := by
  unfold byteAt
  by_cases h : j = l.length
  · subst h; simp
  · rw [if_neg h]
    by_cases h2 : j < l.length
    · rw [List.getElem?_append_left h2]
    · rw [List.getElem?_eq_none (by omega), List.getElem?_eq_none (by simp; omega)]
theorem byteAt_three (l : List UInt8) (a b c : UInt8) (j : Nat) :
    (if j = l.length + 2 then Value.int .u8 (c.toNat : Int) else if j = l.length + 1 then Value.int .u8 (b.toNat : Int) else if j = l.length then Value.int .u8 (a.toNat : Int) else byteAt l j) = byteAt (l ++ [a, b, c]) j := by
  have e : l ++ [a, b, c] = ((l ++ [a]) ++ [b]) ++ [c] := by simp
  rw [e, ← byteAt_one, ← byteAt_one, ← byteAt_one]
  simp
theorem buf_row (w : World) : (w.alloc (.cells #[.int .u8 0, .int .u8 0, .int .u8 0, .int .u8 0, .int .u8 0, .int .u8 0, .int .u8 0, .int .u8 0, .int .u8 0, .int .u8 0, .int .u8 0, .int .u8 0, .int .u8 0, .int .u8 0, .int .u8 0, .int .u8 0, .int .u8 0, .int .u8 0, .int .u8 0, .int .u8 0, .int .u8 0, .int .u8 0, .int .u8 0, .int .u8 0, .int .u8 0, .int .u8 0, .int .u8 0, .int .u8 0, .int .u8 0, .int .u8 0, .int .u8 0, .int .u8 0, .int .u8 0, .int .u8 0, .int .u8 0, .int .u8 0, .int .u8 0, .int .u8 0, .int .u8 0, .int .u8 0, .int .u8 0, .int .u8 0, .int .u8 0, .int .u8 0, .int .u8 0, .int .u8 0, .int .u8 0, .int .u8 0, .int .u8 0, .int .u8 0, .int .u8 0, .int .u8 0, .int .u8 0, .int .u8 0, .int .u8 0, .int .u8 0, .int .u8 0, .int .u8 0, .int .u8 0, .int .u8 0, .int .u8 0, .int .u8 0, .int .u8 0, .int .u8 0] 33)).rowIs w.heap.size 33 64 (byteAt []) := by
  have h := World.rowIs_alloc w (Array.replicate 64 (.int .u8 0)) 33 (byteAt []) (fun i hi => by
    rw [byteAt_nil, Array.getElem?_replicate, if_pos (by simpa using hi)])
  exact h
theorem made_row (w : World) (n : Nat) : (w.alloc (.cells (madeCells #[.int .u8 0] n) 5)).rowIs w.heap.size 5 n (byteAt []) :=
  (World.rowIs_made w (.int .u8 0) n 5).congr (fun i _ => (byteAt_nil i).symm)

theorem hexTab : ∀ d : Fin 16, ((⟨#[48, 49, 50, 51, 52, 53, 54, 55, 56, 57, 65, 66, 67, 68, 69, 70]⟩ : ByteArray)[d.val]'(by show _ < 16; exact d.isLt)).toNat = (hexD d.val).toNat := by decide +kernel
theorem hexTab' (d : Nat) (h : d < (⟨#[48, 49, 50, 51, 52, 53, 54, 55, 56, 57, 65, 66, 67, 68, 69, 70]⟩ : ByteArray).size) :
    (((⟨#[48, 49, 50, 51, 52, 53, 54, 55, 56, 57, 65, 66, 67, 68, 69, 70]⟩ : ByteArray)[d]'h).toNat : Int) = ((hexD d).toNat : Int) := by
  rw [hexTab ⟨d, h⟩]
theorem back_run (b n cap : Nat) (t : TypeId) (l : List UInt8) (N : Nat) (w : World) (hrow : w.rowIs b t N (byteAt l)) (hn : n = l.length) (hN : n ≤ N) :
    (convert 31 9 (.slice (some ⟨b, 0, none⟩) n cap)).run Tryd.prog w = .ok (.string ⟨l.toArray⟩) w := by
  subst hn
  refine run_convert_bytes_back w 31 9 5 ⟨b, 0, none⟩ cap l Tryd.underlying31 Tryd.underlying5 Tryd.underlying9 (fun j hj => ?_)
  have := hrow.cell (i := j) (by omega)
  rw [show (⟨b, 0, none⟩ : Addr).add j = ⟨b, j, none⟩ by simp only [Addr.add]; split <;> simp_all, this]
  unfold byteAt
  rw [List.getElem?_eq_getElem hj]
  rfl
theorem conv_cell' (s : ByteArray) (W W' : World) (b j : Nat) (hb : b = W.heap.size) (h : j < s.size) : ((W.alloc (objOf s W')).drew.drew).cell? ⟨b, j, none⟩ = some (.int .u8 (s[j].toNat : Int)) := by
  subst hb
  exact conv_cell s W W' j h
theorem buf_row' (w : World) (o : Obj) (b : Nat) (hb : b = w.heap.size) : (((w.alloc (.cells #[.int .u8 0, .int .u8 0, .int .u8 0, .int .u8 0, .int .u8 0, .int .u8 0, .int .u8 0, .int .u8 0, .int .u8 0, .int .u8 0, .int .u8 0, .int .u8 0, .int .u8 0, .int .u8 0, .int .u8 0, .int .u8 0, .int .u8 0, .int .u8 0, .int .u8 0, .int .u8 0, .int .u8 0, .int .u8 0, .int .u8 0, .int .u8 0, .int .u8 0, .int .u8 0, .int .u8 0, .int .u8 0, .int .u8 0, .int .u8 0, .int .u8 0, .int .u8 0, .int .u8 0, .int .u8 0, .int .u8 0, .int .u8 0, .int .u8 0, .int .u8 0, .int .u8 0, .int .u8 0, .int .u8 0, .int .u8 0, .int .u8 0, .int .u8 0, .int .u8 0, .int .u8 0, .int .u8 0, .int .u8 0, .int .u8 0, .int .u8 0, .int .u8 0, .int .u8 0, .int .u8 0, .int .u8 0, .int .u8 0, .int .u8 0, .int .u8 0, .int .u8 0, .int .u8 0, .int .u8 0, .int .u8 0, .int .u8 0, .int .u8 0, .int .u8 0] 33)).alloc o).drew.drew).rowIs b 33 64 (byteAt []) := by
  subst hb
  exact (((buf_row w).alloc o).drew).drew
theorem made_row' (w : World) (o : Obj) (n b : Nat) (hb : b = w.heap.size) : (((w.alloc (.cells (madeCells #[.int .u8 0] n) 5)).alloc o).drew.drew).rowIs b 5 n (byteAt []) := by
  subst hb
  exact (((made_row w n).alloc o).drew).drew
theorem byteAt_esc (l : List UInt8) (b c : UInt8) (j : Nat) :
    (if j = l.length + 2 then Value.int .u8 (c.toNat : Int) else if j = l.length + 1 then Value.int .u8 (b.toNat : Int) else if j = l.length then Value.int .u8 37 else byteAt l j) = byteAt (l ++ [37, b, c]) j :=
  byteAt_three l 37 b c j
theorem cell_other {w : World} {a b : Addr} {v : Value} (h : b.block ≠ a.block) : (w.setCell a v).cell? b = w.cell? b :=
  World.cell?_of_block (w := w) (Below.heap_setCell w a v b.block h)
theorem lenTake (l : List UInt8) (k : Nat) : (esc (l.take k)).length ≤ (esc l).length := by
  have e : esc l = esc (l.take k) ++ esc (l.drop k) := by rw [← esc_append, List.take_append_drop]
  rw [e, List.length_append]; omega

set_option maxHeartbeats 1000000 in
set_option maxRecDepth 100000 in
theorem escape_any (s : ByteArray) (w : World) (hs : s.size ≤ 1048576) (hT : Tab w) (hB : 0 < w.heap.size) :
    Calls Tryd.prog 22 #[.string s, .int .u8 2] w fun e w' => e = .returned (.string ⟨(esc s.data.toList).toArray⟩) ∧ Below w.heap.size w w' := by
  have hconv := conv_run s
  have HT : Hid (Tab w) := hT
  have HC : Hid (∀ j (h : j < s.size), ((w.alloc (objOf s w)).drew).cell? ⟨w.heap.size, j, none⟩ = some (.int .u8 (s[j].toNat : Int))) := fun j h => conv_cell s w w j h
  have HT2 : Hid (Tab ((w.alloc (objOf s w)).drew)) := hT.below (((Below.refl w.heap.size w).alloc (Nat.le_refl _) _).drew) hB
  clear hT
  go_enter Tryd.func22, Tryd.ntmps22
  go_wp2
  go_loop [5, 6, 19] (fun sp n i => ∃ k : Nat, k ≤ s.size ∧ i = .int .i64 k ∧ n = .int .i64 (hexC (s.data.toList.take k) : Int) ∧ sp = .int .i64 0) (fun _ _ i => s.size - (intOf i).toNat)
  case atStart => exact ⟨0, Nat.zero_le _, rfl, rfl, rfl⟩
  case round =>
    obtain ⟨k, hk, rfl, rfl, rfl⟩ := hrel
    have hd := hexC_le (s.data.toList.take k)
    have hl : (s.data.toList.take k).length ≤ k := List.length_take_le _ _
    by_cases hlt : k < s.size
    · have hc := HC.out k hlt
      have hcl := s[k].toNat_lt
      by_cases hkp : keepN s[k].toNat = true
      · have HN : Hid (hexC (s.data.toList.take (k + 1)) = hexC (s.data.toList.take k)) := by rw [take_snoc s k hlt]; exact hexC_snoc_keep _ _ hkp
        go_wp2_with (go_at_call 23; refine (shouldEscape_any _ _ (by assumption) HT2.out).mono ?_; rintro e w' ⟨rfl, rfl⟩)
        go_round
        case rel => exact ⟨k + 1, by omega, by go_num, by rw [HN.out], rfl⟩
        case measure => simp [intOf]; omega
      · simp only [Bool.not_eq_true] at hkp
        have HN : Hid (hexC (s.data.toList.take (k + 1)) = hexC (s.data.toList.take k) + 1) := by rw [take_snoc s k hlt]; exact hexC_snoc_esc _ _ hkp
        go_wp2_with (go_at_call 23; refine (shouldEscape_any _ _ (by assumption) HT2.out).mono ?_; rintro e w' ⟨rfl, rfl⟩)
        all_goals
          go_round
          case rel => exact ⟨k + 1, by omega, by go_num, by rw [HN.out]; go_num, rfl⟩
          case measure => simp [intOf]; omega
    · have hks : k = s.size := by omega
      subst hks
      rw [take_all s _ (Nat.le_refl _)] at hd ⊢
      obtain ⟨H, hH⟩ : ∃ H, H = hexC s.data.toList := ⟨_, rfl⟩
      rw [← hH] at hd ⊢
      rw [len_data] at hd
      have HH : Hid (H = hexC s.data.toList) := hH
      clear hH hk hl hlt
      by_cases h0 : H = 0
      · subst h0
        go_wp2
        go_ret
        exact ⟨by rw [esc_none _ HH.out.symm]; rfl, ((Below.refl _ _).alloc (Nat.le_refl _) _).drew⟩
      · have h0' : ((H : Int) == 0) = false := by rw [beq_eq_false_iff_ne]; omega
        by_cases hr : s.size + 2 * H ≤ 64
        · have hsl := fun b => slice_buf b ((s.size : Int) + 2 * (H : Int)) (s.size + 2 * H) (by omega) hr
          go_wp2
          go_loopw [13, 78] (fun vj vi wr => ∃ k J : Nat, k ≤ s.size ∧ Hid (J = (esc (s.data.toList.take k)).length) ∧ vi = .int .i64 k ∧ vj = .int .i64 (J : Int) ∧ Hid (wr.rowIs (w.heap.size + 1) 33 64 (byteAt (esc (s.data.toList.take k)))) ∧
              Hid (∀ j (h : j < s.size), wr.cell? ⟨w.heap.size + 1 + 1, j, none⟩ = some (.int .u8 (s[j].toNat : Int))) ∧ Hid (Below w.heap.size w wr)) (fun _ vi _ => s.size - (intOf vi).toNat)
          case atStart =>
            refine ⟨0, 0, Nat.zero_le _, rfl, rfl, rfl, ?_, ?_, ?_⟩
            · exact buf_row' (w.alloc (objOf s w)) _ _ (by simp)
            · intro j h
              exact conv_cell' s _ _ _ j (by simp) h
            · exact (((((Below.refl _ _).alloc (Nat.le_refl _) _).alloc (by simp) _).alloc (by simp; omega) _).drew).drew
          case round =>
            obtain ⟨k, J, hk, HJ, rfl, rfl, hrw, hsrc, hbel⟩ := hrel
            have hJr : J ≤ s.size + 2 * H := by rw [HJ.out, HH.out, ← len_data, ← esc_length]; exact lenTake _ _
            by_cases hlt : k < s.size
            · have hTr : Hid (Tab wr) := HT.out.below hbel.out hB
              have hc := hsrc.out k hlt
              have hcl := s[k].toNat_lt
              have hJn : (esc (s.data.toList.take (k + 1))).length ≤ s.size + 2 * H := by rw [HH.out, ← len_data, ← esc_length]; exact lenTake _ _
              have hes : esc (s.data.toList.take (k + 1)) = esc (s.data.toList.take k) ++ escB s[k] := by rw [take_snoc s k hlt, esc_snoc]
              by_cases hkp : keepN s[k].toNat = true
              · rw [escB_keep hkp] at hes
                rw [hes, List.length_append, ← HJ.out] at hJn
                simp only [List.length_cons, List.length_nil] at hJn
                have HES : Hid (esc (s.data.toList.take (k + 1)) = esc (s.data.toList.take k) ++ [s[k]]) := hes
                clear hes
                have hf1 : wr.frozen? ⟨w.heap.size + 1, J, none⟩ = false := hrw.out.frozen _
                have hc1 : wr.cell? ⟨w.heap.size + 1, J, none⟩ = some (byteAt (esc (s.data.toList.take k)) J) := hrw.out.cell (by omega)
                have h32 : ((s[k].toNat : Int) == 32) = false := by
                  rw [beq_eq_false_iff_ne]; intro e
                  have e' : s[k].toNat = 32 := by omega
                  rw [e'] at hkp; exact absurd hkp (by decide)
                go_wp2_with (go_at_call 23; refine (shouldEscape_any _ _ (by assumption) hTr.out).mono ?_; rintro e w' ⟨rfl, rfl⟩)
                go_roundw
                case rel =>
                  refine ⟨k + 1, J + 1, by omega, ?_, by go_num, by go_num, ?_, ?_, ?_⟩
                  · show _ = _; rw [HES.out, List.length_append, ← HJ.out]; rfl
                  · refine (hrw.out.set _ _).congr (fun j _ => ?_)
                    rw [HES.out, HJ.out]; exact byteAt_one _ _ j
                  · intro j hj
                    exact (cell_other (by simp)).trans (hsrc.out j hj)
                  · exact hbel.out.setCell (by first | (simp; done) | (simp; omega)) _
                case measure => simp [intOf]; omega
              · simp only [Bool.not_eq_true] at hkp
                rw [escB_esc hkp] at hes
                rw [hes, List.length_append, ← HJ.out] at hJn
                simp only [List.length_cons, List.length_nil] at hJn
                have HES : Hid (esc (s.data.toList.take (k + 1)) = esc (s.data.toList.take k) ++ [37, hexD (s[k].toNat / 16), hexD (s[k].toNat % 16)]) := hes
                clear hes
                have hf1 : wr.frozen? ⟨w.heap.size + 1, J, none⟩ = false := hrw.out.frozen _
                have hc1 : wr.cell? ⟨w.heap.size + 1, J, none⟩ = some (byteAt (esc (s.data.toList.take k)) J) := hrw.out.cell (by omega)
                have hf2 : ∀ v, (wr.setCell ⟨w.heap.size + 1, J, none⟩ v).frozen? ⟨w.heap.size + 1, J + 1, none⟩ = false := fun v => (hrw.out.set _ v).frozen _
                have hc2 : ∀ v, (wr.setCell ⟨w.heap.size + 1, J, none⟩ v).cell? ⟨w.heap.size + 1, J + 1, none⟩ = some (byteAt (esc (s.data.toList.take k)) (J + 1)) := fun v => by
                  have := (hrw.out.set J v).cell (i := J + 1) (by omega)
                  rwa [if_neg (by omega)] at this
                have hf3 : ∀ v u, ((wr.setCell ⟨w.heap.size + 1, J, none⟩ v).setCell ⟨w.heap.size + 1, J + 1, none⟩ u).frozen? ⟨w.heap.size + 1, J + 2, none⟩ = false := fun v u => ((hrw.out.set _ v).set _ u).frozen _
                have hc3 : ∀ v u, ((wr.setCell ⟨w.heap.size + 1, J, none⟩ v).setCell ⟨w.heap.size + 1, J + 1, none⟩ u).cell? ⟨w.heap.size + 1, J + 2, none⟩ = some (byteAt (esc (s.data.toList.take k)) (J + 2)) := fun v u => by
                  have := ((hrw.out.set J v).set (J + 1) u).cell (i := J + 2) (by omega)
                  rwa [if_neg (by omega), if_neg (by omega)] at this
                rcases Bool.eq_false_or_eq_true ((s[k].toNat : Int) == 32) with h32 | h32
                all_goals
                  go_wp2_with (go_at_call 23; refine (shouldEscape_any _ _ (by assumption) hTr.out).mono ?_; rintro e w' ⟨rfl, rfl⟩)
                  go_roundw
                  case rel =>
                    refine ⟨k + 1, J + 3, by omega, ?_, by go_num, by go_num, ?_, ?_, ?_⟩
                    · show _ = _; rw [HES.out, List.length_append, ← HJ.out]; rfl
                    · refine (((hrw.out.set _ _).set _ _).set _ _).congr (fun j _ => ?_)
                      rw [hexTab', hexTab', HES.out, HJ.out]; exact byteAt_esc _ _ _ j
                    · intro j hj
                      exact (cell_other (by simp)).trans ((cell_other (by simp)).trans ((cell_other (by simp)).trans (hsrc.out j hj)))
                    · exact ((hbel.out.setCell (by first | (simp; done) | (simp; omega)) _).setCell (by first | (simp; done) | (simp; omega)) _).setCell (by first | (simp; done) | (simp; omega)) _
                  case measure => simp [intOf]; omega
            · have hks : k = s.size := by omega
              subst hks
              rw [take_all s _ (Nat.le_refl _)] at HJ hrw
              have hback := back_run (w.heap.size + 1) (s.size + 2 * H) 64 33 (esc s.data.toList) 64 wr hrw.out (by rw [esc_length, len_data, ← HH.out]) (by omega)
              go_wp2
              go_ret
              exact ⟨rfl, hbel.out⟩
        · have hmk := make_run ((s.size : Int) + 2 * (H : Int)) (s.size + 2 * H) (by omega) (by omega)
          go_wp2
          go_loopw [13, 78] (fun vj vi wr => ∃ k J : Nat, k ≤ s.size ∧ Hid (J = (esc (s.data.toList.take k)).length) ∧ vi = .int .i64 k ∧ vj = .int .i64 (J : Int) ∧ Hid (wr.rowIs (w.heap.size + 1 + 1) 5 (s.size + 2 * H) (byteAt (esc (s.data.toList.take k)))) ∧
              Hid (∀ j (h : j < s.size), wr.cell? ⟨w.heap.size + 1 + 1 + 1, j, none⟩ = some (.int .u8 (s[j].toNat : Int))) ∧ Hid (Below w.heap.size w wr)) (fun _ vi _ => s.size - (intOf vi).toNat)
          case atStart =>
            refine ⟨0, 0, Nat.zero_le _, rfl, rfl, rfl, ?_, ?_, ?_⟩
            · exact made_row' ((w.alloc (objOf s w)).alloc _) _ _ _ (by simp)
            · intro j h
              exact conv_cell' s _ _ _ j (by simp) h
            · exact ((((((Below.refl _ _).alloc (Nat.le_refl _) _).alloc (by simp) _).alloc (by simp; omega) _).alloc (by simp; omega) _).drew).drew
          case round =>
            obtain ⟨k, J, hk, HJ, rfl, rfl, hrw, hsrc, hbel⟩ := hrel
            have hJr : J ≤ s.size + 2 * H := by rw [HJ.out, HH.out, ← len_data, ← esc_length]; exact lenTake _ _
            by_cases hlt : k < s.size
            · have hTr : Hid (Tab wr) := HT.out.below hbel.out hB
              have hc := hsrc.out k hlt
              have hcl := s[k].toNat_lt
              have hJn : (esc (s.data.toList.take (k + 1))).length ≤ s.size + 2 * H := by rw [HH.out, ← len_data, ← esc_length]; exact lenTake _ _
              have hes : esc (s.data.toList.take (k + 1)) = esc (s.data.toList.take k) ++ escB s[k] := by rw [take_snoc s k hlt, esc_snoc]
              by_cases hkp : keepN s[k].toNat = true
              · rw [escB_keep hkp] at hes
                rw [hes, List.length_append, ← HJ.out] at hJn
                simp only [List.length_cons, List.length_nil] at hJn
                have HES : Hid (esc (s.data.toList.take (k + 1)) = esc (s.data.toList.take k) ++ [s[k]]) := hes
                clear hes
                have hf1 : wr.frozen? ⟨w.heap.size + 1 + 1, J, none⟩ = false := hrw.out.frozen _
                have hc1 : wr.cell? ⟨w.heap.size + 1 + 1, J, none⟩ = some (byteAt (esc (s.data.toList.take k)) J) := hrw.out.cell (by omega)
                have h32 : ((s[k].toNat : Int) == 32) = false := by
                  rw [beq_eq_false_iff_ne]; intro e
                  have e' : s[k].toNat = 32 := by omega
                  rw [e'] at hkp; exact absurd hkp (by decide)
                go_wp2_with (go_at_call 23; refine (shouldEscape_any _ _ (by assumption) hTr.out).mono ?_; rintro e w' ⟨rfl, rfl⟩)
                go_roundw
                case rel =>
                  refine ⟨k + 1, J + 1, by omega, ?_, by go_num, by go_num, ?_, ?_, ?_⟩
                  · show _ = _; rw [HES.out, List.length_append, ← HJ.out]; rfl
                  · refine (hrw.out.set _ _).congr (fun j _ => ?_)
                    rw [HES.out, HJ.out]; exact byteAt_one _ _ j
                  · intro j hj
                    exact (cell_other (by simp)).trans (hsrc.out j hj)
                  · exact hbel.out.setCell (by first | (simp; done) | (simp; omega)) _
                case measure => simp [intOf]; omega
              · simp only [Bool.not_eq_true] at hkp
                rw [escB_esc hkp] at hes
                rw [hes, List.length_append, ← HJ.out] at hJn
                simp only [List.length_cons, List.length_nil] at hJn
                have HES : Hid (esc (s.data.toList.take (k + 1)) = esc (s.data.toList.take k) ++ [37, hexD (s[k].toNat / 16), hexD (s[k].toNat % 16)]) := hes
                clear hes
                have hf1 : wr.frozen? ⟨w.heap.size + 1 + 1, J, none⟩ = false := hrw.out.frozen _
                have hc1 : wr.cell? ⟨w.heap.size + 1 + 1, J, none⟩ = some (byteAt (esc (s.data.toList.take k)) J) := hrw.out.cell (by omega)
                have hf2 : ∀ v, (wr.setCell ⟨w.heap.size + 1 + 1, J, none⟩ v).frozen? ⟨w.heap.size + 1 + 1, J + 1, none⟩ = false := fun v => (hrw.out.set _ v).frozen _
                have hc2 : ∀ v, (wr.setCell ⟨w.heap.size + 1 + 1, J, none⟩ v).cell? ⟨w.heap.size + 1 + 1, J + 1, none⟩ = some (byteAt (esc (s.data.toList.take k)) (J + 1)) := fun v => by
                  have := (hrw.out.set J v).cell (i := J + 1) (by omega)
                  rwa [if_neg (by omega)] at this
                have hf3 : ∀ v u, ((wr.setCell ⟨w.heap.size + 1 + 1, J, none⟩ v).setCell ⟨w.heap.size + 1 + 1, J + 1, none⟩ u).frozen? ⟨w.heap.size + 1 + 1, J + 2, none⟩ = false := fun v u => ((hrw.out.set _ v).set _ u).frozen _
                have hc3 : ∀ v u, ((wr.setCell ⟨w.heap.size + 1 + 1, J, none⟩ v).setCell ⟨w.heap.size + 1 + 1, J + 1, none⟩ u).cell? ⟨w.heap.size + 1 + 1, J + 2, none⟩ = some (byteAt (esc (s.data.toList.take k)) (J + 2)) := fun v u => by
                  have := ((hrw.out.set J v).set (J + 1) u).cell (i := J + 2) (by omega)
                  rwa [if_neg (by omega), if_neg (by omega)] at this
                rcases Bool.eq_false_or_eq_true ((s[k].toNat : Int) == 32) with h32 | h32
                all_goals
                  go_wp2_with (go_at_call 23; refine (shouldEscape_any _ _ (by assumption) hTr.out).mono ?_; rintro e w' ⟨rfl, rfl⟩)
                  go_roundw
                  case rel =>
                    refine ⟨k + 1, J + 3, by omega, ?_, by go_num, by go_num, ?_, ?_, ?_⟩
                    · show _ = _; rw [HES.out, List.length_append, ← HJ.out]; rfl
                    · refine (((hrw.out.set _ _).set _ _).set _ _).congr (fun j _ => ?_)
                      rw [hexTab', hexTab', HES.out, HJ.out]; exact byteAt_esc _ _ _ j
                    · intro j hj
                      exact (cell_other (by simp)).trans ((cell_other (by simp)).trans ((cell_other (by simp)).trans (hsrc.out j hj)))
                    · exact ((hbel.out.setCell (by first | (simp; done) | (simp; omega)) _).setCell (by first | (simp; done) | (simp; omega)) _).setCell (by first | (simp; done) | (simp; omega)) _
                  case measure => simp [intOf]; omega
            · have hks : k = s.size := by omega
              subst hks
              rw [take_all s _ (Nat.le_refl _)] at HJ hrw
              have hback := back_run (w.heap.size + 1 + 1) (s.size + 2 * H) (s.size + 2 * H) 5 (esc s.data.toList) (s.size + 2 * H) wr hrw.out (by rw [esc_length, len_data, ← HH.out]) (by omega)
              go_wp2
              go_ret
              exact ⟨rfl, hbel.out⟩
end Go.Proofs.Qxb6608690aDoor
