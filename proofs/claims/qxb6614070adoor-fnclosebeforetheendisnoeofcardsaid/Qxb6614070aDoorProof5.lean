/-
  THE ROW AND THE TIED CARD of 'zzlaws_client_b1.FnCloseBeforeTheEndIsNoEOF'.
-/
import Derived.Test.Qxb6614070aDoorCards
import Derived.Test.Qxb6614070aDoorTie
import Derived.Test.Qxb6614070aDoorLaid
import Derived.Test.Qxb6614070aDoorLaw5
import Derived.ChangeOld
import Derived.SevenTiedAt
namespace Go.Proofs.Qxb6614070aDoor.L5
open Go Go.ChangeShapes Go.WideShapes Go.ChangeAt Go.RowKit
set_option linter.unusedVariables false

def IsRow (k : IntKind) (w : World) (a : Option Addr) (len cap : Nat) (zs : List Int) : Prop :=
  (a = none ∧ len = 0 ∧ cap = 0 ∧ zs = []) ∨
  ∃ x, a = some x ∧ len ≤ cap ∧ cap ≤ maxLen ∧ zs.length = cap ∧ (∀ i, i < zs.length → w.cell? (x.add i) = some (.int k (zs.getD i 0))) ∧ ∀ n ∈ zs, (Lit.int k n).wf = true
theorem IsRow.reads {k : IntKind} {w : World} {a : Option Addr} {len cap : Nat} {zs : List Int} (h : IsRow k w a len cap zs) : Reads k w (.slice a len cap) (zs.take len) ∧ (zs.take len).length = len := by
  rcases h with ⟨rfl, rfl, rfl, rfl⟩ | ⟨x, rfl, hl, hm, hz, hcell, _⟩
  · exact ⟨.inl ⟨rfl, rfl⟩, rfl⟩
  · have e : (zs.take len).length = len := by rw [List.length_take]; omega
    refine ⟨.inr ⟨x, cap, by rw [e], by rw [e]; exact hl, fun i hi => ?_⟩, e⟩
    rw [e] at hi
    rw [hcell i (by omega)]
    simp [List.getD, hi]
theorem IsRow.len {k : IntKind} {w : World} {a : Option Addr} {len cap : Nat} {zs : List Int} (h : IsRow k w a len cap zs) : len ≤ maxLen := by
  rcases h with ⟨_, rfl, _, _⟩ | ⟨x, _, hl, hm, _⟩
  · exact Nat.zero_le _
  · omega
theorem IsRow.u16 {w : World} {a : Option Addr} {len cap : Nat} {zs : List Int} (h : IsRow .u16 w a len cap zs) (i : Nat) : 0 ≤ (zs.take len).getD i 0 ∧ (zs.take len).getD i 0 ≤ 65535 := by
  by_cases hi : i < (zs.take len).length
  · have hm : (zs.take len)[i] ∈ zs := List.mem_of_mem_take (List.getElem_mem hi)
    have e : (zs.take len).getD i 0 = (zs.take len)[i] := by simp [List.getD, List.getElem?_eq_getElem hi]
    rw [e]
    rcases h with ⟨_, _, _, rfl⟩ | ⟨x, _, _, _, _, _, hw⟩
    · simp at hi
    · exact bounds_u16 (hw _ hm)
  · have e : (zs.take len).getD i 0 = 0 := by simp [List.getD, List.getElem?_eq_none (Nat.le_of_not_lt hi)]
    rw [e]
    decide

set_option maxHeartbeats 400000 in
theorem walk_long (a0 a1 : Option Addr) (len0 cap0 len1 cap1 : Nat) (n : Int) (w : World) (h0 : len0 ≤ maxLen) (h1 : len1 ≤ maxLen) (h : 524288 < len0 ∨ (len0 ≤ 524288 ∧ 4096 < len1)) :
    Calls Tryd.prog 5 #[.slice a0 len0 cap0, .slice a1 len1 cap1, .int .i64 n] w fun e w' => e = .returned (.bool true) ∧ Below w.heap.size w w' := by
  unfold maxLen at h0 h1
  rcases h with h | ⟨ha, h⟩
  all_goals
    go_enter Tryd.func5, Tryd.ntmps5
    go_wp2
    all_goals
      go_ret
      exact ⟨rfl, Below.refl _ _⟩
set_option maxHeartbeats 400000 in
theorem walk_out (a0 a1 : Option Addr) (len0 cap0 len1 cap1 : Nat) (n : Int) (w : World) (h0 : len0 ≤ 524288) (h1 : len1 ≤ 4096) (h : n < 0 ∨ (0 ≤ n ∧ (len1 : Int) < n)) :
    Calls Tryd.prog 5 #[.slice a0 len0 cap0, .slice a1 len1 cap1, .int .i64 n] w fun e w' => e = .returned (.bool true) ∧ Below w.heap.size w w' := by
  rcases h with h | ⟨ha, h⟩
  all_goals
    go_enter Tryd.func5, Tryd.ntmps5
    go_wp2_with (go_at_call 19; refine (bytes19 _ _ _ _ _ _ _ _ h0 h1).mono ?_; rintro e w' ⟨rfl, rfl⟩)
    go_ret
    exact ⟨rfl, Below.refl _ _⟩

theorem walk (a0 : Option Addr) (len0 cap0 : Nat) (z0 : List Int) (a1 : Option Addr) (len1 cap1 : Nat) (z1 : List Int) (n : Int) (w : World) (w0 : IsRow .u8 w a0 len0 cap0 z0) (w1 : IsRow .u16 w a1 len1 cap1 z1) (_w2 : (Lit.int .i64 n).wf = true)
    (hG : ∃ e0 : Addr, w.cell? ⟨0, 0, none⟩ = some (.iface 111 (.pointer (some e0)))) :
    Calls Tryd.prog 5 #[.slice a0 len0 cap0, .slice a1 len1 cap1, .int .i64 n] w fun e w' => e = .returned (.bool true) ∧ Below w.heap.size w w' := by
  obtain ⟨r0, e0⟩ := w0.reads
  obtain ⟨r1, e1⟩ := w1.reads
  obtain ⟨x0, hx⟩ := hG
  by_cases h : 524288 < len0 ∨ (len0 ≤ 524288 ∧ 4096 < len1)
  · exact walk_long a0 a1 len0 cap0 len1 cap1 n w w0.len w1.len h
  · by_cases h2 : n < 0 ∨ (0 ≤ n ∧ (len1 : Int) < n)
    · exact walk_out a0 a1 len0 cap0 len1 cap1 n w (by omega) (by omega) h2
    · obtain ⟨ca, rfl⟩ : ∃ ca : Nat, n = (ca : Int) := ⟨n.toNat, by omega⟩
      exact law5_main _ _ ca _ _ x0 w r0 r1 hx (by rw [e0]; omega) (by rw [e1]; omega) (IsRow.u16 w1) (by rw [e1]; omega)

set_option maxRecDepth 100000 in
theorem lifted (os : Os) (started : os.Started) (H : Type) (enc : TypeId × Value → H) :
    ReturnsInHanded {} Tryd.checked os 5 .any (fun w args => (Rows.fnCloseBeforeTheEndIsNoEOFSpec.pre enc Tryd.prog Tryd.f5 [] false w args ∧ laidMetH Tryd.prog laidL w) ∧ sizedMet enc Tryd.prog Tryd.f5 (OpenSpec.ofChange Rows.fnCloseBeforeTheEndIsNoEOFSpec) false w args)
      (Rows.fnCloseBeforeTheEndIsNoEOFSpec.post enc Tryd.prog Tryd.f5 false true false false) := by
  refine returnsInHanded_of_change_and (C := Tryd.checked) (X := fun w _ => laidMetH Tryd.prog laidL w) (fun _ _ _ hh h => h.of_heap hh) own started (by kernel_rfl) Tryd.func5
    (ChangeSpec.witness_shaped (enc := enc) (C := Tryd.checked) (os := os) (X := fun w _ => laidMetH Tryd.prog laidL w) false (World.doorLaid Tryd.prog 400 os) #[.slice none 0 0, .slice none 0 0, .int .i64 0] 8 rfl (World.shaped_of_RefB (by kernel_rfl) (by kernel_rfl)) (by kernel_rfl) (by kernel_rfl) (by kernel_rfl) (door_met os _)) ?_
  intro W base args ds gs before hval0 hW _ _ hL _
  have hval : ∀ (j : Nat) t v, Tryd.f5.params[j]? = some t → args[j]? = some v → Value.okWide Tryd.prog W .any base t v := hval0
  have hW' := hW
  obtain ⟨p, q, hA0, hV, rfl, hfz, hnd⟩ := hW
  have hA : DataW.TrodAll enc Tryd.prog W 0 (fun _ => true) true Tryd.f5.params.toList args.toList ds p := hA0
  rw [Tryd.params5] at hA hval
  obtain ⟨v0, vs0, d0, ds0, p0, q0, hargs, rfl, rfl, h0, r0⟩ := trodAll_cons hA
  obtain ⟨v1, vs1, d1, ds1, p1, q1, rfl, rfl, rfl, h1, r1⟩ := trodAll_cons r0
  obtain ⟨v2, vs2, d2, ds2, p2, q2, rfl, rfl, rfl, h2, r2⟩ := trodAll_cons r1
  obtain ⟨rfl, rfl, rfl⟩ := trodAll_nil r2
  obtain rfl : args = #[v0, v1, v2] := by cases args; simp_all
  obtain ⟨rfl, rfl⟩ := trodVars_none hV
  obtain ⟨a0, len0, cap0, rfl⟩ := okWide_slice Tryd.underlying22 (hval 0 22 v0 rfl rfl)
  have k0 := h0
  have lt0 : ∀ x ∈ p0, x.block < W.heap.size := by obtain ⟨m, hm⟩ := k0; exact DataW.trod_lt m _ _ _ hm
  obtain ⟨z0, w0⟩ : ∃ zs, IsRow .u8 W a0 len0 cap0 zs := by
    obtain ⟨fuel, hf⟩ := h0
    rcases open_ints Tryd.underlying22 Tryd.underlying5 (by kernel_rfl) hf with ⟨hcs, _⟩ | ⟨x, l, c, zs, hcs, _, hl, hm, hz, _, hcell, hwz⟩
    · simp [Value.cells] at hcs
      obtain ⟨rfl, rfl, rfl⟩ := hcs
      exact ⟨[], .inl ⟨rfl, rfl, rfl, rfl⟩⟩
    · simp [Value.cells] at hcs
      obtain ⟨rfl, rfl, rfl⟩ := hcs
      exact ⟨zs, .inr ⟨_, rfl, hl, hm, by simpa using hz, hcell, hwz⟩⟩
  obtain ⟨a1, len1, cap1, rfl⟩ := okWide_slice Tryd.underlying36 (hval 1 36 v1 rfl rfl)
  have k1 := h1
  have lt1 : ∀ x ∈ p1, x.block < W.heap.size := by obtain ⟨m, hm⟩ := k1; exact DataW.trod_lt m _ _ _ hm
  obtain ⟨z1, w1⟩ : ∃ zs, IsRow .u16 W a1 len1 cap1 zs := by
    obtain ⟨fuel, hf⟩ := h1
    rcases open_ints Tryd.underlying36 Tryd.underlying43 (by kernel_rfl) hf with ⟨hcs, _⟩ | ⟨x, l, c, zs, hcs, _, hl, hm, hz, _, hcell, hwz⟩
    · simp [Value.cells] at hcs
      obtain ⟨rfl, rfl, rfl⟩ := hcs
      exact ⟨[], .inl ⟨rfl, rfl, rfl, rfl⟩⟩
    · simp [Value.cells] at hcs
      obtain ⟨rfl, rfl, rfl⟩ := hcs
      exact ⟨zs, .inr ⟨_, rfl, hl, hm, by simpa using hz, hcell, hwz⟩⟩
  obtain ⟨n2, rfl, rfl, rfl, w2⟩ := open_int Tryd.underlying3 (hval 2 3 v2 rfl rfl) h2
  clear hA0 hval0
  refine (walk a0 len0 cap0 z0 a1 len1 cap1 z1 n2 W w0 w1 w2 (of_laid hL)).mono fun e W' ⟨he, bel⟩ => ?_
  subst he
  exact ⟨_, rfl, _, _, _, [], _, [], hW', trodAll_mk1 (shut_bool Tryd.underlying4 _), (trodAll_cons_mk (Below.trod laidOut (by kernel_rfl) (of_decide_eq_true (by kernel_rfl)) k0 bel lt0) (trodAll_cons_mk (Below.trod laidOut (by kernel_rfl) (of_decide_eq_true (by kernel_rfl)) k1 bel lt1) (trodAll_cons_mk (shut_int Tryd.underlying3 w2) trodAll_mk0))), rfl, bel.frame _, fun h => by cases h⟩

theorem row_holds : Rows.FnCloseBeforeTheEndIsNoEOFSaid :=
  OpenClaim.holds_of_wide 5 Tryd.f5 rfl rfl rfl rfl rfl rfl rfl ⟨rfl, rfl, rfl, rfl, rfl⟩ rfl rfl rfl rfl rfl (by kernel_rfl) Tryd.func5 (by kernel_rfl)
    (of_decide_eq_true (by kernel_rfl)) (by unfold Func.isWrapper; rw [if_neg (of_decide_eq_false (by kernel_rfl))]; exact ⟨rfl, rfl⟩)
    (fun os started H enc _ => lifted os started H enc)

/-- THE STATEMENT: the tied card. -/
theorem card_holds : Rows.FnCloseBeforeTheEndIsNoEOFCardSaid :=
  Claim7.holds_tied_plain_at .later [] [.sentinel] true (true, "dd33ee07a96868e5c8182b6c8b734a19a0e6bc531e71aa2a2d70a26969b98ef2") true
    row_holds (fun _ h => by cases h) (by kernel_rfl) (fun _ h => by cases h) fnCloseBeforeTheEndIsNoEOF_row_tie rfl ⟨rfl, rfl⟩ (by kernel_rfl) rfl
    (fun f fn hf hfn => by
      obtain rfl : f = 5 := Option.some.inj ((show Tryd.prog.funcNamed Rows.fnCloseBeforeTheEndIsNoEOFRow.func = some 5 by kernel_rfl).symm.trans hf) |>.symm
      obtain rfl : fn = Tryd.f5 := (Option.some.inj (Tryd.func5.symm.trans hfn)).symm
      exact ⟨by kernel_rfl, fun j t ht => by
        rw [Tryd.params5] at ht
        have hm : t ∈ [22, 36, 3] := by simpa using Array.mem_of_getElem? ht
        have hall : ([22, 36, 3].all fun u => !Tryd.prog.wantsStandIn u) = true := by kernel_rfl
        exact (show Tryd.prog.wantsStandIn t = false by simpa using List.all_eq_true.1 hall t hm)⟩)
    (by kernel_rfl)
#print axioms card_holds
end Go.Proofs.Qxb6614070aDoor.L5
