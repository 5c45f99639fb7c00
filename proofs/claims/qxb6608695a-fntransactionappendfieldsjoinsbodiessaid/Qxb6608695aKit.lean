/-
  WORDS FOR SLICES OF INTEGERS in this seat's walks: 'Reads' (the elements that a slice value leads to), 'Own' (a row of the call's own), and what make, copy and append do to them. Over any program.
-/
import Derived.WalkKit
import Derived.WalkSpells
import Derived.WalkLawsBesides
import Derived.OpenShut
import Derived.Deep.OwnRows
import Derived.Laws.CopyOwn
namespace Go.Proofs.Qxb6608695a
open Go.RowKit

/-- THE SLICE VALUE v LEADS TO THE NUMBERS xs. -/
def Reads (k : IntKind) (w : World) (v : Value) (xs : List Int) : Prop :=
  (v = .slice none 0 0 ∧ xs = []) ∨ ∃ x c, v = .slice (some x) xs.length c ∧ xs.length ≤ c ∧ ∀ i, i < xs.length → w.cell? (x.add i) = some (.int k (xs.getD i 0))
/-- .. AND ITS ROW IS ONE OF THE CALL's OWN BLOCKS (from 'base' on). -/
def Own (k : IntKind) (e : TypeId) (base : Nat) (w : World) (v : Value) (xs : List Int) : Prop := w.ownsRow base e 1 v xs.length (xs.map (Value.int k))
/-- THE BLOCK OF v, IF ANY, LIES BETWEEN THE TWO. -/
def Within (lo hi : Nat) (v : Value) : Prop := ∀ b, v.ownBlock = some b → lo ≤ b ∧ b < hi

theorem Within.mono {lo hi lo' hi' : Nat} {v : Value} (h : Within lo hi v) (h1 : lo' ≤ lo) (h2 : hi ≤ hi') : Within lo' hi' v := fun b hb => ⟨Nat.le_trans h1 (h b hb).1, Nat.lt_of_lt_of_le (h b hb).2 h2⟩

theorem getD_map (k : IntKind) (xs : List Int) (j : Nat) (hj : j < xs.length) : (xs.map (Value.int k))[j]? = some (.int k (xs.getD j 0)) := by
  simp [List.getElem?_map, List.getElem?_eq_getElem hj, List.getD]
theorem map_getD (k : IntKind) (xs : List Int) (j : Nat) (u : Value) (h : (xs.map (Value.int k))[j]? = some u) : j < xs.length ∧ u = .int k (xs.getD j 0) := by
  have hj : j < xs.length := by
    have := (List.getElem?_eq_some_iff.1 h).1
    simpa using this
  refine ⟨hj, ?_⟩
  rw [getD_map k xs j hj] at h
  exact (Option.some.inj h).symm
theorem map_one (k : IntKind) (xs : List Int) : ∀ u ∈ xs.map (Value.int k), u.oneCell' = true := by
  intro u hu
  obtain ⟨_, _, rfl⟩ := List.mem_map.1 hu
  rfl

theorem Own.reads {k : IntKind} {e : TypeId} {base : Nat} {w : World} {v : Value} {xs : List Int} (h : Own k e base w v xs) : Reads k w v xs := by
  rcases h.2 with ⟨rfl, h0⟩ | ⟨g, cap, cur, rfl, hb, hg, hn, hm, hs, ht⟩
  · exact .inl ⟨rfl, List.eq_nil_of_length_eq_zero h0⟩
  · refine .inr ⟨⟨g, 0, none⟩, cap, rfl, hn, fun i hi => ?_⟩
    have := World.ownsRow.cells (w := w) h (g := g) rfl i _ (getD_map k xs i hi)
    exact this

theorem grown_of_below {w w' : World} (h : Below w.heap.size w w') : w.grownBy w' none := ⟨h.os, h.tape, h.output, h.size, fun b hb _ => h.block b hb⟩
theorem Own.kept {k : IntKind} {e : TypeId} {base : Nat} {w w' : World} {v : Value} {xs : List Int} {row : Option Nat} (h : Own k e base w v xs) (hg : w.grownBy w' row) (hne : ∀ b, v.ownBlock = some b → row ≠ some b) : Own k e base w' v xs := by
  refine World.ownsRow.kept (w := w) h hg ?_
  cases hv : v.ownBlock with
  | none => exact .inl rfl
  | some b => exact .inr (fun hh => hne b hv hh.symm)
theorem Own.below {k : IntKind} {e : TypeId} {base : Nat} {w w' : World} {v : Value} {xs : List Int} (h : Own k e base w v xs) (hb : Below w.heap.size w w') : Own k e base w' v xs :=
  h.kept (grown_of_below hb) (fun _ _ hh => by cases hh)
theorem Own.lt {k : IntKind} {e : TypeId} {base : Nat} {w : World} {v : Value} {xs : List Int} (h : Own k e base w v xs) : Within base w.heap.size v := fun b hb => World.ownsRow.lt (w := w) h b hb

theorem Reads.below {k : IntKind} {w w' : World} {v : Value} {xs : List Int} (h : Reads k w v xs) (hb : Below w.heap.size w w') : Reads k w' v xs := by
  rcases h with h | ⟨x, c, hv, hc, hcell⟩
  · exact .inl h
  · refine .inr ⟨x, c, hv, hc, fun i hi => ?_⟩
    have h1 := hcell i hi
    exact (hb.cell (World.block_lt_of_cell? _ _ h1)).trans h1

/-- make([]T, n): a row of zeros. -/
theorem copy_made {P : Program} {k : IntKind} {t e ty : TypeId} (ht : P.underlying t = some (.slice e)) (hs : (P.info? e).map (·.size) = some 1) (base : Nat) (w : World) (v : Value) (xs : List Int) (hbase : base ≤ w.heap.size)
    (hr : Reads k w v xs) (hm : xs.length ≤ maxLen) :
    ∃ w2, (Builtin.copy_ #[t, t] ty #[.slice (some ⟨w.heap.size, 0, none⟩) xs.length xs.length, v]).run P (w.alloc (.cells (madeCells #[.int k 0] xs.length) e)) = .ok (goInt xs.length) w2 ∧
      Own k e base w2 (.slice (some ⟨w.heap.size, 0, none⟩) xs.length xs.length) xs ∧ Below w.heap.size w w2 := by
  have hnew : (w.alloc (.cells (madeCells #[.int k 0] xs.length) e)).heap[w.heap.size]? = some (.cells (madeCells #[.int k 0] xs.length) e (0, 0)) := heap_alloc_new w _
  have hmade : (madeCells #[Value.int k 0] xs.length).toList = List.replicate xs.length (.int k 0) := toList_madeCells_one _ _
  have hbel : Below w.heap.size w (w.alloc (.cells (madeCells #[.int k 0] xs.length) e)) := (Below.refl _ _).alloc (Nat.le_refl _) _
  rcases hr with ⟨rfl, rfl⟩ | ⟨x, c, rfl, hc, hcell⟩
  · refine ⟨_, run_copy_none _ t t ty e _ _ _ _ _ _ ht hs (by simp), ⟨by simp, .inr ⟨w.heap.size, 0, _, rfl, hbase, hnew, by simp, by simp, by simp [size_madeCells], by simp⟩⟩, hbel⟩
  · have hrun := run_copy_row (P := P) (w.alloc (.cells (madeCells #[.int k 0] xs.length) e)) t t ty e w.heap.size 0 xs.length xs.length x xs.length c (madeCells #[.int k 0] xs.length) e (xs.map (Value.int k)) ht hs hnew
      (by simp) (fun j u hj => by
        obtain ⟨hj', rfl⟩ := map_getD k xs j u hj
        have h1 := hcell j hj'
        exact (hbel.cell (World.block_lt_of_cell? _ _ h1)).trans h1) (by simp [size_madeCells]) (map_one k xs)
    refine ⟨_, by simpa using hrun, ?_, below_setRow hbel (Nat.le_refl _) _⟩
    refine ⟨by simp, .inr ⟨w.heap.size, xs.length, _, rfl, hbase, setRow_heap _ _ _ _ _ _ hnew, Nat.le_refl _, hm, ?_, ?_⟩⟩
    · simp [hmade]
    · simp [hmade]
      exact List.take_of_length_le (by simp)

/-- append(own, src...): the row of the call's own, longer; in its own block or in a new one. -/
theorem append_own {P : Program} {k : IntKind} {t e ty : TypeId} {bytes : Nat} (ht : P.underlying t = some (.slice e)) (hinfo : (P.info? e).map (fun i => (i.zero, i.size, i.bytes)) = some (some (.int k 0), 1, bytes))
    (base : Nat) (w : World) (v x : Value) (xs ys : List Int) (hbase : base ≤ w.heap.size) (ho : Own k e base w v xs) (hr : Reads k w x ys) (hm : xs.length + ys.length ≤ 1073741824) (hby : bytes ≤ 1024) :
    ∃ v' w', (Builtin.append_ #[t, t] ty #[v, x]).run P w = .ok v' w' ∧ Own k e base w' v' (xs ++ ys) ∧ w.grownBy w' v.ownBlock ∧ (v'.ownBlock = v.ownBlock ∨ v'.ownBlock = some w.heap.size) := by
  obtain ⟨i, hi, hz0, hz1, hz2⟩ := info_parts hinfo
  rcases hr with ⟨rfl, rfl⟩ | ⟨a, c, rfl, hc, hcell⟩
  · refine ⟨v, w, run_append_owned_none (P := P) (w := w) base t ty e i 1 ht hi v xs.length _ ho, by simpa using ho, World.grownBy.refl _ _, .inl rfl⟩
  · have hnews : ∀ j u, (ys.map (Value.int k))[j]? = some u → w.cell? (a.add j) = some u := fun j u hj => by
      obtain ⟨hj', rfl⟩ := map_getD k ys j u hj
      exact hcell j hj'
    have hbb : (xs.length + ys.length) * bytes ≤ 140737488355328 := Nat.le_trans (Nat.mul_le_mul hm hby) (by decide)
    obtain ⟨v', w', hrun, hown', hgr, hnil⟩ := run_append_own (P := P) w base t ty e i (.int k 0) 1 bytes ht hi hz0 hz1 hz2 rfl (by decide) v xs.length _ ho a ys.length c (ys.map (Value.int k)) (by simp) hnews (map_one k ys)
      (by unfold maxLen; omega) hbb hbase
    refine ⟨v', w', hrun, by unfold Own; rw [List.length_append, List.map_append]; exact hown', hgr, ?_⟩
    rcases ho.2 with ⟨rfl, h0⟩ | ⟨g, cap, cur, rfl, hbg, hg, hn, hcm, hcs, htk⟩
    · by_cases hy : ys.length = 0
      · exact .inl (by rw [hnil.2 ⟨rfl, hy⟩])
      · have hr2 := run_append_nil (P := P) w t ty e i (.int k 0) ht hi hz0 a ys.length c (ys.map (Value.int k)) (by rw [hz1]; simp) hnews (by omega) (by omega) (by rw [hz2]; have : ys.length * bytes ≤ (xs.length + ys.length) * bytes := Nat.mul_le_mul_right _ (by omega); omega)
        rw [hr2] at hrun
        cases hrun
        exact .inr rfl
    · by_cases hroom : xs.length + ys.length ≤ cap
      · have hr2 := run_append_room (P := P) w t ty e i ht hi g xs.length cap cur hg a ys.length c (ys.map (Value.int k)) (by rw [hz1]; simp) hnews (map_one k ys) hroom (by rw [hz1, hcs]; simp; omega)
        rw [hr2] at hrun
        cases hrun
        exact .inl rfl
      · have hr2 := run_append_grow (P := P) w t ty e i (.int k 0) ht hi hz0 ⟨g, 0, none⟩ xs.length cap (xs.map (Value.int k)) (by rw [hz1]; simp) (World.ownsRow.cells (w := w) ho (g := g) rfl) a ys.length c (ys.map (Value.int k)) (by rw [hz1]; simp) hnews (by omega) (by omega)
          (by rw [hz2]; exact growslice_fits (by omega) hbb)
        rw [hr2] at hrun
        cases hrun
        exact .inr rfl

/-- An append whose run is known, as a law for the walk. -/
theorem wpList_append_run {P : Program} {w : World} {ops : Array Oper} {rest : List Oper} {o : Oper} {a : Act} {Q : Exit → Act → World → Prop} (hgd : o.guard = none) (s x : Operand) (t : TypeId)
    (ho : o.op = .call { callee := .builtin .append, args := #[s, x], argTypes := #[t, t] }) (v y : Value) (hs : a.eval s = v) (hx : a.eval x = y) (v' : Value) (w' : World)
    (hrun : (Builtin.append_ #[t, t] o.type #[v, y]).run P w = .ok v' w') (h : wpList P ops Q rest (a.put o.dst v') w') : wpList P ops Q (o :: rest) a w := by
  refine wpList_plain hgd fun K hK => ?_
  unfold Oper.wp
  simp [execOp, ho, resolve, invoke, builtin, hs, hx, hrun, Result.andThen]
  exact hK _ _ h

/-- THE BLOCK OF v, IF ANY, LIES BETWEEN THE FIRST TWO, OR FROM THE THIRD ON. -/
def Two (lo hi m : Nat) (v : Value) : Prop := ∀ b, v.ownBlock = some b → (lo ≤ b ∧ b < hi) ∨ m ≤ b
theorem Within.two {lo hi m : Nat} {v : Value} (h : Within lo hi v) : Two lo hi m v := fun b hb => .inl (h b hb)
theorem apart {v u : Value} {lo hi lo' hi' m : Nat} (h : Within lo hi v) (h' : Two lo' hi' m u) (h1 : hi ≤ lo' ∨ hi' ≤ lo) (h2 : hi ≤ m) : ∀ b, v.ownBlock = some b → u.ownBlock ≠ some b := by
  intro b hb hu
  have a1 := h b hb
  have a2 := h' b hu
  omega
theorem Within.next {k : IntKind} {e : TypeId} {base lo hi : Nat} {w w' : World} {v v' : Value} {xs : List Int} (h : Within lo hi v) (hs : v'.ownBlock = v.ownBlock ∨ v'.ownBlock = some w.heap.size) (ho : Own k e base w' v' xs) (hl : lo ≤ w.heap.size) : Within lo w'.heap.size v' := by
  intro b hb
  refine ⟨?_, (ho.lt b hb).2⟩
  rcases hs with hs | hs
  · exact (h b (hs ▸ hb)).1
  · rw [hs] at hb
    cases hb
    exact hl
theorem Two.next {lo hi m : Nat} {w : World} {v v' : Value} (h : Two lo hi m v) (hs : v'.ownBlock = v.ownBlock ∨ v'.ownBlock = some w.heap.size) (hm : m ≤ w.heap.size) : Two lo hi m v' := by
  intro b hb
  rcases hs with hs | hs
  · exact h b (hs ▸ hb)
  · rw [hs] at hb
    cases hb
    exact .inr hm
theorem below_grown {B : Nat} {a w w' : World} {row : Option Nat} (h : Below B a w) (hg : w.grownBy w' row) (hr : ∀ b, row = some b → B ≤ b) (hB : B ≤ w.heap.size) : Below B a w' := Go.RowKit.Below.grown h hg hB hr
theorem Two.ge {lo hi m : Nat} {v : Value} (h : Two lo hi m v) (hm : lo ≤ m) : ∀ b, v.ownBlock = some b → lo ≤ b := by
  intro b hb
  have := h b hb
  omega

theorem Reads.cap {k : IntKind} {w : World} {a : Option Addr} {n c : Nat} {xs : List Int} (h : Reads k w (.slice a n c) xs) : n ≤ c := by
  rcases h with ⟨h, _⟩ | ⟨x, c', h, hc, _⟩
  · cases h; exact Nat.le_refl _
  · cases h; exact hc
theorem Reads.take {k : IntKind} {w : World} {a : Option Addr} {n c : Nat} {xs ys : List Int} (h : Reads k w (.slice a n c) (xs ++ ys)) : Reads k w (.slice a xs.length c) xs := by
  rcases h with ⟨h, h0⟩ | ⟨x, c', h, hc, hcell⟩
  · cases h
    obtain ⟨rfl, _⟩ := List.append_eq_nil_iff.1 h0
    exact .inl ⟨rfl, rfl⟩
  · cases h
    rw [List.length_append] at hc
    refine .inr ⟨x, c, rfl, by omega, fun i hi => ?_⟩
    have := hcell i (by rw [List.length_append]; omega)
    rw [this]
    simp [List.getD, List.getElem?_append_left hi]
theorem Reads.drop {k : IntKind} {w : World} {a : Option Addr} {n c : Nat} {xs ys : List Int} (h : Reads k w (.slice a n c) (xs ++ ys)) :
    Reads k w (.slice (a.map fun x => x.add xs.length) ys.length (c - xs.length)) ys := by
  rcases h with ⟨h, h0⟩ | ⟨x, c', h, hc, hcell⟩
  · cases h
    obtain ⟨rfl, rfl⟩ := List.append_eq_nil_iff.1 h0
    exact .inl ⟨rfl, rfl⟩
  · cases h
    rw [List.length_append] at hc
    refine .inr ⟨x.add xs.length, c - xs.length, rfl, by omega, fun i hi => ?_⟩
    obtain ⟨b, o, rfl, h'⟩ := ints_at hcell (by rw [List.length_append]; omega)
    have h1 := h' (xs.length + i) (by rw [List.length_append]; omega)
    rw [Go.WideShapes.add_plain, Go.WideShapes.add_plain, Nat.add_assoc, h1]
    simp [List.getD, List.getElem?_append_right]
theorem reads_empty {k : IntKind} {w : World} {a : Option Addr} {n c : Nat} {xs : List Int} (_h : Reads k w (.slice a n c) xs) : Reads k w (.slice a 0 0) [] := by
  cases a with
  | none => exact .inl ⟨rfl, rfl⟩
  | some x => exact .inr ⟨x, 0, rfl, Nat.le_refl _, fun i hi => absurd hi (Nat.not_lt_zero _)⟩
end Go.Proofs.Qxb6608695a
