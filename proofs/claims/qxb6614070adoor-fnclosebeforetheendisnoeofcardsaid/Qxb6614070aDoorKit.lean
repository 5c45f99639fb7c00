/-
  WORDS FOR SLICES OF INTEGERS in this seat's walks: 'Reads' (the elements that a slice value leads to), 'Own' (a row of the call's own), and what make, copy and append do to them. Over any program.
-/
import Derived.WalkKit
import Derived.WalkSpells
import Derived.WalkLawsBesides
import Derived.OpenShut
import Derived.Deep.OwnRows
import Derived.Laws.CopyOwn
namespace Go.Proofs.Qxb6614070aDoor
open Go.RowKit

/-- THE SLICE VALUE v LEADS TO THE NUMBERS xs. -/
def Reads (k : IntKind) (w : World) (v : Value) (xs : List Int) : Prop :=
  (v = .slice none 0 0 ∧ xs = []) ∨ ∃ x c, v = .slice (some x) xs.length c ∧ xs.length ≤ c ∧ ∀ i, i < xs.length → w.cell? (x.add i) = some (.int k (xs.getD i 0))
/-- .. AND ITS ROW IS ONE OF THE CALL's OWN BLOCKS (from 'base' on). -/
def Own (k : IntKind) (e : TypeId) (base : Nat) (w : World) (v : Value) (xs : List Int) : Prop := w.ownsRow base e 1 v xs.length (xs.map (Value.int k))
/-- THE BLOCK OF v, IF ANY, LIES BETWEEN THE TWO. -/
def Within (lo hi : Nat) (v : Value) : Prop := ∀ b, v.ownBlock = some b → lo ≤ b ∧ b < hi

theorem Within.mono {lo hi lo' hi' : Nat} {v : Value} (h : Within lo hi v) (h1 : lo' ≤ lo) (h2 : hi ≤ hi') : Within lo' hi' v := fun b hb => ⟨Nat.le_trans h1 (h b hb).1, Nat.lt_of_lt_of_le (h b hb).2 h2⟩

theorem getD_map (k : IntKind) (xs : List Int) (j : Nat) (hj : j < xs.length) : (xs.map (Value.int k))[j]? = some (.int k (xs.getD j 0)) := by
  simp [List.getElem?_map, List.getElem?_eq_getElem hj, List.getD]
theorem map_getD (k : IntKind) (xs : List Int) (j : Nat) (u : Value) (h : (xs.map (Value.int k))[j]? = some u) : j < xs.length ∧ u = .int k (xs.getD j 0) := by
  have hj : j < xs.length := by
    have := (List.getElem?_eq_some_iff.1 h).1
    simpa using this
  refine ⟨hj, ?_⟩
  rw [getD_map k xs j hj] at h
  exact (Option.some.inj h).symm
theorem map_one (k : IntKind) (xs : List Int) : ∀ u ∈ xs.map (Value.int k), u.oneCell' = true := by
  intro u hu
  obtain ⟨_, _, rfl⟩ := List.mem_map.1 hu
  rfl

theorem Own.reads {k : IntKind} {e : TypeId} {base : Nat} {w : World} {v : Value} {xs : List Int} (h : Own k e base w v xs) : Reads k w v xs := by
  rcases h.2 with ⟨rfl, h0⟩ | ⟨g, cap, cur, rfl, hb, hg, hn, hm, hs, ht⟩
  · exact .inl ⟨rfl, List.eq_nil_of_length_eq_zero h0⟩
  · refine .inr ⟨⟨g, 0, none⟩, cap, rfl, hn, fun i hi => ?_⟩
    have := World.ownsRow.cells (w := w) h (g := g) rfl i _ (getD_map k xs i hi)
    exact this

theorem grown_of_below {w w' : World} (h : Below w.heap.size w w') : w.grownBy w' none := ⟨h.os, h.tape, h.output, h.size, fun b hb _ => h.block b hb⟩
theorem Own.kept {k : IntKind} {e : TypeId} {base : Nat} {w w' : World} {v : Value} {xs : List Int} {row : Option Nat} (h : Own k e base w v xs) (hg : w.grownBy w' row) (hne : ∀ b, v.ownBlock = some b → row ≠ some b) : Own k e base w' v xs := by
  refine World.ownsRow.kept (w := w) h hg ?_
  cases hv : v.ownBlock with
  | none => exact .inl rfl
  | some b => exact .inr (fun hh => hne b hv hh.symm)
theorem Own.below {k : IntKind} {e : TypeId} {base : Nat} {w w' : World} {v : Value} {xs : List Int} (h : Own k e base w v xs) (hb : Below w.heap.size w w') : Own k e base w' v xs :=
  h.kept (grown_of_below hb) (fun _ _ hh => by cases hh)
theorem Own.lt {k : IntKind} {e : TypeId} {base : Nat} {w : World} {v : Value} {xs : List Int} (h : Own k e base w v xs) : Within base w.heap.size v := fun b hb => World.ownsRow.lt (w := w) h b hb

theorem Reads.below {k : IntKind} {w w' : World} {v : Value} {xs : List Int} (h : Reads k w v xs) (hb : Below w.heap.size w w') : Reads k w' v xs := by
  rcases h with h | ⟨x, c, hv, hc, hcell⟩
  · exact .inl h
  · refine .inr ⟨x, c, hv, hc, fun i hi => ?_⟩
    have h1 := hcell i hi
    exact (hb.cell (World.block_lt_of_cell? _ _ h1)).trans h1

/-- make([]T, n): a row of zeros. -/
theorem copy_made {P : Program} {k : IntKind} {t e ty : TypeId} (ht : P.underlying t = some (.slice e)) (hs : (P.info? e).map (·.size) = some 1) (base : Nat) (w : World) (v : Value) (xs : List Int) (hbase : base ≤ w.heap.size)
    (hr : Reads k w v xs) (hm : xs.length ≤ maxLen) :
    ∃ w2, (Builtin.copy_ #[t, t] ty #[.slice (some ⟨w.heap.size, 0, none⟩) xs.length xs.length, v]).run P (w.alloc (.cells (madeCells #[.int k 0] xs.length) e)) = .ok (goInt xs.length) w2 ∧
      Own k e base w2 (.slice (some ⟨w.heap.size, 0, none⟩) xs.length xs.length) xs ∧ Below w.heap.size w w2 := by
  have hnew : (w.alloc (.cells (madeCells #[.int k 0] xs.length) e)).heap[w.heap.size]? = some (.cells (madeCells #[.int k 0] xs.length) e (0, 0)) := heap_alloc_new w _
  have hmade : (madeCells #[Value.int k 0] xs.length).toList = List.replicate xs.length (.int k 0) := toList_madeCells_one _ _
  have hbel : Below w.heap.size w (w.alloc (.cells (madeCells #[.int k 0] xs.length) e)) := (Below.refl _ _).alloc (Nat.le_refl _) _
  rcases hr with ⟨rfl, rfl⟩ | ⟨x, c, rfl, hc, hcell⟩
  · refine ⟨_, run_copy_none _ t t ty e _ _ _ _ _ _ ht hs (by simp), ⟨by simp, .inr ⟨w.heap.size, 0, _, rfl, hbase, hnew, by simp, by simp, by simp [size_madeCells], by simp⟩⟩, hbel⟩
  · have hrun := run_copy_row (P := P) (w.alloc (.cells (madeCells #[.int k 0] xs.length) e)) t t ty e w.heap.size 0 xs.length xs.length x xs.length c (madeCells #[.int k 0] xs.length) e (xs.map (Value.int k)) ht hs hnew
      (by simp) (fun j u hj => by
        obtain ⟨hj', rfl⟩ := map_getD k xs j u hj
        have h1 := hcell j hj'
        exact (hbel.cell (World.block_lt_of_cell? _ _ h1)).trans h1) (by simp [size_madeCells]) (map_one k xs)
    refine ⟨_, by simpa using hrun, ?_, below_setRow hbel (Nat.le_refl _) _⟩
    refine ⟨by simp, .inr ⟨w.heap.size, xs.length, _, rfl, hbase, setRow_heap _ _ _ _ _ _ hnew, Nat.le_refl _, hm, ?_, ?_⟩⟩
    · simp [hmade]
    · simp [hmade]
      exact List.take_of_length_le (by simp)

theorem Reads.cap {k : IntKind} {w : World} {a : Option Addr} {n c : Nat} {xs : List Int} (h : Reads k w (.slice a n c) xs) : n ≤ c := by
  rcases h with ⟨h, _⟩ | ⟨x, c', h, hc, _⟩
  · cases h; exact Nat.le_refl _
  · cases h; exact hc
theorem Reads.take {k : IntKind} {w : World} {a : Option Addr} {n c : Nat} {xs ys : List Int} (h : Reads k w (.slice a n c) (xs ++ ys)) : Reads k w (.slice a xs.length c) xs := by
  rcases h with ⟨h, h0⟩ | ⟨x, c', h, hc, hcell⟩
  · cases h
    obtain ⟨rfl, _⟩ := List.append_eq_nil_iff.1 h0
    exact .inl ⟨rfl, rfl⟩
  · cases h
    rw [List.length_append] at hc
    refine .inr ⟨x, c, rfl, by omega, fun i hi => ?_⟩
    have := hcell i (by rw [List.length_append]; omega)
    rw [this]
    simp [List.getD, List.getElem?_append_left hi]
theorem Reads.drop {k : IntKind} {w : World} {a : Option Addr} {n c : Nat} {xs ys : List Int} (h : Reads k w (.slice a n c) (xs ++ ys)) :
    Reads k w (.slice (a.map fun x => x.add xs.length) ys.length (c - xs.length)) ys := by
  rcases h with ⟨h, h0⟩ | ⟨x, c', h, hc, hcell⟩
  · cases h
    obtain ⟨rfl, rfl⟩ := List.append_eq_nil_iff.1 h0
    exact .inl ⟨rfl, rfl⟩
  · cases h
    rw [List.length_append] at hc
    refine .inr ⟨x.add xs.length, c - xs.length, rfl, by omega, fun i hi => ?_⟩
    obtain ⟨b, o, rfl, h'⟩ := ints_at hcell (by rw [List.length_append]; omega)
    have h1 := h' (xs.length + i) (by rw [List.length_append]; omega)
    rw [Go.WideShapes.add_plain, Go.WideShapes.add_plain, Nat.add_assoc, h1]
    simp [List.getD, List.getElem?_append_right]
theorem reads_empty {k : IntKind} {w : World} {a : Option Addr} {n c : Nat} {xs : List Int} (_h : Reads k w (.slice a n c) xs) : Reads k w (.slice a 0 0) [] := by
  cases a with
  | none => exact .inl ⟨rfl, rfl⟩
  | some x => exact .inr ⟨x, 0, rfl, Nat.le_refl _, fun i hi => absurd hi (Nat.not_lt_zero _)⟩

theorem Reads.len {k : IntKind} {w : World} {v : Value} {xs : List Int} (h : Reads k w v xs) : ∃ a c, v = .slice a xs.length c := by
  rcases h with ⟨rfl, rfl⟩ | ⟨x, c, rfl, _⟩
  · exact ⟨none, 0, rfl⟩
  · exact ⟨_, _, rfl⟩
theorem Reads.at {k : IntKind} {w : World} {v : Value} {xs : List Int} (h : Reads k w v xs) (hp : 0 < xs.length) :
    ∃ b o c, v = .slice (some ⟨b, o, none⟩) xs.length c ∧ b < w.heap.size ∧ xs.length ≤ c ∧ ∀ j, j < xs.length → w.cell? ⟨b, o + j, none⟩ = some (.int k (xs.getD j 0)) := by
  rcases h with ⟨rfl, rfl⟩ | ⟨x, c, rfl, hc, hcell⟩
  · simp at hp
  · obtain ⟨b, o, rfl, h'⟩ := ints_at hcell hp
    exact ⟨b, o, c, rfl, World.block_lt_of_cell? _ _ (h' 0 hp), hc, h'⟩

/-- FROM w TO w' NOTHING THAT WAS THERE HAS TURNED BUT THE BLOCKS S. -/
structure Chg (S : List Nat) (w w' : World) : Prop where
  os : w'.os = w.os
  tape : w'.tape = w.tape
  output : w'.output = w.output
  size : w.heap.size ≤ w'.heap.size
  block : ∀ k, k < w.heap.size → k ∉ S → w'.heap[k]? = w.heap[k]?

theorem Chg.refl (S : List Nat) (w : World) : Chg S w w := ⟨rfl, rfl, rfl, Nat.le_refl _, fun _ _ _ => rfl⟩
theorem Chg.trans {S : List Nat} {a b c : World} (h : Chg S a b) (k : Chg S b c) : Chg S a c :=
  ⟨k.os.trans h.os, k.tape.trans h.tape, k.output.trans h.output, Nat.le_trans h.size k.size, fun i hi hs => (k.block i (Nat.lt_of_lt_of_le hi h.size) hs).trans (h.block i hi hs)⟩
theorem Chg.mono {S S' : List Nat} {a b : World} (h : Chg S a b) (hs : ∀ k, k ∈ S → k ∈ S') : Chg S' a b :=
  ⟨h.os, h.tape, h.output, h.size, fun i hi hn => h.block i hi (fun hm => hn (hs i hm))⟩
theorem Chg.drew {S : List Nat} {a w : World} (h : Chg S a w) : Chg S a w.drew := ⟨h.os, h.tape, h.output, h.size, h.block⟩
theorem Chg.alloc {S : List Nat} {a w : World} (h : Chg S a w) (o : Obj) : Chg S a (w.alloc o) :=
  ⟨h.os, h.tape, h.output, Nat.le_trans h.size (by simp), fun i hi hs => (Below.heap_alloc w o i (Nat.lt_of_lt_of_le hi h.size)).trans (h.block i hi hs)⟩
theorem Chg.setCell {S : List Nat} {a w : World} (h : Chg S a w) {p : Addr} (hp : p.block ∈ S ∨ a.heap.size ≤ p.block) (v : Value) : Chg S a (w.setCell p v) :=
  ⟨h.os, h.tape, h.output, by simpa using h.size, fun i hi hs => (Below.heap_setCell w p v i (by
    rintro rfl
    rcases hp with hp | hp
    · exact hs hp
    · omega)).trans (h.block i hi hs)⟩
theorem Chg.ofBelow {w w' : World} (S : List Nat) (h : Below w.heap.size w w') : Chg S w w' := ⟨h.os, h.tape, h.output, h.size, fun i hi _ => h.block i hi⟩
theorem Chg.below {S : List Nat} {w w' : World} {B : Nat} (h : Chg S w w') (hS : ∀ k, k ∈ S → B ≤ k) (hB : B ≤ w.heap.size) : Below B w w' :=
  ⟨h.os, h.tape, h.output, h.size, fun i hi => h.block i (by omega) (fun hm => by have := hS i hm; omega)⟩
theorem Chg.row {S : List Nat} {w w' : World} {b : Nat} {t : TypeId} {n : Nat} {f : Nat → Value} (h : Chg S w w') (hr : w.rowIs b t n f) (hb : b ∉ S) : w'.rowIs b t n f :=
  hr.of_block (h.block b hr.lt hb)
theorem Chg.cell {S : List Nat} {w w' : World} {a : Addr} {v : Value} (h : Chg S w w') (hc : w.cell? a = some v) (hb : a.block ∉ S) : w'.cell? a = some v :=
  (World.cell?_of_block (w := w) (h.block a.block (World.block_lt_of_cell? _ _ hc) hb)).trans hc
theorem Chg.own {S : List Nat} {k : IntKind} {e : TypeId} {base : Nat} {w w' : World} {v : Value} {xs : List Int} (h : Chg S w w') (ho : Own k e base w v xs) (hb : ∀ b, v.ownBlock = some b → b ∉ S) : Own k e base w' v xs := by
  have hlt := ho.lt
  refine ⟨ho.1, ?_⟩
  rcases ho.2 with h0 | ⟨g, cap, cur, hv, hbg, hg, hn, hm, hs, ht⟩
  · exact .inl h0
  · have hg' : v.ownBlock = some g := by rw [hv]; rfl
    exact .inr ⟨g, cap, cur, hv, hbg, (h.block g (hlt g hg').2 (hb g hg')).trans hg, hn, hm, hs, ht⟩

/-- copy(row[:k], src): the row's first cells are src's. -/
theorem copy_into {P : Program} {k : IntKind} {t e ty : TypeId} (ht : P.underlying t = some (.slice e)) (hs : (P.info? e).map (·.size) = some 1) (w : World) (b N : Nat) (g : Nat → Value) (hrow : w.rowIs b e N g) (d cd : Nat) (hd : d ≤ N)
    (x : Addr) (ys : List Int) (c m : Nat) (hm : m = Nat.min ys.length d) (hcell : ∀ i, i < ys.length → w.cell? (x.add i) = some (.int k (ys.getD i 0))) :
    ∃ w2, (Builtin.copy_ #[t, t] ty #[.slice (some ⟨b, 0, none⟩) d cd, .slice (some x) ys.length c]).run P w = .ok (goInt m) w2 ∧ w2.rowIs b e N (fun j => if j < m then .int k (ys.getD j 0) else g j) ∧ Chg [b] w w2 := by
  have hrow' := hrow
  obtain ⟨cur, hcur, hsz, hat⟩ := hrow
  have hml : m ≤ ys.length := by rw [hm]; exact Nat.min_le_left _ _
  have hmd : m ≤ d := by rw [hm]; exact Nat.min_le_right _ _
  have hlen : ((ys.take m).map (Value.int k)).length = m := by rw [List.length_map, List.length_take]; omega
  have hrun := run_copy_row (P := P) w t t ty e b 0 d cd x ys.length c cur e ((ys.take m).map (Value.int k)) ht hs hcur (by rw [hlen, hm])
    (fun j u hj => by
      obtain ⟨hj', rfl⟩ := map_getD k (ys.take m) j u hj
      rw [List.length_take] at hj'
      rw [hcell j (by omega)]
      simp [List.getD, show j < m by omega]) (by rw [hlen, hsz]; omega) (map_one k _)
  rw [hlen] at hrun
  refine ⟨_, hrun, ⟨_, setRow_heap _ _ _ _ _ _ hcur, ?_, fun i hi => ?_⟩, ⟨rfl, rfl, rfl, by simp [World.setRow], fun i _ hi => setRow_other w b i _ (by simpa using hi)⟩⟩
  · simp only [List.size_toArray, List.length_append, List.length_take, List.length_drop, hlen, Array.length_toList, hsz]
    omega
  · simp only [List.take_zero, List.nil_append, List.getElem?_toArray]
    by_cases h : i < m
    · rw [List.getElem?_append_left (by rw [hlen]; exact h), if_pos h, getD_map k (ys.take m) i (by rw [List.length_take]; omega)]
      simp [List.getD, h]
    · rw [List.getElem?_append_right (by rw [hlen]; omega), if_neg h, hlen, List.getElem?_drop]
      have := hat i hi
      rw [← this, ← Array.getElem?_toList]
      congr 1
      omega
end Go.Proofs.Qxb6614070aDoor
