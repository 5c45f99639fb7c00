/-
  THE PLAIN PART of seat b6608690aD: the canonical escape of a path segment over lists of bytes. No Go in sight.
-/
namespace Go.Proofs.Qxb6608690aDoor.Pl

/-- The bytes that may stand unescaped. -/
def keepN (n : Nat) : Bool :=
  decide ((97 ≤ n ∧ n ≤ 122) ∨ (65 ≤ n ∧ n ≤ 90) ∨ (48 ≤ n ∧ n ≤ 57) ∨ n = 45 ∨ n = 95 ∨ n = 46 ∨ n = 126 ∨ n = 36 ∨ n = 38 ∨ n = 43 ∨ n = 58 ∨ n = 61 ∨ n = 64)

theorem keepN_true {n : Nat} : keepN n = true ↔ ((97 ≤ n ∧ n ≤ 122) ∨ (65 ≤ n ∧ n ≤ 90) ∨ (48 ≤ n ∧ n ≤ 57) ∨ n = 45 ∨ n = 95 ∨ n = 46 ∨ n = 126 ∨ n = 36 ∨ n = 38 ∨ n = 43 ∨ n = 58 ∨ n = 61 ∨ n = 64) := by
  unfold keepN; exact decide_eq_true_iff
theorem keepN_false {n : Nat} : keepN n = false ↔ ¬((97 ≤ n ∧ n ≤ 122) ∨ (65 ≤ n ∧ n ≤ 90) ∨ (48 ≤ n ∧ n ≤ 57) ∨ n = 45 ∨ n = 95 ∨ n = 46 ∨ n = 126 ∨ n = 36 ∨ n = 38 ∨ n = 43 ∨ n = 58 ∨ n = 61 ∨ n = 64) := by
  unfold keepN; exact decide_eq_false_iff_not

/-- net/url's upperhex: a digit of a number below 16. -/
def hexD (d : Nat) : UInt8 := if d < 10 then UInt8.ofNat (48 + d) else UInt8.ofNat (55 + d)
theorem hexD_toNat (d : Nat) (h : d < 16) : (hexD d).toNat = if d < 10 then 48 + d else 55 + d := by
  unfold hexD
  by_cases h1 : d < 10
  · rw [if_pos h1, if_pos h1, UInt8.toNat_ofNat']; omega
  · rw [if_neg h1, if_neg h1, UInt8.toNat_ofNat']; omega

/-- zzHexVal. -/
def hexV (n : Nat) : Int := if 48 ≤ n ∧ n ≤ 57 then (n : Int) - 48 else if 65 ≤ n ∧ n ≤ 70 then (n : Int) - 55 else -1
theorem hexV_hexD (d : Nat) (h : d < 16) : hexV (hexD d).toNat = d := by
  rw [hexD_toNat d h]
  unfold hexV
  by_cases h1 : d < 10
  · rw [if_pos h1, if_pos (by omega)]; omega
  · rw [if_neg h1, if_neg (by omega), if_pos (by omega)]; omega

/-- The escape of one byte. -/
def escB (c : UInt8) : List UInt8 := if keepN c.toNat = true then [c] else [37, hexD (c.toNat / 16), hexD (c.toNat % 16)]
theorem escB_keep {c : UInt8} (h : keepN c.toNat = true) : escB c = [c] := by unfold escB; rw [if_pos h]
theorem escB_esc {c : UInt8} (h : keepN c.toNat = false) : escB c = [37, hexD (c.toNat / 16), hexD (c.toNat % 16)] := by unfold escB; rw [if_neg (by rw [h]; decide)]

/-- The escape of a segment. -/
def esc (l : List UInt8) : List UInt8 := l.flatMap escB
theorem esc_nil : esc [] = [] := rfl
theorem esc_cons (a : UInt8) (l : List UInt8) : esc (a :: l) = escB a ++ esc l := by simp [esc, List.flatMap_cons]
theorem esc_append (l m : List UInt8) : esc (l ++ m) = esc l ++ esc m := by simp [esc, List.flatMap_append]
theorem esc_snoc (l : List UInt8) (a : UInt8) : esc (l ++ [a]) = esc l ++ escB a := by rw [esc_append]; simp [esc]

/-- How many bytes are escaped. -/
def hexC (l : List UInt8) : Nat := (l.filter fun c => !keepN c.toNat).length
theorem hexC_le (l : List UInt8) : hexC l ≤ l.length := List.length_filter_le _ _
theorem hexC_snoc_keep (l : List UInt8) (a : UInt8) (h : keepN a.toNat = true) : hexC (l ++ [a]) = hexC l := by
  unfold hexC; rw [List.filter_append]; simp [h]
theorem hexC_snoc_esc (l : List UInt8) (a : UInt8) (h : keepN a.toNat = false) : hexC (l ++ [a]) = hexC l + 1 := by
  unfold hexC; rw [List.filter_append]; simp [h]
theorem hexC_cons (a : UInt8) (l : List UInt8) : hexC (a :: l) = (if keepN a.toNat = true then 0 else 1) + hexC l := by
  unfold hexC; rw [List.filter_cons]
  by_cases h : keepN a.toNat = true
  · simp [h]
  · simp only [Bool.not_eq_true] at h; simp [h]; omega

theorem esc_length (l : List UInt8) : (esc l).length = l.length + 2 * hexC l := by
  induction l with
  | nil => rfl
  | cons a l ih =>
    rw [esc_cons, List.length_append, ih, hexC_cons, List.length_cons]
    by_cases h : keepN a.toNat = true
    · rw [escB_keep h, if_pos h]; simp; omega
    · simp only [Bool.not_eq_true] at h
      rw [escB_esc h, if_neg (by rw [h]; decide)]; simp; omega

theorem esc_none (l : List UInt8) (h : hexC l = 0) : esc l = l := by
  induction l with
  | nil => rfl
  | cons a l ih =>
    rw [hexC_cons] at h
    by_cases hk : keepN a.toNat = true
    · rw [esc_cons, escB_keep hk, ih (by omega)]; rfl
    · rw [if_neg hk] at h; omega

/-- zzEscapedLen. -/
theorem escLen (l : List UInt8) : (esc l).length = (l.map fun c => if keepN c.toNat = true then 1 else 3).sum := by
  induction l with
  | nil => rfl
  | cons a l ih =>
    rw [esc_cons, List.length_append, ih, List.map_cons, List.sum_cons]
    by_cases h : keepN a.toNat = true
    · rw [escB_keep h, if_pos h]; rfl
    · simp only [Bool.not_eq_true] at h
      rw [escB_esc h, if_neg (by rw [h]; decide)]; rfl

/-- The first byte of an escaped byte tells which it was. -/
theorem keepN_37 : keepN 37 = false := by decide
theorem keepN_47 : keepN 47 = false := by decide

/-- The escape is one to one. -/
theorem esc_inj : ∀ (l m : List UInt8), esc l = esc m → l = m
  | [], [], _ => rfl
  | [], b :: m, h => by
    rw [esc_cons] at h
    by_cases hk : keepN b.toNat = true
    · rw [escB_keep hk] at h; simp [esc] at h
    · simp only [Bool.not_eq_true] at hk; rw [escB_esc hk] at h; simp [esc] at h
  | a :: l, [], h => by
    rw [esc_cons] at h
    by_cases hk : keepN a.toNat = true
    · rw [escB_keep hk] at h; simp [esc] at h
    · simp only [Bool.not_eq_true] at hk; rw [escB_esc hk] at h; simp [esc] at h
  | a :: l, b :: m, h => by
    rw [esc_cons, esc_cons] at h
    by_cases ha : keepN a.toNat = true
    · by_cases hb : keepN b.toNat = true
      · rw [escB_keep ha, escB_keep hb] at h
        simp only [List.cons_append, List.nil_append, List.cons.injEq] at h
        rw [h.1, esc_inj l m h.2]
      · simp only [Bool.not_eq_true] at hb
        rw [escB_keep ha, escB_esc hb] at h
        simp only [List.cons_append, List.nil_append, List.cons.injEq] at h
        rw [h.1] at ha
        exact absurd ha (by decide)
    · simp only [Bool.not_eq_true] at ha
      by_cases hb : keepN b.toNat = true
      · rw [escB_esc ha, escB_keep hb] at h
        simp only [List.cons_append, List.nil_append, List.cons.injEq] at h
        rw [← h.1] at hb
        exact absurd hb (by decide)
      · simp only [Bool.not_eq_true] at hb
        rw [escB_esc ha, escB_esc hb] at h
        simp only [List.cons_append, List.nil_append, List.cons.injEq, true_and] at h
        obtain ⟨h1, h2, h3⟩ := h
        have la := a.toNat_lt
        have lb := b.toNat_lt
        have e1 := congrArg (fun x => hexV x.toNat) h1
        have e2 := congrArg (fun x => hexV x.toNat) h2
        rw [hexV_hexD _ (by omega), hexV_hexD _ (by omega)] at e1 e2
        have : a.toNat = b.toNat := by omega
        rw [UInt8.toNat_inj.1 this, esc_inj l m h3]

/-- zzCountSlash. -/
def slashes (l : List UInt8) : Nat := (l.filter fun c => c.toNat == 47).length
theorem slashes_append (l m : List UInt8) : slashes (l ++ m) = slashes l + slashes m := by unfold slashes; rw [List.filter_append, List.length_append]
theorem slashes_le (l : List UInt8) : slashes l ≤ l.length := List.length_filter_le _ _
theorem slashes_snoc (l : List UInt8) (a : UInt8) : slashes (l ++ [a]) = slashes l + (if a.toNat = 47 then 1 else 0) := by
  unfold slashes; rw [List.filter_append]
  by_cases h : a.toNat = 47 <;> simp [h]
theorem slashes_esc (l : List UInt8) : slashes (esc l) = 0 := by
  induction l with
  | nil => rfl
  | cons a l ih =>
    rw [esc_cons, slashes_append, ih]
    by_cases h : keepN a.toNat = true
    · rw [escB_keep h]
      have : ¬ a.toNat = 47 := by intro e; rw [e] at h; exact absurd h (by decide)
      simp [slashes, this]
    · simp only [Bool.not_eq_true] at h
      rw [escB_esc h]
      have la := a.toNat_lt
      have h1 := hexD_toNat (a.toNat / 16) (by omega)
      have h2 := hexD_toNat (a.toNat % 16) (by omega)
      have n1 : ¬ (hexD (a.toNat / 16)).toNat = 47 := by rw [h1]; split <;> omega
      have n2 : ¬ (hexD (a.toNat % 16)).toNat = 47 := by rw [h2]; split <;> omega
      simp [slashes, n1, n2]

end Go.Proofs.Qxb6608690aDoor.Pl
