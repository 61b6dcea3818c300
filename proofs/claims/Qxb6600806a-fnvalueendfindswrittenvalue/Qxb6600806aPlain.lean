/-
  THE PLAIN MATHEMATICS OF SEAT b6600806a: two scanners over lists of bytes. No Go in sight.
-/
namespace Go.Proofs.Qxb6600806a

/-- White space of JSON. -/
def spB (b : Int) : Bool := b == 32 || b == 9 || b == 10 || b == 13
/-- What ends a scalar. -/
def stopB (b : Int) : Bool := spB b || b == 44 || b == 125
/-- What opens a string, an object, an array. -/
def opensB (b : Int) : Bool := b == 34 || b == 123 || b == 91

/-- The string scanner behind the opening quote (the flag: just behind a backslash): how many bytes up to and with the closing quote. -/
def aEnd : Bool → List Int → Option Nat
  | _, [] => none
  | true, _ :: r => (aEnd false r).map (· + 1)
  | false, c :: r => if c = 34 then some 1 else if c = 92 then (aEnd true r).map (· + 1) else (aEnd false r).map (· + 1)

/-- The one-pass machine: depth, inside a string, just behind a backslash. -/
def nEnd : Int → Bool → Bool → List Int → Option Nat
  | _, _, _, [] => none
  | dep, true, true, _ :: r => (nEnd dep true false r).map (· + 1)
  | dep, true, false, c :: r => if c = 92 then (nEnd dep true true r).map (· + 1) else if c = 34 then (if dep = 0 then some 1 else (nEnd dep false false r).map (· + 1)) else (nEnd dep true false r).map (· + 1)
  | dep, false, e, c :: r => if c = 34 then (nEnd dep true e r).map (· + 1) else if c = 123 ∨ c = 91 then (nEnd (dep + 1) false e r).map (· + 1) else if c = 125 ∨ c = 93 then (if dep - 1 = 0 then some 1 else (nEnd (dep - 1) false e r).map (· + 1)) else (nEnd dep false e r).map (· + 1)

theorem drop_at (d : List Int) (i : Nat) (h : i < d.length) : d.drop i = d.getD i 0 :: d.drop (i + 1) := by
  rw [List.drop_eq_getElem_cons h]
  simp [List.getD, h]

theorem aEnd_drop (d : List Int) (e : Bool) (i : Nat) (h : ¬ i < d.length) : aEnd e (d.drop i) = none := by
  rw [List.drop_eq_nil_of_le (by omega)]; cases e <;> rfl
theorem nEnd_drop (d : List Int) (dep : Int) (s e : Bool) (i : Nat) (h : ¬ i < d.length) : nEnd dep s e (d.drop i) = none := by
  rw [List.drop_eq_nil_of_le (by omega)]; cases s <;> cases e <;> rfl

theorem aEnd_pos {e : Bool} {l : List Int} {k : Nat} (h : aEnd e l = some k) : 1 ≤ k ∧ k ≤ l.length := by
  induction l generalizing e k with
  | nil => simp [aEnd] at h
  | cons c r ih =>
    cases e with
    | true =>
      simp only [aEnd, Option.map_eq_some_iff] at h
      obtain ⟨j, hj, rfl⟩ := h
      have := ih hj; simp; omega
    | false =>
      simp only [aEnd] at h
      split at h
      · simp at h; subst h; simp
      · split at h
        · simp only [Option.map_eq_some_iff] at h
          obtain ⟨j, hj, rfl⟩ := h
          have := ih hj; simp; omega
        · simp only [Option.map_eq_some_iff] at h
          obtain ⟨j, hj, rfl⟩ := h
          have := ih hj; simp; omega

theorem nEnd_pos {dep : Int} {s e : Bool} {l : List Int} {k : Nat} (h : nEnd dep s e l = some k) : 1 ≤ k ∧ k ≤ l.length := by
  induction l generalizing dep s e k with
  | nil => simp [nEnd] at h
  | cons c r ih =>
    have fin : ∀ {dep' : Int} {s' e' : Bool}, (nEnd dep' s' e' r).map (· + 1) = some k → 1 ≤ k ∧ k ≤ (c :: r).length := by
      intro dep' s' e' h
      simp only [Option.map_eq_some_iff] at h
      obtain ⟨j, hj, rfl⟩ := h
      have := ih hj; simp; omega
    have one : some 1 = some k → 1 ≤ k ∧ k ≤ (c :: r).length := by
      intro h; simp at h; subst h; simp
    cases s with
    | true =>
      cases e with
      | true => exact fin h
      | false =>
        simp only [nEnd] at h
        split at h
        · exact fin h
        · split at h
          · split at h
            · exact one h
            · exact fin h
          · exact fin h
    | false =>
      simp only [nEnd] at h
      split at h
      · exact fin h
      · split at h
        · exact fin h
        · split at h
          · split at h
            · exact one h
            · exact fin h
          · exact fin h

/-- Inside a string at depth 0 the machine is the string scanner. -/
theorem nEnd_zero (e : Bool) (l : List Int) : nEnd 0 true e l = aEnd e l := by
  induction l generalizing e with
  | nil => cases e <;> rfl
  | cons c r ih =>
    cases e with
    | true => simp only [nEnd, aEnd, ih]
    | false =>
      simp only [nEnd, aEnd, ih]
      by_cases h1 : c = 34
      · subst h1; simp
      · simp [h1]

/-- Inside a string at another depth: first the string, then the rest. -/
theorem nEnd_str {dep : Int} (hd : dep ≠ 0) {e : Bool} {l : List Int} {k : Nat} (h : nEnd dep true e l = some k) :
    ∃ j k', aEnd e l = some j ∧ nEnd dep false false (l.drop j) = some k' ∧ k = j + k' := by
  induction l generalizing e k with
  | nil => simp [nEnd] at h
  | cons c r ih =>
    have fin : ∀ {e' : Bool}, (nEnd dep true e' r).map (· + 1) = some k → ∃ j k', (aEnd e' r).map (· + 1) = some j ∧ nEnd dep false false ((c :: r).drop j) = some k' ∧ k = j + k' := by
      intro e' h
      simp only [Option.map_eq_some_iff] at h
      obtain ⟨m, hm, rfl⟩ := h
      obtain ⟨j, k', h1, h2, rfl⟩ := ih hm
      exact ⟨j + 1, k', by simp [h1], by simpa using h2, by omega⟩
    cases e with
    | true => exact fin h
    | false =>
      simp only [nEnd, hd, if_false] at h
      simp only [aEnd]
      by_cases h1 : c = 34
      · subst h1
        simp at h
        obtain ⟨m, hm, rfl⟩ := h
        exact ⟨1, m, by simp, by simpa using hm, by omega⟩
      · simp only [h1, if_false] at h ⊢
        by_cases h2 : c = 92
        · simp only [h2, if_true] at h ⊢
          subst h2; exact fin h
        · simp only [h2, if_false] at h ⊢
          exact fin h

/-- A string's end needs no byte past it. -/
theorem aEnd_take {e : Bool} {l : List Int} {k : Nat} (h : aEnd e l = some k) : aEnd e (l.take k) = some k := by
  induction l generalizing e k with
  | nil => simp [aEnd] at h
  | cons c r ih =>
    cases e with
    | true =>
      simp only [aEnd, Option.map_eq_some_iff] at h
      obtain ⟨j, hj, rfl⟩ := h
      simp [aEnd, ih hj]
    | false =>
      simp only [aEnd] at h
      by_cases h1 : c = 34
      · simp [h1] at h; subst h; simp [aEnd, h1]
      · by_cases h2 : c = 92
        · simp [h2] at h
          obtain ⟨j, hj, rfl⟩ := h
          simp [aEnd, h2, ih hj]
        · simp [h1, h2] at h
          obtain ⟨j, hj, rfl⟩ := h
          simp [aEnd, h1, h2, ih hj]

theorem nEnd_take {dep : Int} {s e : Bool} {l : List Int} {k : Nat} (h : nEnd dep s e l = some k) : nEnd dep s e (l.take k) = some k := by
  induction l generalizing dep s e k with
  | nil => simp [nEnd] at h
  | cons c r ih =>
    cases s with
    | true =>
      cases e with
      | true =>
        simp only [nEnd, Option.map_eq_some_iff] at h
        obtain ⟨j, hj, rfl⟩ := h
        simp [nEnd, ih hj]
      | false =>
        simp only [nEnd] at h
        by_cases h2 : c = 92
        · simp [h2] at h
          obtain ⟨j, hj, rfl⟩ := h
          simp [nEnd, h2, ih hj]
        · by_cases h1 : c = 34
          · by_cases h0 : dep = 0
            · simp [h1, h0] at h; subst h; simp [nEnd, h1, h0]
            · simp [h1, h0] at h
              obtain ⟨j, hj, rfl⟩ := h
              simp [nEnd, h1, h0, ih hj]
          · simp [h1, h2] at h
            obtain ⟨j, hj, rfl⟩ := h
            simp [nEnd, h1, h2, ih hj]
    | false =>
      simp only [nEnd] at h
      by_cases h1 : c = 34
      · simp [h1] at h
        obtain ⟨j, hj, rfl⟩ := h
        simp [nEnd, h1, ih hj]
      · by_cases h2 : c = 123 ∨ c = 91
        · simp only [h1, h2, if_false, if_true, Option.map_eq_some_iff] at h
          obtain ⟨j, hj, rfl⟩ := h
          simp [nEnd, h1, h2, ih hj]
        · by_cases h3 : c = 125 ∨ c = 93
          · by_cases h0 : dep - 1 = 0
            · simp only [h1, h2, h3, h0, if_false, if_true, Option.some.injEq] at h
              subst h; simp [nEnd, h1, h2, h3, h0]
            · simp only [h1, h2, h3, h0, if_false, if_true, Option.map_eq_some_iff] at h
              obtain ⟨j, hj, rfl⟩ := h
              simp [nEnd, h1, h2, h3, h0, ih hj]
          · simp only [h1, h2, h3, if_false, Option.map_eq_some_iff] at h
            obtain ⟨j, hj, rfl⟩ := h
            simp [nEnd, h1, h2, h3, ih hj]

/-! ### The scanner at a place -/
theorem aEnd_quote {d : List Int} {i m : Nat} (h : aEnd false (d.drop i) = some m) (hi : i < d.length) (hx : d.getD i 0 = 34) : m = 1 := by
  rw [drop_at d i hi, hx] at h
  simpa [aEnd] using h.symm
theorem aEnd_lt {d : List Int} {e : Bool} {i m : Nat} (h : aEnd e (d.drop i) = some m) : i < d.length := by
  have := aEnd_pos h
  simp at this; omega
theorem aEnd_plain {d : List Int} {i m : Nat} (h : aEnd false (d.drop i) = some m) (hi : i < d.length) (h1 : ¬ d.getD i 0 = 34) (h2 : ¬ d.getD i 0 = 92) :
    i + 1 < d.length ∧ ∃ j, aEnd false (d.drop (i + 1)) = some j ∧ m = j + 1 := by
  rw [drop_at d i hi] at h
  simp only [aEnd, h1, h2, if_false, Option.map_eq_some_iff] at h
  obtain ⟨j, hj, rfl⟩ := h
  exact ⟨aEnd_lt hj, j, hj, rfl⟩
theorem aEnd_back {d : List Int} {i m : Nat} (h : aEnd false (d.drop i) = some m) (hi : i < d.length) (h2 : d.getD i 0 = 92) :
    i + 2 < d.length ∧ ∃ j, aEnd false (d.drop (i + 2)) = some j ∧ m = j + 2 := by
  rw [drop_at d i hi, h2] at h
  simp [aEnd] at h
  obtain ⟨n, hn, rfl⟩ := h
  rw [drop_at d (i + 1) (aEnd_lt hn)] at hn
  simp only [aEnd, Option.map_eq_some_iff] at hn
  obtain ⟨j, hj, rfl⟩ := hn
  exact ⟨aEnd_lt hj, j, hj, rfl⟩

/-! ### The run of backslashes just before a place -/
/-- How many backslashes end just before place 'at + 1 + m', counted back to 'at + 1'. -/
def runN (d : List Int) (a : Nat) : Nat → Nat
  | 0 => 0
  | m + 1 => if d.getD (a + 1 + m) 0 = 92 then runN d a m + 1 else 0
theorem runN_le (d : List Int) (a m : Nat) : runN d a m ≤ m := by
  induction m with
  | zero => exact Nat.le_refl _
  | succ m ih => simp only [runN]; split <;> omega
def escB (d : List Int) (a m : Nat) : Bool := decide (runN d a m % 2 = 1)

/-- One step of the scanner behind place 'a + 1 + m': unless a closing quote stands there. -/
theorem aEnd_esc_step (d : List Int) (a m : Nat) (h : a + 1 + m < d.length) (hq : ¬ (d.getD (a + 1 + m) 0 = 34 ∧ runN d a m % 2 = 0)) :
    aEnd (escB d a m) (d.drop (a + 1 + m)) = (aEnd (escB d a (m + 1)) (d.drop (a + 1 + (m + 1)))).map (· + 1) := by
  rw [drop_at d _ h, show a + 1 + m + 1 = a + 1 + (m + 1) by omega]
  unfold escB
  simp only [runN]
  by_cases h1 : runN d a m % 2 = 1
  · by_cases h2 : d.getD (a + 1 + m) 0 = 92
    · have : ¬ (runN d a m + 1) % 2 = 1 := by omega
      simp only [List.getD_eq_getElem?_getD] at h2
      simp [h1, h2, this, aEnd]
    · simp only [List.getD_eq_getElem?_getD] at h2
      simp [h1, h2, aEnd]
  · have h0 : runN d a m % 2 = 0 := by omega
    have h3 : ¬ d.getD (a + 1 + m) 0 = 34 := fun h => hq ⟨h, h0⟩
    simp only [List.getD_eq_getElem?_getD] at h3
    by_cases h2 : d.getD (a + 1 + m) 0 = 92
    · have : (runN d a m + 1) % 2 = 1 := by omega
      simp only [List.getD_eq_getElem?_getD] at h2
      simp [h1, h2, this, aEnd]
    · simp only [List.getD_eq_getElem?_getD] at h2
      simp [h1, h2, h3, aEnd]

theorem aEnd_esc_hit (d : List Int) (a m : Nat) (h : a + 1 + m < d.length) (hq : d.getD (a + 1 + m) 0 = 34 ∧ runN d a m % 2 = 0) :
    aEnd (escB d a m) (d.drop (a + 1 + m)) = some 1 := by
  rw [drop_at d _ h, hq.1]
  have : ¬ runN d a m % 2 = 1 := by omega
  simp [escB, this, aEnd]

/-! ### A written string -/
def escL : List Int → List Int
  | [] => []
  | c :: r => if c = 34 ∨ c = 92 then 92 :: c :: escL r else c :: escL r
theorem aEnd_escL (c t : List Int) : aEnd false (escL c ++ 34 :: t) = some ((escL c).length + 1) := by
  induction c with
  | nil => simp [escL, aEnd]
  | cons x r ih =>
    simp only [escL]
    split
    · simp [aEnd, ih]
    · rename_i h
      have h1 : ¬ x = 34 := fun e => h (.inl e)
      have h2 : ¬ x = 92 := fun e => h (.inr e)
      simp [aEnd, h1, h2, ih]
theorem escL_append (a b : List Int) : escL (a ++ b) = escL a ++ escL b := by
  induction a with
  | nil => rfl
  | cons c r ih => simp only [List.cons_append, escL, ih]; split <;> simp
theorem escL_len (a : List Int) : (escL a).length ≤ 2 * a.length := by
  induction a with
  | nil => simp [escL]
  | cons c r ih => simp only [escL]; split <;> simp <;> omega

theorem take_snoc (d : List Int) (k : Nat) (h : k < d.length) : d.take (k + 1) = d.take k ++ [d.getD k 0] := by
  rw [List.take_succ_eq_append_getElem h]; simp [List.getD, h]
theorem escL_take_esc (d : List Int) (k : Nat) (h : k < d.length) (hx : d.getD k 0 = 34 ∨ d.getD k 0 = 92) : escL (d.take (k + 1)) = escL (d.take k) ++ [92, d.getD k 0] := by
  rw [take_snoc d k h, escL_append]
  generalize d.getD k 0 = x at hx
  simp [escL, hx]
theorem escL_take_plain (d : List Int) (k : Nat) (h : k < d.length) (hx : ¬ (d.getD k 0 = 34 ∨ d.getD k 0 = 92)) : escL (d.take (k + 1)) = escL (d.take k) ++ [d.getD k 0] := by
  rw [take_snoc d k h, escL_append]
  generalize d.getD k 0 = x at hx
  simp [escL, hx]

end Go.Proofs.Qxb6600806a
