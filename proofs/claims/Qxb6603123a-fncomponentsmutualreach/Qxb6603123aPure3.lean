/-
  SEAT b6603123a: THE PLAIN LAWS OF 'FnComponentsMutualReach': counting, the search from one node.
-/
import Derived.Test.Qxb6603123aBuild
namespace Go.Proofs.Qxb6603123a
set_option linter.unusedVariables false

/-- How many below m satisfy P. -/
def cntP (P : Nat → Bool) : Nat → Nat
  | 0 => 0
  | m + 1 => cntP P m + (if P m then 1 else 0)

theorem cntP_congr {P Q : Nat → Bool} {m : Nat} (h : ∀ i, i < m → P i = Q i) : cntP P m = cntP Q m := by
  induction m with
  | zero => rfl
  | succ m ih => simp only [cntP]; rw [ih (fun i hi => h i (by omega)), h m (by omega)]

theorem cntP_more {P Q : Nat → Bool} {m c : Nat} (hc : c < m) (h : ∀ i, i < m → i ≠ c → P i = Q i) (h0 : P c = false) (h1 : Q c = true) : cntP Q m = cntP P m + 1 := by
  induction m with
  | zero => omega
  | succ m ih =>
    simp only [cntP]
    by_cases e : c = m
    · subst e
      rw [cntP_congr (fun i hi => (h i (by omega) (by omega)).symm), h0, h1]; simp
    · rw [ih (by omega) (fun i hi => h i (by omega)), h m (by omega) (fun x => e x.symm)]; omega

theorem cntP_all {P : Nat → Bool} {m : Nat} (h : ∀ i, i < m → P i = true) : cntP P m = m := by
  induction m with
  | zero => rfl
  | succ m ih => simp only [cntP]; rw [ih (fun i hi => h i (by omega)), h m (by omega)]; simp

theorem cntP_le (P : Nat → Bool) (m : Nat) : cntP P m ≤ m := by
  induction m with
  | zero => exact Nat.le_refl _
  | succ m ih =>
    simp only [cntP]
    by_cases e : P m = true
    · rw [if_pos e]; omega
    · rw [if_neg e]; omega

/-- The numbers that the first u nodes bear. -/
noncomputable def seen (comp : Nat → Nat) (u c : Nat) : Bool := @decide (∃ v, v < u ∧ comp v = c) (Classical.propDecidable _)

theorem seen_iff (comp : Nat → Nat) (u c : Nat) : seen comp u c = true ↔ ∃ v, v < u ∧ comp v = c := by
  unfold seen; exact @decide_eq_true_iff _ (Classical.propDecidable _)

theorem seen_zero (comp : Nat → Nat) (k : Nat) : cntP (seen comp 0) k = 0 := by
  induction k with
  | zero => rfl
  | succ k ih =>
    simp only [cntP]
    rw [ih]
    have : seen comp 0 k = false := by
      cases h : seen comp 0 k with
      | false => rfl
      | true => obtain ⟨v, hv, _⟩ := (seen_iff _ _ _).1 h; omega
    rw [this]; rfl

theorem seen_old {comp : Nat → Nat} {u k : Nat} (h : ∃ v, v < u ∧ comp v = comp u) : cntP (seen comp (u + 1)) k = cntP (seen comp u) k := by
  refine cntP_congr (fun i _ => ?_)
  rw [Bool.eq_iff_iff, seen_iff, seen_iff]
  constructor
  · rintro ⟨v, hv, e⟩
    by_cases ev : v = u
    · subst ev; obtain ⟨x, hx, ex⟩ := h; exact ⟨x, hx, by omega⟩
    · exact ⟨v, by omega, e⟩
  · rintro ⟨v, hv, e⟩; exact ⟨v, by omega, e⟩

theorem seen_new {comp : Nat → Nat} {u k : Nat} (hk : comp u < k) (h : ∀ v, v < u → comp v ≠ comp u) : cntP (seen comp (u + 1)) k = cntP (seen comp u) k + 1 := by
  refine cntP_more hk (fun i _ hne => ?_) ?_ ?_
  · rw [Bool.eq_iff_iff, seen_iff, seen_iff]
    constructor
    · rintro ⟨v, hv, e⟩; exact ⟨v, by omega, e⟩
    · rintro ⟨v, hv, e⟩
      by_cases ev : v = u
      · subst ev; exact absurd e.symm hne
      · exact ⟨v, by omega, e⟩
  · cases hh : seen comp u (comp u) with
    | false => rfl
    | true => obtain ⟨v, hv, e⟩ := (seen_iff _ _ _).1 hh; exact absurd e (h v hv)
  · exact (seen_iff _ _ _).2 ⟨u, by omega, rfl⟩

theorem seen_full {n k : Nat} {comp : Nat → Nat} (h : ∀ c, c < k → ∃ v, v < n ∧ comp v = c) : cntP (seen comp n) k = k :=
  cntP_all (fun i hi => (seen_iff _ _ _).2 (h i hi))

/-- The search from s: M marks, st is the stack; the edges of u are looked at as far as q (u = none: none is under way). -/
structure Ds (n : Nat) (adj : Nat → List Nat) (s : Nat) (M : Nat → Bool) (st : List Nat) (E : Nat → Nat → Prop) : Prop where
  src : M s = true
  sound : ∀ v, v < n → M v = true → Reach adj s v
  stk : ∀ x ∈ st, x < n ∧ M x = true
  closed : ∀ v, v < n → M v = true → v ∈ st ∨ ∀ y ∈ adj v, M y = true ∨ E v y
  room : st.length + cntP (fun v => !M v) n ≤ n

theorem Ds.start {n : Nat} {adj : Nat → List Nat} {s : Nat} (hs : s < n) : Ds n adj s (upd (fun _ => false) s true) [s] (fun _ _ => False) := by
  refine ⟨upd_same _ _ _, fun v hv h => ?_, fun x hx => ?_, fun v hv h => ?_, ?_⟩
  · by_cases e : v = s
    · subst e; exact Reach.refl _ _
    · rw [upd_other _ _ _ _ e] at h; cases h
  · have := List.mem_singleton.1 hx; subst this; exact ⟨hs, upd_same _ _ _⟩
  · by_cases e : v = s
    · subst e; exact .inl (by simp)
    · rw [upd_other _ _ _ _ e] at h; cases h
  · have h1 : cntP (fun _ => true) n = n := cntP_all (fun _ _ => rfl)
    have h2 := cntP_more (P := fun v => !(upd (fun _ => false) s true) v) (Q := fun _ => true) hs (fun i hi hne => by simp [upd_other _ _ _ _ hne]) (by simp [upd_same]) rfl
    simp only [List.length_singleton]; omega

/-- u is taken off the stack. -/
theorem Ds.pop {n : Nat} {adj : Nat → List Nat} {s u : Nat} {M : Nat → Bool} {st : List Nat} (h : Ds n adj s M (st ++ [u]) (fun _ _ => False)) : Ds n adj s M st (fun v y => v = u ∧ y ∈ (adj u).drop 0) := by
  refine ⟨h.src, h.sound, fun x hx => h.stk x (by simp [hx]), fun v hv hm => ?_, ?_⟩
  · rcases h.closed v hv hm with h1 | h1
    · rw [List.mem_append] at h1
      rcases h1 with h1 | h1
      · exact .inl h1
      · have := List.mem_singleton.1 h1
        subst this
        exact .inr (fun y hy => .inr ⟨rfl, by simpa using hy⟩)
    · refine .inr (fun y hy => ?_)
      rcases h1 y hy with h2 | h2
      · exact .inl h2
      · exact h2.elim
  · have := h.room; simp at this; omega

theorem drop_split {l : List Nat} {q v y : Nat} (hq : q < l.length) (e : l.getD q 0 = v) (hy : y ∈ l.drop q) : y = v ∨ y ∈ l.drop (q + 1) := by
  rw [List.drop_eq_getElem_cons hq] at hy
  rcases List.mem_cons.1 hy with h | h
  · left; rw [h, ← e]; simp [List.getD, hq]
  · exact .inr h

/-- An edge to a marked node. -/
theorem Ds.old {n : Nat} {adj : Nat → List Nat} {s u q v : Nat} {M : Nat → Bool} {st : List Nat} (h : Ds n adj s M st (fun x y => x = u ∧ y ∈ (adj u).drop q)) (hq : q < (adj u).length) (e : (adj u).getD q 0 = v) (hm : M v = true) :
    Ds n adj s M st (fun x y => x = u ∧ y ∈ (adj u).drop (q + 1)) := by
  refine ⟨h.src, h.sound, h.stk, fun x hx hmx => ?_, h.room⟩
  rcases h.closed x hx hmx with h1 | h1
  · exact .inl h1
  · refine .inr (fun y hy => ?_)
    rcases h1 y hy with h2 | ⟨h2, h3⟩
    · exact .inl h2
    · rcases drop_split hq e h3 with h4 | h4
      · rw [h4]; exact .inl hm
      · exact .inr ⟨h2, h4⟩

/-- An edge to a node without a mark: it is marked, and laid on the stack. -/
theorem Ds.new {n : Nat} {adj : Nat → List Nat} {s u q v : Nat} {M : Nat → Bool} {st : List Nat} (h : Ds n adj s M st (fun x y => x = u ∧ y ∈ (adj u).drop q)) (hu : u < n) (hmu : M u = true) (hq : q < (adj u).length) (e : (adj u).getD q 0 = v) (hv : v < n) (hm : M v = false) :
    Ds n adj s (upd M v true) (st ++ [v]) (fun x y => x = u ∧ y ∈ (adj u).drop (q + 1)) := by
  have mono : ∀ x, M x = true → upd M v true x = true := by
    intro x hx
    by_cases ex : x = v
    · rw [ex, upd_same]
    · rw [upd_other _ _ _ _ ex]; exact hx
  have hvu : v ∈ adj u := by rw [← e]; simp [List.getD, hq]
  refine ⟨mono _ h.src, fun x hx hmx => ?_, fun x hx => ?_, fun x hx hmx => ?_, ?_⟩
  · by_cases ex : x = v
    · rw [ex]; exact (h.sound u hu hmu).trans (Reach.edge hvu)
    · rw [upd_other _ _ _ _ ex] at hmx; exact h.sound x hx hmx
  · rw [List.mem_append] at hx
    rcases hx with hx | hx
    · exact ⟨(h.stk x hx).1, mono x (h.stk x hx).2⟩
    · rw [List.mem_singleton.1 hx]; exact ⟨hv, upd_same _ _ _⟩
  · by_cases ex : x = v
    · rw [ex]; exact .inl (by simp)
    · rw [upd_other _ _ _ _ ex] at hmx
      rcases h.closed x hx hmx with h1 | h1
      · exact .inl (by simp [h1])
      · refine .inr (fun y hy => ?_)
        rcases h1 y hy with h2 | ⟨h2, h3⟩
        · exact .inl (mono y h2)
        · rcases drop_split hq e h3 with h4 | h4
          · rw [h4]; exact .inl (upd_same _ _ _)
          · exact .inr ⟨h2, h4⟩
  · have h2 := cntP_more (P := fun x => !(upd M v true) x) (Q := fun x => !M x) hv (fun i hi hne => by simp [upd_other _ _ _ _ hne]) (by simp [upd_same]) (by simp [hm])
    have := h.room
    simp only [List.length_append, List.length_singleton]; omega

/-- All edges of u have been looked at. -/
theorem Ds.next {n : Nat} {adj : Nat → List Nat} {s u : Nat} {M : Nat → Bool} {st : List Nat} (h : Ds n adj s M st (fun x y => x = u ∧ y ∈ (adj u).drop (adj u).length)) : Ds n adj s M st (fun _ _ => False) := by
  refine ⟨h.src, h.sound, h.stk, fun x hx hmx => ?_, h.room⟩
  rcases h.closed x hx hmx with h1 | h1
  · exact .inl h1
  · refine .inr (fun y hy => ?_)
    rcases h1 y hy with h2 | ⟨h2, h3⟩
    · exact .inl h2
    · simp at h3

theorem Ds.done {n : Nat} {adj : Nat → List Nat} {s : Nat} {M : Nat → Bool} (h : Ds n adj s M [] (fun _ _ => False)) (hs : s < n) (hadj : ∀ v, v < n → ∀ y ∈ adj v, y < n) (v : Nat) (hv : v < n) : M v = true ↔ Reach adj s v := by
  refine ⟨h.sound v hv, fun hr => ?_⟩
  refine (Reach.closed (P := fun x => x < n ∧ M x = true) ?_ hr ⟨hs, h.src⟩).2
  rintro x ⟨hx, hm⟩ y hy
  refine ⟨hadj x hx y hy, ?_⟩
  rcases h.closed x hx hm with h1 | h1
  · simp at h1
  · rcases h1 y hy with h2 | h2
    · exact h2
    · exact h2.elim
end Go.Proofs.Qxb6603123a
