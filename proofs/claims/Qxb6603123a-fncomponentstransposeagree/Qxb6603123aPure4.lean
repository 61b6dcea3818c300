/-
  SEAT b6603123a: THE PLAIN LAW OF 'FnComponentsTransposeAgree'.
-/
import Derived.Test.Qxb6603123aBuild
import Derived.Test.Qxb6603123aTrans
namespace Go.Proofs.Qxb6603123a
open Go.ChangeShapes Go.WideShapes Go.ChangeAt Go.RowKit
set_option linter.unusedVariables false

theorem inj_le : ∀ (k1 k2 : Nat) (f : Nat → Nat), (∀ i, i < k2 → f i < k1) → (∀ i j, i < k2 → j < k2 → f i = f j → i = j) → k2 ≤ k1 := by
  intro k1
  induction k1 with
  | zero =>
    intro k2 f h _
    by_cases e : 0 < k2
    · have := h 0 e; omega
    · omega
  | succ k1 ih =>
    intro k2 f h hi
    cases k2 with
    | zero => omega
    | succ m =>
      have := ih m (fun i => if f i = k1 then f m else f i) (fun i hm => by
        show (if f i = k1 then f m else f i) < k1
        by_cases e : f i = k1
        · rw [if_pos e]
          have h1 := h m (by omega)
          by_cases e2 : f m = k1
          · have := hi i m (by omega) (by omega) (by omega); omega
          · omega
        · rw [if_neg e]; have := h i (by omega); omega) (fun i j hm hm' he => by
        replace he : (if f i = k1 then f m else f i) = (if f j = k1 then f m else f j) := he
        by_cases e : f i = k1
        · by_cases e2 : f j = k1
          · exact hi i j (by omega) (by omega) (by omega)
          · rw [if_pos e, if_neg e2] at he
            have := hi m j (by omega) (by omega) he; omega
        · by_cases e2 : f j = k1
          · rw [if_neg e, if_pos e2] at he
            have := hi i m (by omega) (by omega) he; omega
          · rw [if_neg e, if_neg e2] at he
            exact hi i j (by omega) (by omega) he)
      omega

theorem inRange_mem {n : Nat} {T : Nat → List Int} (h : InRange n T) {i : Nat} (hi : i < n) {x : Int} (hx : x ∈ T i) : 0 ≤ x ∧ x < n := by
  obtain ⟨j, hj, e⟩ := List.getElem_of_mem hx
  have := h i hi j hj
  simp [List.getD, hj, e] at this
  exact this

theorem adjOf_mem {n : Nat} {T : Nat → List Int} (h : InRange n T) {i : Nat} (hi : i < n) (v : Nat) : v ∈ adjOf T i ↔ (v : Int) ∈ T i := by
  unfold adjOf
  rw [List.mem_map]
  constructor
  · rintro ⟨x, hx, e⟩
    have := inRange_mem h hi hx
    rw [← e, Int.toNat_of_nonneg this.1]; exact hx
  · intro hx
    exact ⟨_, hx, by simp⟩

theorem adjOf_lt {n : Nat} {T : Nat → List Int} (h : InRange n T) {i : Nat} (hi : i < n) {v : Nat} (hv : v ∈ adjOf T i) : v < n := by
  have := inRange_mem h hi ((adjOf_mem h hi v).1 hv); omega

theorem TI.inRange {n : Nat} {T L : Nat → List Int} (h : TI n T L n 0) : InRange n L := by
  intro i hi j hj
  have hm : (L i).getD j 0 ∈ L i := by simp [List.getD, hj]
  obtain ⟨a, e, h1 | h1⟩ := (h.mem i hi _).1 hm
  · omega
  · have := h1.2; simp at this

theorem TI.adj {n : Nat} {T L : Nat → List Int} (h : TI n T L n 0) (hin : InRange n T) {v : Nat} (hv : v < n) (x : Nat) : x ∈ adjOf L v ↔ x < n ∧ v ∈ adjOf T x := by
  rw [adjOf_mem h.inRange hv, h.mem v hv]
  constructor
  · rintro ⟨a, e, h1 | h1⟩
    · have : x = a := by omega
      subst this
      exact ⟨h1.1, (adjOf_mem hin h1.1 v).2 h1.2⟩
    · have := h1.2; simp at this
  · rintro ⟨h1, h2⟩
    exact ⟨x, rfl, .inl ⟨h1, (adjOf_mem hin h1 v).1 h2⟩⟩

theorem TI.back {n : Nat} {T L : Nat → List Int} (h : TI n T L n 0) (hin : InRange n T) {u v : Nat} (hu : u < n) (hr : Reach (adjOf L) u v) : Reach (adjOf T) v u := by
  refine (Reach.closed (P := fun x => x < n ∧ Reach (adjOf T) x u) ?_ hr ⟨hu, Reach.refl _ _⟩).2
  rintro x ⟨hx, hxu⟩ y hy
  obtain ⟨h1, h2⟩ := (h.adj hin hx y).1 hy
  exact ⟨h1, (Reach.edge h2).trans hxu⟩

theorem TI.forth {n : Nat} {T L : Nat → List Int} (h : TI n T L n 0) (hin : InRange n T) {u v : Nat} (hu : u < n) (hr : Reach (adjOf T) u v) : Reach (adjOf L) v u := by
  refine (Reach.closed (P := fun x => x < n ∧ Reach (adjOf L) x u) ?_ hr ⟨hu, Reach.refl _ _⟩).2
  rintro x ⟨hx, hxu⟩ y hy
  have hyn := adjOf_lt hin hx hy
  exact ⟨hyn, (Reach.edge ((h.adj hin hyn x).2 ⟨hx, hy⟩)).trans hxu⟩

/-- What the two numberings satisfy together. -/
structure Agree (n : Nat) (T : Nat → List Int) (c1 c2 : Nat → Nat) (k : Nat) : Prop where
  lt1 : ∀ u, u < n → c1 u < k
  lt2 : ∀ u, u < n → c2 u < k
  same : ∀ u v, u < n → v < n → (c1 u = c1 v ↔ c2 u = c2 v)
  topo1 : ∀ u, u < n → ∀ v : Nat, (v : Int) ∈ T u → c1 v ≤ c1 u
  topo2 : ∀ u, u < n → ∀ v : Nat, (v : Int) ∈ T u → c2 u ≤ c2 v
  dense : ∀ c, c < k → ∃ v, v < n ∧ c1 v = c
  le : k ≤ n

theorem agree_of {n : Nat} {T L : Nat → List Int} {c1 c2 : Nat → Nat} {k1 k2 : Nat} (h : TI n T L n 0) (hin : InRange n T) (h1 : SccSpec n (adjOf T) c1 k1) (h2 : SccSpec n (adjOf L) c2 k2) : Agree n T c1 c2 k1 := by
  have same : ∀ u v, u < n → v < n → (c1 u = c1 v ↔ c2 u = c2 v) := by
    intro u v hu hv
    rw [h1.scc u v hu hv, h2.scc u v hu hv]
    constructor
    · rintro ⟨a, b⟩; exact ⟨h.forth hin hv b, h.forth hin hu a⟩
    · rintro ⟨a, b⟩; exact ⟨h.back hin hv b, h.back hin hu a⟩
  have hk : k2 ≤ k1 := by
    refine inj_le k1 k2 (fun c => if hc : c < k2 then c1 (Classical.choose (h2.dense c hc)) else 0) (fun i hi => ?_) (fun i j hi hj e => ?_)
    · show (if hc : i < k2 then c1 (Classical.choose (h2.dense i hc)) else 0) < k1
      rw [dif_pos hi]
      exact h1.lt _ (Classical.choose_spec (h2.dense i hi)).1
    · replace e : (if hc : i < k2 then c1 (Classical.choose (h2.dense i hc)) else 0) = (if hc : j < k2 then c1 (Classical.choose (h2.dense j hc)) else 0) := e
      rw [dif_pos hi, dif_pos hj] at e
      have si := Classical.choose_spec (h2.dense i hi)
      have sj := Classical.choose_spec (h2.dense j hj)
      have := (same _ _ si.1 sj.1).1 e
      rw [si.2, sj.2] at this
      exact this
  refine ⟨h1.lt, fun u hu => Nat.lt_of_lt_of_le (h2.lt u hu) hk, same, fun u hu v hv => h1.topo u hu v ((adjOf_mem hin hu v).2 hv), fun u hu v hv => ?_, h1.dense, h1.le⟩
  have hvn := (inRange_mem hin hu hv).2
  have hvn : v < n := by omega
  exact h2.topo v hvn u ((h.adj hin hvn u).2 ⟨hu, (adjOf_mem hin hu v).2 hv⟩)

/-- The number that the first u nodes give to a; -1 where none does. -/
def mate (c1 c2 : Nat → Nat) : Nat → Nat → Int
  | 0, _ => -1
  | u + 1, a => if a = c1 u then (c2 u : Int) else mate c1 c2 u a

theorem mate_cases (c1 c2 : Nat → Nat) (u a : Nat) : (mate c1 c2 u a = -1 ∧ ∀ x, x < u → c1 x ≠ a) ∨ (∃ x, x < u ∧ c1 x = a ∧ mate c1 c2 u a = c2 x) := by
  induction u with
  | zero => exact .inl ⟨rfl, fun x hx => absurd hx (by omega)⟩
  | succ u ih =>
    by_cases e : a = c1 u
    · exact .inr ⟨u, by omega, e.symm, by simp [mate, e]⟩
    · have hm : mate c1 c2 (u + 1) a = mate c1 c2 u a := by simp [mate, e]
      rw [hm]
      rcases ih with ⟨h1, h2⟩ | ⟨x, hx, h1, h2⟩
      · refine .inl ⟨h1, fun x hx => ?_⟩
        by_cases ex : x = u
        · subst ex; exact fun h => e h.symm
        · exact h2 x (by omega)
      · exact .inr ⟨x, by omega, h1, h2⟩

theorem mate_at {n : Nat} {c1 c2 : Nat → Nat} (same : ∀ u v, u < n → v < n → (c1 u = c1 v → c2 u = c2 v)) {u : Nat} (hu : u < n) : mate c1 c2 u (c1 u) = -1 ∨ mate c1 c2 u (c1 u) = c2 u := by
  rcases mate_cases c1 c2 u (c1 u) with ⟨h, _⟩ | ⟨x, hx, h1, h2⟩
  · exact .inl h
  · exact .inr (by rw [h2, same x u (by omega) hu h1])

theorem mate_keep {c1 c2 : Nat → Nat} {u : Nat} (h : mate c1 c2 u (c1 u) = c2 u) (a : Nat) : mate c1 c2 (u + 1) a = mate c1 c2 u a := by
  simp only [mate]
  by_cases e : a = c1 u
  · rw [if_pos e, e, h]
  · rw [if_neg e]

theorem Agree.mate_sign {n : Nat} {T : Nat → List Int} {c1 c2 : Nat → Nat} {k : Nat} (h : Agree n T c1 c2 k) (a : Nat) : (a < k → 0 ≤ mate c1 c2 n a) ∧ (k ≤ a → mate c1 c2 n a = -1) := by
  constructor
  · intro ha
    obtain ⟨v, hv, e⟩ := h.dense a ha
    rcases mate_cases c1 c2 n a with ⟨_, h2⟩ | ⟨x, hx, h1, h2⟩
    · exact absurd e (h2 v hv)
    · omega
  · intro ha
    rcases mate_cases c1 c2 n a with ⟨h1, h2⟩ | ⟨x, hx, h1, h2⟩
    · exact h1
    · have := h.lt1 x hx; omega
end Go.Proofs.Qxb6603123a
