/-
  THE PLAIN MATHEMATICS OF SEAT b6600806a, THE SECOND PART: what the small writer keeps. No Go in sight.
-/
import Derived.Test.Qxb6600806aPlain
namespace Go.Proofs.Qxb6600806a

/-- A text that the machine, outside strings and at a depth that is not 0, passes over. -/
def Passes (t : List Int) : Prop := ∀ (dep : Int), dep ≠ 0 → ∀ rest, nEnd dep false false (t ++ rest) = (nEnd dep false false rest).map (· + t.length)

theorem map_map_add (o : Option Nat) (a b : Nat) : (o.map (· + a)).map (· + b) = o.map (· + (a + b)) := by
  cases o <;> simp; omega

theorem Passes.append {s t : List Int} (hs : Passes s) (ht : Passes t) : Passes (s ++ t) := by
  intro dep hd rest
  rw [List.append_assoc, hs dep hd, ht dep hd, map_map_add, List.length_append, Nat.add_comm]

theorem passes_comma : Passes [44] := by
  intro dep hd rest; simp [nEnd]
theorem passes_key : Passes [34, 107, 92, 34, 125, 34, 58] := by
  intro dep hd rest; simp [nEnd, hd]; cases nEnd dep false false rest <;> simp
theorem passes_three : Passes [34, 97, 92, 34, 93, 125, 92, 92, 34] := by
  intro dep hd rest; simp [nEnd, hd]; cases nEnd dep false false rest <;> simp
theorem passes_four : Passes [34, 123, 91, 92, 92, 92, 34, 34] := by
  intro dep hd rest; simp [nEnd, hd]; cases nEnd dep false false rest <;> simp
theorem passes_five : Passes [45, 49, 50, 46, 53, 101, 51] := by
  intro dep hd rest; simp [nEnd]; cases nEnd dep false false rest <;> simp
theorem passes_null : Passes [110, 117, 108, 108] := by
  intro dep hd rest; simp [nEnd]; cases nEnd dep false false rest <;> simp
theorem passes_one (p : Int) (h1 : p ≠ 34) (h2 : p ≠ 92) : Passes [34, p, 34] := by
  intro dep hd rest; simp [nEnd, hd, h1, h2]; cases nEnd dep false false rest <;> simp
theorem passes_esc (p : Int) : Passes [34, 92, p, 34] := by
  intro dep hd rest; simp [nEnd, hd]; cases nEnd dep false false rest <;> simp

/-- WHAT THE WRITER KEEPS: 'out' is written, 'cl' are the closers of what is open. -/
def InvW (out cl : List Int) : Prop :=
  1 ≤ cl.length ∧ (∀ c ∈ cl, c = 93 ∨ c = 125) ∧ (∀ rest, nEnd 0 false false (out ++ rest) = (nEnd cl.length false false rest).map (· + out.length)) ∧ out.head? = some 91
theorem head_append {out t : List Int} (h : out.head? = some 91) : (out ++ t).head? = some 91 := by
  cases out with
  | nil => simp at h
  | cons a r => simpa using h

theorem InvW.start : InvW [91] [93] := by
  refine ⟨by simp, by simp, fun rest => ?_, rfl⟩
  simp [nEnd]

theorem InvW.pass {out cl t : List Int} (h : InvW out cl) (ht : Passes t) : InvW (out ++ t) cl := by
  obtain ⟨h1, h2, h3, h4⟩ := h
  refine ⟨h1, h2, fun rest => ?_, head_append h4⟩
  rw [List.append_assoc, h3, ht _ (by omega), map_map_add, List.length_append, Nat.add_comm]

theorem InvW.str {out cl : List Int} (h : InvW out cl) (p : Int) (h1 : p ≠ 34) (h2 : p ≠ 92) : InvW (out ++ [34] ++ [p] ++ [34]) cl := by
  have := h.pass (passes_one p h1 h2)
  simpa using this
theorem InvW.strEsc {out cl : List Int} (h : InvW out cl) (p : Int) : InvW (out ++ [34] ++ [92] ++ [p] ++ [34]) cl := by
  have := h.pass (passes_esc p)
  simpa using this

theorem InvW.openObj {out cl : List Int} (h : InvW out cl) : InvW (out ++ [123]) (cl ++ [125]) := by
  obtain ⟨h1, h2, h3, h4⟩ := h
  refine ⟨by simp, ?_, fun rest => ?_, head_append h4⟩
  · intro c hc
    rcases List.mem_append.1 hc with hc | hc
    · exact h2 c hc
    · simp at hc; exact .inr hc
  · rw [List.append_assoc, h3]
    simp [nEnd]
    cases nEnd (cl.length + 1) false false rest <;> simp; omega

theorem InvW.openArr {out cl : List Int} (h : InvW out cl) : InvW (out ++ [91]) (cl ++ [93]) := by
  obtain ⟨h1, h2, h3, h4⟩ := h
  refine ⟨by simp, ?_, fun rest => ?_, head_append h4⟩
  · intro c hc
    rcases List.mem_append.1 hc with hc | hc
    · exact h2 c hc
    · simp at hc; exact .inl hc
  · rw [List.append_assoc, h3]
    simp [nEnd]
    cases nEnd (cl.length + 1) false false rest <;> simp; omega

theorem last_mem (cl : List Int) (m : Nat) (h : m < cl.length) : cl.getD m 0 ∈ cl := by
  simp [List.getD, h]

theorem InvW.close {out cl : List Int} (h : InvW out cl) (m : Nat) (hm : cl.length = m + 1) (h2 : 1 ≤ m) : InvW (out ++ [cl.getD m 0]) (cl.take m) := by
  obtain ⟨h1, hc, h3, h4⟩ := h
  have hx := hc _ (last_mem cl m (by omega))
  refine ⟨by simp; omega, fun c hcm => hc c (List.mem_of_mem_take hcm), fun rest => ?_, head_append h4⟩
  rw [List.append_assoc, h3, hm]
  generalize cl.getD m 0 = x at hx
  have ht : (cl.take m).length = m := by simp; omega
  have e0 : ¬ m = 0 := by omega
  rw [ht]
  rcases hx with rfl | rfl <;> simp [nEnd, e0] <;> (cases nEnd m false false rest <;> simp; omega)

/-- The closing loop: m closers are left. -/
def FinW (out cl : List Int) (m : Nat) : Prop :=
  (1 ≤ m ∧ m ≤ cl.length ∧ InvW out (cl.take m)) ∨ (m = 0 ∧ (∀ rest, nEnd 0 false false (out ++ rest) = some out.length) ∧ out.head? = some 91)

theorem FinW.start {out cl : List Int} (h : InvW out cl) : FinW out cl cl.length :=
  .inl ⟨h.1, Nat.le_refl _, by simpa using h⟩

theorem FinW.step {out cl : List Int} {m : Nat} (h : FinW out cl (m + 1)) : FinW (out ++ [cl.getD m 0]) cl m := by
  rcases h with ⟨_, hm, h⟩ | ⟨h, _⟩
  · have ht : (cl.take (m + 1)).length = m + 1 := by simp; omega
    have hg : (cl.take (m + 1)).getD m 0 = cl.getD m 0 := by simp [List.getD]
    by_cases h1 : 1 ≤ m
    · refine .inl ⟨h1, by omega, ?_⟩
      have := h.close m ht h1
      rw [hg] at this
      simpa [List.take_take, Nat.min_eq_left (Nat.le_succ m)] using this
    · obtain rfl : m = 0 := by omega
      obtain ⟨_, hc, h3, h4⟩ := h
      refine .inr ⟨rfl, fun rest => ?_, head_append h4⟩
      have hx := hc _ (last_mem _ 0 (by omega))
      rw [hg] at hx
      rw [List.append_assoc, h3, ht]
      generalize cl.getD 0 0 = x at hx
      rcases hx with rfl | rfl <;> simp [nEnd] <;> omega
  · omega

theorem FinW.done {out cl : List Int} (h : FinW out cl 0) : (∀ rest, nEnd 0 false false (out ++ rest) = some out.length) ∧ out.head? = some 91 := by
  rcases h with ⟨h, _⟩ | ⟨_, h⟩
  · omega
  · exact h

end Go.Proofs.Qxb6600806a
