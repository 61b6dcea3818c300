/-
  SEAT b6603123a: AN ARGUMENT [][]int, OPENED.
-/
import Derived.Test.Qxb6603123aGrid
import Derived.Deep.Matrix
import Derived.OpenShut
import Derived.ChangeOld
namespace Go.Proofs.Qxb6603123a
open Go.ChangeShapes Go.WideShapes Go.ChangeAt Go.RowKit Go.Deep
set_option linter.unusedVariables false

theorem Try.cells27 : Try.prog.cellsOf 27 = 1 := by kernel_rfl
theorem Try.cells3 : Try.prog.cellsOf 3 = 1 := by kernel_rfl

theorem getD_take {z : List Int} {l j : Nat} (h : j < l) : (z.take l).getD j 0 = z.getD j 0 := by
  simp [List.getD, h]

theorem add_plain (b off i : Nat) : (⟨b, off, none⟩ : Addr).add i = ⟨b, off + i, none⟩ := by
  unfold Addr.add
  by_cases e : i = 0
  · subst e; simp
  · simp [e]

theorem open_grid {H : Type} {enc : TypeId × Value → H} {W : World} {a0 : Option Addr} {len cap fuel : Nat} {x : DataW H × List MemPlace}
    (h : DataW.trod enc Try.prog W 0 (fun _ => true) true fuel 22 (Value.slice a0 len cap).cells.toList = some x) :
    ∃ (A : Nat → Option Addr) (C : Nat → Nat) (T : Nat → List Int), len ≤ maxLen ∧ M2 W a0 len A C T ∧ (a0 = none → len = 0) := by
  rcases open_int_rows Try.underlying22 Try.underlying27 Try.underlying3 Try.cells27 Try.cells3 h with ⟨hcs, _⟩ | ⟨a, l, c, A, L, C, Z, hcs, _, hl, hm, _, hrows⟩
  · simp [Value.cells] at hcs
    obtain ⟨rfl, rfl, rfl⟩ := hcs
    exact ⟨fun _ => none, fun _ => 0, fun _ => [], Nat.zero_le _, ⟨fun h => absurd h (by omega), fun i hi => absurd hi (by omega), fun i hi => absurd hi (by omega)⟩, fun _ => rfl⟩
  · simp [Value.cells] at hcs
    obtain ⟨rfl, rfl, rfl⟩ := hcs
    have hT : ∀ r, r < cap → ((Z r).take (L r)).length = L r := by
      intro r hr
      obtain ⟨_, h1, _, h2, _⟩ := hrows r hr
      rw [List.length_take]; omega
    refine ⟨A, C, fun r => (Z r).take (L r), by omega, ⟨fun hn => ?_, fun i hi h0 => ?_, fun i hi => ?_⟩, fun h => by cases h⟩
    · obtain ⟨b, off, spot⟩ := a
      have hspot : spot = none := by simpa [Addr.add] using World.cell?_spot (hrows 0 (by omega)).1
      subst hspot
      refine ⟨b, off, rfl, fun i hi => ?_⟩
      have := (hrows i (by omega)).1
      rw [hT i (by omega)]
      rw [add_plain] at this
      exact this
    · replace h0 : 0 < ((Z i).take (L i)).length := h0
      have hli := hT i (by omega)
      obtain ⟨_, h1, _, h2, _, h3, h4⟩ := hrows i (by omega)
      cases hA : A i with
      | none => have := h3 hA; omega
      | some a' =>
        obtain ⟨_, h5⟩ := h4 a' hA
        obtain ⟨b, off, spot⟩ := a'
        have hspot : spot = none := by simpa [Addr.add] using World.cell?_spot (h5 0 (by omega))
        subst hspot
        refine ⟨b, off, rfl, fun j hj => ?_⟩
        replace hj : j < ((Z i).take (L i)).length := hj
        have := h5 j (by omega)
        rw [getD_take (by omega)]
        rw [add_plain] at this
        exact this
    · show ((Z i).take (L i)).length ≤ maxLen
      obtain ⟨_, h1, h2, _⟩ := hrows i (by omega)
      rw [hT i (by omega)]; omega
end Go.Proofs.Qxb6603123a
