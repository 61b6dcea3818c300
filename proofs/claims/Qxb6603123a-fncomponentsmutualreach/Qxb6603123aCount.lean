/-
  SEAT b6603123a: 'zzBytes' and 'zzEdgeCount' of FnComponentsMutualReach.
-/
import Derived.Test.Qxb6603123aGrid
namespace Go.Proofs.Qxb6603123a
open Go.ChangeShapes Go.WideShapes Go.ChangeAt Go.RowKit
set_option linter.unusedVariables false

/-- 'zzBytes_FnComponentsMutualReach'. -/
theorem bytes7 (ao : Option Addr) (n cap : Nat) (A : Nat → Option Addr) (C : Nat → Nat) (T : Nat → List Int) (w : World) (hn : n ≤ maxLen) (hM : M2 w ao n A C T) :
    Calls Try.prog 7 #[.slice ao n cap] w fun e w' => BoolPost (n + sumL T n ≤ 1048576) e ∧ w = w' := by
  unfold maxLen at hn
  have HM : Hid (M2 w ao n A C T) := hM
  clear hM
  by_cases hbig : 1048576 < n
  · go_enter Try.func7, Try.ntmps7
    go_wp2
    all_goals go_ret
    all_goals exact ⟨⟨_, rfl, fun h => by cases h⟩, rfl⟩
  · go_enter Try.func7, Try.ntmps7
    go_wp2
    go_loop [3, 4] (fun z i => ∃ k : Nat, k ≤ n ∧ i = .int .i64 k ∧ z = .int .i64 ((n + sumL T k : Nat) : Int) ∧ n + sumL T k ≤ 1048576) (fun _ i => n - (intOf i).toNat)
    case atStart => exact ⟨0, Nat.zero_le _, rfl, by simp only [sumL]; go_num, by simp only [sumL]; omega⟩
    case round =>
      obtain ⟨k, hk, rfl, rfl, hs⟩ := hrel
      by_cases hlt : k < n
      · obtain ⟨b, off, rfl, hc⟩ := HM.out.out (by omega)
        have hck := hc k hlt
        obtain ⟨l, hl⟩ : ∃ l, l = (T k).length := ⟨_, rfl⟩
        obtain ⟨s, hs'⟩ : ∃ s, s = n + sumL T k := ⟨_, rfl⟩
        have hlm := HM.out.len k hlt
        unfold maxLen at hlm
        rw [← hl] at hck hlm
        rw [← hs'] at hs ⊢
        have HL : Hid (l = (T k).length) := hl
        have HS : Hid (s = n + sumL T k) := hs'
        clear hl hs' hc
        have hgt : 1048576 < l ∨ (l ≤ 1048576 ∧ 1048576 < s + l) ∨ (l ≤ 1048576 ∧ s + l ≤ 1048576) := by omega
        rcases hgt with h1 | ⟨h1, h2⟩ | ⟨h1, h2⟩
        · go_wp2
          go_ret
          exact ⟨⟨_, rfl, fun h => by cases h⟩, rfl⟩
        · go_wp2
          go_ret
          exact ⟨⟨_, rfl, fun h => by cases h⟩, rfl⟩
        · go_wp2
          go_round
          case rel => exact ⟨k + 1, by omega, by go_num, by simp only [sumL]; have := HS.out; have := HL.out; go_num, by simp only [sumL]; have := HS.out; have := HL.out; omega⟩
          case measure => simp [intOf]; omega
      · have hkk : k = n := by omega
        have hlt0 : ¬ (k : Int) < (n : Int) := by omega
        go_wp2
        go_ret
        exact ⟨⟨_, rfl, fun _ => by rw [hkk] at hs; exact hs⟩, rfl⟩

/-- 'zzEdgeCount' at the limit 1<<14. -/
theorem edgeCount (ao : Option Addr) (n cap : Nat) (A : Nat → Option Addr) (C : Nat → Nat) (T : Nat → List Int) (w : World) (hM : M2 w ao n A C T) (hb : n + sumL T n ≤ 1048576) :
    Calls Try.prog 9 #[.slice ao n cap, .int .i64 16384] w fun e w' => (∃ r : Nat, e = .returned (.int .i64 (r : Int))) ∧ w = w' := by
  have HM : Hid (M2 w ao n A C T) := hM
  clear hM
  have HB : Hid (n + sumL T n ≤ 1048576) := hb
  have hn : n ≤ 1048576 := by omega
  clear hb
  go_enter Try.func9, Try.ntmps9
  go_wp2
  go_loop [5, 6] (fun z i => ∃ k s : Nat, k ≤ n ∧ i = .int .i64 k ∧ z = .int .i64 (s : Int) ∧ s ≤ 16384) (fun _ i => n - (intOf i).toNat)
  case atStart => exact ⟨0, 0, Nat.zero_le _, rfl, rfl, by omega⟩
  case round =>
    obtain ⟨k, s, hk, rfl, rfl, hs⟩ := hrel
    by_cases hlt : k < n
    · obtain ⟨b, off, rfl, hc⟩ := HM.out.out (by omega)
      have hck := hc k hlt
      obtain ⟨l, hl⟩ : ∃ l, l = (T k).length := ⟨_, rfl⟩
      have hlm : l ≤ 1048576 := by have := sumL_row T hlt; have := HB.out; omega
      rw [← hl] at hck
      clear hl hc
      by_cases h1 : 16384 < s + l
      · go_wp2
        go_ret
        exact ⟨⟨s + l, ret_int (by omega)⟩, rfl⟩
      · go_wp2
        go_round
        case rel => exact ⟨k + 1, s + l, by omega, by go_num, by go_num, by omega⟩
        case measure => simp [intOf]; omega
    · have hlt0 : ¬ (k : Int) < (n : Int) := by omega
      go_wp2
      go_ret
      exact ⟨⟨s, rfl⟩, rfl⟩
end Go.Proofs.Qxb6603123a
