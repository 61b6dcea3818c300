/-
  SEAT b6603123a: A SLICE OF SLICES OF int, SEEN; THE FUNCTIONS THAT ONLY READ IT.
-/
import Derived.Test.Qxb6603123aRows
import Derived.Test.Qxb6603123aScc
import Derived.WalkKit
import Derived.ProofKit
import Derived.Below
import Derived.WalkSpells
import Derived.WalkSmall
namespace Go.Proofs.Qxb6603123a
open Go.ChangeShapes Go.WideShapes Go.ChangeAt Go.RowKit
set_option linter.unusedVariables false

theorem ret_int {k : IntKind} {a b : Int} (h : a = b) : Ending.returned (.int k a) = .returned (.int k b) := by rw [h]
theorem ret_bool {a b : Bool} (h : a = b) : Ending.returned (.bool a) = .returned (.bool b) := by rw [h]

/-- It answers a Bool; where that is true P holds. -/
def BoolPost (P : Prop) (e : Ending) : Prop := ∃ B : Bool, e = .returned (.bool B) ∧ (B = true → P)

/-- n rows: row i is the slice at A i, with room C i, its numbers T i. -/
structure M2 (w : World) (ao : Option Addr) (n : Nat) (A : Nat → Option Addr) (C : Nat → Nat) (T : Nat → List Int) : Prop where
  out : 0 < n → ∃ b off, ao = some ⟨b, off, none⟩ ∧ ∀ i, i < n → w.cell? ⟨b, off + i, none⟩ = some (.slice (A i) (T i).length (C i))
  row : ∀ i, i < n → 0 < (T i).length → ∃ b off, A i = some ⟨b, off, none⟩ ∧ ∀ j, j < (T i).length → w.cell? ⟨b, off + j, none⟩ = some (.int .i64 ((T i).getD j 0))
  len : ∀ i, i < n → (T i).length ≤ maxLen

theorem M2.below {w w' : World} {ao : Option Addr} {n : Nat} {A : Nat → Option Addr} {C : Nat → Nat} {T : Nat → List Int} (h : M2 w ao n A C T) (hb : Below w.heap.size w w') : M2 w' ao n A C T := by
  refine ⟨fun hn => ?_, fun i hi hl => ?_, h.len⟩
  · obtain ⟨b, off, e, hc⟩ := h.out hn
    exact ⟨b, off, e, fun i hi => (hb.cell (p := ⟨b, off + i, none⟩) (World.block_lt_of_cell? w _ (hc i hi))).trans (hc i hi)⟩
  · obtain ⟨b, off, e, hc⟩ := h.row i hi hl
    exact ⟨b, off, e, fun j hj => (hb.cell (p := ⟨b, off + j, none⟩) (World.block_lt_of_cell? w _ (hc j hj))).trans (hc j hj)⟩

/-- The lengths of the first k rows together. -/
def sumL (T : Nat → List Int) : Nat → Nat
  | 0 => 0
  | k + 1 => sumL T k + (T k).length
theorem sumL_mono (T : Nat → List Int) {a b : Nat} (h : a ≤ b) : sumL T a ≤ sumL T b := by
  induction b with
  | zero => have : a = 0 := by omega
            subst this; exact Nat.le_refl _
  | succ b ih =>
    by_cases e : a = b + 1
    · subst e; exact Nat.le_refl _
    · have := ih (by omega); simp only [sumL]; omega
theorem sumL_row (T : Nat → List Int) {i n : Nat} (h : i < n) : (T i).length ≤ sumL T n := by
  have := sumL_mono T (show i + 1 ≤ n by omega)
  simp only [sumL] at this; omega

/-- 'zzBytes_FnComponentsTransposeAgree'. -/
theorem bytes14 (ao : Option Addr) (n cap : Nat) (A : Nat → Option Addr) (C : Nat → Nat) (T : Nat → List Int) (w : World) (hn : n ≤ maxLen) (hM : M2 w ao n A C T) :
    Calls Try.prog 14 #[.slice ao n cap] w fun e w' => BoolPost (n + sumL T n ≤ 1048576) e ∧ w = w' := by
  unfold maxLen at hn
  have HM : Hid (M2 w ao n A C T) := hM
  clear hM
  by_cases hbig : 1048576 < n
  · go_enter Try.func14, Try.ntmps14
    go_wp2
    all_goals go_ret
    all_goals exact ⟨⟨_, rfl, fun h => by cases h⟩, rfl⟩
  · go_enter Try.func14, Try.ntmps14
    go_wp2
    go_loop [3, 4] (fun z i => ∃ k : Nat, k ≤ n ∧ i = .int .i64 k ∧ z = .int .i64 ((n + sumL T k : Nat) : Int) ∧ n + sumL T k ≤ 1048576) (fun _ i => n - (intOf i).toNat)
    case atStart => exact ⟨0, Nat.zero_le _, rfl, by simp only [sumL]; go_num, by simp only [sumL]; omega⟩
    case round =>
      obtain ⟨k, hk, rfl, rfl, hs⟩ := hrel
      by_cases hlt : k < n
      · obtain ⟨b, off, rfl, hc⟩ := HM.out.out (by omega)
        have hck := hc k hlt
        obtain ⟨l, hl⟩ : ∃ l, l = (T k).length := ⟨_, rfl⟩
        obtain ⟨s, hs'⟩ : ∃ s, s = n + sumL T k := ⟨_, rfl⟩
        have hlm := HM.out.len k hlt
        unfold maxLen at hlm
        rw [← hl] at hck hlm
        rw [← hs'] at hs ⊢
        have HL : Hid (l = (T k).length) := hl
        have HS : Hid (s = n + sumL T k) := hs'
        clear hl hs' hc
        have hgt : 1048576 < l ∨ (l ≤ 1048576 ∧ 1048576 < s + l) ∨ (l ≤ 1048576 ∧ s + l ≤ 1048576) := by omega
        rcases hgt with h1 | ⟨h1, h2⟩ | ⟨h1, h2⟩
        · go_wp2
          go_ret
          exact ⟨⟨_, rfl, fun h => by cases h⟩, rfl⟩
        · go_wp2
          go_ret
          exact ⟨⟨_, rfl, fun h => by cases h⟩, rfl⟩
        · go_wp2
          go_round
          case rel => exact ⟨k + 1, by omega, by go_num, by simp only [sumL]; have := HS.out; have := HL.out; go_num, by simp only [sumL]; have := HS.out; have := HL.out; omega⟩
          case measure => simp [intOf]; omega
      · have hkk : k = n := by omega
        have hlt0 : ¬ (k : Int) < (n : Int) := by omega
        go_wp2
        go_ret
        exact ⟨⟨_, rfl, fun _ => by rw [hkk] at hs; exact hs⟩, rfl⟩

/-- 'zzIntRowsBytes' at the limit 1<<20. -/
theorem rowsBytes (ao : Option Addr) (n cap : Nat) (A : Nat → Option Addr) (C : Nat → Nat) (T : Nat → List Int) (w : World) (hM : M2 w ao n A C T) (hb : n + sumL T n ≤ 1048576) :
    Calls Try.prog 8 #[.slice ao n cap, .int .i64 1048576] w fun e w' => (∃ r : Nat, e = .returned (.int .i64 (r : Int)) ∧ Hid (r ≤ 1048576 → 24 * n + 8 * sumL T n ≤ 1048576)) ∧ w = w' := by
  have HM : Hid (M2 w ao n A C T) := hM
  clear hM
  have HB : Hid (n + sumL T n ≤ 1048576) := hb
  have hn : n ≤ 1048576 := by omega
  clear hb
  by_cases hbig : 1048576 < 24 * n
  · go_enter Try.func8, Try.ntmps8
    go_wp2
    go_ret
    exact ⟨⟨24 * n, ret_int (by omega), fun h => absurd h (by omega)⟩, rfl⟩
  · go_enter Try.func8, Try.ntmps8
    go_wp2
    go_loop [5, 6] (fun z i => ∃ k s : Nat, k ≤ n ∧ i = .int .i64 k ∧ z = .int .i64 (s : Int) ∧ Hid (s = 24 * n + 8 * sumL T k) ∧ s ≤ 1048576) (fun _ i => n - (intOf i).toNat)
    case atStart => exact ⟨0, 24 * n, Nat.zero_le _, rfl, by go_num, by show _ = _; simp [sumL], by omega⟩
    case round =>
      obtain ⟨k, s, hk, rfl, rfl, HS, hs⟩ := hrel
      by_cases hlt : k < n
      · obtain ⟨b, off, rfl, hc⟩ := HM.out.out (by omega)
        have hck := hc k hlt
        obtain ⟨l, hl⟩ : ∃ l, l = (T k).length := ⟨_, rfl⟩
        have hlm : l ≤ 1048576 := by have := sumL_row T hlt; have := HB.out; omega
        rw [← hl] at hck
        have HL : Hid (l = (T k).length) := hl
        clear hl hc
        by_cases h1 : 1048576 < s + 8 * l
        · go_wp2
          go_ret
          exact ⟨⟨s + 8 * l, ret_int (by omega), fun h => absurd h (by omega)⟩, rfl⟩
        · go_wp2
          go_round
          case rel => exact ⟨k + 1, s + 8 * l, by omega, by go_num, by go_num, by show _ = _; simp only [sumL]; have := HS.out; have := HL.out; omega, by omega⟩
          case measure => simp [intOf]; omega
      · have hkk : k = n := by omega
        have hlt0 : ¬ (k : Int) < (n : Int) := by omega
        go_wp2
        go_ret
        exact ⟨⟨s, rfl, fun _ => by have := HS.out; rw [hkk] at this; omega⟩, rfl⟩

/-- All heads in range. -/
def InRange (n : Nat) (T : Nat → List Int) : Prop := ∀ i, i < n → ∀ j, j < (T i).length → 0 ≤ (T i).getD j 0 ∧ (T i).getD j 0 < n

/-- 'zzTargetsIn'. -/
theorem targetsIn (ao : Option Addr) (n cap : Nat) (A : Nat → Option Addr) (C : Nat → Nat) (T : Nat → List Int) (w : World) (hM : M2 w ao n A C T) (hb : n + sumL T n ≤ 1048576) :
    Calls Try.prog 10 #[.slice ao n cap, .int .i64 n] w fun e w' => BoolPost (InRange n T) e ∧ w = w' := by
  have HM : Hid (M2 w ao n A C T) := hM
  have HB : Hid (n + sumL T n ≤ 1048576) := hb
  have hn : n ≤ 1048576 := by omega
  clear hM hb
  go_enter Try.func10, Try.ntmps10
  go_wp2
  go_loop [5, 6] (fun i j => ∃ k : Nat, k ≤ n ∧ i = .int .i64 k ∧ Hid (∀ a, a < k → ∀ j, j < (T a).length → 0 ≤ (T a).getD j 0 ∧ (T a).getD j 0 < n)) (fun i _ => n - (intOf i).toNat)
  case atStart => exact ⟨0, Nat.zero_le _, rfl, fun a ha => absurd ha (by omega)⟩
  case round =>
    obtain ⟨k, hk, rfl, HR⟩ := hrel
    by_cases hlt : k < n
    · obtain ⟨b, off, rfl, hc⟩ := HM.out.out (by omega)
      have hck := hc k hlt
      obtain ⟨l, hl⟩ : ∃ l, l = (T k).length := ⟨_, rfl⟩
      have hlm : l ≤ 1048576 := by have := sumL_row T hlt; have := HB.out; omega
      rw [← hl] at hck
      have HL : Hid (l = (T k).length) := hl
      clear hl hc
      go_wp2
      go_loop [6] (fun j => ∃ q : Nat, q ≤ l ∧ j = .int .i64 q ∧ Hid (∀ j, j < q → 0 ≤ (T k).getD j 0 ∧ (T k).getD j 0 < n)) (fun j => l - (intOf j).toNat)
      case atStart => exact ⟨0, Nat.zero_le _, rfl, fun a ha => absurd ha (by omega)⟩
      case round =>
        obtain ⟨q, hq, rfl, HQ⟩ := hrel
        by_cases hlq : q < l
        · obtain ⟨br, offr, hAr, hcr⟩ := HM.out.row k hlt (by have := HL.out; omega)
          rw [hAr] at hck
          obtain ⟨x, hx⟩ : ∃ x, x = (T k).getD q 0 := ⟨_, rfl⟩
          have hcx : w.cell? ⟨br, offr + q, none⟩ = some (.int .i64 x) := by rw [hx]; exact hcr q (by have := HL.out; omega)
          have HX : Hid (x = (T k).getD q 0) := hx
          clear hx hcr
          by_cases hx0 : x < 0
          · go_wp2
            go_ret
            exact ⟨⟨_, rfl, fun h => by cases h⟩, rfl⟩
          · by_cases hx1 : (n : Int) ≤ x
            · have hxf : decide (x < 0) = false := decide_eq_false hx0
              go_wp2
              go_ret
              exact ⟨⟨_, rfl, fun h => by cases h⟩, rfl⟩
            · have hxf : decide (x < 0) = false := decide_eq_false hx0
              have hxg : decide ((n : Int) ≤ x) = false := decide_eq_false hx1
              go_wp2
              go_round
              case rel =>
                refine ⟨q + 1, by omega, by go_num, ?_⟩
                intro j hj
                by_cases e : j = q
                · subst e; rw [← HX.out]; omega
                · exact HQ.out j (by omega)
              case measure => simp [intOf]; omega
        · have hqq : q = l := by omega
          have hlt0 : ¬ (q : Int) < (l : Int) := by omega
          go_wp2
          go_round
          case rel =>
            refine ⟨k + 1, by omega, by go_num, ?_⟩
            intro a ha j hj
            by_cases e : a = k
            · subst e; exact HQ.out j (by have := HL.out; omega)
            · exact HR.out a (by omega) j hj
          case measure => simp [intOf]; omega
    · have hkk : k = n := by omega
      have hlt0 : ¬ (k : Int) < (n : Int) := by omega
      go_wp2
      go_ret
      exact ⟨⟨_, rfl, fun _ i hi j hj => HR.out i (by omega) j hj⟩, rfl⟩
end Go.Proofs.Qxb6603123a
