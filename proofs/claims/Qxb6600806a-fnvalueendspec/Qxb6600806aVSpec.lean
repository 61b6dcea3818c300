/-
  SEAT b6600806a: THE WALK OF 'FnValueEndSpec'.
-/
import Derived.Test.Qxb6600806aValue
namespace Go.Proofs.Qxb6600806a
open Go.ChangeShapes Go.WideShapes Go.ChangeAt Go.RowKit
set_option linter.unusedVariables false

theorem zz20_any (a0 : Option Addr) (l0 c0 : Nat) (at_ : Int) (w : World) (h0 : l0 ≤ maxLen) :
    Calls Try.prog 20 #[.slice a0 l0 c0, .int .i64 at_] w fun e w' => (∃ B, e = .returned (.bool B)) ∧ w = w' := by
  unfold maxLen at h0
  go_enter Try.func20, Try.ntmps20
  go_wp2
  all_goals go_ret
  all_goals exact ⟨⟨_, rfl⟩, rfl⟩

theorem zz20_true (a0 : Option Addr) (l0 c0 : Nat) (at_ : Int) (w : World) (h0 : l0 ≤ 1048576) :
    Calls Try.prog 20 #[.slice a0 l0 c0, .int .i64 at_] w fun e w' => e = .returned (.bool true) ∧ w = w' := by
  go_enter Try.func20, Try.ntmps20
  go_wp2
  all_goals go_ret
  all_goals exact ⟨rfl, rfl⟩

theorem early8 (a0 : Option Addr) (l0 c0 : Nat) (at_ : Int) (w : World) (h0 : l0 ≤ maxLen) (h : ¬ (l0 ≤ 1048576 ∧ 0 ≤ at_ ∧ at_ < l0)) :
    Calls Try.prog 8 #[.slice a0 l0 c0, .int .i64 at_] w fun e w' => e = .returned (.bool true) ∧ Below w.heap.size w w' := by
  have hor : 1048576 < l0 ∨ (l0 ≤ 1048576 ∧ at_ < 0) ∨ (l0 ≤ 1048576 ∧ 0 ≤ at_ ∧ (l0 : Int) ≤ at_) := by omega
  clear h
  rcases hor with h | ⟨h, h'⟩ | ⟨h, h', h''⟩
  all_goals
    go_enter Try.func8, Try.ntmps8
    go_wp2_with (go_at_call 20; refine (zz20_any _ _ _ _ _ h0).mono ?_; rintro e w' ⟨⟨B, rfl⟩, rfl⟩)
    all_goals go_ret
    all_goals exact ⟨rfl, Below.refl _ _⟩

/-- What opens a string, an object or an array. -/
theorem nest8 (a0 : Option Addr) (c0 : Nat) (d : List Int) (a : Nat) (w : World) (s0 : Seen w a0 c0 d) (h0 : d.length ≤ 1048576) (h : a < d.length) (ho : opensB (d.getD a 0) = true) :
    Calls Try.prog 8 #[.slice a0 d.length c0, .int .i64 a] w fun e w' => e = .returned (.bool true) ∧ Below w.heap.size w w' := by
  obtain ⟨b, off, rfl, _, _⟩ := s0.at_ (by omega)
  have hnn := fun wx => run_neq_slice_nil_any (P := Try.prog) wx 22 5 (some ⟨b, off, none⟩) d.length c0 0 0 Try.underlying22
  have S0 : Hid (Seen w (some ⟨b, off, none⟩) c0 d) := s0
  clear s0
  have q0 : decide (d.length ≤ a) = false := decide_eq_false (by omega)
  obtain ⟨x, hx⟩ : ∃ x, x = d.getD a 0 := ⟨_, rfl⟩
  have HX : Hid (x = d.getD a 0) := hx
  have hox : opensB x = true := by rw [hx]; exact ho
  clear hx ho
  cases hk : nEnd 0 false false (d.drop a) with
  | none =>
    have hq : nestR d a = -1 := by unfold nestR; rw [hk]
    clear hk
    go_enter Try.func8, Try.ntmps8
    go_wp2_with (first
      | (go_at_call 20; refine (zz20_true _ _ _ _ _ h0).mono ?_; rintro e w' ⟨rfl, rfl⟩)
      | (at_make; refine wpList_makeFullB rfl _ _ rfl w (Below.refl _ _) _ _ d.length rfl rfl rfl rfl (by omega) ?_; intro w1 hR1 hg1; obtain ⟨w2, hcp, hR2⟩ := copy_run hR1 rfl S0.out; have hcx : w2.cell? ⟨w.heap.size, a, none⟩ = some (.int .u8 x) := (by have := hR2.bytes a h; rw [← HX.out] at this; simpa using this))
      | (go_at_call 21; refine (opens_any _ _).mono ?_; rintro e w' ⟨rfl, rfl⟩)
      | (go_at_call 22; refine (nest_any _ _ _ _ d a _ rfl h0 h hR2.bytes).mono ?_; rintro e w' ⟨rfl, rfl⟩))
    go_ret
    exact ⟨rfl, hR2.below⟩
  | some k =>
    have hq : nestR d a = ((a + k : Nat) : Int) := by unfold nestR; rw [hk]
    have HK : Hid (nEnd 0 false false (d.drop a) = some k) := hk
    clear hk
    go_enter Try.func8, Try.ntmps8
    go_wp2_with (first
      | (go_at_call 20; refine (zz20_true _ _ _ _ _ h0).mono ?_; rintro e w' ⟨rfl, rfl⟩)
      | (at_make; refine wpList_makeFullB rfl _ _ rfl w (Below.refl _ _) _ _ d.length rfl rfl rfl rfl (by omega) ?_; intro w1 hR1 hg1; obtain ⟨w2, hcp, hR2⟩ := copy_run hR1 rfl S0.out; have hcx : w2.cell? ⟨w.heap.size, a, none⟩ = some (.int .u8 x) := (by have := hR2.bytes a h; rw [← HX.out] at this; simpa using this))
      | (go_at_call 21; refine (opens_any _ _).mono ?_; rintro e w' ⟨rfl, rfl⟩)
      | (go_at_call 22; refine (nest_any _ _ _ _ d a _ rfl h0 h hR2.bytes).mono ?_; rintro e w' ⟨rfl, rfl⟩)
      | (go_at_call 23; refine (zzValue_nest _ _ _ _ d a k _ rfl h0 (HX.out ▸ hox) HK.out hR2.bytes).mono ?_; rintro e w' ⟨rfl, rfl⟩))
    go_ret
    exact ⟨ret_bool (by simp), hR2.below⟩

set_option maxHeartbeats 800000 in
/-- A scalar. -/
theorem scal8 (a0 : Option Addr) (c0 : Nat) (d : List Int) (a : Nat) (w : World) (s0 : Seen w a0 c0 d) (h0 : d.length ≤ 1048576) (h : a < d.length) (ho : opensB (d.getD a 0) = false) :
    Calls Try.prog 8 #[.slice a0 d.length c0, .int .i64 a] w fun e w' => e = .returned (.bool true) ∧ Below w.heap.size w w' := by
  obtain ⟨b, off, rfl, _, _⟩ := s0.at_ (by omega)
  have hnn := fun wx => run_neq_slice_nil_any (P := Try.prog) wx 22 5 (some ⟨b, off, none⟩) d.length c0 0 0 Try.underlying22
  have S0 : Hid (Seen w (some ⟨b, off, none⟩) c0 d) := s0
  clear s0
  have q0 : decide (d.length ≤ a) = false := decide_eq_false (by omega)
  obtain ⟨x, hx⟩ : ∃ x, x = d.getD a 0 := ⟨_, rfl⟩
  have HX : Hid (x = d.getD a 0) := hx
  have hox : opensB x = false := by rw [hx]; exact ho
  clear hx ho
  go_enter Try.func8, Try.ntmps8
  go_wp2_with (first
    | (go_at_call 20; refine (zz20_true _ _ _ _ _ h0).mono ?_; rintro e w' ⟨rfl, rfl⟩)
    | (at_make; refine wpList_makeFullB rfl _ _ rfl w (Below.refl _ _) _ _ d.length rfl rfl rfl rfl (by omega) ?_; intro w1 hR1 hg1; obtain ⟨w2, hcp, hR2⟩ := copy_run hR1 rfl S0.out; have hcx : w2.cell? ⟨w.heap.size, a, none⟩ = some (.int .u8 x) := (by have := hR2.bytes a h; rw [← HX.out] at this; simpa using this))
    | (go_at_call 21; refine (opens_any _ _).mono ?_; rintro e w' ⟨rfl, rfl⟩)
    | (go_at_call 23; refine (zzValue_scal _ _ _ _ d a _ rfl h0 h (HX.out ▸ hox) hR2.bytes).mono ?_; rintro e w' ⟨⟨r, rfl, ⟨hr1, hr2, hr3, hr4⟩⟩, rfl⟩; have H3 : Hid (∀ j, a ≤ j → j < r → stopB (d.getD j 0) = false) := hr3; have H4 : Hid (r < d.length → stopB (d.getD r 0) = true) := hr4; clear hr3 hr4 hnn hcp hR1 hg1 hcx; have q1 : decide (r < a) = false := decide_eq_false (by omega); have q2 : decide (d.length < r) = false := decide_eq_false (by omega)))
  go_loop [8] (fun t => ∃ i : Nat, t = .int .i64 i ∧ a ≤ i ∧ i ≤ r) (fun t => r - (intOf t).toNat)
  case atStart => exact ⟨a, rfl, Nat.le_refl _, hr1⟩
  case round =>
    obtain ⟨i, rfl, hai, hir⟩ := hrel
    by_cases hi : i < r
    · obtain ⟨y, hy⟩ : ∃ y, y = d.getD i 0 := ⟨_, rfl⟩
      have hci : w2.cell? ⟨w.heap.size, i, none⟩ = some (.int .u8 y) := by rw [hy]; have := hR2.bytes i (by omega); simpa using this
      have hsp : stopB y = false := by rw [hy]; exact H3.out i hai hi
      clear hy
      go_wp2_with (go_at_call 24; refine (stop_any _ _).mono ?_; rintro e w' ⟨rfl, rfl⟩)
      go_round
      case rel => exact ⟨i + 1, by go_num, by omega, by omega⟩
      case measure => simp [intOf]; omega
    · have hlt0 : ¬ (i : Int) < (r : Int) := by omega
      by_cases hrd : r < d.length
      · obtain ⟨y, hy⟩ : ∃ y, y = d.getD r 0 := ⟨_, rfl⟩
        have hci : w2.cell? ⟨w.heap.size, r, none⟩ = some (.int .u8 y) := by rw [hy]; have := hR2.bytes r (by omega); simpa using this
        have hsp : stopB y = true := by rw [hy]; exact H4.out hrd
        have hne : ((r : Int) == (d.length : Int)) = false := by simp; omega
        clear hy
        go_wp2_with (go_at_call 24; refine (stop_any _ _).mono ?_; rintro e w' ⟨rfl, rfl⟩)
        go_ret
        exact ⟨rfl, hR2.below⟩
      · obtain rfl : r = d.length := by omega
        go_wp2
        go_ret
        exact ⟨ret_bool (by simp), hR2.below⟩

theorem walk8 (a0 : Option Addr) (len0 cap0 : Nat) (z0 : List Int) (a1 : Int) (w : World) (w0 : IsRow .u8 w a0 len0 cap0 z0) (w1 : (Lit.int .i64 a1).wf = true) :
    Calls Try.prog 8 #[.slice a0 len0 cap0, .int .i64 a1] w fun e w' => e = .returned (.bool true) ∧ Below w.heap.size w w' := by
  obtain ⟨d, rfl, s0⟩ := seen_of_row w0
  by_cases h : d.length ≤ 1048576 ∧ 0 ≤ a1 ∧ a1 < d.length
  · obtain ⟨h, h1, h2⟩ := h
    obtain ⟨a, rfl⟩ : ∃ a : Nat, a1 = a := ⟨a1.toNat, by omega⟩
    cases ho : opensB (d.getD a 0) with
    | true => exact nest8 a0 cap0 d a w s0 h (by omega) ho
    | false => exact scal8 a0 cap0 d a w s0 h (by omega) ho
  · exact early8 a0 _ cap0 a1 w (Nat.le_trans s0.le s0.room) h

end Go.Proofs.Qxb6600806a
