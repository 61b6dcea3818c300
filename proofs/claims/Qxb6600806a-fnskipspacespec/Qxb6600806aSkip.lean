/-
  SEAT b6600806a: THE WALKS OF 'skipSpace' AND OF 'FnSkipSpaceSpec'.
-/
import Derived.Test.Qxb6600806aWalks
namespace Go.Proofs.Qxb6600806a
open Go.ChangeShapes Go.WideShapes Go.ChangeAt Go.RowKit
set_option linter.unusedVariables false

/-- Where the start lies at or past the end. -/
theorem skip_past (ao : Option Addr) (n c a : Nat) (w : World) (h : n ≤ a) (ha : a ≤ 9223372036854775807) :
    Calls Try.prog 29 #[.slice ao n c, .int .i64 a] w fun e w' => e = .returned (.int .i64 (a : Int)) ∧ w = w' := by
  have hf : decide ((a : Int) < (n : Int)) = false := decide_eq_false (by omega)
  go_enter Try.func29, Try.ntmps29
  go_wp2
  refine wp_loop_rounds 1 ?_
  rw [rounds_succ]
  go_wp2
  go_ret
  exact ⟨rfl, rfl⟩

/-- What 'skipSpace' answers. -/
def SkipR (d : List Int) (a r : Nat) : Prop := a ≤ r ∧ r ≤ d.length ∧ (∀ j, a ≤ j → j < r → spB (d.getD j 0) = true) ∧ (r < d.length → spB (d.getD r 0) = false)

theorem skip_any (b off c n : Nat) (d : List Int) (a : Nat) (w : World) (hn : d.length = n) (hd : d.length ≤ 1048576) (hlt : a < d.length) (hc : Bytes w b off d) :
    Calls Try.prog 29 #[.slice (some ⟨b, off, none⟩) n c, .int .i64 a] w fun e w' => (∃ r : Nat, e = .returned (.int .i64 (r : Int)) ∧ SkipR d a r) ∧ w = w' := by
  subst hn
  have HC : Hid (Bytes w b off d) := hc
  clear hc
  go_enter Try.func29, Try.ntmps29
  go_wp2
  go_loop [1] (fun t => ∃ i : Nat, t = .int .i64 i ∧ i ≤ d.length ∧ a ≤ i ∧ Hid (∀ j, a ≤ j → j < i → spB (d.getD j 0) = true)) (fun t => d.length - (intOf t).toNat)
  case atStart => exact ⟨a, rfl, by omega, Nat.le_refl _, fun j h1 h2 => absurd h2 (by omega)⟩
  case round =>
    obtain ⟨i, rfl, hil, hai, H⟩ := hrel
    by_cases hi : i < d.length
    · obtain ⟨x, hx⟩ : ∃ x, x = d.getD i 0 := ⟨_, rfl⟩
      have hci : w.cell? ⟨b, off + i, none⟩ = some (.int .u8 x) := by rw [hx]; exact HC.out i hi
      have HX : Hid (x = d.getD i 0) := hx
      clear hx
      by_cases hs : spB x = true
      · have H' : Hid (∀ j, a ≤ j → j < i + 1 → spB (d.getD j 0) = true) := by
          intro j h1 h2
          by_cases hj : j = i
          · subst hj; rw [← HX.out]; exact hs
          · exact H.out j h1 (by omega)
        have hor : x = 32 ∨ x = 9 ∨ x = 10 ∨ x = 13 := by simpa [spB, or_assoc] using hs
        clear hs H HX
        rcases hor with rfl | rfl | rfl | rfl
        all_goals
          go_wp2
          go_round
          case rel => exact ⟨i + 1, by go_num, by omega, by omega, H'⟩
          case measure => simp [intOf]; omega
      · have hs' : spB x = false := by simpa using hs
        have hff : (x == 32) = false ∧ (x == 9) = false ∧ (x == 10) = false ∧ (x == 13) = false := by simpa [spB, and_assoc] using hs'
        obtain ⟨f1, f2, f3, f4⟩ := hff
        have HS : Hid (spB x = false) := hs'
        clear hs hs'
        go_wp2
        go_ret
        exact ⟨⟨i, rfl, hai, hil, H.out, fun _ => by rw [← HX.out]; exact HS.out⟩, rfl⟩
    · have hf : decide ((i : Int) < (d.length : Int)) = false := decide_eq_false (by omega)
      go_wp2
      go_ret
      exact ⟨⟨i, rfl, hai, hil, H.out, fun h => absurd h hi⟩, rfl⟩

theorem zzSkip_past (ao : Option Addr) (n c a : Nat) (w : World) (h : n ≤ a) (ha : a ≤ 9223372036854775807) :
    Calls Try.prog 12 #[.slice ao n c, .int .i64 a] w fun e w' => e = .returned (.int .i64 (a : Int)) ∧ w = w' := by
  go_enter Try.func12, Try.ntmps12
  go_wp2_with (go_at_call 29; refine (skip_past _ _ _ _ _ h ha).mono ?_; rintro e w' ⟨rfl, rfl⟩)
  go_ret
  exact ⟨rfl, rfl⟩

theorem zzSkip_any (b off c n : Nat) (d : List Int) (a : Nat) (w : World) (hn : d.length = n) (hd : d.length ≤ 1048576) (hlt : a < d.length) (hc : Bytes w b off d) :
    Calls Try.prog 12 #[.slice (some ⟨b, off, none⟩) n c, .int .i64 a] w fun e w' => (∃ r : Nat, e = .returned (.int .i64 (r : Int)) ∧ SkipR d a r) ∧ w = w' := by
  subst hn
  have HC : Hid (Bytes w b off d) := hc
  clear hc
  go_enter Try.func12, Try.ntmps12
  go_wp2_with (go_at_call 29; refine (skip_any b off c _ d a _ rfl hd hlt HC.out).mono ?_; rintro e w' ⟨⟨r, rfl, hr⟩, rfl⟩)
  go_ret
  exact ⟨⟨r, rfl, hr⟩, rfl⟩

theorem zz11_any (a0 : Option Addr) (l0 c0 : Nat) (at_ : Int) (w : World) (h0 : l0 ≤ maxLen) :
    Calls Try.prog 11 #[.slice a0 l0 c0, .int .i64 at_] w fun e w' => (∃ B, e = .returned (.bool B)) ∧ w = w' := by
  unfold maxLen at h0
  go_enter Try.func11, Try.ntmps11
  go_wp2
  all_goals go_ret
  all_goals exact ⟨⟨_, rfl⟩, rfl⟩

theorem zz11_true (a0 : Option Addr) (l0 c0 : Nat) (at_ : Int) (w : World) (h0 : l0 ≤ 1048576) :
    Calls Try.prog 11 #[.slice a0 l0 c0, .int .i64 at_] w fun e w' => e = .returned (.bool true) ∧ w = w' := by
  go_enter Try.func11, Try.ntmps11
  go_wp2
  all_goals go_ret
  all_goals exact ⟨rfl, rfl⟩

theorem early3 (a0 : Option Addr) (l0 c0 : Nat) (at_ : Int) (w : World) (h0 : l0 ≤ maxLen) (h : ¬ (l0 ≤ 1048576 ∧ 0 ≤ at_)) :
    Calls Try.prog 3 #[.slice a0 l0 c0, .int .i64 at_] w fun e w' => e = .returned (.bool true) ∧ Below w.heap.size w w' := by
  have hor : 1048576 < l0 ∨ (l0 ≤ 1048576 ∧ at_ < 0) := by omega
  clear h
  rcases hor with h | ⟨h, h'⟩
  all_goals
    go_enter Try.func3, Try.ntmps3
    go_wp2_with (go_at_call 11; refine (zz11_any _ _ _ _ _ h0).mono ?_; rintro e w' ⟨⟨B, rfl⟩, rfl⟩)
    all_goals go_ret
    all_goals exact ⟨rfl, Below.refl _ _⟩

/-- At or past the end. -/
theorem past3 (a0 : Option Addr) (c0 : Nat) (d : List Int) (a : Nat) (w : World) (s0 : Seen w a0 c0 d) (h0 : d.length ≤ 1048576) (h : d.length ≤ a) (ha : a ≤ 9223372036854775807) :
    Calls Try.prog 3 #[.slice a0 d.length c0, .int .i64 a] w fun e w' => e = .returned (.bool true) ∧ Below w.heap.size w w' := by
  have hnn := fun wx => run_neq_slice_nil_any (P := Try.prog) wx 22 5 a0 d.length c0 0 0 Try.underlying22
  have S0 : Hid (Seen w a0 c0 d) := s0
  clear s0
  have h' : ¬ (a : Int) < (d.length : Int) := by omega
  cases a0 with
  | none =>
    go_enter Try.func3, Try.ntmps3
    go_wp2_with (first
      | (go_at_call 11; refine (zz11_true _ _ _ _ _ h0).mono ?_; rintro e w' ⟨rfl, rfl⟩)
      | (go_at_call 12; refine (zzSkip_past _ _ _ _ _ h ha).mono ?_; rintro e w' ⟨rfl, rfl⟩))
    go_ret
    exact ⟨ret_bool (by simp), Below.refl _ _⟩
  | some x =>
    go_enter Try.func3, Try.ntmps3
    go_wp2_with (first
      | (go_at_call 11; refine (zz11_true _ _ _ _ _ h0).mono ?_; rintro e w' ⟨rfl, rfl⟩)
      | (at_make; refine wpList_makeFullB rfl _ _ rfl w (Below.refl _ _) _ _ d.length rfl rfl rfl rfl (by omega) ?_; intro w1 hR1 hg1; obtain ⟨w2, hcp, hR2⟩ := copy_run hR1 rfl S0.out)
      | (go_at_call 12; refine (zzSkip_past _ _ _ _ _ h ha).mono ?_; rintro e w' ⟨rfl, rfl⟩))
    go_ret
    exact ⟨ret_bool (by simp), hR2.below⟩

/-- Inside. -/
theorem main3 (a0 : Option Addr) (c0 : Nat) (d : List Int) (a : Nat) (w : World) (s0 : Seen w a0 c0 d) (h0 : d.length ≤ 1048576) (h : a < d.length) :
    Calls Try.prog 3 #[.slice a0 d.length c0, .int .i64 a] w fun e w' => e = .returned (.bool true) ∧ Below w.heap.size w w' := by
  obtain ⟨b, off, rfl, _, _⟩ := s0.at_ (by omega)
  have hnn := fun wx => run_neq_slice_nil_any (P := Try.prog) wx 22 5 (some ⟨b, off, none⟩) d.length c0 0 0 Try.underlying22
  have S0 : Hid (Seen w (some ⟨b, off, none⟩) c0 d) := s0
  clear s0
  have q0 : decide (d.length ≤ a) = false := decide_eq_false (by omega)
  go_enter Try.func3, Try.ntmps3
  go_wp2_with (first
    | (go_at_call 11; refine (zz11_true _ _ _ _ _ h0).mono ?_; rintro e w' ⟨rfl, rfl⟩)
    | (at_make; refine wpList_makeFullB rfl _ _ rfl w (Below.refl _ _) _ _ d.length rfl rfl rfl rfl (by omega) ?_; intro w1 hR1 hg1; obtain ⟨w2, hcp, hR2⟩ := copy_run hR1 rfl S0.out)
    | (go_at_call 12; refine (zzSkip_any _ _ _ _ d a _ rfl h0 h hR2.bytes).mono ?_; rintro e w' ⟨⟨r, rfl, ⟨hr1, hr2, hr3, hr4⟩⟩, rfl⟩; have H3 : Hid (∀ j, a ≤ j → j < r → spB (d.getD j 0) = true) := hr3; have H4 : Hid (r < d.length → spB (d.getD r 0) = false) := hr4; clear hr3 hr4 hnn hcp hR1 hg1; have q1 : decide (r < a) = false := decide_eq_false (by omega); have q2 : decide (d.length < r) = false := decide_eq_false (by omega)))
  go_loop [7] (fun t => ∃ i : Nat, t = .int .i64 i ∧ a ≤ i ∧ i ≤ r) (fun t => r - (intOf t).toNat)
  case atStart => exact ⟨a, rfl, Nat.le_refl _, hr1⟩
  case round =>
    obtain ⟨i, rfl, hai, hir⟩ := hrel
    by_cases hi : i < r
    · obtain ⟨x, hx⟩ : ∃ x, x = d.getD i 0 := ⟨_, rfl⟩
      have hci : w2.cell? ⟨w.heap.size, i, none⟩ = some (.int .u8 x) := by rw [hx]; have := hR2.bytes i (by omega); simpa using this
      have hsp : spB x = true := by rw [hx]; exact H3.out i hai hi
      clear hx
      go_wp2_with (go_at_call 13; refine (isSpace_any _ _).mono ?_; rintro e w' ⟨rfl, rfl⟩)
      go_round
      case rel => exact ⟨i + 1, by go_num, by omega, by omega⟩
      case measure => simp [intOf]; omega
    · have hlt0 : ¬ (i : Int) < (r : Int) := by omega
      by_cases hrd : r < d.length
      · obtain ⟨x, hx⟩ : ∃ x, x = d.getD r 0 := ⟨_, rfl⟩
        have hci : w2.cell? ⟨w.heap.size, r, none⟩ = some (.int .u8 x) := by rw [hx]; have := hR2.bytes r (by omega); simpa using this
        have hsp : spB x = false := by rw [hx]; exact H4.out hrd
        clear hx
        go_wp2_with (go_at_call 13; refine (isSpace_any _ _).mono ?_; rintro e w' ⟨rfl, rfl⟩)
        go_ret
        exact ⟨rfl, hR2.below⟩
      · have hdd : decide ((r : Int) < (d.length : Int)) = false := decide_eq_false (by omega)
        go_wp2
        go_ret
        exact ⟨rfl, hR2.below⟩

theorem walk3 (a0 : Option Addr) (len0 cap0 : Nat) (z0 : List Int) (a1 : Int) (w : World) (w0 : IsRow .u8 w a0 len0 cap0 z0) (w1 : (Lit.int .i64 a1).wf = true) :
    Calls Try.prog 3 #[.slice a0 len0 cap0, .int .i64 a1] w fun e w' => e = .returned (.bool true) ∧ Below w.heap.size w w' := by
  obtain ⟨d, rfl, s0⟩ := seen_of_row w0
  have hb := bounds_i64 w1
  by_cases h : d.length ≤ 1048576 ∧ 0 ≤ a1
  · obtain ⟨h, h1⟩ := h
    obtain ⟨a, rfl⟩ : ∃ a : Nat, a1 = a := ⟨a1.toNat, by omega⟩
    by_cases h2 : a < d.length
    · exact main3 a0 cap0 d a w s0 h h2
    · exact past3 a0 cap0 d a w s0 h (by omega) (by omega)
  · exact early3 a0 _ cap0 a1 w (Nat.le_trans s0.le s0.room) h
end Go.Proofs.Qxb6600806a
