/-
  SEAT b6600806a: THE WALK OF 'FnValueEndTruncation'.
-/
import Derived.Test.Qxb6600806aValue
namespace Go.Proofs.Qxb6600806a
open Go.ChangeShapes Go.WideShapes Go.ChangeAt Go.RowKit
set_option linter.unusedVariables false

theorem zz27_any (a0 : Option Addr) (l0 c0 : Nat) (at_ : Int) (w : World) (h0 : l0 ≤ maxLen) :
    Calls Try.prog 27 #[.slice a0 l0 c0, .int .i64 at_] w fun e w' => (∃ B, e = .returned (.bool B)) ∧ w = w' := by
  unfold maxLen at h0
  go_enter Try.func27, Try.ntmps27
  go_wp2
  all_goals go_ret
  all_goals exact ⟨⟨_, rfl⟩, rfl⟩

theorem zz27_true (a0 : Option Addr) (l0 c0 : Nat) (at_ : Int) (w : World) (h0 : l0 ≤ 1048576) :
    Calls Try.prog 27 #[.slice a0 l0 c0, .int .i64 at_] w fun e w' => e = .returned (.bool true) ∧ w = w' := by
  go_enter Try.func27, Try.ntmps27
  go_wp2
  all_goals go_ret
  all_goals exact ⟨rfl, rfl⟩

theorem early10 (a0 : Option Addr) (l0 c0 : Nat) (at_ : Int) (w : World) (h0 : l0 ≤ maxLen) (h : ¬ (l0 ≤ 1048576 ∧ 0 ≤ at_ ∧ at_ < l0)) :
    Calls Try.prog 10 #[.slice a0 l0 c0, .int .i64 at_] w fun e w' => e = .returned (.bool true) ∧ Below w.heap.size w w' := by
  have hor : 1048576 < l0 ∨ (l0 ≤ 1048576 ∧ at_ < 0) ∨ (l0 ≤ 1048576 ∧ 0 ≤ at_ ∧ (l0 : Int) ≤ at_) := by omega
  clear h
  rcases hor with h | ⟨h, h'⟩ | ⟨h, h', h''⟩
  all_goals
    go_enter Try.func10, Try.ntmps10
    go_wp2_with (go_at_call 27; refine (zz27_any _ _ _ _ _ h0).mono ?_; rintro e w' ⟨⟨B, rfl⟩, rfl⟩)
    all_goals go_ret
    all_goals exact ⟨rfl, Below.refl _ _⟩

theorem Bytes.take {w : World} {b off : Nat} {d : List Int} (h : Bytes w b off d) (r : Nat) (hr : r ≤ d.length) : Bytes w b off (d.take r) := by
  intro i hi
  have hi' : i < r := by simp at hi; omega
  rw [h i (by omega)]
  simp [List.getD, hi']

/-- Does the value end? -/
def hasB (d : List Int) (a : Nat) : Bool := !opensB (d.getD a 0) || (nEnd 0 false false (d.drop a)).isSome

theorem has_any (b off c n : Nat) (d : List Int) (a : Nat) (w : World) (hn : d.length = n) (hd : d.length ≤ 1048576) (hlt : a < d.length) (hc : Bytes w b off d) :
    Calls Try.prog 28 #[.slice (some ⟨b, off, none⟩) n c, .int .i64 a] w fun e w' => e = .returned (.bool (hasB d a)) ∧ w = w' := by
  subst hn
  obtain ⟨x, hx⟩ : ∃ x, x = d.getD a 0 := ⟨_, rfl⟩
  have hcx : w.cell? ⟨b, off + a, none⟩ = some (.int .u8 x) := by rw [hx]; exact hc a hlt
  have HC : Hid (Bytes w b off d) := hc
  have HX : Hid (x = d.getD a 0) := hx
  clear hc hx
  cases ho : opensB x with
  | false =>
    go_enter Try.func28, Try.ntmps28
    go_wp2_with (go_at_call 21; refine (opens_any _ _).mono ?_; rintro e w' ⟨rfl, rfl⟩)
    go_ret
    exact ⟨ret_bool (by unfold hasB; rw [← HX.out, ho]; rfl), rfl⟩
  | true =>
    cases hk : nEnd 0 false false (d.drop a) with
    | none =>
      have hq : nestR d a = -1 := by unfold nestR; rw [hk]
      have HK : Hid (nEnd 0 false false (d.drop a) = none) := hk
      clear hk
      go_enter Try.func28, Try.ntmps28
      go_wp2_with (first
        | (go_at_call 21; refine (opens_any _ _).mono ?_; rintro e w' ⟨rfl, rfl⟩)
        | (go_at_call 22; refine (nest_any _ _ _ _ d a _ rfl hd hlt HC.out).mono ?_; rintro e w' ⟨rfl, rfl⟩))
      go_ret
      exact ⟨ret_bool (by unfold hasB; rw [← HX.out, ho, HK.out]; rfl), rfl⟩
    | some k =>
      have hq : nestR d a = ((a + k : Nat) : Int) := by unfold nestR; rw [hk]
      have HK : Hid (nEnd 0 false false (d.drop a) = some k) := hk
      clear hk
      have hnn : (0 : Int) ≤ (a : Int) + (k : Int) := by omega
      go_enter Try.func28, Try.ntmps28
      go_wp2_with (first
        | (go_at_call 21; refine (opens_any _ _).mono ?_; rintro e w' ⟨rfl, rfl⟩)
        | (go_at_call 22; refine (nest_any _ _ _ _ d a _ rfl hd hlt HC.out).mono ?_; rintro e w' ⟨rfl, rfl⟩))
      go_ret
      refine ⟨ret_bool ?_, rfl⟩
      unfold hasB
      rw [← HX.out, ho, HK.out]
      simp

/-- It does not end. -/
theorem no10 (a0 : Option Addr) (c0 : Nat) (d : List Int) (a : Nat) (w : World) (s0 : Seen w a0 c0 d) (h0 : d.length ≤ 1048576) (h : a < d.length) (hh : hasB d a = false) :
    Calls Try.prog 10 #[.slice a0 d.length c0, .int .i64 a] w fun e w' => e = .returned (.bool true) ∧ Below w.heap.size w w' := by
  obtain ⟨b, off, rfl, hB, _⟩ := s0.at_ (by omega)
  have HB : Hid (Bytes w b off d) := hB
  clear s0 hB
  go_enter Try.func10, Try.ntmps10
  go_wp2_with (first
    | (go_at_call 27; refine (zz27_true _ _ _ _ _ h0).mono ?_; rintro e w' ⟨rfl, rfl⟩)
    | (go_at_call 28; refine (has_any _ _ _ _ d a _ rfl h0 h HB.out).mono ?_; rintro e w' ⟨rfl, rfl⟩))
  go_ret
  exact ⟨rfl, Below.refl _ _⟩

theorem trunc_len {d : List Int} {r : Nat} (h : r ≤ d.length) : (d.take r).length = r := by simp; omega
theorem trunc_at {d : List Int} {a r : Nat} (h : a < r) : (d.take r).getD a 0 = d.getD a 0 := by simp [List.getD, h]

set_option maxHeartbeats 800000 in
/-- A string, an object or an array that ends. -/
theorem nest10 (a0 : Option Addr) (c0 : Nat) (d : List Int) (a k : Nat) (w : World) (s0 : Seen w a0 c0 d) (h0 : d.length ≤ 1048576) (h : a < d.length) (ho : opensB (d.getD a 0) = true) (hk : nEnd 0 false false (d.drop a) = some k) :
    Calls Try.prog 10 #[.slice a0 d.length c0, .int .i64 a] w fun e w' => e = .returned (.bool true) ∧ Below w.heap.size w w' := by
  obtain ⟨b, off, rfl, hB, _⟩ := s0.at_ (by omega)
  have hnn := fun wx => run_neq_slice_nil_any (P := Try.prog) wx 22 5 (some ⟨b, off, none⟩) d.length c0 0 0 Try.underlying22
  have S0 : Hid (Seen w (some ⟨b, off, none⟩) c0 d) := s0
  have HB : Hid (Bytes w b off d) := hB
  have hp := nEnd_pos hk
  simp only [List.length_drop] at hp
  have hk1 : 1 ≤ k := hp.1
  have hk2 : a + k ≤ d.length := by omega
  have hh : hasB d a = true := by unfold hasB; rw [hk]; simp
  have ht : nEnd 0 false false ((d.take (a + k)).drop a) = some k := by
    rw [List.drop_take, show a + k - a = k by omega]; exact nEnd_take hk
  have HK : Hid (nEnd 0 false false (d.drop a) = some k) := hk
  have HT : Hid (nEnd 0 false false ((d.take (a + k)).drop a) = some k) := ht
  have HO : Hid (opensB (d.getD a 0) = true) := ho
  have q1 : decide (a + k < a) = false := decide_eq_false (by omega)
  have q2 : decide (d.length < a + k) = false := decide_eq_false (by omega)
  have q0 : decide (d.length ≤ a) = false := decide_eq_false (by omega)
  have q3 : ((a : Int) + (k : Int) == (a : Int)) = false := by simp; omega
  have q4 : ¬ d.length = 0 := by omega
  clear s0 hB hp ht hk ho
  go_enter Try.func10, Try.ntmps10
  go_wp2_with (first
    | (go_at_call 27; refine (zz27_true _ _ _ _ _ h0).mono ?_; rintro e w' ⟨rfl, rfl⟩)
    | (go_at_call 28; refine (has_any _ _ _ _ d a _ rfl h0 h HB.out).mono ?_; rintro e w' ⟨rfl, rfl⟩)
    | (at_make; refine wpList_makeFullB rfl _ _ rfl w (Below.refl _ _) _ _ d.length rfl rfl rfl rfl (by omega) ?_; intro w1 hR1 hg1; obtain ⟨w2, hcp, hR2⟩ := copy_run hR1 rfl S0.out))
  refine (zzValue_nest _ _ _ _ d a k _ rfl h0 HO.out HK.out hR2.bytes).mono ?_
  rintro e w' ⟨rfl, rfl⟩
  clear hR1 hg1 hcp hnn
  go_wp2_with fail
  refine (zzValue_nest _ _ _ _ (d.take (a + k)) a k _ (trunc_len hk2) (by rw [trunc_len hk2]; omega) (by rw [trunc_at (by omega)]; exact HO.out) HT.out (hR2.bytes.take _ hk2)).mono ?_
  rintro e w' ⟨rfl, rfl⟩
  go_wp2
  go_ret
  exact ⟨ret_bool (by simp), hR2.below⟩

theorem ScalR.trunc {d : List Int} {a r r' : Nat} (h : ScalR d a r) (h' : ScalR (d.take r) a r') : r' = r := by
  obtain ⟨h1, h2, h3, h4⟩ := h
  obtain ⟨g1, g2, g3, g4⟩ := h'
  rw [trunc_len h2] at g2 g4
  by_cases hlt : r' < r
  · have e1 := h3 r' g1 hlt
    have e2 := g4 hlt
    rw [trunc_at hlt] at e2
    rw [e1] at e2; cases e2
  · omega

set_option maxHeartbeats 800000 in
/-- A scalar. -/
theorem scal10 (a0 : Option Addr) (c0 : Nat) (d : List Int) (a : Nat) (w : World) (s0 : Seen w a0 c0 d) (h0 : d.length ≤ 1048576) (h : a < d.length) (ho : opensB (d.getD a 0) = false) :
    Calls Try.prog 10 #[.slice a0 d.length c0, .int .i64 a] w fun e w' => e = .returned (.bool true) ∧ Below w.heap.size w w' := by
  obtain ⟨b, off, rfl, hB, _⟩ := s0.at_ (by omega)
  have hnn := fun wx => run_neq_slice_nil_any (P := Try.prog) wx 22 5 (some ⟨b, off, none⟩) d.length c0 0 0 Try.underlying22
  have S0 : Hid (Seen w (some ⟨b, off, none⟩) c0 d) := s0
  have HB : Hid (Bytes w b off d) := hB
  have hh : hasB d a = true := by unfold hasB; rw [ho]; simp
  have HO : Hid (opensB (d.getD a 0) = false) := ho
  have q0 : decide (d.length ≤ a) = false := decide_eq_false (by omega)
  have q4 : ¬ d.length = 0 := by omega
  clear s0 hB ho
  go_enter Try.func10, Try.ntmps10
  go_wp2_with (first
    | (go_at_call 27; refine (zz27_true _ _ _ _ _ h0).mono ?_; rintro e w' ⟨rfl, rfl⟩)
    | (go_at_call 28; refine (has_any _ _ _ _ d a _ rfl h0 h HB.out).mono ?_; rintro e w' ⟨rfl, rfl⟩)
    | (at_make; refine wpList_makeFullB rfl _ _ rfl w (Below.refl _ _) _ _ d.length rfl rfl rfl rfl (by omega) ?_; intro w1 hR1 hg1; obtain ⟨w2, hcp, hR2⟩ := copy_run hR1 rfl S0.out))
  refine (zzValue_scal _ _ _ _ d a _ rfl h0 h HO.out hR2.bytes).mono ?_
  rintro e w' ⟨⟨r, rfl, hr⟩, rfl⟩
  clear hR1 hg1 hcp hnn
  have HR : Hid (ScalR d a r) := hr
  have hr1 : a ≤ r := hr.1
  have hr2 : r ≤ d.length := hr.2.1
  have q1 : decide (r < a) = false := decide_eq_false (by omega)
  have q2 : decide (d.length < r) = false := decide_eq_false (by omega)
  clear hr
  by_cases hra : r = a
  · subst hra
    obtain ⟨x, hx⟩ : ∃ x, x = d.getD r 0 := ⟨_, rfl⟩
    have hcx : w2.cell? ⟨w.heap.size, r, none⟩ = some (.int .u8 x) := by rw [hx]; have := hR2.bytes r h; simpa using this
    have hs : stopB x = true := by rw [hx]; exact HR.out.2.2.2 h
    clear hx
    go_wp2_with (go_at_call 24; refine (stop_any _ _).mono ?_; rintro e w' ⟨rfl, rfl⟩)
    go_ret
    exact ⟨rfl, hR2.below⟩
  · have q3 : ((r : Int) == (a : Int)) = false := by simp; omega
    have hlt : a < r := by omega
    clear hra
    go_wp2_with fail
    refine (zzValue_scal _ _ _ _ (d.take r) a _ (trunc_len hr2) (by rw [trunc_len hr2]; omega) (by rw [trunc_len hr2]; exact hlt) (by rw [trunc_at hlt]; exact HO.out) (hR2.bytes.take _ hr2)).mono ?_
    rintro e w' ⟨⟨r', rfl, hr'⟩, rfl⟩
    obtain rfl := HR.out.trunc hr'
    clear hr'
    go_wp2
    go_ret
    exact ⟨ret_bool (by simp), hR2.below⟩

theorem walk10 (a0 : Option Addr) (len0 cap0 : Nat) (z0 : List Int) (a1 : Int) (w : World) (w0 : IsRow .u8 w a0 len0 cap0 z0) (w1 : (Lit.int .i64 a1).wf = true) :
    Calls Try.prog 10 #[.slice a0 len0 cap0, .int .i64 a1] w fun e w' => e = .returned (.bool true) ∧ Below w.heap.size w w' := by
  obtain ⟨d, rfl, s0⟩ := seen_of_row w0
  by_cases h : d.length ≤ 1048576 ∧ 0 ≤ a1 ∧ a1 < d.length
  · obtain ⟨h, h1, h2⟩ := h
    obtain ⟨a, rfl⟩ : ∃ a : Nat, a1 = a := ⟨a1.toNat, by omega⟩
    cases ho : opensB (d.getD a 0) with
    | true =>
      cases hk : nEnd 0 false false (d.drop a) with
      | some k => exact nest10 a0 cap0 d a k w s0 h (by omega) ho hk
      | none => exact no10 a0 cap0 d a w s0 h (by omega) (by unfold hasB; rw [ho, hk]; rfl)
    | false => exact scal10 a0 cap0 d a w s0 h (by omega) ho
  · exact early10 a0 _ cap0 a1 w (Nat.le_trans s0.le s0.room) h

end Go.Proofs.Qxb6600806a
