/-
  SEAT b6600806a: THE WALKS OF 'closingQuoteModel' AND OF 'FnStringEndSpec'.
-/
import Derived.Test.Qxb6600806aWalks
namespace Go.Proofs.Qxb6600806a
open Go.ChangeShapes Go.WideShapes Go.ChangeAt Go.RowKit
set_option linter.unusedVariables false

/-- What 'closingQuoteModel' answers. -/
def quoteR (d : List Int) (a : Nat) : Int := match aEnd false (d.drop (a + 1)) with | some k => ((a + 1 + k : Nat) : Int) | none => -1

/-- The outer loop's fact at place 'a + 1 + m': nothing found yet. -/
def QInv (d : List Int) (a m : Nat) : Prop := aEnd false (d.drop (a + 1)) = (aEnd (escB d a m) (d.drop (a + 1 + m))).map (· + m)

theorem QInv.start (d : List Int) (a : Nat) : QInv d a 0 := by
  unfold QInv
  have : escB d a 0 = false := by simp [escB, runN]
  rw [this, Nat.add_zero]
  cases aEnd false (d.drop (a + 1)) <;> rfl
theorem QInv.step {d : List Int} {a m : Nat} (h : QInv d a m) (hl : a + 1 + m < d.length) (hq : ¬ (d.getD (a + 1 + m) 0 = 34 ∧ runN d a m % 2 = 0)) : QInv d a (m + 1) := by
  unfold QInv at *
  rw [h, aEnd_esc_step d a m hl hq]
  cases aEnd (escB d a (m + 1)) (d.drop (a + 1 + (m + 1))) <;> simp; omega
theorem QInv.hit {d : List Int} {a m : Nat} (h : QInv d a m) (hl : a + 1 + m < d.length) (hq : d.getD (a + 1 + m) 0 = 34 ∧ runN d a m % 2 = 0) : quoteR d a = ((a + 1 + m + 1 : Nat) : Int) := by
  unfold QInv at h
  rw [aEnd_esc_hit d a m hl hq] at h
  unfold quoteR
  rw [h]
  simp; omega
theorem QInv.miss {d : List Int} {a m : Nat} (h : QInv d a m) (hl : ¬ a + 1 + m < d.length) : quoteR d a = -1 := by
  unfold QInv at h
  rw [aEnd_drop d _ _ hl] at h
  unfold quoteR
  rw [h]; rfl

set_option maxHeartbeats 800000 in
theorem quote_any (b off c n : Nat) (d : List Int) (a : Nat) (w : World) (hn : d.length = n) (hd : d.length ≤ 1048576) (hlt : a < d.length) (hc : Bytes w b off d) :
    Calls Try.prog 17 #[.slice (some ⟨b, off, none⟩) n c, .int .i64 a] w fun e w' => e = .returned (.int .i64 (quoteR d a)) ∧ w = w' := by
  subst hn
  have HC : Hid (Bytes w b off d) := hc
  clear hc
  go_enter Try.func17, Try.ntmps17
  go_wp2
  go_loop [5] (fun t => ∃ m : Nat, t = .int .i64 ((a : Int) + 1 + m) ∧ a + 1 + m ≤ d.length ∧ Hid (QInv d a m)) (fun t => d.length - (intOf t).toNat)
  case atStart => exact ⟨0, by go_num, by omega, QInv.start d a⟩
  case round =>
    obtain ⟨m, rfl, hml, H⟩ := hrel
    by_cases hi : a + 1 + m < d.length
    · obtain ⟨x, hx⟩ : ∃ x, x = d.getD (a + 1 + m) 0 := ⟨_, rfl⟩
      have hci : w.cell? ⟨b, off + (a + 1 + m), none⟩ = some (.int .u8 x) := by rw [hx]; exact HC.out _ hi
      have HX : Hid (x = d.getD (a + 1 + m) 0) := hx
      clear hx
      by_cases h1 : x = 34
      · subst h1
        go_wp2
        go_loop [6, 7] (fun t6 t7 => ∃ p k : Nat, p ≤ m ∧ k ≤ m ∧ t6 = .int .i64 k ∧ t7 = .int .i64 ((a : Int) + p) ∧ Hid (k + runN d a p = runN d a m)) (fun _ t7 => ((intOf t7) - a).toNat)
        case atStart => exact ⟨m, 0, Nat.le_refl _, Nat.zero_le _, by go_num, by go_num, Nat.zero_add _⟩
        case round =>
          obtain ⟨p, k, hpm, hkm, rfl, rfl, HR⟩ := hrel
          by_cases hp : 0 < p
          · obtain ⟨q, rfl⟩ : ∃ q, p = q + 1 := ⟨p - 1, by omega⟩
            obtain ⟨y, hy⟩ : ∃ y, y = d.getD (a + 1 + q) 0 := ⟨_, rfl⟩
            have hcy : w.cell? ⟨b, off + (a + (q + 1)), none⟩ = some (.int .u8 y) := by rw [hy, show a + (q + 1) = a + 1 + q by omega]; exact HC.out _ (by omega)
            have HY : Hid (y = d.getD (a + 1 + q) 0) := hy
            clear hy
            by_cases h2 : y = 92
            · subst h2
              have HR' : Hid (k + 1 + runN d a q = runN d a m) := by
                have h0 := HR.out
                rw [runN, if_pos HY.out.symm] at h0
                show _ = _
                omega
              go_wp2
              go_round
              case rel => exact ⟨q, k + 1, by omega, by have := HR'.out; have := runN_le d a m; omega, by go_num, by go_num, HR'⟩
              case measure => simp [intOf]; omega
            · have hf : (y == 92) = false := by simpa using h2
              have hk : k = runN d a m := by
                have h0 := HR.out
                rw [runN, if_neg (fun h => h2 (HY.out.trans h))] at h0
                omega
              have HK : Hid (k = runN d a m) := hk
              clear hk
              by_cases hev : k % 2 = 0
              · have he : ((k : Int) % 2) = 0 := by omega
                go_wp2
                go_ret
                exact ⟨ret_int (by rw [H.out.hit hi ⟨HX.out.symm, by rw [← HK.out]; exact hev⟩]; omega), rfl⟩
              · have he : ¬ ((k : Int) % 2) = 0 := by omega
                have H' : Hid (QInv d a (m + 1)) := H.out.step hi (fun h => hev (by rw [HK.out]; exact h.2))
                go_wp2
                go_round
                case rel => exact ⟨m + 1, by go_num, by omega, H'⟩
                case measure => simp [intOf]; omega
          · obtain rfl : p = 0 := by omega
            have hdf : decide ((a : Int) < (a : Int) + ((0 : Nat) : Int)) = false := decide_eq_false (by omega)
            have hk : k = runN d a m := by
              have h0 := HR.out
              rw [runN] at h0
              omega
            have HK : Hid (k = runN d a m) := hk
            clear hk
            by_cases hev : k % 2 = 0
            · have he : ((k : Int) % 2) = 0 := by omega
              go_wp2
              go_ret
              exact ⟨ret_int (by rw [H.out.hit hi ⟨HX.out.symm, by rw [← HK.out]; exact hev⟩]; omega), rfl⟩
            · have he : ¬ ((k : Int) % 2) = 0 := by omega
              have H' : Hid (QInv d a (m + 1)) := H.out.step hi (fun h => hev (by rw [HK.out]; exact h.2))
              go_wp2
              go_round
              case rel => exact ⟨m + 1, by go_num, by omega, H'⟩
              case measure => simp [intOf]; omega
      · have hf : (x == 34) = false := by simpa using h1
        have H' : Hid (QInv d a (m + 1)) := H.out.step hi (fun h => h1 (HX.out.trans h.1))
        go_wp2
        go_round
        case rel => exact ⟨m + 1, by go_num, by omega, H'⟩
        case measure => simp [intOf]; omega
    · go_wp2
      go_ret
      exact ⟨ret_int (H.out.miss hi).symm, rfl⟩

theorem zz16_any (a0 : Option Addr) (l0 c0 : Nat) (at_ : Int) (w : World) (h0 : l0 ≤ maxLen) :
    Calls Try.prog 16 #[.slice a0 l0 c0, .int .i64 at_] w fun e w' => (∃ B, e = .returned (.bool B)) ∧ w = w' := by
  unfold maxLen at h0
  go_enter Try.func16, Try.ntmps16
  go_wp2
  all_goals go_ret
  all_goals exact ⟨⟨_, rfl⟩, rfl⟩

theorem zz16_true (a0 : Option Addr) (l0 c0 : Nat) (at_ : Int) (w : World) (h0 : l0 ≤ 1048576) :
    Calls Try.prog 16 #[.slice a0 l0 c0, .int .i64 at_] w fun e w' => e = .returned (.bool true) ∧ w = w' := by
  go_enter Try.func16, Try.ntmps16
  go_wp2
  all_goals go_ret
  all_goals exact ⟨rfl, rfl⟩

theorem early6 (a0 : Option Addr) (l0 c0 : Nat) (at_ : Int) (w : World) (h0 : l0 ≤ maxLen) (h : ¬ (l0 ≤ 1048576 ∧ 0 ≤ at_ ∧ at_ < l0)) :
    Calls Try.prog 6 #[.slice a0 l0 c0, .int .i64 at_] w fun e w' => e = .returned (.bool true) ∧ Below w.heap.size w w' := by
  have hor : 1048576 < l0 ∨ (l0 ≤ 1048576 ∧ at_ < 0) ∨ (l0 ≤ 1048576 ∧ 0 ≤ at_ ∧ (l0 : Int) ≤ at_) := by omega
  clear h
  rcases hor with h | ⟨h, h'⟩ | ⟨h, h', h''⟩
  all_goals
    go_enter Try.func6, Try.ntmps6
    go_wp2_with (go_at_call 16; refine (zz16_any _ _ _ _ _ h0).mono ?_; rintro e w' ⟨⟨B, rfl⟩, rfl⟩)
    all_goals go_ret
    all_goals exact ⟨rfl, Below.refl _ _⟩

theorem main6 (a0 : Option Addr) (c0 : Nat) (d : List Int) (a : Nat) (w : World) (s0 : Seen w a0 c0 d) (h0 : d.length ≤ 1048576) (h : a < d.length) :
    Calls Try.prog 6 #[.slice a0 d.length c0, .int .i64 a] w fun e w' => e = .returned (.bool true) ∧ Below w.heap.size w w' := by
  obtain ⟨b, off, rfl, _, _⟩ := s0.at_ (by omega)
  have hnn := fun wx => run_neq_slice_nil_any (P := Try.prog) wx 22 5 (some ⟨b, off, none⟩) d.length c0 0 0 Try.underlying22
  have S0 : Hid (Seen w (some ⟨b, off, none⟩) c0 d) := s0
  clear s0
  have q0 : decide (d.length ≤ a) = false := decide_eq_false (by omega)
  cases hk : aEnd false (d.drop (a + 1)) with
  | none =>
    have hq : quoteR d a = -1 := by unfold quoteR; rw [hk]
    clear hk
    go_enter Try.func6, Try.ntmps6
    go_wp2_with (first
      | (go_at_call 16; refine (zz16_true _ _ _ _ _ h0).mono ?_; rintro e w' ⟨rfl, rfl⟩)
      | (at_make; refine wpList_makeFullB rfl _ _ rfl w (Below.refl _ _) _ _ d.length rfl rfl rfl rfl (by omega) ?_; intro w1 hR1 hg1; obtain ⟨w2, hcp, hR2⟩ := copy_run hR1 rfl S0.out)
      | (go_at_call 17; refine (quote_any _ _ _ _ d a _ rfl h0 h hR2.bytes).mono ?_; rintro e w' ⟨rfl, rfl⟩))
    go_ret
    exact ⟨rfl, hR2.below⟩
  | some k =>
    have hq : quoteR d a = ((a + 1 + k : Nat) : Int) := by unfold quoteR; rw [hk]
    have HK : Hid (aEnd false (d.drop (a + 1)) = some k) := hk
    clear hk
    go_enter Try.func6, Try.ntmps6
    go_wp2_with (first
      | (go_at_call 16; refine (zz16_true _ _ _ _ _ h0).mono ?_; rintro e w' ⟨rfl, rfl⟩)
      | (at_make; refine wpList_makeFullB rfl _ _ rfl w (Below.refl _ _) _ _ d.length rfl rfl rfl rfl (by omega) ?_; intro w1 hR1 hg1; obtain ⟨w2, hcp, hR2⟩ := copy_run hR1 rfl S0.out)
      | (go_at_call 17; refine (quote_any _ _ _ _ d a _ rfl h0 h hR2.bytes).mono ?_; rintro e w' ⟨rfl, rfl⟩)
      | (go_at_call 18; refine (zzStrEnd_any _ _ _ _ d a k _ rfl h0 HK.out hR2.bytes).mono ?_; rintro e w' ⟨rfl, rfl⟩))
    go_ret
    exact ⟨ret_bool (by simp), hR2.below⟩

theorem walk6 (a0 : Option Addr) (len0 cap0 : Nat) (z0 : List Int) (a1 : Int) (w : World) (w0 : IsRow .u8 w a0 len0 cap0 z0) (w1 : (Lit.int .i64 a1).wf = true) :
    Calls Try.prog 6 #[.slice a0 len0 cap0, .int .i64 a1] w fun e w' => e = .returned (.bool true) ∧ Below w.heap.size w w' := by
  obtain ⟨d, rfl, s0⟩ := seen_of_row w0
  by_cases h : d.length ≤ 1048576 ∧ 0 ≤ a1 ∧ a1 < d.length
  · obtain ⟨h, h1, h2⟩ := h
    obtain ⟨a, rfl⟩ : ∃ a : Nat, a1 = a := ⟨a1.toNat, by omega⟩
    exact main6 a0 cap0 d a w s0 h (by omega)
  · exact early6 a0 _ cap0 a1 w (Nat.le_trans s0.le s0.room) h

end Go.Proofs.Qxb6600806a
