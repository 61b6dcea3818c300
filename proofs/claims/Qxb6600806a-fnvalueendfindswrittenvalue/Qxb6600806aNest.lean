/-
  SEAT b6600806a: THE WALK OF 'nestedEndModel'.
-/
import Derived.Test.Qxb6600806aWalks
namespace Go.Proofs.Qxb6600806a
open Go.ChangeShapes Go.WideShapes Go.ChangeAt Go.RowKit
set_option linter.unusedVariables false

/-- What 'nestedEndModel' answers. -/
def nestR (d : List Int) (a : Nat) : Int := match nEnd 0 false false (d.drop a) with | some k => ((a + k : Nat) : Int) | none => -1

/-- The loop's fact at place 'a + m'. -/
def NInv (d : List Int) (a m : Nat) (dep : Int) (s e : Bool) : Prop := nEnd 0 false false (d.drop a) = (nEnd dep s e (d.drop (a + m))).map (· + m)

theorem NInv.start (d : List Int) (a : Nat) : NInv d a 0 0 false false := by
  unfold NInv
  rw [Nat.add_zero]
  cases nEnd 0 false false (d.drop a) <;> rfl
theorem NInv.to {d : List Int} {a m : Nat} {dep dep' : Int} {s e s' e' : Bool} (h : NInv d a m dep s e) (hs : nEnd dep s e (d.drop (a + m)) = (nEnd dep' s' e' (d.drop (a + m + 1))).map (· + 1)) : NInv d a (m + 1) dep' s' e' := by
  unfold NInv at *
  rw [h, hs, show a + (m + 1) = a + m + 1 by omega]
  cases nEnd dep' s' e' (d.drop (a + m + 1)) <;> simp; omega
theorem NInv.hit {d : List Int} {a m : Nat} {dep : Int} {s e : Bool} (h : NInv d a m dep s e) (hs : nEnd dep s e (d.drop (a + m)) = some 1) : nestR d a = ((a + m + 1 : Nat) : Int) := by
  unfold NInv at h
  unfold nestR
  rw [h, hs]
  simp; omega
theorem NInv.miss {d : List Int} {a m : Nat} {dep : Int} {s e : Bool} (h : NInv d a m dep s e) (hl : ¬ a + m < d.length) : nestR d a = -1 := by
  unfold NInv at h
  unfold nestR
  rw [h, nEnd_drop d _ _ _ _ hl]; rfl

/-! One step at a byte x. -/
theorem st_esc {d : List Int} {i : Nat} {x dep : Int} (h : i < d.length) (hx : x = d.getD i 0) : nEnd dep true true (d.drop i) = (nEnd dep true false (d.drop (i + 1))).map (· + 1) := by
  rw [drop_at d i h]; rfl
theorem st_back {d : List Int} {i : Nat} {dep : Int} (h : i < d.length) (hx : 92 = d.getD i 0) : nEnd dep true false (d.drop i) = (nEnd dep true true (d.drop (i + 1))).map (· + 1) := by
  rw [drop_at d i h, ← hx]; simp [nEnd]
theorem st_end {d : List Int} {i : Nat} (h : i < d.length) (hx : 34 = d.getD i 0) : nEnd 0 true false (d.drop i) = some 1 := by
  rw [drop_at d i h, ← hx]; simp [nEnd]
theorem st_out {d : List Int} {i : Nat} {dep : Int} (h : i < d.length) (hx : 34 = d.getD i 0) (h0 : ¬ dep = 0) : nEnd dep true false (d.drop i) = (nEnd dep false false (d.drop (i + 1))).map (· + 1) := by
  rw [drop_at d i h, ← hx]; simp [nEnd, h0]
theorem st_in {d : List Int} {i : Nat} {x dep : Int} (h : i < d.length) (hx : x = d.getD i 0) (h1 : ¬ x = 92) (h2 : ¬ x = 34) : nEnd dep true false (d.drop i) = (nEnd dep true false (d.drop (i + 1))).map (· + 1) := by
  rw [drop_at d i h, ← hx]; simp [nEnd, h1, h2]
theorem st_quote {d : List Int} {i : Nat} {dep : Int} {e : Bool} (h : i < d.length) (hx : 34 = d.getD i 0) : nEnd dep false e (d.drop i) = (nEnd dep true e (d.drop (i + 1))).map (· + 1) := by
  rw [drop_at d i h, ← hx]; simp [nEnd]
theorem st_open {d : List Int} {i : Nat} {x dep : Int} {e : Bool} (h : i < d.length) (hx : x = d.getD i 0) (h1 : x = 123 ∨ x = 91) : nEnd dep false e (d.drop i) = (nEnd (dep + 1) false e (d.drop (i + 1))).map (· + 1) := by
  rw [drop_at d i h, ← hx]; rcases h1 with rfl | rfl <;> simp [nEnd]
theorem st_last {d : List Int} {i : Nat} {x dep : Int} {e : Bool} (h : i < d.length) (hx : x = d.getD i 0) (h1 : x = 125 ∨ x = 93) (h0 : dep - 1 = 0) : nEnd dep false e (d.drop i) = some 1 := by
  rw [drop_at d i h, ← hx]; rcases h1 with rfl | rfl <;> simp [nEnd, h0]
theorem st_close {d : List Int} {i : Nat} {x dep : Int} {e : Bool} (h : i < d.length) (hx : x = d.getD i 0) (h1 : x = 125 ∨ x = 93) (h0 : ¬ dep - 1 = 0) : nEnd dep false e (d.drop i) = (nEnd (dep - 1) false e (d.drop (i + 1))).map (· + 1) := by
  rw [drop_at d i h, ← hx]; rcases h1 with rfl | rfl <;> simp [nEnd, h0]
theorem st_plain {d : List Int} {i : Nat} {x dep : Int} {e : Bool} (h : i < d.length) (hx : x = d.getD i 0) (h1 : ¬ x = 34) (h2 : ¬ (x = 123 ∨ x = 91)) (h3 : ¬ (x = 125 ∨ x = 93)) : nEnd dep false e (d.drop i) = (nEnd dep false e (d.drop (i + 1))).map (· + 1) := by
  rw [drop_at d i h, ← hx]; simp [nEnd, h1, h2, h3]

set_option maxHeartbeats 1600000 in
theorem nest_any (b off c n : Nat) (d : List Int) (a : Nat) (w : World) (hn : d.length = n) (hd : d.length ≤ 1048576) (hlt : a < d.length) (hc : Bytes w b off d) :
    Calls Try.prog 22 #[.slice (some ⟨b, off, none⟩) n c, .int .i64 a] w fun e w' => e = .returned (.int .i64 (nestR d a)) ∧ w = w' := by
  subst hn
  have HC : Hid (Bytes w b off d) := hc
  clear hc
  go_enter Try.func22, Try.ntmps22
  go_wp2
  go_loop [5, 6, 7, 8] (fun td ts te ti => ∃ (m : Nat) (dep : Int) (s e : Bool), ti = .int .i64 ((a : Int) + m) ∧ td = .int .i64 dep ∧ ts = .bool s ∧ te = .bool e ∧ a + m ≤ d.length ∧ -(m : Int) ≤ dep ∧ dep ≤ m ∧ Hid (NInv d a m dep s e)) (fun _ _ _ ti => d.length - (intOf ti).toNat)
  case atStart => exact ⟨0, 0, false, false, by go_num, rfl, rfl, rfl, by omega, by omega, by omega, NInv.start d a⟩
  case round =>
    obtain ⟨m, dep, s, e, rfl, rfl, rfl, rfl, hml, hd1, hd2, H⟩ := hrel
    by_cases hi : a + m < d.length
    · obtain ⟨x, hx⟩ : ∃ x, x = d.getD (a + m) 0 := ⟨_, rfl⟩
      have hci : w.cell? ⟨b, off + (a + m), none⟩ = some (.int .u8 x) := by rw [hx]; exact HC.out _ hi
      have HX : Hid (x = d.getD (a + m) 0) := hx
      clear hx
      cases s with
      | true =>
        cases e with
        | true =>
          have H' : Hid (NInv d a (m + 1) dep true false) := H.out.to (st_esc hi HX.out)
          go_wp2
          go_round
          case rel => exact ⟨m + 1, dep, true, false, by go_num, rfl, rfl, rfl, by omega, by omega, by omega, H'⟩
          case measure => simp [intOf]; omega
        | false =>
          by_cases h1 : x = 92
          · subst h1
            have H' : Hid (NInv d a (m + 1) dep true true) := H.out.to (st_back hi HX.out)
            go_wp2
            go_round
            case rel => exact ⟨m + 1, dep, true, true, by go_num, rfl, rfl, rfl, by omega, by omega, by omega, H'⟩
            case measure => simp [intOf]; omega
          · by_cases h2 : x = 34
            · subst h2
              by_cases h0 : dep = 0
              · subst h0
                have H' : Hid (nestR d a = ((a + m + 1 : Nat) : Int)) := H.out.hit (st_end hi HX.out)
                go_wp2
                go_ret
                exact ⟨ret_int (by rw [H'.out]; omega), rfl⟩
              · have h0' : (dep == 0) = false := by simpa using h0
                have H' : Hid (NInv d a (m + 1) dep false false) := H.out.to (st_out hi HX.out h0)
                go_wp2
                go_round
                case rel => exact ⟨m + 1, dep, false, false, by go_num, rfl, rfl, rfl, by omega, by omega, by omega, H'⟩
                case measure => simp [intOf]; omega
            · have f1 : (x == 92) = false := by simpa using h1
              have f2 : (x == 34) = false := by simpa using h2
              have H' : Hid (NInv d a (m + 1) dep true false) := H.out.to (st_in hi HX.out h1 h2)
              go_wp2
              go_round
              case rel => exact ⟨m + 1, dep, true, false, by go_num, rfl, rfl, rfl, by omega, by omega, by omega, H'⟩
              case measure => simp [intOf]; omega
      | false =>
        by_cases h1 : x = 34
        · subst h1
          have H' : Hid (NInv d a (m + 1) dep true e) := H.out.to (st_quote hi HX.out)
          go_wp2
          go_round
          case rel => exact ⟨m + 1, dep, true, e, by go_num, rfl, rfl, rfl, by omega, by omega, by omega, H'⟩
          case measure => simp [intOf]; omega
        · have f1 : (x == 34) = false := by simpa using h1
          by_cases h2 : x = 123 ∨ x = 91
          · have H' : Hid (NInv d a (m + 1) (dep + 1) false e) := H.out.to (st_open hi HX.out h2)
            have h2' : x = 123 ∨ (¬ x = 123 ∧ x = 91) := by omega
            clear h2 h1 f1
            rcases h2' with rfl | ⟨_, rfl⟩
            all_goals
              go_wp2
              go_round
              case rel => exact ⟨m + 1, dep + 1, false, e, by go_num, rfl, rfl, rfl, by omega, by omega, by omega, H'⟩
              case measure => simp [intOf]; omega
          · by_cases h3 : x = 125 ∨ x = 93
            · by_cases h0 : dep - 1 = 0
              · have H' : Hid (nestR d a = ((a + m + 1 : Nat) : Int)) := H.out.hit (st_last hi HX.out h3 h0)
                obtain rfl : dep = 1 := by omega
                clear h2 h1 f1
                rcases h3 with rfl | rfl
                all_goals
                  go_wp2
                  go_ret
                  exact ⟨ret_int (by rw [H'.out]; omega), rfl⟩
              · have H' : Hid (NInv d a (m + 1) (dep - 1) false e) := H.out.to (st_close hi HX.out h3 h0)
                have h0' : ((dep - 1) == 0) = false := by simpa using h0
                clear h2 h1 f1
                rcases h3 with rfl | rfl
                all_goals
                  go_wp2
                  go_round
                  case rel => exact ⟨m + 1, dep - 1, false, e, by go_num, rfl, rfl, rfl, by omega, by omega, by omega, H'⟩
                  case measure => simp [intOf]; omega
            · have H' : Hid (NInv d a (m + 1) dep false e) := H.out.to (st_plain hi HX.out h1 h2 h3)
              have g1 : (x == 123) = false := by simp; omega
              have g2 : (x == 91) = false := by simp; omega
              have g3 : (x == 125) = false := by simp; omega
              have g4 : (x == 93) = false := by simp; omega
              clear h1 h2 h3
              go_wp2
              go_round
              case rel => exact ⟨m + 1, dep, false, e, by go_num, rfl, rfl, rfl, by omega, by omega, by omega, H'⟩
              case measure => simp [intOf]; omega
    · go_wp2
      go_ret
      exact ⟨ret_int (H.out.miss hi).symm, rfl⟩
end Go.Proofs.Qxb6600806a
