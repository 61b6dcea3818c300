/-
  THE WALKS OF SEAT b6600806a: the leaves: isSpaceByte, isScalarStop, opensNested, stringEnd, skipSpace.
-/
import Derived.Test.Qxb6600806aRowB
namespace Go.Proofs.Qxb6600806a
open Go.ChangeShapes Go.WideShapes Go.ChangeAt Go.RowKit
set_option linter.unusedVariables false

theorem isSpace_any (x : Int) (w : World) : Calls Try.prog 13 #[.int .u8 x] w fun e w' => e = .returned (.bool (spB x)) ∧ w = w' := by
  go_enter Try.func13, Try.ntmps13
  go_wp2
  all_goals go_ret
  all_goals exact ⟨ret_bool (by simp [spB, *]), rfl⟩

theorem opens_any (x : Int) (w : World) : Calls Try.prog 21 #[.int .u8 x] w fun e w' => e = .returned (.bool (opensB x)) ∧ w = w' := by
  go_enter Try.func21, Try.ntmps21
  go_wp2
  all_goals go_ret
  all_goals exact ⟨ret_bool (by simp [opensB, *]), rfl⟩

theorem stop_any (x : Int) (w : World) : Calls Try.prog 24 #[.int .u8 x] w fun e w' => e = .returned (.bool (stopB x)) ∧ w = w' := by
  by_cases hs : spB x = true
  · go_enter Try.func24, Try.ntmps24
    go_wp2_with (go_at_call 13; refine (isSpace_any _ _).mono ?_; rintro e w' ⟨rfl, rfl⟩)
    all_goals go_ret
    all_goals exact ⟨ret_bool (by simp [stopB, *]), rfl⟩
  · have hf : spB x = false := by simpa using hs
    clear hs
    go_enter Try.func24, Try.ntmps24
    go_wp2_with (go_at_call 13; refine (isSpace_any _ _).mono ?_; rintro e w' ⟨rfl, rfl⟩)
    all_goals go_ret
    all_goals exact ⟨ret_bool (by simp [stopB, *]), rfl⟩

/-- 'stringEnd' where the string closes. -/
theorem strEnd_any (b off c n : Nat) (d : List Int) (a k : Nat) (w : World) (hn : d.length = n) (hd : d.length ≤ 1048576) (hk : aEnd false (d.drop (a + 1)) = some k) (hc : Bytes w b off d) :
    Calls Try.prog 30 #[.slice (some ⟨b, off, none⟩) n c, .int .i64 a] w fun e w' => e = .returned (.int .i64 ((a + 1 + k : Nat) : Int)) ∧ w = w' := by
  subst hn
  have hpos := aEnd_pos hk
  have hlen : (d.drop (a + 1)).length = d.length - (a + 1) := by simp
  have hb : a + 1 < d.length := by omega
  have HK : Hid (aEnd false (d.drop (a + 1)) = some k) := hk
  clear hk hlen hpos
  go_enter Try.func30, Try.ntmps30
  go_wp2
  go_loop [1] (fun t => ∃ i m : Nat, t = .int .i64 i ∧ Hid (aEnd false (d.drop i) = some m) ∧ i + m = a + 1 + k ∧ i < d.length) (fun t => d.length - (intOf t).toNat)
  case atStart => exact ⟨a + 1, k, by go_num, HK, rfl, hb⟩
  case round =>
    obtain ⟨i, m, rfl, H, hE, hlt⟩ := hrel
    obtain ⟨x, hx⟩ : ∃ x, x = d.getD i 0 := ⟨_, rfl⟩
    have hci : w.cell? ⟨b, off + i, none⟩ = some (.int .u8 x) := by rw [hx]; exact hc i hlt
    have HE : Hid (i + m = a + 1 + k) := hE
    have HX : Hid (x = d.getD i 0) := hx
    have hb' : i < d.length := hlt
    clear hE HK hx hc
    by_cases h1 : x = 34
    · have hm := aEnd_quote H.out hlt (by rw [← HX.out]; exact h1)
      subst h1
      have HM : Hid (m = 1) := hm
      clear hm
      go_wp2
      go_ret
      exact ⟨ret_int (by have := HE.out; have := HM.out; omega), rfl⟩
    · by_cases h2 : x = 92
      · have hm := aEnd_back H.out hlt (by rw [← HX.out]; exact h2)
        subst h2
        obtain ⟨h3, j, h4, h5⟩ := hm
        have H4 : Hid (aEnd false (d.drop (i + 2)) = some j) := h4
        have H5 : Hid (m = j + 2) := h5
        clear h4 h5
        go_wp2
        go_round
        case rel => exact ⟨i + 2, j, by go_num, H4, by have := HE.out; have := H5.out; omega, h3⟩
        case measure => simp [intOf]; omega
      · have hm := aEnd_plain H.out hlt (by rw [← HX.out]; exact h1) (by rw [← HX.out]; exact h2)
        obtain ⟨h3, j, h4, h5⟩ := hm
        have H4 : Hid (aEnd false (d.drop (i + 1)) = some j) := h4
        have H5 : Hid (m = j + 1) := h5
        clear h4 h5
        go_wp2
        go_round
        case rel => exact ⟨i + 1, j, by go_num, H4, by have := HE.out; have := H5.out; omega, h3⟩
        case measure => simp [intOf]; omega

theorem zzStrEnd_any (b off c n : Nat) (d : List Int) (a k : Nat) (w : World) (hn : d.length = n) (hd : d.length ≤ 1048576) (hk : aEnd false (d.drop (a + 1)) = some k) (hc : Bytes w b off d) :
    Calls Try.prog 18 #[.slice (some ⟨b, off, none⟩) n c, .int .i64 a] w fun e w' => e = .returned (.int .i64 ((a + 1 + k : Nat) : Int)) ∧ w = w' := by
  subst hn
  have HK : Hid (aEnd false (d.drop (a + 1)) = some k) := hk
  have HC : Hid (Bytes w b off d) := hc
  clear hk hc
  go_enter Try.func18, Try.ntmps18
  go_wp2_with (go_at_call 30; refine (strEnd_any b off c _ d a k _ rfl hd HK.out HC.out).mono ?_; rintro e w' ⟨rfl, rfl⟩)
  go_ret
  exact ⟨rfl, rfl⟩

end Go.Proofs.Qxb6600806a
