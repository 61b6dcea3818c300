/-
  SEAT b6600806a: THE WALKS OF 'valueEnd'.
-/
import Derived.Test.Qxb6600806aNest
namespace Go.Proofs.Qxb6600806a
open Go.ChangeShapes Go.WideShapes Go.ChangeAt Go.RowKit
set_option linter.unusedVariables false

theorem of_map {o : Option Nat} {k : Nat} (h : o.map (· + 1) = some k) : ∃ j, o = some j ∧ k = j + 1 := by
  simp only [Option.map_eq_some_iff] at h
  obtain ⟨j, hj, rfl⟩ := h
  exact ⟨j, hj, rfl⟩
theorem nEnd_lt {d : List Int} {dep : Int} {s e : Bool} {i m : Nat} (h : nEnd dep s e (d.drop i) = some m) : i < d.length := by
  have := nEnd_pos h
  simp at this; omega

/-- A string. -/
theorem value_str (b off c n : Nat) (d : List Int) (a k : Nat) (w : World) (hn : d.length = n) (hd : d.length ≤ 1048576) (hx : d.getD a 0 = 34) (hk : nEnd 0 false false (d.drop a) = some k) (hc : Bytes w b off d) :
    Calls Try.prog 31 #[.slice (some ⟨b, off, none⟩) n c, .int .i64 a] w fun e w' => e = .returned (.int .i64 ((a + k : Nat) : Int)) ∧ w = w' := by
  subst hn
  have hlt := nEnd_lt hk
  rw [st_quote hlt hx.symm] at hk
  obtain ⟨j, hj, rfl⟩ := of_map hk
  rw [nEnd_zero] at hj
  have hca : w.cell? ⟨b, off + a, none⟩ = some (.int .u8 34) := by rw [hc a hlt, hx]
  have HC : Hid (Bytes w b off d) := hc
  have HJ : Hid (aEnd false (d.drop (a + 1)) = some j) := hj
  clear hc hk hj hx
  go_enter Try.func31, Try.ntmps31
  go_wp2_with (go_at_call 30; refine (strEnd_any _ _ _ _ d a j _ rfl hd HJ.out HC.out).mono ?_; rintro e w' ⟨rfl, rfl⟩)
  go_ret
  exact ⟨ret_int (by omega), rfl⟩

set_option maxHeartbeats 1600000 in
/-- An object or an array. -/
theorem value_box (b off c n : Nat) (d : List Int) (a k : Nat) (w : World) (hn : d.length = n) (hd : d.length ≤ 1048576) (hx : d.getD a 0 = 123 ∨ d.getD a 0 = 91) (hk : nEnd 0 false false (d.drop a) = some k) (hc : Bytes w b off d) :
    Calls Try.prog 31 #[.slice (some ⟨b, off, none⟩) n c, .int .i64 a] w fun e w' => e = .returned (.int .i64 ((a + k : Nat) : Int)) ∧ w = w' := by
  subst hn
  have hlt := nEnd_lt hk
  obtain ⟨y, hy⟩ : ∃ y, y = d.getD a 0 := ⟨_, rfl⟩
  have hca : w.cell? ⟨b, off + a, none⟩ = some (.int .u8 y) := by rw [hc a hlt, hy]
  have HC : Hid (Bytes w b off d) := hc
  have HK : Hid (nEnd 0 false false (d.drop a) = some k) := hk
  have HX : Hid (d.getD a 0 = 123 ∨ d.getD a 0 = 91) := hx
  have hyy : y = 123 ∨ (¬ y = 123 ∧ y = 91) := by omega
  clear hc hk hx hy
  rcases hyy with rfl | ⟨_, rfl⟩
  all_goals
    go_enter Try.func31, Try.ntmps31
    go_wp2
    go_loop [1, 5] (fun ti td => ∃ (i dep m : Nat), ti = .int .i64 i ∧ td = .int .i64 dep ∧ i < d.length ∧ a ≤ i ∧ a + dep ≤ i ∧ Hid (nEnd dep false false (d.drop i) = some m) ∧ Hid (i + m = a + k) ∧ Hid (dep = 0 → i = a)) (fun ti _ => d.length - (intOf ti).toNat)
    case atStart => exact ⟨a, 0, k, rfl, rfl, hlt, by omega, by omega, HK, rfl, fun _ => rfl⟩
    case round =>
      obtain ⟨i, dep, m, rfl, rfl, hi, hai, hdi, H, HM, H0⟩ := hrel
      obtain ⟨x, hx⟩ : ∃ x, x = d.getD i 0 := ⟨_, rfl⟩
      have hci : w.cell? ⟨b, off + i, none⟩ = some (.int .u8 x) := by rw [hx]; exact HC.out _ hi
      have HXi : Hid (x = d.getD i 0) := hx
      clear hx hca
      by_cases hd0 : dep = 0
      · have hia := H0.out hd0
        subst hia; subst hd0
        have hxx : x = 123 ∨ (¬ x = 123 ∧ x = 91) := by have := HXi.out; have := HX.out; omega
        have hstep := H.out
        rw [st_open hi HXi.out (by omega)] at hstep
        obtain ⟨j, hj, hmj⟩ := of_map hstep
        have hlt1 := nEnd_lt hj
        have HJ : Hid (nEnd ((1 : Nat) : Int) false false (d.drop (i + 1)) = some j) := hj
        have HMJ : Hid (m = j + 1) := hmj
        clear hstep hj hmj
        rcases hxx with rfl | ⟨_, rfl⟩
        all_goals
          go_wp2
          go_round
          case rel => exact ⟨i + 1, 1, j, by go_num, by go_num, hlt1, by omega, by omega, HJ, by have := HM.out; have := HMJ.out; show _ = _; omega, fun h => absurd h (by omega)⟩
          case measure => simp [intOf]; omega
      · obtain ⟨p, rfl⟩ : ∃ p, dep = p + 1 := ⟨dep - 1, by omega⟩
        clear hd0 H0
        by_cases h1 : x = 34
        · subst h1
          have hstep := H.out
          rw [st_quote hi HXi.out] at hstep
          obtain ⟨j, hj, hmj⟩ := of_map hstep
          obtain ⟨j1, j2, hj1, hj2, hj3⟩ := nEnd_str (by omega) hj
          rw [List.drop_drop] at hj2
          have hlt1 := nEnd_lt hj2
          have hp1 := aEnd_pos hj1
          have hge := hp1.1
          have HJ : Hid (nEnd ((p + 1 : Nat) : Int) false false (d.drop (i + 1 + j1)) = some j2) := hj2
          have HA : Hid (aEnd false (d.drop (i + 1)) = some j1) := hj1
          have HMJ : Hid (m = j1 + j2 + 1) := by show _ = _; omega
          clear hstep hj hmj hj1 hj2 hj3 hp1
          go_wp2_with (go_at_call 30; refine (strEnd_any _ _ _ _ d i j1 _ rfl hd HA.out HC.out).mono ?_; rintro e w' ⟨rfl, rfl⟩)
          go_round
          case rel => exact ⟨i + 1 + j1, p + 1, j2, by go_num, by go_num, hlt1, by omega, by omega, HJ, by have := HM.out; have := HMJ.out; show _ = _; omega, fun h => absurd h (by omega)⟩
          case measure => simp [intOf]; omega
        · have f1 : (x == 34) = false := by simpa using h1
          by_cases h2 : x = 123 ∨ x = 91
          · have hstep := H.out
            rw [st_open hi HXi.out h2] at hstep
            obtain ⟨j, hj, hmj⟩ := of_map hstep
            have hlt1 := nEnd_lt hj
            have HJ : Hid (nEnd ((p + 1 + 1 : Nat) : Int) false false (d.drop (i + 1)) = some j) := hj
            have HMJ : Hid (m = j + 1) := hmj
            have h2' : x = 123 ∨ (¬ x = 123 ∧ x = 91) := by omega
            clear hstep hj hmj h1 h2 f1
            rcases h2' with rfl | ⟨_, rfl⟩
            all_goals
              go_wp2
              go_round
              case rel => exact ⟨i + 1, p + 1 + 1, j, by go_num, by go_num, hlt1, by omega, by omega, HJ, by have := HM.out; have := HMJ.out; show _ = _; omega, fun h => absurd h (by omega)⟩
              case measure => simp [intOf]; omega
          · by_cases h3 : x = 125 ∨ x = 93
            · by_cases h0 : p = 0
              · subst h0
                have hstep := H.out
                rw [st_last hi HXi.out h3 (by omega)] at hstep
                have HMJ : Hid (m = 1) := by have := Option.some.inj hstep; show _ = _; omega
                clear hstep h1 h2 f1
                rcases h3 with rfl | rfl
                all_goals
                  go_wp2
                  go_ret
                  exact ⟨ret_int (by have := HM.out; have := HMJ.out; omega), rfl⟩
              · have hstep := H.out
                rw [st_close hi HXi.out h3 (by omega)] at hstep
                obtain ⟨j, hj, hmj⟩ := of_map hstep
                have hlt1 := nEnd_lt hj
                rw [show ((p + 1 : Nat) : Int) - 1 = (p : Int) by omega] at hj
                have HJ : Hid (nEnd (p : Int) false false (d.drop (i + 1)) = some j) := hj
                have HMJ : Hid (m = j + 1) := hmj
                clear hstep hj hmj h1 h2 f1
                rcases h3 with rfl | rfl
                all_goals
                  go_wp2
                  go_round
                  case rel => exact ⟨i + 1, p, j, by go_num, by go_num, hlt1, by omega, by omega, HJ, by have := HM.out; have := HMJ.out; show _ = _; omega, fun h => absurd h h0⟩
                  case measure => simp [intOf]; omega
            · have hstep := H.out
              rw [st_plain hi HXi.out h1 h2 h3] at hstep
              obtain ⟨j, hj, hmj⟩ := of_map hstep
              have hlt1 := nEnd_lt hj
              have HJ : Hid (nEnd ((p + 1 : Nat) : Int) false false (d.drop (i + 1)) = some j) := hj
              have HMJ : Hid (m = j + 1) := hmj
              have g1 : (x == 123) = false := by simp; omega
              have g2 : (x == 91) = false := by simp; omega
              have g3 : (x == 125) = false := by simp; omega
              have g4 : (x == 93) = false := by simp; omega
              clear hstep hj hmj h1 h2 h3
              go_wp2
              go_round
              case rel => exact ⟨i + 1, p + 1, j, by go_num, by go_num, hlt1, by omega, by omega, HJ, by have := HM.out; have := HMJ.out; show _ = _; omega, fun h => absurd h (by omega)⟩
              case measure => simp [intOf]; omega

/-- What 'valueEnd' answers at a scalar. -/
def ScalR (d : List Int) (a r : Nat) : Prop := a ≤ r ∧ r ≤ d.length ∧ (∀ j, a ≤ j → j < r → stopB (d.getD j 0) = false) ∧ (r < d.length → stopB (d.getD r 0) = true)

set_option maxHeartbeats 1600000 in
theorem value_scal (b off c n : Nat) (d : List Int) (a : Nat) (w : World) (hn : d.length = n) (hd : d.length ≤ 1048576) (hlt : a < d.length) (hx : opensB (d.getD a 0) = false) (hc : Bytes w b off d) :
    Calls Try.prog 31 #[.slice (some ⟨b, off, none⟩) n c, .int .i64 a] w fun e w' => (∃ r : Nat, e = .returned (.int .i64 (r : Int)) ∧ ScalR d a r) ∧ w = w' := by
  subst hn
  obtain ⟨y, hy⟩ : ∃ y, y = d.getD a 0 := ⟨_, rfl⟩
  have hca : w.cell? ⟨b, off + a, none⟩ = some (.int .u8 y) := by rw [hc a hlt, hy]
  have HC : Hid (Bytes w b off d) := hc
  have hff : (y == 34) = false ∧ (y == 123) = false ∧ (y == 91) = false := by rw [← hy] at hx; simpa [opensB, and_assoc] using hx
  obtain ⟨y1, y2, y3⟩ := hff
  clear hc hx hy
  go_enter Try.func31, Try.ntmps31
  go_wp2
  go_loop [1] (fun t => ∃ i : Nat, t = .int .i64 i ∧ i ≤ d.length ∧ a ≤ i ∧ Hid (∀ j, a ≤ j → j < i → stopB (d.getD j 0) = false)) (fun t => d.length - (intOf t).toNat)
  case atStart => exact ⟨a, rfl, by omega, Nat.le_refl _, fun j h1 h2 => absurd h2 (by omega)⟩
  case round =>
    obtain ⟨i, rfl, hil, hai, H⟩ := hrel
    clear hca
    by_cases hi : i < d.length
    · obtain ⟨x, hx⟩ : ∃ x, x = d.getD i 0 := ⟨_, rfl⟩
      have hci : w.cell? ⟨b, off + i, none⟩ = some (.int .u8 x) := by rw [hx]; exact HC.out i hi
      have HX : Hid (x = d.getD i 0) := hx
      clear hx
      by_cases hs : stopB x = true
      · have HS : Hid (stopB x = true) := hs
        have hor : x = 32 ∨ x = 9 ∨ x = 10 ∨ x = 13 ∨ x = 44 ∨ x = 125 := by simpa [stopB, spB, or_assoc] using hs
        clear hs
        rcases hor with rfl | rfl | rfl | rfl | rfl | rfl
        all_goals
          go_wp2
          go_ret
          exact ⟨⟨i, rfl, hai, hil, H.out, fun _ => by rw [← HX.out]; exact HS.out⟩, rfl⟩
      · have hs' : stopB x = false := by simpa using hs
        have hff : (x == 32) = false ∧ (x == 9) = false ∧ (x == 10) = false ∧ (x == 13) = false ∧ (x == 44) = false ∧ (x == 125) = false := by simpa [stopB, spB, and_assoc] using hs'
        obtain ⟨f1, f2, f3, f4, f5, f6⟩ := hff
        have H' : Hid (∀ j, a ≤ j → j < i + 1 → stopB (d.getD j 0) = false) := by
          intro j h1 h2
          by_cases hj : j = i
          · subst hj; rw [← HX.out]; exact hs'
          · exact H.out j h1 (by omega)
        clear hs hs' H HX
        go_wp2
        go_round
        case rel => exact ⟨i + 1, by go_num, by omega, by omega, H'⟩
        case measure => simp [intOf]; omega
    · have hf : decide ((i : Int) < (d.length : Int)) = false := decide_eq_false (by omega)
      go_wp2
      go_ret
      exact ⟨⟨i, rfl, hai, hil, H.out, fun h => absurd h hi⟩, rfl⟩

/-- 'ZZvalueEnd' at what opens a string, an object or an array that closes. -/
theorem zzValue_nest (b off c n : Nat) (d : List Int) (a k : Nat) (w : World) (hn : d.length = n) (hd : d.length ≤ 1048576) (hx : opensB (d.getD a 0) = true) (hk : nEnd 0 false false (d.drop a) = some k) (hc : Bytes w b off d) :
    Calls Try.prog 23 #[.slice (some ⟨b, off, none⟩) n c, .int .i64 a] w fun e w' => e = .returned (.int .i64 ((a + k : Nat) : Int)) ∧ w = w' := by
  subst hn
  have hin : Calls Try.prog 31 #[.slice (some ⟨b, off, none⟩) d.length c, .int .i64 a] w fun e w' => e = .returned (.int .i64 ((a + k : Nat) : Int)) ∧ w = w' := by
    have hor : d.getD a 0 = 34 ∨ (d.getD a 0 = 123 ∨ d.getD a 0 = 91) := by simpa [opensB, or_assoc] using hx
    rcases hor with h | h
    · exact value_str b off c _ d a k w rfl hd h hk hc
    · exact value_box b off c _ d a k w rfl hd h hk hc
  have HI : Hid (Calls Try.prog 31 #[.slice (some ⟨b, off, none⟩) d.length c, .int .i64 a] w fun e w' => e = .returned (.int .i64 ((a + k : Nat) : Int)) ∧ w = w') := hin
  clear hin hx hk hc
  go_enter Try.func23, Try.ntmps23
  go_wp2_with (go_at_call 31; refine HI.out.mono ?_; rintro e w' ⟨rfl, rfl⟩)
  go_ret
  exact ⟨rfl, rfl⟩

theorem zzValue_scal (b off c n : Nat) (d : List Int) (a : Nat) (w : World) (hn : d.length = n) (hd : d.length ≤ 1048576) (hlt : a < d.length) (hx : opensB (d.getD a 0) = false) (hc : Bytes w b off d) :
    Calls Try.prog 23 #[.slice (some ⟨b, off, none⟩) n c, .int .i64 a] w fun e w' => (∃ r : Nat, e = .returned (.int .i64 (r : Int)) ∧ ScalR d a r) ∧ w = w' := by
  subst hn
  have HI : Hid (Calls Try.prog 31 #[.slice (some ⟨b, off, none⟩) d.length c, .int .i64 a] w fun e w' => (∃ r : Nat, e = .returned (.int .i64 (r : Int)) ∧ ScalR d a r) ∧ w = w') := value_scal b off c _ d a w rfl hd hlt hx hc
  clear hx hc
  go_enter Try.func23, Try.ntmps23
  go_wp2_with (go_at_call 31; refine HI.out.mono ?_; rintro e w' ⟨⟨r, rfl, hr⟩, rfl⟩)
  go_ret
  exact ⟨⟨r, rfl, hr⟩, rfl⟩
end Go.Proofs.Qxb6600806a
