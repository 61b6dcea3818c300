/-
  SEAT b6600806a: THE WALK OF 'FnStringEndFindsWrittenString'.
-/
import Derived.Test.Qxb6600806aWalks
namespace Go.Proofs.Qxb6600806a
open Go.ChangeShapes Go.WideShapes Go.ChangeAt Go.RowKit
set_option linter.unusedVariables false

theorem zz19_any (a0 a1 a2 : Option Addr) (l0 l1 l2 c0 c1 c2 : Nat) (w : World) (h0 : l0 ≤ maxLen) (h1 : l1 ≤ maxLen) (h2 : l2 ≤ maxLen) :
    Calls Try.prog 19 #[.slice a0 l0 c0, .slice a1 l1 c1, .slice a2 l2 c2] w fun e w' => (∃ B, e = .returned (.bool B)) ∧ w = w' := by
  unfold maxLen at h0 h1 h2
  go_enter Try.func19, Try.ntmps19
  go_wp2
  all_goals go_ret
  all_goals exact ⟨⟨_, rfl⟩, rfl⟩

theorem zz19_true (a0 a1 a2 : Option Addr) (l0 l1 l2 c0 c1 c2 : Nat) (w : World) (h0 : l0 ≤ 131072) (h1 : l1 ≤ 262144) (h2 : l2 ≤ 131072) :
    Calls Try.prog 19 #[.slice a0 l0 c0, .slice a1 l1 c1, .slice a2 l2 c2] w fun e w' => e = .returned (.bool true) ∧ w = w' := by
  go_enter Try.func19, Try.ntmps19
  go_wp2
  all_goals go_ret
  all_goals exact ⟨rfl, rfl⟩

theorem early7 (a0 a1 a2 : Option Addr) (l0 l1 l2 c0 c1 c2 : Nat) (w : World) (h0 : l0 ≤ maxLen) (h1 : l1 ≤ maxLen) (h2 : l2 ≤ maxLen) (h : ¬ (l0 ≤ 131072 ∧ l1 ≤ 262144 ∧ l2 ≤ 131072)) :
    Calls Try.prog 7 #[.slice a0 l0 c0, .slice a1 l1 c1, .slice a2 l2 c2] w fun e w' => e = .returned (.bool true) ∧ Below w.heap.size w w' := by
  have hor : 131072 < l0 ∨ (l0 ≤ 131072 ∧ 262144 < l1) ∨ (l0 ≤ 131072 ∧ l1 ≤ 262144 ∧ 131072 < l2) := by omega
  clear h
  rcases hor with h | ⟨h, h'⟩ | ⟨h, h', h''⟩
  all_goals
    go_enter Try.func7, Try.ntmps7
    go_wp2_with (go_at_call 19; refine (zz19_any _ _ _ _ _ _ _ _ _ _ h0 h1 h2).mono ?_; rintro e w' ⟨⟨B, rfl⟩, rfl⟩)
    all_goals go_ret
    all_goals exact ⟨rfl, Below.refl _ _⟩

theorem walk7 (a0 a1 a2 : Option Addr) (c0 c1 c2 : Nat) (P C T : List Int) (w : World) (s0 : Seen w a0 c0 P) (s1 : Seen w a1 c1 C) (s2 : Seen w a2 c2 T) (h0 : P.length ≤ 131072) (h1 : C.length ≤ 262144) (h2 : T.length ≤ 131072) :
    Calls Try.prog 7 #[.slice a0 P.length c0, .slice a1 C.length c1, .slice a2 T.length c2] w fun e w' => e = .returned (.bool true) ∧ Below w.heap.size w w' := by
  have S0 : Hid (Seen w a0 c0 P) := s0
  have S1 : Hid (Seen w a1 c1 C) := s1
  have S2 : Hid (Seen w a2 c2 T) := s2
  clear s0 s1 s2
  go_enter Try.func7, Try.ntmps7
  go_wp2_with (first
    | (go_at_call 19; refine (zz19_true _ _ _ _ _ _ _ _ _ _ h0 h1 h2).mono ?_; rintro e w' ⟨rfl, rfl⟩)
    | (at_make; refine wpList_makeB rfl _ _ rfl w (Below.refl _ _) _ (P.length + 2 * C.length + 2 + T.length) rfl rfl (by omega) (by omega) ?_; intro w1 hR1 hg1)
    | (at_builtin; refine wpList_manyB rfl (.tmp 37) (.tmp 38) rfl w w.heap.size 0 (P.length + 2 * C.length + 2 + T.length) [] rfl hR1 a0 P.length c0 P rfl rfl S0.out.nil (fun ad h j u hu => hg1.cell (S0.out.cells ad h j u hu) (by simp)) (by omega) ?_; intro w2 hR2 hg2)
    | (at_builtin; refine wpList_pushB rfl (.tmp 42) (.tmp 43) rfl w w.heap.size P.length (P.length + 2 * C.length + 2 + T.length) P 34 rfl (by simpa using hR2.alloc _) _ rfl (by simp) (by omega) ?_; intro w3 hR3 hg3))
  go_loopw [7, 9] (fun v i wr => ∃ k l : Nat, k ≤ C.length ∧ l ≤ 2 * k ∧ i = .int .i64 k ∧ v = .slice (some ⟨w.heap.size, 0, none⟩) (P.length + 1 + l) (P.length + 2 * C.length + 2 + T.length) ∧
      RowB w wr w.heap.size (P.length + 1 + l) (P.length + 2 * C.length + 2 + T.length) (P ++ 34 :: escL (C.take k)))
    (fun _ i _ => C.length - (intOf i).toNat)
  case atStart => exact ⟨0, 0, Nat.zero_le _, Nat.zero_le _, rfl, rfl, hR3⟩
  case round =>
    obtain ⟨k, l, hk, hl, rfl, rfl, hR⟩ := hrel
    by_cases hlt : k < C.length
    · obtain ⟨b, off, rfl, hB, hbw⟩ := S1.out.at_ (by omega)
      obtain ⟨x, hx⟩ : ∃ x, x = C.getD k 0 := ⟨_, rfl⟩
      have hcx : wr.cell? ⟨b, off + k, none⟩ = some (.int .u8 x) := by rw [hx]; exact (hR.below.cell (p := ⟨b, off + k, none⟩) hbw).trans (hB k hlt)
      have HX : Hid (x = C.getD k 0) := hx
      clear hx hR3 hg3 hR2 hg2 hR1 hg1 hB
      by_cases h1 : x = 34 ∨ x = 92
      · have HE : Hid (escL (C.take (k + 1)) = escL (C.take k) ++ [92, x]) := by show _ = _; rw [HX.out]; exact escL_take_esc C k hlt (by rw [← HX.out]; exact h1)
        have hxx : x = 34 ∨ (¬ x = 34 ∧ x = 92) := by omega
        have HX' : Hid (x = 34 ∨ x = 92) := h1
        clear h1
        rcases hxx with rfl | ⟨hx1, rfl⟩
        all_goals
          go_wp2_with (first
            | (at_builtin; refine wpList_pushB rfl (.tmp 61) (.tmp 62) rfl w w.heap.size (P.length + 1 + l) (P.length + 2 * C.length + 2 + T.length) (P ++ 34 :: escL (C.take k)) 92 rfl (hR.alloc _) _ rfl (cell_new _ _ _) (by omega) ?_; intro w4 hR4 hg4)
            | (at_builtin; refine wpList_pushB rfl (.tmp 64) (.tmp 66) rfl w w.heap.size (P.length + 1 + l + 1) (P.length + 2 * C.length + 2 + T.length) (P ++ 34 :: escL (C.take k) ++ [92]) _ rfl (hR4.alloc _) _ rfl (cell_new _ _ _) (by omega) ?_; intro w5 hR5 hg5))
          go_roundw
          case rel => exact ⟨k + 1, l + 2, by omega, by omega, by go_num, rfl, by rw [HE.out]; exact hR5.cast (by omega) (by simp)⟩
          case measure => simp [intOf]; omega
      · have HE : Hid (escL (C.take (k + 1)) = escL (C.take k) ++ [x]) := by show _ = _; rw [HX.out]; exact escL_take_plain C k hlt (by rw [← HX.out]; exact h1)
        have hx1 : ¬ x = 34 := fun h => h1 (.inl h)
        have hx2 : ¬ x = 92 := fun h => h1 (.inr h)
        clear h1
        have hx3 : (x == 34) = false := by simpa using hx1
        have hx4 : (x == 92) = false := by simpa using hx2
        go_wp2_with (at_builtin; refine wpList_pushB rfl (.tmp 64) (.tmp 66) rfl w w.heap.size (P.length + 1 + l) (P.length + 2 * C.length + 2 + T.length) (P ++ 34 :: escL (C.take k)) x rfl (hR.alloc _) _ rfl (cell_new _ _ _) (by omega) ?_; intro w5 hR5 hg5)
        go_roundw
        case rel => exact ⟨k + 1, l + 1, by omega, by omega, by go_num, rfl, by rw [HE.out]; exact hR5.cast (by omega) (by simp)⟩
        case measure => simp [intOf]; omega
    · have hkk : k = C.length := by omega
      have eC : C.take k = C := by rw [hkk]; simp
      rw [eC] at hR
      have HK : Hid (k = C.length) := hkk
      clear hkk eC hR3 hg3 hR2 hg2 hR1 hg1
      have hln := hR.len
      have HL : Hid ((P ++ 34 :: escL C).length = P.length + 1 + l) := hln
      clear hln
      go_wp2_with (first
        | (at_builtin; refine wpList_pushB rfl (.tmp 68) (.tmp 69) rfl w w.heap.size (P.length + 1 + l) (P.length + 2 * C.length + 2 + T.length) (P ++ 34 :: escL C) 34 rfl (hR.alloc _) _ rfl (cell_new _ _ _) (by omega) ?_; intro w4 hR4 hg4)
        | (at_builtin; refine wpList_manyB rfl (.tmp 73) (.tmp 74) rfl w w.heap.size (P.length + 1 + l + 1) (P.length + 2 * C.length + 2 + T.length) (P ++ 34 :: escL C ++ [34]) rfl hR4 a2 T.length c2 T rfl rfl S2.out.nil (fun ad h j u hu => (hR4.below.cell (p := ad.add j) (World.block_lt_of_cell? w _ (S2.out.cells ad h j u hu))).trans (S2.out.cells ad h j u hu)) (by omega) ?_; intro w5 hR5 hg5))
      have hkk : aEnd false ((P ++ 34 :: escL C ++ [34] ++ T).drop (P.length + 1)) = some (l + 1) := by
        have hl2 := HL.out
        simp at hl2
        have e1 : (P ++ 34 :: escL C ++ [34] ++ T).drop (P.length + 1) = escL C ++ 34 :: T := by
          rw [show P ++ 34 :: escL C ++ [34] ++ T = (P ++ [34]) ++ (escL C ++ 34 :: T) by simp, List.drop_left' (by simp)]
        rw [e1, aEnd_escL, show (escL C).length = l by omega]
      refine (zzStrEnd_any w.heap.size 0 _ _ (P ++ 34 :: escL C ++ [34] ++ T) P.length (l + 1) _ hR5.len (by rw [hR5.len]; omega) hkk hR5.bytes).mono ?_
      rintro e w6 ⟨rfl, rfl⟩
      clear hkk
      go_wp2
      go_ret
      refine ⟨ret_bool ?_, hR5.below⟩
      simp; omega
end Go.Proofs.Qxb6600806a
