/-
  SEAT b6600806a: THE WALK OF 'writeJSON'.
-/
import Derived.Test.Qxb6600806aTwo
namespace Go.Proofs.Qxb6600806a
open Go.ChangeShapes Go.WideShapes Go.ChangeAt Go.RowKit
set_option linter.unusedVariables false

theorem hst0 {w0 w : World} {G1 n1 c1 G2 n2 c2 : Nat} {os cl : List Int} (h1 : RowB w0 w G1 n1 c1 os) (h2 : RowB w0 w G2 n2 c2 cl) (hne : G1 ≠ G2) (y : Int) : Two w0 (w.setCell ⟨G2, 0, none⟩ (.int .u8 y)) G1 n1 c1 os G2 n2 c2 (cl.set 0 y) :=
  ⟨h1.kept (h2.own.stored 0 (.int .u8 y)).2 hne h2.base, h2.store 0 y, hne⟩

set_option maxHeartbeats 16000000 in
set_option maxRecDepth 100000 in
theorem write_any (a0 : Option Addr) (c0 : Nat) (p : List Int) (w : World) (s0 : Seen w a0 c0 p) (hp : p.length ≤ 16384) :
    Calls Try.prog 26 #[.slice a0 p.length c0] w fun e w' => ∃ (G n c : Nat) (os : List Int), e = .returned (.slice (some ⟨G, 0, none⟩) n c) ∧ RowB w w' G n c os ∧ n ≤ 524288 ∧ (∀ rest, nEnd 0 false false (os ++ rest) = some n) ∧ os.head? = some 91 := by
  have S0 : Hid (Seen w a0 c0 p) := s0
  clear s0
  go_enter Try.func26, Try.ntmps26
  go_wp2_with (first
    | (at_make; refine wpList_makeB rfl (.const (.int .i64 0)) (.tmp 13) rfl w (Below.refl _ _) _ (18 * p.length + 4) rfl rfl (by omega) (by omega) ?_; intro w1 hR1 hg1)
    | (at_make; refine wpList_makeOneB rfl (.const (.int .i64 1)) (.tmp 17) rfl w hR1.below _ (p.length + 1) rfl rfl (by omega) (by omega) (by omega) ?_; intro w2 hR2 hg2; have hc2 := hR2.cell0 0 (by omega); have hf2 := hR2.free 0; have hT2 := hst0 (hR1.kept' hg2) hR2 (by have := hR1.lt; omega) 93)
    | (at_builtin; refine wpList_pushT1 rfl (.tmp 21) (.tmp 22) rfl w w.heap.size 0 (18 * p.length + 4) [] w1.heap.size 1 (p.length + 1) _ _ rfl _ rfl (by simp) hT2 (by omega) ?_; intro w3 hT3))
  have hG : w.heap.size ≠ w1.heap.size := by have := hR1.lt; omega
  have hG2 : w.heap.size ≤ w1.heap.size := hR1.below.size
  clear hR1 hg1 hR2 hg2 hc2 hf2 hT2
  obtain ⟨G2, hG2e⟩ : ∃ G2, G2 = w1.heap.size := ⟨_, rfl⟩
  rw [← hG2e] at hG hG2 hT3 ⊢
  clear hG2e
  go_loopw [3, 4, 5, 6] (fun vo vc ve vi wr => ∃ (k no m : Nat) (os cl : List Int) (em : Bool), vi = .int .i64 k ∧ vo = .slice (some ⟨w.heap.size, 0, none⟩) no (18 * p.length + 4) ∧ vc = .slice (some ⟨G2, 0, none⟩) (m + 1) (p.length + 1) ∧ ve = .bool em ∧
      k ≤ p.length ∧ no ≤ 17 * k + 1 ∧ m ≤ k ∧ Two w wr w.heap.size no (18 * p.length + 4) os G2 (m + 1) (p.length + 1) cl ∧ Hid (InvW os cl))
    (fun _ _ _ vi _ => p.length - (intOf vi).toNat)
  case atStart => exact ⟨0, 1, 0, _, _, true, rfl, rfl, rfl, rfl, Nat.zero_le _, by omega, by omega, hT3, InvW.start⟩
  case round =>
    clear hT3
    obtain ⟨k, no, m, os, cl, em, rfl, rfl, rfl, rfl, hk, hno, hm, hT, HI⟩ := hrel
    by_cases hlt : k < p.length
    · obtain ⟨b, off, rfl, hB, hbw⟩ := S0.out.at_ (by omega)
      obtain ⟨x, hx⟩ : ∃ x, x = p.getD k 0 := ⟨_, rfl⟩
      have hcx : wr.cell? ⟨b, off + k, none⟩ = some (.int .u8 x) := by rw [hx]; exact (hT.r1.below.cell (p := ⟨b, off + k, none⟩) hbw).trans (hB k hlt)
      have hxb : 0 ≤ x ∧ x ≤ 255 := by rw [hx]; exact S0.out.wf _ (last_mem p k hlt)
      obtain ⟨hx0, hx1⟩ := hxb
      have hcl : cl.length = m + 1 := hT.r2.len
      have hy := HI.out.2.1 _ (last_mem cl m (by omega))
      have hct := hT.r2.cell0 m (by omega)
      obtain ⟨y, hyy⟩ : ∃ y, y = cl.getD m 0 := ⟨_, rfl⟩
      rw [← hyy] at hy hct
      have HY : Hid (y = cl.getD m 0) := hyy
      have HL : Hid (cl.length = m + 1) := hcl
      clear hx hB hyy hcl
      by_cases h7 : x % 8 = 7
      · by_cases hm1 : 1 ≤ m
        · obtain ⟨q, rfl⟩ : ∃ q, m = q + 1 := ⟨m - 1, by omega⟩
          have HC : Hid (InvW (os ++ [y]) (cl.take (q + 1))) := by have := HI.out.close (q + 1) HL.out hm1; rw [← HY.out] at this; exact this
          go_wp2_with (at_builtin; refine wpList_pushT1 rfl (.tmp 41) (.tmp 48) rfl w w.heap.size no (18 * p.length + 4) os G2 (q + 1 + 1) (p.length + 1) cl y rfl _ rfl rfl hT (by omega) ?_; intro w4 hT4)
          go_roundw
          case rel => exact ⟨k + 1, no + 1, q, _, _, false, by go_num, rfl, rfl, rfl, by omega, by omega, by omega, hT4.pop, HC⟩
          case measure => simp [intOf]; omega
        · go_wp2
          go_roundw
          case rel => exact ⟨k + 1, no, m, os, cl, em, by go_num, rfl, rfl, rfl, by omega, by omega, by omega, hT, HI⟩
          case measure => simp [intOf]; omega
      · clear HL
        have hop : x % 8 = 0 ∨ x % 8 = 1 ∨ (x % 8 = 2 ∧ x = 34) ∨ (x % 8 = 2 ∧ ¬ x = 34 ∧ ¬ x = 92) ∨ x % 8 = 3 ∨ x % 8 = 4 ∨ x % 8 = 5 ∨ x % 8 = 6 := by omega
        clear h7
        cases em with
        | true =>
          rcases hy with rfl | rfl
          · rcases hop with h | h | ⟨h, rfl⟩ | ⟨h, hx34, hx92⟩ | h | h | h | h
            · go_wp2_with (first
                | (at_builtin; refine wpList_pushT1 rfl (.tmp 74) (.tmp 75) rfl w w.heap.size no (18 * p.length + 4) (os) G2 (m + 1) (p.length + 1) cl 123 rfl _ rfl rfl hT (by omega) ?_; intro w6 hT6)
                | (at_builtin; refine wpList_pushT2 rfl (.tmp 77) (.tmp 78) rfl w w.heap.size (no + 1) (18 * p.length + 4) (os ++ [123]) G2 (m + 1) (p.length + 1) cl 125 rfl _ rfl rfl hT6 (by omega) ?_; intro w7 hT7))
              go_roundw
              case rel => exact ⟨k + 1, (no + 1), (m + 1), _, _, true, by go_num, rfl, rfl, rfl, by omega, by omega, by omega, hT7, HI.out.openObj⟩
              case measure => simp [intOf]; omega
            · go_wp2_with (first
                | (at_builtin; refine wpList_pushT1 rfl (.tmp 82) (.tmp 83) rfl w w.heap.size no (18 * p.length + 4) (os) G2 (m + 1) (p.length + 1) cl 91 rfl _ rfl rfl hT (by omega) ?_; intro w6 hT6)
                | (at_builtin; refine wpList_pushT2 rfl (.tmp 85) (.tmp 86) rfl w w.heap.size (no + 1) (18 * p.length + 4) (os ++ [91]) G2 (m + 1) (p.length + 1) cl 93 rfl _ rfl rfl hT6 (by omega) ?_; intro w7 hT7))
              go_roundw
              case rel => exact ⟨k + 1, (no + 1), (m + 1), _, _, true, by go_num, rfl, rfl, rfl, by omega, by omega, by omega, hT7, HI.out.openArr⟩
              case measure => simp [intOf]; omega
            · go_wp2_with (first
                | (at_builtin; refine wpList_pushT1 rfl (.tmp 90) (.tmp 91) rfl w w.heap.size no (18 * p.length + 4) (os) G2 (m + 1) (p.length + 1) cl 34 rfl _ rfl rfl hT (by omega) ?_; intro w6 hT6)
                | (at_builtin; refine wpList_pushT1 rfl (.tmp 99) (.tmp 100) rfl w w.heap.size (no + 1) (18 * p.length + 4) (os ++ [34]) G2 (m + 1) (p.length + 1) cl 92 rfl _ rfl rfl hT6 (by omega) ?_; intro w7 hT7)
                | (at_builtin; refine wpList_pushT1 rfl (.tmp 102) (.tmp 104) rfl w w.heap.size ((no + 1) + 1) (18 * p.length + 4) (os ++ [34] ++ [92]) G2 (m + 1) (p.length + 1) cl 34 rfl _ rfl rfl hT7 (by omega) ?_; intro w8 hT8)
                | (at_builtin; refine wpList_pushT1 rfl (.tmp 106) (.tmp 107) rfl w w.heap.size (((no + 1) + 1) + 1) (18 * p.length + 4) (os ++ [34] ++ [92] ++ [34]) G2 (m + 1) (p.length + 1) cl 34 rfl _ rfl rfl hT8 (by omega) ?_; intro w9 hT9))
              go_roundw
              case rel => exact ⟨k + 1, ((((no + 1) + 1) + 1) + 1), m, _, _, false, by go_num, rfl, rfl, rfl, by omega, by omega, by omega, hT9, (HI.out.strEsc 34)⟩
              case measure => simp [intOf]; omega
            · have hz1 : (x == 34) = false := by simpa using hx34
              have hz2 : (x == 92) = false := by simpa using hx92
              go_wp2_with (first
                | (at_builtin; refine wpList_pushT1 rfl (.tmp 90) (.tmp 91) rfl w w.heap.size no (18 * p.length + 4) (os) G2 (m + 1) (p.length + 1) cl 34 rfl _ rfl rfl hT (by omega) ?_; intro w6 hT6)
                | (at_builtin; refine wpList_pushT1 rfl (.tmp 102) (.tmp 104) rfl w w.heap.size (no + 1) (18 * p.length + 4) (os ++ [34]) G2 (m + 1) (p.length + 1) cl x rfl _ rfl rfl hT6 (by omega) ?_; intro w8 hT8)
                | (at_builtin; refine wpList_pushT1 rfl (.tmp 106) (.tmp 107) rfl w w.heap.size ((no + 1) + 1) (18 * p.length + 4) (os ++ [34] ++ [x]) G2 (m + 1) (p.length + 1) cl 34 rfl _ rfl rfl hT8 (by omega) ?_; intro w9 hT9))
              go_roundw
              case rel => exact ⟨k + 1, (((no + 1) + 1) + 1), m, _, _, false, by go_num, rfl, rfl, rfl, by omega, by omega, by omega, hT9, (HI.out.str x hx34 hx92)⟩
              case measure => simp [intOf]; omega
            · go_wp2_with (first
                | (go_at_call 32; refine (text_lit w _ w.heap.size no (18 * p.length + 4) (os) G2 (m + 1) (p.length + 1) cl ⟨#[34, 97, 92, 34, 93, 125, 92, 92, 34]⟩ [34, 97, 92, 34, 93, 125, 92, 92, 34] 9 rfl rfl hT (by omega) (by omega)).mono ?_; rintro e w6 ⟨rfl, hT6⟩))
              go_roundw
              case rel => exact ⟨k + 1, (no + 9), m, _, _, false, by go_num, rfl, rfl, rfl, by omega, by omega, by omega, hT6, (HI.out.pass passes_three)⟩
              case measure => simp [intOf]; omega
            · go_wp2_with (first
                | (go_at_call 32; refine (text_lit w _ w.heap.size no (18 * p.length + 4) (os) G2 (m + 1) (p.length + 1) cl ⟨#[34, 123, 91, 92, 92, 92, 34, 34]⟩ [34, 123, 91, 92, 92, 92, 34, 34] 8 rfl rfl hT (by omega) (by omega)).mono ?_; rintro e w6 ⟨rfl, hT6⟩))
              go_roundw
              case rel => exact ⟨k + 1, (no + 8), m, _, _, false, by go_num, rfl, rfl, rfl, by omega, by omega, by omega, hT6, (HI.out.pass passes_four)⟩
              case measure => simp [intOf]; omega
            · go_wp2_with (first
                | (go_at_call 32; refine (text_lit w _ w.heap.size no (18 * p.length + 4) (os) G2 (m + 1) (p.length + 1) cl ⟨#[45, 49, 50, 46, 53, 101, 51]⟩ [45, 49, 50, 46, 53, 101, 51] 7 rfl rfl hT (by omega) (by omega)).mono ?_; rintro e w6 ⟨rfl, hT6⟩))
              go_roundw
              case rel => exact ⟨k + 1, (no + 7), m, _, _, false, by go_num, rfl, rfl, rfl, by omega, by omega, by omega, hT6, (HI.out.pass passes_five)⟩
              case measure => simp [intOf]; omega
            · go_wp2_with (first
                | (go_at_call 32; refine (text_lit w _ w.heap.size no (18 * p.length + 4) (os) G2 (m + 1) (p.length + 1) cl ⟨#[110, 117, 108, 108]⟩ [110, 117, 108, 108] 4 rfl rfl hT (by omega) (by omega)).mono ?_; rintro e w6 ⟨rfl, hT6⟩))
              go_roundw
              case rel => exact ⟨k + 1, (no + 4), m, _, _, false, by go_num, rfl, rfl, rfl, by omega, by omega, by omega, hT6, (HI.out.pass passes_null)⟩
              case measure => simp [intOf]; omega
          · rcases hop with h | h | ⟨h, rfl⟩ | ⟨h, hx34, hx92⟩ | h | h | h | h
            · go_wp2_with fail
              refine (text_lit w _ w.heap.size no (18 * p.length + 4) (os) G2 (m + 1) (p.length + 1) cl ⟨#[34, 107, 92, 34, 125, 34, 58]⟩ [34, 107, 92, 34, 125, 34, 58] 7 rfl rfl hT (by omega) (by omega)).mono ?_
              rintro e w5 ⟨rfl, hT5⟩
              clear hct hcx
              go_wp2_with (first
                | (at_builtin; refine wpList_pushT1 rfl (.tmp 74) (.tmp 75) rfl w w.heap.size (no + 7) (18 * p.length + 4) (os ++ [34, 107, 92, 34, 125, 34, 58]) G2 (m + 1) (p.length + 1) cl 123 rfl _ rfl rfl hT5 (by omega) ?_; intro w6 hT6)
                | (at_builtin; refine wpList_pushT2 rfl (.tmp 77) (.tmp 78) rfl w w.heap.size ((no + 7) + 1) (18 * p.length + 4) (os ++ [34, 107, 92, 34, 125, 34, 58] ++ [123]) G2 (m + 1) (p.length + 1) cl 125 rfl _ rfl rfl hT6 (by omega) ?_; intro w7 hT7))
              go_roundw
              case rel => exact ⟨k + 1, ((no + 7) + 1), (m + 1), _, _, true, by go_num, rfl, rfl, rfl, by omega, by omega, by omega, hT7, (HI.out.pass passes_key).openObj⟩
              case measure => simp [intOf]; omega
            · go_wp2_with fail
              refine (text_lit w _ w.heap.size no (18 * p.length + 4) (os) G2 (m + 1) (p.length + 1) cl ⟨#[34, 107, 92, 34, 125, 34, 58]⟩ [34, 107, 92, 34, 125, 34, 58] 7 rfl rfl hT (by omega) (by omega)).mono ?_
              rintro e w5 ⟨rfl, hT5⟩
              clear hct hcx
              go_wp2_with (first
                | (at_builtin; refine wpList_pushT1 rfl (.tmp 82) (.tmp 83) rfl w w.heap.size (no + 7) (18 * p.length + 4) (os ++ [34, 107, 92, 34, 125, 34, 58]) G2 (m + 1) (p.length + 1) cl 91 rfl _ rfl rfl hT5 (by omega) ?_; intro w6 hT6)
                | (at_builtin; refine wpList_pushT2 rfl (.tmp 85) (.tmp 86) rfl w w.heap.size ((no + 7) + 1) (18 * p.length + 4) (os ++ [34, 107, 92, 34, 125, 34, 58] ++ [91]) G2 (m + 1) (p.length + 1) cl 93 rfl _ rfl rfl hT6 (by omega) ?_; intro w7 hT7))
              go_roundw
              case rel => exact ⟨k + 1, ((no + 7) + 1), (m + 1), _, _, true, by go_num, rfl, rfl, rfl, by omega, by omega, by omega, hT7, (HI.out.pass passes_key).openArr⟩
              case measure => simp [intOf]; omega
            · go_wp2_with fail
              refine (text_lit w _ w.heap.size no (18 * p.length + 4) (os) G2 (m + 1) (p.length + 1) cl ⟨#[34, 107, 92, 34, 125, 34, 58]⟩ [34, 107, 92, 34, 125, 34, 58] 7 rfl rfl hT (by omega) (by omega)).mono ?_
              rintro e w5 ⟨rfl, hT5⟩
              clear hct hcx
              go_wp2_with (first
                | (at_builtin; refine wpList_pushT1 rfl (.tmp 90) (.tmp 91) rfl w w.heap.size (no + 7) (18 * p.length + 4) (os ++ [34, 107, 92, 34, 125, 34, 58]) G2 (m + 1) (p.length + 1) cl 34 rfl _ rfl rfl hT5 (by omega) ?_; intro w6 hT6)
                | (at_builtin; refine wpList_pushT1 rfl (.tmp 99) (.tmp 100) rfl w w.heap.size ((no + 7) + 1) (18 * p.length + 4) (os ++ [34, 107, 92, 34, 125, 34, 58] ++ [34]) G2 (m + 1) (p.length + 1) cl 92 rfl _ rfl rfl hT6 (by omega) ?_; intro w7 hT7)
                | (at_builtin; refine wpList_pushT1 rfl (.tmp 102) (.tmp 104) rfl w w.heap.size (((no + 7) + 1) + 1) (18 * p.length + 4) (os ++ [34, 107, 92, 34, 125, 34, 58] ++ [34] ++ [92]) G2 (m + 1) (p.length + 1) cl 34 rfl _ rfl rfl hT7 (by omega) ?_; intro w8 hT8)
                | (at_builtin; refine wpList_pushT1 rfl (.tmp 106) (.tmp 107) rfl w w.heap.size ((((no + 7) + 1) + 1) + 1) (18 * p.length + 4) (os ++ [34, 107, 92, 34, 125, 34, 58] ++ [34] ++ [92] ++ [34]) G2 (m + 1) (p.length + 1) cl 34 rfl _ rfl rfl hT8 (by omega) ?_; intro w9 hT9))
              go_roundw
              case rel => exact ⟨k + 1, (((((no + 7) + 1) + 1) + 1) + 1), m, _, _, false, by go_num, rfl, rfl, rfl, by omega, by omega, by omega, hT9, ((HI.out.pass passes_key).strEsc 34)⟩
              case measure => simp [intOf]; omega
            · go_wp2_with fail
              refine (text_lit w _ w.heap.size no (18 * p.length + 4) (os) G2 (m + 1) (p.length + 1) cl ⟨#[34, 107, 92, 34, 125, 34, 58]⟩ [34, 107, 92, 34, 125, 34, 58] 7 rfl rfl hT (by omega) (by omega)).mono ?_
              rintro e w5 ⟨rfl, hT5⟩
              clear hct hcx
              have hz1 : (x == 34) = false := by simpa using hx34
              have hz2 : (x == 92) = false := by simpa using hx92
              go_wp2_with (first
                | (at_builtin; refine wpList_pushT1 rfl (.tmp 90) (.tmp 91) rfl w w.heap.size (no + 7) (18 * p.length + 4) (os ++ [34, 107, 92, 34, 125, 34, 58]) G2 (m + 1) (p.length + 1) cl 34 rfl _ rfl rfl hT5 (by omega) ?_; intro w6 hT6)
                | (at_builtin; refine wpList_pushT1 rfl (.tmp 102) (.tmp 104) rfl w w.heap.size ((no + 7) + 1) (18 * p.length + 4) (os ++ [34, 107, 92, 34, 125, 34, 58] ++ [34]) G2 (m + 1) (p.length + 1) cl x rfl _ rfl rfl hT6 (by omega) ?_; intro w8 hT8)
                | (at_builtin; refine wpList_pushT1 rfl (.tmp 106) (.tmp 107) rfl w w.heap.size (((no + 7) + 1) + 1) (18 * p.length + 4) (os ++ [34, 107, 92, 34, 125, 34, 58] ++ [34] ++ [x]) G2 (m + 1) (p.length + 1) cl 34 rfl _ rfl rfl hT8 (by omega) ?_; intro w9 hT9))
              go_roundw
              case rel => exact ⟨k + 1, ((((no + 7) + 1) + 1) + 1), m, _, _, false, by go_num, rfl, rfl, rfl, by omega, by omega, by omega, hT9, ((HI.out.pass passes_key).str x hx34 hx92)⟩
              case measure => simp [intOf]; omega
            · go_wp2_with fail
              refine (text_lit w _ w.heap.size no (18 * p.length + 4) (os) G2 (m + 1) (p.length + 1) cl ⟨#[34, 107, 92, 34, 125, 34, 58]⟩ [34, 107, 92, 34, 125, 34, 58] 7 rfl rfl hT (by omega) (by omega)).mono ?_
              rintro e w5 ⟨rfl, hT5⟩
              clear hct hcx
              go_wp2_with (first
                | (go_at_call 32; refine (text_lit w _ w.heap.size (no + 7) (18 * p.length + 4) (os ++ [34, 107, 92, 34, 125, 34, 58]) G2 (m + 1) (p.length + 1) cl ⟨#[34, 97, 92, 34, 93, 125, 92, 92, 34]⟩ [34, 97, 92, 34, 93, 125, 92, 92, 34] 9 rfl rfl hT5 (by omega) (by omega)).mono ?_; rintro e w6 ⟨rfl, hT6⟩))
              go_roundw
              case rel => exact ⟨k + 1, ((no + 7) + 9), m, _, _, false, by go_num, rfl, rfl, rfl, by omega, by omega, by omega, hT6, ((HI.out.pass passes_key).pass passes_three)⟩
              case measure => simp [intOf]; omega
            · go_wp2_with fail
              refine (text_lit w _ w.heap.size no (18 * p.length + 4) (os) G2 (m + 1) (p.length + 1) cl ⟨#[34, 107, 92, 34, 125, 34, 58]⟩ [34, 107, 92, 34, 125, 34, 58] 7 rfl rfl hT (by omega) (by omega)).mono ?_
              rintro e w5 ⟨rfl, hT5⟩
              clear hct hcx
              go_wp2_with (first
                | (go_at_call 32; refine (text_lit w _ w.heap.size (no + 7) (18 * p.length + 4) (os ++ [34, 107, 92, 34, 125, 34, 58]) G2 (m + 1) (p.length + 1) cl ⟨#[34, 123, 91, 92, 92, 92, 34, 34]⟩ [34, 123, 91, 92, 92, 92, 34, 34] 8 rfl rfl hT5 (by omega) (by omega)).mono ?_; rintro e w6 ⟨rfl, hT6⟩))
              go_roundw
              case rel => exact ⟨k + 1, ((no + 7) + 8), m, _, _, false, by go_num, rfl, rfl, rfl, by omega, by omega, by omega, hT6, ((HI.out.pass passes_key).pass passes_four)⟩
              case measure => simp [intOf]; omega
            · go_wp2_with fail
              refine (text_lit w _ w.heap.size no (18 * p.length + 4) (os) G2 (m + 1) (p.length + 1) cl ⟨#[34, 107, 92, 34, 125, 34, 58]⟩ [34, 107, 92, 34, 125, 34, 58] 7 rfl rfl hT (by omega) (by omega)).mono ?_
              rintro e w5 ⟨rfl, hT5⟩
              clear hct hcx
              go_wp2_with (first
                | (go_at_call 32; refine (text_lit w _ w.heap.size (no + 7) (18 * p.length + 4) (os ++ [34, 107, 92, 34, 125, 34, 58]) G2 (m + 1) (p.length + 1) cl ⟨#[45, 49, 50, 46, 53, 101, 51]⟩ [45, 49, 50, 46, 53, 101, 51] 7 rfl rfl hT5 (by omega) (by omega)).mono ?_; rintro e w6 ⟨rfl, hT6⟩))
              go_roundw
              case rel => exact ⟨k + 1, ((no + 7) + 7), m, _, _, false, by go_num, rfl, rfl, rfl, by omega, by omega, by omega, hT6, ((HI.out.pass passes_key).pass passes_five)⟩
              case measure => simp [intOf]; omega
            · go_wp2_with fail
              refine (text_lit w _ w.heap.size no (18 * p.length + 4) (os) G2 (m + 1) (p.length + 1) cl ⟨#[34, 107, 92, 34, 125, 34, 58]⟩ [34, 107, 92, 34, 125, 34, 58] 7 rfl rfl hT (by omega) (by omega)).mono ?_
              rintro e w5 ⟨rfl, hT5⟩
              clear hct hcx
              go_wp2_with (first
                | (go_at_call 32; refine (text_lit w _ w.heap.size (no + 7) (18 * p.length + 4) (os ++ [34, 107, 92, 34, 125, 34, 58]) G2 (m + 1) (p.length + 1) cl ⟨#[110, 117, 108, 108]⟩ [110, 117, 108, 108] 4 rfl rfl hT5 (by omega) (by omega)).mono ?_; rintro e w6 ⟨rfl, hT6⟩))
              go_roundw
              case rel => exact ⟨k + 1, ((no + 7) + 4), m, _, _, false, by go_num, rfl, rfl, rfl, by omega, by omega, by omega, hT6, ((HI.out.pass passes_key).pass passes_null)⟩
              case measure => simp [intOf]; omega
        | false =>
          rcases hy with rfl | rfl
          · rcases hop with h | h | ⟨h, rfl⟩ | ⟨h, hx34, hx92⟩ | h | h | h | h
            · go_wp2_with (first
                | (at_builtin; refine wpList_pushT1 rfl (.tmp 57) (.tmp 58) rfl w w.heap.size no (18 * p.length + 4) (os) G2 (m + 1) (p.length + 1) cl 44 rfl _ rfl rfl hT (by omega) ?_; intro w4 hT4; have hct4 : w4.cell? ⟨G2, m, none⟩ = some (.int .u8 93) := (by rw [HY.out]; exact hT4.r2.cell0 m (by omega)))
                | (at_builtin; refine wpList_pushT1 rfl (.tmp 74) (.tmp 75) rfl w w.heap.size (no + 1) (18 * p.length + 4) (os ++ [44]) G2 (m + 1) (p.length + 1) cl 123 rfl _ rfl rfl hT4 (by omega) ?_; intro w6 hT6)
                | (at_builtin; refine wpList_pushT2 rfl (.tmp 77) (.tmp 78) rfl w w.heap.size ((no + 1) + 1) (18 * p.length + 4) (os ++ [44] ++ [123]) G2 (m + 1) (p.length + 1) cl 125 rfl _ rfl rfl hT6 (by omega) ?_; intro w7 hT7))
              go_roundw
              case rel => exact ⟨k + 1, ((no + 1) + 1), (m + 1), _, _, true, by go_num, rfl, rfl, rfl, by omega, by omega, by omega, hT7, (HI.out.pass passes_comma).openObj⟩
              case measure => simp [intOf]; omega
            · go_wp2_with (first
                | (at_builtin; refine wpList_pushT1 rfl (.tmp 57) (.tmp 58) rfl w w.heap.size no (18 * p.length + 4) (os) G2 (m + 1) (p.length + 1) cl 44 rfl _ rfl rfl hT (by omega) ?_; intro w4 hT4; have hct4 : w4.cell? ⟨G2, m, none⟩ = some (.int .u8 93) := (by rw [HY.out]; exact hT4.r2.cell0 m (by omega)))
                | (at_builtin; refine wpList_pushT1 rfl (.tmp 82) (.tmp 83) rfl w w.heap.size (no + 1) (18 * p.length + 4) (os ++ [44]) G2 (m + 1) (p.length + 1) cl 91 rfl _ rfl rfl hT4 (by omega) ?_; intro w6 hT6)
                | (at_builtin; refine wpList_pushT2 rfl (.tmp 85) (.tmp 86) rfl w w.heap.size ((no + 1) + 1) (18 * p.length + 4) (os ++ [44] ++ [91]) G2 (m + 1) (p.length + 1) cl 93 rfl _ rfl rfl hT6 (by omega) ?_; intro w7 hT7))
              go_roundw
              case rel => exact ⟨k + 1, ((no + 1) + 1), (m + 1), _, _, true, by go_num, rfl, rfl, rfl, by omega, by omega, by omega, hT7, (HI.out.pass passes_comma).openArr⟩
              case measure => simp [intOf]; omega
            · go_wp2_with (first
                | (at_builtin; refine wpList_pushT1 rfl (.tmp 57) (.tmp 58) rfl w w.heap.size no (18 * p.length + 4) (os) G2 (m + 1) (p.length + 1) cl 44 rfl _ rfl rfl hT (by omega) ?_; intro w4 hT4; have hct4 : w4.cell? ⟨G2, m, none⟩ = some (.int .u8 93) := (by rw [HY.out]; exact hT4.r2.cell0 m (by omega)))
                | (at_builtin; refine wpList_pushT1 rfl (.tmp 90) (.tmp 91) rfl w w.heap.size (no + 1) (18 * p.length + 4) (os ++ [44]) G2 (m + 1) (p.length + 1) cl 34 rfl _ rfl rfl hT4 (by omega) ?_; intro w6 hT6)
                | (at_builtin; refine wpList_pushT1 rfl (.tmp 99) (.tmp 100) rfl w w.heap.size ((no + 1) + 1) (18 * p.length + 4) (os ++ [44] ++ [34]) G2 (m + 1) (p.length + 1) cl 92 rfl _ rfl rfl hT6 (by omega) ?_; intro w7 hT7)
                | (at_builtin; refine wpList_pushT1 rfl (.tmp 102) (.tmp 104) rfl w w.heap.size (((no + 1) + 1) + 1) (18 * p.length + 4) (os ++ [44] ++ [34] ++ [92]) G2 (m + 1) (p.length + 1) cl 34 rfl _ rfl rfl hT7 (by omega) ?_; intro w8 hT8)
                | (at_builtin; refine wpList_pushT1 rfl (.tmp 106) (.tmp 107) rfl w w.heap.size ((((no + 1) + 1) + 1) + 1) (18 * p.length + 4) (os ++ [44] ++ [34] ++ [92] ++ [34]) G2 (m + 1) (p.length + 1) cl 34 rfl _ rfl rfl hT8 (by omega) ?_; intro w9 hT9))
              go_roundw
              case rel => exact ⟨k + 1, (((((no + 1) + 1) + 1) + 1) + 1), m, _, _, false, by go_num, rfl, rfl, rfl, by omega, by omega, by omega, hT9, ((HI.out.pass passes_comma).strEsc 34)⟩
              case measure => simp [intOf]; omega
            · have hz1 : (x == 34) = false := by simpa using hx34
              have hz2 : (x == 92) = false := by simpa using hx92
              go_wp2_with (first
                | (at_builtin; refine wpList_pushT1 rfl (.tmp 57) (.tmp 58) rfl w w.heap.size no (18 * p.length + 4) (os) G2 (m + 1) (p.length + 1) cl 44 rfl _ rfl rfl hT (by omega) ?_; intro w4 hT4; have hct4 : w4.cell? ⟨G2, m, none⟩ = some (.int .u8 93) := (by rw [HY.out]; exact hT4.r2.cell0 m (by omega)))
                | (at_builtin; refine wpList_pushT1 rfl (.tmp 90) (.tmp 91) rfl w w.heap.size (no + 1) (18 * p.length + 4) (os ++ [44]) G2 (m + 1) (p.length + 1) cl 34 rfl _ rfl rfl hT4 (by omega) ?_; intro w6 hT6)
                | (at_builtin; refine wpList_pushT1 rfl (.tmp 102) (.tmp 104) rfl w w.heap.size ((no + 1) + 1) (18 * p.length + 4) (os ++ [44] ++ [34]) G2 (m + 1) (p.length + 1) cl x rfl _ rfl rfl hT6 (by omega) ?_; intro w8 hT8)
                | (at_builtin; refine wpList_pushT1 rfl (.tmp 106) (.tmp 107) rfl w w.heap.size (((no + 1) + 1) + 1) (18 * p.length + 4) (os ++ [44] ++ [34] ++ [x]) G2 (m + 1) (p.length + 1) cl 34 rfl _ rfl rfl hT8 (by omega) ?_; intro w9 hT9))
              go_roundw
              case rel => exact ⟨k + 1, ((((no + 1) + 1) + 1) + 1), m, _, _, false, by go_num, rfl, rfl, rfl, by omega, by omega, by omega, hT9, ((HI.out.pass passes_comma).str x hx34 hx92)⟩
              case measure => simp [intOf]; omega
            · go_wp2_with (first
                | (at_builtin; refine wpList_pushT1 rfl (.tmp 57) (.tmp 58) rfl w w.heap.size no (18 * p.length + 4) (os) G2 (m + 1) (p.length + 1) cl 44 rfl _ rfl rfl hT (by omega) ?_; intro w4 hT4; have hct4 : w4.cell? ⟨G2, m, none⟩ = some (.int .u8 93) := (by rw [HY.out]; exact hT4.r2.cell0 m (by omega)))
                | (go_at_call 32; refine (text_lit w _ w.heap.size (no + 1) (18 * p.length + 4) (os ++ [44]) G2 (m + 1) (p.length + 1) cl ⟨#[34, 97, 92, 34, 93, 125, 92, 92, 34]⟩ [34, 97, 92, 34, 93, 125, 92, 92, 34] 9 rfl rfl hT4 (by omega) (by omega)).mono ?_; rintro e w6 ⟨rfl, hT6⟩))
              go_roundw
              case rel => exact ⟨k + 1, ((no + 1) + 9), m, _, _, false, by go_num, rfl, rfl, rfl, by omega, by omega, by omega, hT6, ((HI.out.pass passes_comma).pass passes_three)⟩
              case measure => simp [intOf]; omega
            · go_wp2_with (first
                | (at_builtin; refine wpList_pushT1 rfl (.tmp 57) (.tmp 58) rfl w w.heap.size no (18 * p.length + 4) (os) G2 (m + 1) (p.length + 1) cl 44 rfl _ rfl rfl hT (by omega) ?_; intro w4 hT4; have hct4 : w4.cell? ⟨G2, m, none⟩ = some (.int .u8 93) := (by rw [HY.out]; exact hT4.r2.cell0 m (by omega)))
                | (go_at_call 32; refine (text_lit w _ w.heap.size (no + 1) (18 * p.length + 4) (os ++ [44]) G2 (m + 1) (p.length + 1) cl ⟨#[34, 123, 91, 92, 92, 92, 34, 34]⟩ [34, 123, 91, 92, 92, 92, 34, 34] 8 rfl rfl hT4 (by omega) (by omega)).mono ?_; rintro e w6 ⟨rfl, hT6⟩))
              go_roundw
              case rel => exact ⟨k + 1, ((no + 1) + 8), m, _, _, false, by go_num, rfl, rfl, rfl, by omega, by omega, by omega, hT6, ((HI.out.pass passes_comma).pass passes_four)⟩
              case measure => simp [intOf]; omega
            · go_wp2_with (first
                | (at_builtin; refine wpList_pushT1 rfl (.tmp 57) (.tmp 58) rfl w w.heap.size no (18 * p.length + 4) (os) G2 (m + 1) (p.length + 1) cl 44 rfl _ rfl rfl hT (by omega) ?_; intro w4 hT4; have hct4 : w4.cell? ⟨G2, m, none⟩ = some (.int .u8 93) := (by rw [HY.out]; exact hT4.r2.cell0 m (by omega)))
                | (go_at_call 32; refine (text_lit w _ w.heap.size (no + 1) (18 * p.length + 4) (os ++ [44]) G2 (m + 1) (p.length + 1) cl ⟨#[45, 49, 50, 46, 53, 101, 51]⟩ [45, 49, 50, 46, 53, 101, 51] 7 rfl rfl hT4 (by omega) (by omega)).mono ?_; rintro e w6 ⟨rfl, hT6⟩))
              go_roundw
              case rel => exact ⟨k + 1, ((no + 1) + 7), m, _, _, false, by go_num, rfl, rfl, rfl, by omega, by omega, by omega, hT6, ((HI.out.pass passes_comma).pass passes_five)⟩
              case measure => simp [intOf]; omega
            · go_wp2_with (first
                | (at_builtin; refine wpList_pushT1 rfl (.tmp 57) (.tmp 58) rfl w w.heap.size no (18 * p.length + 4) (os) G2 (m + 1) (p.length + 1) cl 44 rfl _ rfl rfl hT (by omega) ?_; intro w4 hT4; have hct4 : w4.cell? ⟨G2, m, none⟩ = some (.int .u8 93) := (by rw [HY.out]; exact hT4.r2.cell0 m (by omega)))
                | (go_at_call 32; refine (text_lit w _ w.heap.size (no + 1) (18 * p.length + 4) (os ++ [44]) G2 (m + 1) (p.length + 1) cl ⟨#[110, 117, 108, 108]⟩ [110, 117, 108, 108] 4 rfl rfl hT4 (by omega) (by omega)).mono ?_; rintro e w6 ⟨rfl, hT6⟩))
              go_roundw
              case rel => exact ⟨k + 1, ((no + 1) + 4), m, _, _, false, by go_num, rfl, rfl, rfl, by omega, by omega, by omega, hT6, ((HI.out.pass passes_comma).pass passes_null)⟩
              case measure => simp [intOf]; omega
          · rcases hop with h | h | ⟨h, rfl⟩ | ⟨h, hx34, hx92⟩ | h | h | h | h
            · go_wp2_with (first | (at_builtin; refine wpList_pushT1 rfl (.tmp 57) (.tmp 58) rfl w w.heap.size no (18 * p.length + 4) (os) G2 (m + 1) (p.length + 1) cl 44 rfl _ rfl rfl hT (by omega) ?_; intro w4 hT4; have hct4 : w4.cell? ⟨G2, m, none⟩ = some (.int .u8 125) := (by rw [HY.out]; exact hT4.r2.cell0 m (by omega))))
              refine (text_lit w _ w.heap.size (no + 1) (18 * p.length + 4) (os ++ [44]) G2 (m + 1) (p.length + 1) cl ⟨#[34, 107, 92, 34, 125, 34, 58]⟩ [34, 107, 92, 34, 125, 34, 58] 7 rfl rfl hT4 (by omega) (by omega)).mono ?_
              rintro e w5 ⟨rfl, hT5⟩
              clear hct4
              clear hct hcx
              go_wp2_with (first
                | (at_builtin; refine wpList_pushT1 rfl (.tmp 74) (.tmp 75) rfl w w.heap.size ((no + 1) + 7) (18 * p.length + 4) (os ++ [44] ++ [34, 107, 92, 34, 125, 34, 58]) G2 (m + 1) (p.length + 1) cl 123 rfl _ rfl rfl hT5 (by omega) ?_; intro w6 hT6)
                | (at_builtin; refine wpList_pushT2 rfl (.tmp 77) (.tmp 78) rfl w w.heap.size (((no + 1) + 7) + 1) (18 * p.length + 4) (os ++ [44] ++ [34, 107, 92, 34, 125, 34, 58] ++ [123]) G2 (m + 1) (p.length + 1) cl 125 rfl _ rfl rfl hT6 (by omega) ?_; intro w7 hT7))
              go_roundw
              case rel => exact ⟨k + 1, (((no + 1) + 7) + 1), (m + 1), _, _, true, by go_num, rfl, rfl, rfl, by omega, by omega, by omega, hT7, ((HI.out.pass passes_comma).pass passes_key).openObj⟩
              case measure => simp [intOf]; omega
            · go_wp2_with (first | (at_builtin; refine wpList_pushT1 rfl (.tmp 57) (.tmp 58) rfl w w.heap.size no (18 * p.length + 4) (os) G2 (m + 1) (p.length + 1) cl 44 rfl _ rfl rfl hT (by omega) ?_; intro w4 hT4; have hct4 : w4.cell? ⟨G2, m, none⟩ = some (.int .u8 125) := (by rw [HY.out]; exact hT4.r2.cell0 m (by omega))))
              refine (text_lit w _ w.heap.size (no + 1) (18 * p.length + 4) (os ++ [44]) G2 (m + 1) (p.length + 1) cl ⟨#[34, 107, 92, 34, 125, 34, 58]⟩ [34, 107, 92, 34, 125, 34, 58] 7 rfl rfl hT4 (by omega) (by omega)).mono ?_
              rintro e w5 ⟨rfl, hT5⟩
              clear hct4
              clear hct hcx
              go_wp2_with (first
                | (at_builtin; refine wpList_pushT1 rfl (.tmp 82) (.tmp 83) rfl w w.heap.size ((no + 1) + 7) (18 * p.length + 4) (os ++ [44] ++ [34, 107, 92, 34, 125, 34, 58]) G2 (m + 1) (p.length + 1) cl 91 rfl _ rfl rfl hT5 (by omega) ?_; intro w6 hT6)
                | (at_builtin; refine wpList_pushT2 rfl (.tmp 85) (.tmp 86) rfl w w.heap.size (((no + 1) + 7) + 1) (18 * p.length + 4) (os ++ [44] ++ [34, 107, 92, 34, 125, 34, 58] ++ [91]) G2 (m + 1) (p.length + 1) cl 93 rfl _ rfl rfl hT6 (by omega) ?_; intro w7 hT7))
              go_roundw
              case rel => exact ⟨k + 1, (((no + 1) + 7) + 1), (m + 1), _, _, true, by go_num, rfl, rfl, rfl, by omega, by omega, by omega, hT7, ((HI.out.pass passes_comma).pass passes_key).openArr⟩
              case measure => simp [intOf]; omega
            · go_wp2_with (first | (at_builtin; refine wpList_pushT1 rfl (.tmp 57) (.tmp 58) rfl w w.heap.size no (18 * p.length + 4) (os) G2 (m + 1) (p.length + 1) cl 44 rfl _ rfl rfl hT (by omega) ?_; intro w4 hT4; have hct4 : w4.cell? ⟨G2, m, none⟩ = some (.int .u8 125) := (by rw [HY.out]; exact hT4.r2.cell0 m (by omega))))
              refine (text_lit w _ w.heap.size (no + 1) (18 * p.length + 4) (os ++ [44]) G2 (m + 1) (p.length + 1) cl ⟨#[34, 107, 92, 34, 125, 34, 58]⟩ [34, 107, 92, 34, 125, 34, 58] 7 rfl rfl hT4 (by omega) (by omega)).mono ?_
              rintro e w5 ⟨rfl, hT5⟩
              clear hct4
              clear hct hcx
              go_wp2_with (first
                | (at_builtin; refine wpList_pushT1 rfl (.tmp 90) (.tmp 91) rfl w w.heap.size ((no + 1) + 7) (18 * p.length + 4) (os ++ [44] ++ [34, 107, 92, 34, 125, 34, 58]) G2 (m + 1) (p.length + 1) cl 34 rfl _ rfl rfl hT5 (by omega) ?_; intro w6 hT6)
                | (at_builtin; refine wpList_pushT1 rfl (.tmp 99) (.tmp 100) rfl w w.heap.size (((no + 1) + 7) + 1) (18 * p.length + 4) (os ++ [44] ++ [34, 107, 92, 34, 125, 34, 58] ++ [34]) G2 (m + 1) (p.length + 1) cl 92 rfl _ rfl rfl hT6 (by omega) ?_; intro w7 hT7)
                | (at_builtin; refine wpList_pushT1 rfl (.tmp 102) (.tmp 104) rfl w w.heap.size ((((no + 1) + 7) + 1) + 1) (18 * p.length + 4) (os ++ [44] ++ [34, 107, 92, 34, 125, 34, 58] ++ [34] ++ [92]) G2 (m + 1) (p.length + 1) cl 34 rfl _ rfl rfl hT7 (by omega) ?_; intro w8 hT8)
                | (at_builtin; refine wpList_pushT1 rfl (.tmp 106) (.tmp 107) rfl w w.heap.size (((((no + 1) + 7) + 1) + 1) + 1) (18 * p.length + 4) (os ++ [44] ++ [34, 107, 92, 34, 125, 34, 58] ++ [34] ++ [92] ++ [34]) G2 (m + 1) (p.length + 1) cl 34 rfl _ rfl rfl hT8 (by omega) ?_; intro w9 hT9))
              go_roundw
              case rel => exact ⟨k + 1, ((((((no + 1) + 7) + 1) + 1) + 1) + 1), m, _, _, false, by go_num, rfl, rfl, rfl, by omega, by omega, by omega, hT9, (((HI.out.pass passes_comma).pass passes_key).strEsc 34)⟩
              case measure => simp [intOf]; omega
            · go_wp2_with (first | (at_builtin; refine wpList_pushT1 rfl (.tmp 57) (.tmp 58) rfl w w.heap.size no (18 * p.length + 4) (os) G2 (m + 1) (p.length + 1) cl 44 rfl _ rfl rfl hT (by omega) ?_; intro w4 hT4; have hct4 : w4.cell? ⟨G2, m, none⟩ = some (.int .u8 125) := (by rw [HY.out]; exact hT4.r2.cell0 m (by omega))))
              refine (text_lit w _ w.heap.size (no + 1) (18 * p.length + 4) (os ++ [44]) G2 (m + 1) (p.length + 1) cl ⟨#[34, 107, 92, 34, 125, 34, 58]⟩ [34, 107, 92, 34, 125, 34, 58] 7 rfl rfl hT4 (by omega) (by omega)).mono ?_
              rintro e w5 ⟨rfl, hT5⟩
              clear hct4
              clear hct hcx
              have hz1 : (x == 34) = false := by simpa using hx34
              have hz2 : (x == 92) = false := by simpa using hx92
              go_wp2_with (first
                | (at_builtin; refine wpList_pushT1 rfl (.tmp 90) (.tmp 91) rfl w w.heap.size ((no + 1) + 7) (18 * p.length + 4) (os ++ [44] ++ [34, 107, 92, 34, 125, 34, 58]) G2 (m + 1) (p.length + 1) cl 34 rfl _ rfl rfl hT5 (by omega) ?_; intro w6 hT6)
                | (at_builtin; refine wpList_pushT1 rfl (.tmp 102) (.tmp 104) rfl w w.heap.size (((no + 1) + 7) + 1) (18 * p.length + 4) (os ++ [44] ++ [34, 107, 92, 34, 125, 34, 58] ++ [34]) G2 (m + 1) (p.length + 1) cl x rfl _ rfl rfl hT6 (by omega) ?_; intro w8 hT8)
                | (at_builtin; refine wpList_pushT1 rfl (.tmp 106) (.tmp 107) rfl w w.heap.size ((((no + 1) + 7) + 1) + 1) (18 * p.length + 4) (os ++ [44] ++ [34, 107, 92, 34, 125, 34, 58] ++ [34] ++ [x]) G2 (m + 1) (p.length + 1) cl 34 rfl _ rfl rfl hT8 (by omega) ?_; intro w9 hT9))
              go_roundw
              case rel => exact ⟨k + 1, (((((no + 1) + 7) + 1) + 1) + 1), m, _, _, false, by go_num, rfl, rfl, rfl, by omega, by omega, by omega, hT9, (((HI.out.pass passes_comma).pass passes_key).str x hx34 hx92)⟩
              case measure => simp [intOf]; omega
            · go_wp2_with (first | (at_builtin; refine wpList_pushT1 rfl (.tmp 57) (.tmp 58) rfl w w.heap.size no (18 * p.length + 4) (os) G2 (m + 1) (p.length + 1) cl 44 rfl _ rfl rfl hT (by omega) ?_; intro w4 hT4; have hct4 : w4.cell? ⟨G2, m, none⟩ = some (.int .u8 125) := (by rw [HY.out]; exact hT4.r2.cell0 m (by omega))))
              refine (text_lit w _ w.heap.size (no + 1) (18 * p.length + 4) (os ++ [44]) G2 (m + 1) (p.length + 1) cl ⟨#[34, 107, 92, 34, 125, 34, 58]⟩ [34, 107, 92, 34, 125, 34, 58] 7 rfl rfl hT4 (by omega) (by omega)).mono ?_
              rintro e w5 ⟨rfl, hT5⟩
              clear hct4
              clear hct hcx
              go_wp2_with (first
                | (go_at_call 32; refine (text_lit w _ w.heap.size ((no + 1) + 7) (18 * p.length + 4) (os ++ [44] ++ [34, 107, 92, 34, 125, 34, 58]) G2 (m + 1) (p.length + 1) cl ⟨#[34, 97, 92, 34, 93, 125, 92, 92, 34]⟩ [34, 97, 92, 34, 93, 125, 92, 92, 34] 9 rfl rfl hT5 (by omega) (by omega)).mono ?_; rintro e w6 ⟨rfl, hT6⟩))
              go_roundw
              case rel => exact ⟨k + 1, (((no + 1) + 7) + 9), m, _, _, false, by go_num, rfl, rfl, rfl, by omega, by omega, by omega, hT6, (((HI.out.pass passes_comma).pass passes_key).pass passes_three)⟩
              case measure => simp [intOf]; omega
            · go_wp2_with (first | (at_builtin; refine wpList_pushT1 rfl (.tmp 57) (.tmp 58) rfl w w.heap.size no (18 * p.length + 4) (os) G2 (m + 1) (p.length + 1) cl 44 rfl _ rfl rfl hT (by omega) ?_; intro w4 hT4; have hct4 : w4.cell? ⟨G2, m, none⟩ = some (.int .u8 125) := (by rw [HY.out]; exact hT4.r2.cell0 m (by omega))))
              refine (text_lit w _ w.heap.size (no + 1) (18 * p.length + 4) (os ++ [44]) G2 (m + 1) (p.length + 1) cl ⟨#[34, 107, 92, 34, 125, 34, 58]⟩ [34, 107, 92, 34, 125, 34, 58] 7 rfl rfl hT4 (by omega) (by omega)).mono ?_
              rintro e w5 ⟨rfl, hT5⟩
              clear hct4
              clear hct hcx
              go_wp2_with (first
                | (go_at_call 32; refine (text_lit w _ w.heap.size ((no + 1) + 7) (18 * p.length + 4) (os ++ [44] ++ [34, 107, 92, 34, 125, 34, 58]) G2 (m + 1) (p.length + 1) cl ⟨#[34, 123, 91, 92, 92, 92, 34, 34]⟩ [34, 123, 91, 92, 92, 92, 34, 34] 8 rfl rfl hT5 (by omega) (by omega)).mono ?_; rintro e w6 ⟨rfl, hT6⟩))
              go_roundw
              case rel => exact ⟨k + 1, (((no + 1) + 7) + 8), m, _, _, false, by go_num, rfl, rfl, rfl, by omega, by omega, by omega, hT6, (((HI.out.pass passes_comma).pass passes_key).pass passes_four)⟩
              case measure => simp [intOf]; omega
            · go_wp2_with (first | (at_builtin; refine wpList_pushT1 rfl (.tmp 57) (.tmp 58) rfl w w.heap.size no (18 * p.length + 4) (os) G2 (m + 1) (p.length + 1) cl 44 rfl _ rfl rfl hT (by omega) ?_; intro w4 hT4; have hct4 : w4.cell? ⟨G2, m, none⟩ = some (.int .u8 125) := (by rw [HY.out]; exact hT4.r2.cell0 m (by omega))))
              refine (text_lit w _ w.heap.size (no + 1) (18 * p.length + 4) (os ++ [44]) G2 (m + 1) (p.length + 1) cl ⟨#[34, 107, 92, 34, 125, 34, 58]⟩ [34, 107, 92, 34, 125, 34, 58] 7 rfl rfl hT4 (by omega) (by omega)).mono ?_
              rintro e w5 ⟨rfl, hT5⟩
              clear hct4
              clear hct hcx
              go_wp2_with (first
                | (go_at_call 32; refine (text_lit w _ w.heap.size ((no + 1) + 7) (18 * p.length + 4) (os ++ [44] ++ [34, 107, 92, 34, 125, 34, 58]) G2 (m + 1) (p.length + 1) cl ⟨#[45, 49, 50, 46, 53, 101, 51]⟩ [45, 49, 50, 46, 53, 101, 51] 7 rfl rfl hT5 (by omega) (by omega)).mono ?_; rintro e w6 ⟨rfl, hT6⟩))
              go_roundw
              case rel => exact ⟨k + 1, (((no + 1) + 7) + 7), m, _, _, false, by go_num, rfl, rfl, rfl, by omega, by omega, by omega, hT6, (((HI.out.pass passes_comma).pass passes_key).pass passes_five)⟩
              case measure => simp [intOf]; omega
            · go_wp2_with (first | (at_builtin; refine wpList_pushT1 rfl (.tmp 57) (.tmp 58) rfl w w.heap.size no (18 * p.length + 4) (os) G2 (m + 1) (p.length + 1) cl 44 rfl _ rfl rfl hT (by omega) ?_; intro w4 hT4; have hct4 : w4.cell? ⟨G2, m, none⟩ = some (.int .u8 125) := (by rw [HY.out]; exact hT4.r2.cell0 m (by omega))))
              refine (text_lit w _ w.heap.size (no + 1) (18 * p.length + 4) (os ++ [44]) G2 (m + 1) (p.length + 1) cl ⟨#[34, 107, 92, 34, 125, 34, 58]⟩ [34, 107, 92, 34, 125, 34, 58] 7 rfl rfl hT4 (by omega) (by omega)).mono ?_
              rintro e w5 ⟨rfl, hT5⟩
              clear hct4
              clear hct hcx
              go_wp2_with (first
                | (go_at_call 32; refine (text_lit w _ w.heap.size ((no + 1) + 7) (18 * p.length + 4) (os ++ [44] ++ [34, 107, 92, 34, 125, 34, 58]) G2 (m + 1) (p.length + 1) cl ⟨#[110, 117, 108, 108]⟩ [110, 117, 108, 108] 4 rfl rfl hT5 (by omega) (by omega)).mono ?_; rintro e w6 ⟨rfl, hT6⟩))
              go_roundw
              case rel => exact ⟨k + 1, (((no + 1) + 7) + 4), m, _, _, false, by go_num, rfl, rfl, rfl, by omega, by omega, by omega, hT6, (((HI.out.pass passes_comma).pass passes_key).pass passes_null)⟩
              case measure => simp [intOf]; omega
    · have hkk : k = p.length := by omega
      subst hkk
      have hcl : cl.length = m + 1 := hT.r2.len
      have HF : Hid (FinW os cl (m + 1)) := by have := FinW.start HI.out; rw [hcl] at this; exact this
      clear hcl HI
      go_wp2
      go_loopw [3, 9] (fun vo vj wq => ∃ (q n1 : Nat) (o1 : List Int), vj = .int .i64 ((q : Int) - 1) ∧ vo = .slice (some ⟨w.heap.size, 0, none⟩) n1 (18 * p.length + 4) ∧ q ≤ m + 1 ∧ n1 + q ≤ no + m + 1 ∧
          Two w wq w.heap.size n1 (18 * p.length + 4) o1 G2 (m + 1) (p.length + 1) cl ∧ Hid (FinW o1 cl q))
        (fun _ vj _ => (intOf vj + 1).toNat)
      case atStart => exact ⟨m + 1, no, os, by go_num, rfl, Nat.le_refl _, by omega, hT, HF⟩
      case round =>
        clear hT HF
        obtain ⟨q, n1, o1, rfl, rfl, hq, hn1, hT, HF⟩ := hrel
        by_cases hq0 : 0 < q
        · obtain ⟨r, rfl⟩ : ∃ r, q = r + 1 := ⟨q - 1, by omega⟩
          have hcr := hT.r2.cell0 r (by omega)
          obtain ⟨y, hy⟩ : ∃ y, y = cl.getD r 0 := ⟨_, rfl⟩
          rw [← hy] at hcr
          have HF' : Hid (FinW (o1 ++ [y]) cl r) := by have := HF.out.step; rw [← hy] at this; exact this
          clear hy HF
          go_wp2_with (at_builtin; refine wpList_pushT1 rfl (.tmp 128) (.tmp 133) rfl w w.heap.size n1 (18 * p.length + 4) o1 G2 (m + 1) (p.length + 1) cl y rfl _ rfl rfl hT (by omega) ?_; intro w4 hT4)
          go_roundw
          case rel => exact ⟨r, n1 + 1, _, by go_num, rfl, by omega, by omega, hT4, HF'⟩
          case measure => simp [intOf]
        · obtain rfl : q = 0 := by omega
          have hl := hT.r1.len
          have HD : Hid ((∀ rest, nEnd 0 false false (o1 ++ rest) = some n1) ∧ o1.head? = some 91) := by have := HF.out.done; rw [hl] at this; exact this
          clear hl HF
          go_wp2
          go_ret
          exact ⟨w.heap.size, n1, _, o1, rfl, hT.r1, by omega, HD.out⟩
end Go.Proofs.Qxb6600806a
