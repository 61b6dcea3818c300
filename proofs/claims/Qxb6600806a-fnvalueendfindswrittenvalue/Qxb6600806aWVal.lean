/-
  SEAT b6600806a: THE WALK OF 'FnValueEndFindsWrittenValue'.
-/
import Derived.Test.Qxb6600806aWrite
import Derived.Test.Qxb6600806aValue
namespace Go.Proofs.Qxb6600806a
open Go.ChangeShapes Go.WideShapes Go.ChangeAt Go.RowKit
set_option linter.unusedVariables false

theorem zz25_any (a0 a1 a2 : Option Addr) (l0 l1 l2 c0 c1 c2 : Nat) (w : World) (h0 : l0 ≤ maxLen) (h1 : l1 ≤ maxLen) (h2 : l2 ≤ maxLen) :
    Calls Try.prog 25 #[.slice a0 l0 c0, .slice a1 l1 c1, .slice a2 l2 c2] w fun e w' => (∃ B, e = .returned (.bool B)) ∧ w = w' := by
  unfold maxLen at h0 h1 h2
  go_enter Try.func25, Try.ntmps25
  go_wp2
  all_goals go_ret
  all_goals exact ⟨⟨_, rfl⟩, rfl⟩

theorem zz25_true (a0 a1 a2 : Option Addr) (l0 l1 l2 c0 c1 c2 : Nat) (w : World) (h0 : l0 ≤ 131072) (h1 : l1 ≤ 16384) (h2 : l2 ≤ 131072) :
    Calls Try.prog 25 #[.slice a0 l0 c0, .slice a1 l1 c1, .slice a2 l2 c2] w fun e w' => e = .returned (.bool true) ∧ w = w' := by
  go_enter Try.func25, Try.ntmps25
  go_wp2
  all_goals go_ret
  all_goals exact ⟨rfl, rfl⟩

theorem early9 (a0 a1 a2 : Option Addr) (l0 l1 l2 c0 c1 c2 : Nat) (w : World) (h0 : l0 ≤ maxLen) (h1 : l1 ≤ maxLen) (h2 : l2 ≤ maxLen) (h : ¬ (l0 ≤ 131072 ∧ l1 ≤ 16384 ∧ l2 ≤ 131072)) :
    Calls Try.prog 9 #[.slice a0 l0 c0, .slice a1 l1 c1, .slice a2 l2 c2] w fun e w' => e = .returned (.bool true) ∧ Below w.heap.size w w' := by
  have hor : 131072 < l0 ∨ (l0 ≤ 131072 ∧ 16384 < l1) ∨ (l0 ≤ 131072 ∧ l1 ≤ 16384 ∧ 131072 < l2) := by omega
  clear h
  rcases hor with h | ⟨h, h'⟩ | ⟨h, h', h''⟩
  all_goals
    go_enter Try.func9, Try.ntmps9
    go_wp2_with (go_at_call 25; refine (zz25_any _ _ _ _ _ _ _ _ _ _ h0 h1 h2).mono ?_; rintro e w' ⟨⟨B, rfl⟩, rfl⟩)
    all_goals go_ret
    all_goals exact ⟨rfl, Below.refl _ _⟩

theorem doc_head {P os T : List Int} (h : os.head? = some 91) : opensB ((P ++ os ++ T).getD P.length 0) = true := by
  cases os with
  | nil => simp at h
  | cons a r =>
    simp at h
    subst h
    simp [opensB]
theorem doc_drop (P os T : List Int) : (P ++ os ++ T).drop P.length = os ++ T := by
  rw [List.append_assoc, List.drop_left' rfl]

theorem RowB.src {w0 w : World} {G n cap : Nat} {os : List Int} (h : RowB w0 w G n cap os) : ∀ ad, some (⟨G, 0, none⟩ : Addr) = some ad → ∀ j u, (os.map (Value.int .u8))[j]? = some u → w.cell? (ad.add j) = some u := by
  intro ad had j u hu
  obtain rfl := Option.some.inj had
  have hj := (List.getElem?_eq_some_iff.1 hu).1
  simp only [List.length_map] at hj
  rw [Addr.add_lit, h.bytes j hj, ← hu, List.getElem?_map, List.getElem?_eq_getElem hj]
  simp only [List.getD, List.getElem?_eq_getElem hj, Option.map_some, Option.getD_some]

set_option maxHeartbeats 800000 in
theorem walk9 (a0 a1 a2 : Option Addr) (c0 c1 c2 : Nat) (P C T : List Int) (w : World) (s0 : Seen w a0 c0 P) (s1 : Seen w a1 c1 C) (s2 : Seen w a2 c2 T) (h0 : P.length ≤ 131072) (h1 : C.length ≤ 16384) (h2 : T.length ≤ 131072) :
    Calls Try.prog 9 #[.slice a0 P.length c0, .slice a1 C.length c1, .slice a2 T.length c2] w fun e w' => e = .returned (.bool true) ∧ Below w.heap.size w w' := by
  have S0 : Hid (Seen w a0 c0 P) := s0
  have S1 : Hid (Seen w a1 c1 C) := s1
  have S2 : Hid (Seen w a2 c2 T) := s2
  clear s0 s1 s2
  go_enter Try.func9, Try.ntmps9
  go_wp2_with (go_at_call 25; refine (zz25_true _ _ _ _ _ _ _ _ _ _ h0 h1 h2).mono ?_; rintro e w' ⟨rfl, rfl⟩)
  refine (write_any a1 c1 C w S1.out h1).mono ?_
  rintro e w1 ⟨G, n, c, os, rfl, hRo, hn, hend, hhead⟩
  have HE : Hid (∀ rest, nEnd 0 false false (os ++ rest) = some n) := hend
  have HH : Hid (os.head? = some 91) := hhead
  clear hend hhead
  go_wp2_with (first
    | (at_make; refine wpList_makeB rfl _ _ rfl w hRo.below _ (P.length + n + T.length) rfl rfl (by omega) (by omega) ?_; intro w2 hR2 hg2; have hGD : G ≠ w1.heap.size := (by have := hRo.lt; omega); have hRo2 := hRo.kept' hg2)
    | (at_builtin; refine wpList_manyB rfl (.tmp 34) (.tmp 35) rfl w w1.heap.size 0 (P.length + n + T.length) [] rfl hR2 a0 P.length c0 P rfl rfl S0.out.nil (fun ad h j u hu => (hR2.below.cell (p := ad.add j) (World.block_lt_of_cell? w _ (S0.out.cells ad h j u hu))).trans (S0.out.cells ad h j u hu)) (by omega) ?_; intro w3 hR3 hg3; have hRo3 := hRo2.kept hg3 hGD hR2.base)
    | (at_builtin; refine wpList_manyB rfl (.tmp 37) (.tmp 38) rfl w w1.heap.size P.length (P.length + n + T.length) P rfl (hR3.cast (by omega) (by simp)) _ n c os rfl hRo3.len (fun h => by cases h) hRo3.src (by omega) ?_; intro w4 hR4 hg4)
    | (at_builtin; refine wpList_manyB rfl (.tmp 40) (.tmp 41) rfl w w1.heap.size (P.length + n) (P.length + n + T.length) (P ++ os) rfl hR4 a2 T.length c2 T rfl rfl S2.out.nil (fun ad h j u hu => (hR4.below.cell (p := ad.add j) (World.block_lt_of_cell? w _ (S2.out.cells ad h j u hu))).trans (S2.out.cells ad h j u hu)) (by omega) ?_; intro w5 hR5 hg5))
  refine (zzValue_nest w1.heap.size 0 _ _ (P ++ os ++ T) P.length n _ hR5.len (by rw [hR5.len]; omega) (doc_head HH.out) (by rw [doc_drop]; exact HE.out T) hR5.bytes).mono ?_
  rintro e w6 ⟨rfl, rfl⟩
  go_wp2
  go_ret
  exact ⟨ret_bool (by simp), hR5.below⟩

end Go.Proofs.Qxb6600806a
