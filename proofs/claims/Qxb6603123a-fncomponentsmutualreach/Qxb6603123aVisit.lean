/-
  SEAT b6603123a: THE CLOSURE 'visit' OF '(*graph).components' BY ITS CONTRACT.
-/
import Derived.Test.Qxb6603123aMem
import Derived.Deep.DeepCutAuto
import Derived.RegionTactic
import Derived.ChangeAlike
import Derived.BigRegion
namespace Go.Proofs.Qxb6603123a
open Go.ChangeShapes Go.WideShapes Go.ChangeAt Go.RowKit
set_option linter.unusedVariables false

theorem cell_off (w : World) (b o b' o' : Nat) (x : Value) (h : b' ≠ b) : (w.setCell ⟨b, o, none⟩ x).cell? ⟨b', o', none⟩ = w.cell? ⟨b', o', none⟩ :=
  World.cell?_of_block (a := ⟨b', o', none⟩) (Below.heap_setCell w ⟨b, o, none⟩ x b' h)
theorem frozen_off (w : World) (b o b' o' : Nat) (x : Value) (h : b' ≠ b) : (w.setCell ⟨b, o, none⟩ x).frozen? ⟨b', o', none⟩ = w.frozen? ⟨b', o', none⟩ :=
  World.frozen?_of_block (a := ⟨b', o', none⟩) (Below.heap_setCell w ⟨b, o, none⟩ x b' h)

theorem own_shape {w : World} {base e size n : Nat} {v : Value} {xs : List Value} (h : w.ownsRow base e size v n xs) (hn : n ≠ 0) : ∃ g cap, v = .slice (some ⟨g, 0, none⟩) n cap := by
  rcases h.2 with ⟨_, h0⟩ | ⟨g, cap, cur, hv, _⟩
  · exact absurd h0 hn
  · exact ⟨g, cap, hv⟩

set_option maxHeartbeats 800000 in
theorem visit_any (w0 w : World) (B0 gIdx gLow bIdx bLow n : Nat) (S : TS) (sv cv : Value) (v : Nat) (hM : Mem w0 B0 gIdx gLow bIdx bLow n S sv cv w) (d : Dist B0 gIdx gLow bIdx bLow) (hB : w0.heap.size ≤ B0) (hv : v < n) (hn : n ≤ 1048576) (hvis : S.vis ≤ n) (hst : S.stk.length ≤ n) (hca : S.calls.length ≤ n) :
    Calls Try.prog 25 #[.int .i64 v, .pointer (some ⟨B0 + 9, 0, none⟩), .pointer (some ⟨bIdx, 0, none⟩), .pointer (some ⟨bLow, 0, none⟩), .pointer (some ⟨B0 + 7, 0, none⟩), .pointer (some ⟨B0 + 6, 0, none⟩), .pointer (some ⟨B0 + 8, 0, none⟩)] w
      fun e w' => e = .returned (.tuple #[]) ∧ ∃ sv' cv', Mem w0 B0 gIdx gLow bIdx bLow n (S.visit v S.calls) sv' cv' w' := by
  have hV := hM.hbV.cell (i := 0) (by omega)
  have hVf := hM.hbV.frozen 0
  go_enter Try.func25, Try.ntmps25
  go_upto_region 0 with fail
  go_cut [] (fun wc => Mem w0 B0 gIdx gLow bIdx bLow n { S with vis := S.vis + 1 } sv cv wc)
  case first =>
    go_wp2_with fail
    go_meet
    case rel => exact hM.setVis d hB (S.vis + 1)
  case rest =>
    clear hV hVf hM
    have h1 := hcut
    clear hcut
    have hV := h1.hbV.cell (i := 0) (by omega)
    have hI := h1.hbI.cell (i := 0) (by omega)
    have hL := h1.hbL.cell (i := 0) (by omega)
    have hIv := h1.hIdx.cell hv
    have hLv := h1.hLow.cell hv
    have hIf := h1.hIdx.frozen v
    have hLf := h1.hLow.frozen v
    obtain ⟨i0, i1, l0, l1, p0, p1, q0, q1, il, ip, iq, lp, lq, pq⟩ := id d
    have a1 : ∀ x, (wc.setCell ⟨gIdx, v, none⟩ x).cell? ⟨bLow, 0, none⟩ = some (.slice (some ⟨gLow, 0, none⟩) n n) := fun x => by rw [cell_off _ _ _ _ _ _ (by omega)]; exact hL
    have a2 : ∀ x, (wc.setCell ⟨gIdx, v, none⟩ x).cell? ⟨B0 + 9, 0, none⟩ = some (.int .i64 ((S.vis + 1 : Nat) : Int)) := fun x => by rw [cell_off _ _ _ _ _ _ (by omega)]; exact hV
    have a3 : ∀ x, (wc.setCell ⟨gIdx, v, none⟩ x).cell? ⟨gLow, v, none⟩ = some (.int .i64 (S.low v : Int)) := fun x => by rw [cell_off _ _ _ _ _ _ (by omega)]; exact hLv
    have a4 : ∀ x, (wc.setCell ⟨gIdx, v, none⟩ x).frozen? ⟨gLow, v, none⟩ = false := fun x => by rw [frozen_off _ _ _ _ _ _ (by omega)]; exact hLf
    have b1 : ∀ x, (wc.setCell ⟨gLow, v, none⟩ x).cell? ⟨bIdx, 0, none⟩ = some (.slice (some ⟨gIdx, 0, none⟩) n n) := fun x => by rw [cell_off _ _ _ _ _ _ (by omega)]; exact hI
    have b2 : ∀ x, (wc.setCell ⟨gLow, v, none⟩ x).cell? ⟨B0 + 9, 0, none⟩ = some (.int .i64 ((S.vis + 1 : Nat) : Int)) := fun x => by rw [cell_off _ _ _ _ _ _ (by omega)]; exact hV
    have b3 : ∀ x, (wc.setCell ⟨gLow, v, none⟩ x).cell? ⟨gIdx, v, none⟩ = some (.int .i64 (S.idx v : Int)) := fun x => by rw [cell_off _ _ _ _ _ _ (by omega)]; exact hIv
    have b4 : ∀ x, (wc.setCell ⟨gLow, v, none⟩ x).frozen? ⟨gIdx, v, none⟩ = false := fun x => by rw [frozen_off _ _ _ _ _ _ (by omega)]; exact hIf
    clear i0 i1 l0 l1 p0 p1 q0 q1 ip iq lp lq pq
    go_upto_region 1 with fail
    go_cut [] (fun wc => Mem w0 B0 gIdx gLow bIdx bLow n { S with vis := S.vis + 1, idx := upd S.idx v (S.vis + 1), low := upd S.low v (S.vis + 1) } sv cv wc)
    case first =>
      go_big_region
      go_wp2_with fail
      go_meet
      case rel => first | exact ((h1.setIdx d hB v (S.vis + 1)).setLow d hB v (S.vis + 1)).drew | exact ((h1.setLow d hB v (S.vis + 1)).setIdx d hB v (S.vis + 1)).drew
    case rest =>
      clear hV hI hL hIv hLv hIf hLf il a1 a2 a3 a4 b1 b2 b3 b4 h1
      have h2 := hcut
      clear hcut
      have hS := h2.hbS.cell (i := 0) (by omega)
      have hz2 := h2.size
      obtain ⟨i0, hi, hz0, hz1, hz2'⟩ := info_parts Try.info3
      go_upto_region 2 with fail
      go_cut [] (fun wc => ∃ sv', Mem w0 B0 gIdx gLow bIdx bLow n { S with vis := S.vis + 1, idx := upd S.idx v (S.vis + 1), low := upd S.low v (S.vis + 1), stk := v :: S.stk } sv' cv wc)
      case first =>
        go_wp2_with (at_builtin; refine wpList_append_own _ rfl (.tmp 18) (.tmp 20) 27 rfl (B0 + 10) 3 i0 (.int .i64 0) 1 8 Try.underlying27 hi hz0 hz1 hz2' rfl (by decide) sv S.stk.length (stkC S.stk) rfl (h2.stk.alloc _) ⟨wc.heap.size, 0, none⟩ 1 1 [.int .i64 (v : Int)] rfl rfl (cell_one_new _ _ _) (by intro u hu; simp at hu; subst hu; rfl) (by unfold maxLen; omega) (by omega) (by simp; omega) ?_; intro sv2 w1 hown hgr _; obtain ⟨hb1, hb2⟩ := h2.pushSBox _ hgr; obtain ⟨g2, k2, rfl⟩ := own_shape hown (by omega))
        go_meet
        case rel => exact ⟨_, h2.pushS d hB _ hgr hown⟩
      case rest =>
        clear hS h2 hz2
        obtain ⟨sv2, h3⟩ := hcut
        have hO := h3.hbO.cell (i := 0) (by omega)
        have hOv := h3.hOn.cell hv
        have hOf := h3.hOn.frozen v
        go_upto_region 3 with fail
        go_cut [] (fun wc => Mem w0 B0 gIdx gLow bIdx bLow n { S with vis := S.vis + 1, idx := upd S.idx v (S.vis + 1), low := upd S.low v (S.vis + 1), stk := v :: S.stk, on := upd S.on v true } sv2 cv wc)
        case first =>
          go_wp2_with fail
          go_meet
          case rel => exact h3.setOn d hB v true
        case rest =>
          clear hO hOv hOf h3
          have h4 := hcut
          clear hcut
          have hC := h4.hbC.cell (i := 0) (by omega)
          have hz4 := h4.size
          obtain ⟨j0, hj, hy0, hy1, hy2⟩ := info_parts Try.info56
          go_wp2_with (at_builtin; refine wpList_append_own _ rfl (.tmp 25) (.tmp 28) 54 rfl (B0 + 10) 56 j0 (.agg #[.int .i64 0, .int .i64 0]) 2 16 Try.underlying54 hj hy0 hy1 hy2 rfl (by decide) cv S.calls.length (calC S.calls) rfl (h4.cal.alloc _) ⟨wc.heap.size, 0, none⟩ 1 1 [.int .i64 (v : Int), .int .i64 ((0 : Nat) : Int)] rfl rfl (cell_two_new _ _ _ _) (by intro u hu; simp at hu; rcases hu with rfl | rfl <;> rfl) (by unfold maxLen; omega) (by omega) (by simp; omega) ?_; intro cv2 w1 hown hgr _; obtain ⟨hb1, hb2⟩ := h4.pushCBox _ hgr; obtain ⟨g2, k2, rfl⟩ := own_shape hown (by omega))
          go_end0
          exact ⟨rfl, sv2, _, h4.pushC (f := (v, 0)) d hB _ hgr hown⟩
end Go.Proofs.Qxb6603123a
