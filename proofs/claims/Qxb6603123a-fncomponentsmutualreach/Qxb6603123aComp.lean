/-
  SEAT b6603123a: '(*graph).components' BY ITS CONTRACT.
-/
import Derived.Test.Qxb6603123aLoop2
namespace Go.Proofs.Qxb6603123a
open Go.ChangeShapes Go.WideShapes Go.ChangeAt Go.RowKit
set_option linter.unusedVariables false

/-- What 'components' leaves. -/
def CompPost (w : World) (n : Nat) (adj : Nat → List Nat) (e : Ending) (w' : World) : Prop :=
  ∃ (g k : Nat) (comp : Nat → Nat), e = .returned (.slice (some ⟨g, 0, none⟩) n n) ∧ w'.rowIs g 3 n (fun i => .int .i64 (comp i : Int)) ∧ w.heap.size ≤ g ∧ Below w.heap.size w w' ∧ SccSpec n adj comp k

set_option maxHeartbeats 3200000 in
set_option maxRecDepth 1000000 in
theorem components_any (w : World) (bg bo n : Nat) (be : Nat → Nat) (adj : Nat → List Nat) (hG : Gr w bg bo be n adj) (hn : n ≤ 1048576) (hadj : ∀ v, v < n → ∀ x ∈ adj v, x < n) (hdeg : ∀ v, v < n → (adj v).length ≤ 1048576) :
    Calls Try.prog 23 #[.pointer (some ⟨bg, 0, none⟩)] w fun e w' => CompPost w n adj e w' := by
  have hmk := fun wx => run_make_row' (P := Try.prog) 27 3 (.int .i64 0) 8 Try.underlying27 Try.info3 rfl .i64 .i64 n (by omega) (by omega) wx
  have hmb := fun wx => run_make_row' (P := Try.prog) 29 4 (.bool false) 1 Try.underlying29 Try.info4 rfl .i64 .i64 n (by omega) (by omega) wx
  have hg0 := hG.hg
  go_enter Try.func23, Try.ntmps23
  go_upto_region 2 with fail
  go_cut [4, 5] (fun s4 s5 wc => ∃ gIdx gLow bIdx bLow, s4 = .pointer (some ⟨bIdx, 0, none⟩) ∧ s5 = .pointer (some ⟨bLow, 0, none⟩) ∧ Four w n gIdx gLow bIdx bLow wc)
  case first =>
    go_big_region
    all_goals go_wp2_with fail
    all_goals go_meet
    all_goals
      go_light
      refine ⟨?_, ?_, _, _, rfl, rfl, ?_⟩
      rotate_left
      rotate_left
      apply four_of
      · first | exact look0 _ _ _ _ _ | exact look1 _ _ _ _ _ | exact look2 _ _ _ _ _ | exact look3 _ _ _ _ _
      · first | exact look0 _ _ _ _ _ | exact look1 _ _ _ _ _ | exact look2 _ _ _ _ _ | exact look3 _ _ _ _ _
      · first | exact look0 _ _ _ _ _ | exact look1 _ _ _ _ _ | exact look2 _ _ _ _ _ | exact look3 _ _ _ _ _
      · first | exact look0 _ _ _ _ _ | exact look1 _ _ _ _ _ | exact look2 _ _ _ _ _ | exact look3 _ _ _ _ _
      · exact look_below _ _ _ _ _
      · exact ⟨by omega, by omega, by omega, by omega, by omega, by omega, by omega, by omega, by omega, by omega, by omega, by omega, by omega, by omega⟩
  case rest =>
    clear hg0
    obtain ⟨gIdx, gLow, bIdx, bLow, rfl, rfl, d, f1, f2, f3, f4, hz, hb⟩ := hcut
    go_upto_region 9 with fail
    go_cut [6, 7, 8, 9, 10, 12, 33, 34] (fun s6 s7 s8 s9 s10 s12 s33 s34 wx => s33 = .int .i64 n ∧ s34 = .int .i64 0 ∧ s6 = .slice (some ⟨w.heap.size + 4, 0, none⟩) n n ∧ s7 = .pointer (some ⟨w.heap.size + 6, 0, none⟩) ∧ s8 = .pointer (some ⟨w.heap.size + 7, 0, none⟩) ∧ s9 = .pointer (some ⟨w.heap.size + 8, 0, none⟩) ∧ s10 = .pointer (some ⟨w.heap.size + 9, 0, none⟩) ∧
      s12 = .func (.func 25) #[] #[.pointer (some ⟨w.heap.size + 9, 0, none⟩), .pointer (some ⟨bIdx, 0, none⟩), .pointer (some ⟨bLow, 0, none⟩), .pointer (some ⟨w.heap.size + 7, 0, none⟩), .pointer (some ⟨w.heap.size + 6, 0, none⟩), .pointer (some ⟨w.heap.size + 8, 0, none⟩)] ∧
      Mem w w.heap.size gIdx gLow bIdx bLow n TS.start (.slice none 0 0) (.slice none 0 0) wx)
    case first =>
      go_wp2_with fail
      go_meet
      case rel => exact ⟨rfl, rfl, rfl, rfl, rfl, rfl, rfl, rfl, mem_start d f1 f2 f3 f4 hz hb⟩
    case rest =>
      clear f1 f2 f3 f4 hz hb hmk hmb
      obtain ⟨rfl, rfl, rfl, rfl, rfl, rfl, rfl, rfl, hM⟩ := hcut
      obtain ⟨B0, hB0⟩ : ∃ B0, B0 = w.heap.size := ⟨_, rfl⟩
      have hBB : w.heap.size ≤ B0 := by omega
      rw [← hB0] at d hM ⊢
      have HB0 : Hid (B0 = w.heap.size) := hB0
      clear hB0
      go_wp2_with fail
      go_loopg [11, 34] n (fun gk s11 s34 wr => ∃ (k : Nat) (S : TS) (sv cv : Value), s34 = .int .i64 k ∧ s11 = .int .i64 (S.cnt : Int) ∧ k ≤ n ∧ Hid (gk = n - k) ∧ Mem w B0 gIdx gLow bIdx bLow n S sv cv wr ∧ Hid (Inv n adj S ∧ S.calls = [] ∧ ∀ v, v < k → 0 < S.idx v))
      case atStart => exact ⟨0, TS.start, _, _, rfl, rfl, Nat.zero_le _, rfl, hM, Inv.start n adj, rfl, fun v hv => absurd hv (by omega)⟩
      case round =>
        clear hM
        obtain ⟨k, S, sv, cv, rfl, rfl, hk, HG, hM, HI⟩ := hrel
        by_cases hkn : k < n
        · have hbI := hM.hbI.cell (i := 0) (by omega)
          have hIk := hM.hIdx.cell hkn
          by_cases hix : S.idx k = 0
          · have hIk' : wr.cell? ⟨gIdx, k, none⟩ = some (.int .i64 0) := by rw [hIk, hix]; rfl
            clear hIk
            have hvl := HI.out.1.visLe
            have hcl := HI.out.1.cntLe
            have hal := HI.out.1.calLe
            go_wp2_with (go_at_call 25; refine (visit_any w _ B0 gIdx gLow bIdx bLow n S sv cv k hM d hBB hkn hn hvl (by omega) (by omega)).mono ?_; rintro e w1 ⟨rfl, sv1, cv1, hM1⟩)
            have hvis1 := HI.out.1.visitRoot HI.out.2.1 (HI.out.1.empty HI.out.2.1) hkn hix
            rw [HI.out.2.1] at hM1
            clear hM hbI hIk' hvl hcl hal
            have hpos : ∀ v, v ≤ k → 0 < (S.visit k []).idx v := by
              intro v hv
              by_cases e : v = k
              · subst e; show 0 < upd S.idx v (S.vis + 1) v; rw [upd_same]; omega
              · show 0 < upd S.idx k (S.vis + 1) v; rw [upd_other _ _ _ _ e]; exact HI.out.2.2 v (by omega)
            refine wp_mono (loop2 w bg bo be B0 gIdx gLow bIdx bLow n adj k hG hn hadj hdeg d hBB (S.visit k []) sv1 cv1 w1 hM1 ⟨hvis1, hpos⟩ _ _ _ _ _ _ _ _ _ _ _ _ _ _ _ _ _ _ _ _ _ _ _ _ _ _ _ _ _ _ _ _ _ _ _ _ _ _ _ _ _ _ _ _ _ _ _ _ _ _ _ _ _ _ _ _ _ _ _ _ _ _ _ _ _ _ _ _ _ _ _ _ _ _ _ _ _ _ _ _ _ _ _ _ _ _ _ _ _ _ _ _ _ _ _ _ _ _ _ _ _ _ _ _ _ _ _ _ _ _ _ _ _ _ _ _ _ _ _ _ _ _ _ _ _ _ _ _ _ _ _ _ _ _ _ _ _ _ _ _ _ _ _ _ _ _ _ _ _ _ _ _ _ _ _ _ _ _ _ _ _ _ _ _ _ _ ) ?_
            intro e1 a1 w2 hq
            cases e1 with
            | exit j =>
              obtain ⟨rfl, hX⟩ := hq
              unfold X2 at hX
              obtain ⟨x14, hX⟩ := hX
              obtain ⟨x15, hX⟩ := hX
              obtain ⟨x16, hX⟩ := hX
              obtain ⟨x17, hX⟩ := hX
              obtain ⟨x18, hX⟩ := hX
              obtain ⟨x45, hX⟩ := hX
              obtain ⟨x46, hX⟩ := hX
              obtain ⟨x47, hX⟩ := hX
              obtain ⟨x48, hX⟩ := hX
              obtain ⟨x49, hX⟩ := hX
              obtain ⟨x50, hX⟩ := hX
              obtain ⟨x51, hX⟩ := hX
              obtain ⟨x52, hX⟩ := hX
              obtain ⟨x53, hX⟩ := hX
              obtain ⟨x54, hX⟩ := hX
              obtain ⟨x55, hX⟩ := hX
              obtain ⟨x56, hX⟩ := hX
              obtain ⟨x57, hX⟩ := hX
              obtain ⟨x58, hX⟩ := hX
              obtain ⟨x59, hX⟩ := hX
              obtain ⟨x60, hX⟩ := hX
              obtain ⟨x61, hX⟩ := hX
              obtain ⟨x62, hX⟩ := hX
              obtain ⟨x63, hX⟩ := hX
              obtain ⟨x64, hX⟩ := hX
              obtain ⟨x65, hX⟩ := hX
              obtain ⟨x66, hX⟩ := hX
              obtain ⟨x67, hX⟩ := hX
              obtain ⟨x68, hX⟩ := hX
              obtain ⟨x69, hX⟩ := hX
              obtain ⟨x70, hX⟩ := hX
              obtain ⟨x71, hX⟩ := hX
              obtain ⟨x72, hX⟩ := hX
              obtain ⟨x73, hX⟩ := hX
              obtain ⟨x74, hX⟩ := hX
              obtain ⟨x75, hX⟩ := hX
              obtain ⟨x76, hX⟩ := hX
              obtain ⟨x77, hX⟩ := hX
              obtain ⟨x78, hX⟩ := hX
              obtain ⟨x79, hX⟩ := hX
              obtain ⟨x80, hX⟩ := hX
              obtain ⟨x81, hX⟩ := hX
              obtain ⟨x82, hX⟩ := hX
              obtain ⟨x83, hX⟩ := hX
              obtain ⟨x84, hX⟩ := hX
              obtain ⟨x85, hX⟩ := hX
              obtain ⟨x86, hX⟩ := hX
              obtain ⟨x87, hX⟩ := hX
              obtain ⟨x88, hX⟩ := hX
              obtain ⟨x89, hX⟩ := hX
              obtain ⟨x90, hX⟩ := hX
              obtain ⟨x91, hX⟩ := hX
              obtain ⟨x92, hX⟩ := hX
              obtain ⟨x93, hX⟩ := hX
              obtain ⟨x94, hX⟩ := hX
              obtain ⟨x95, hX⟩ := hX
              obtain ⟨x96, hX⟩ := hX
              obtain ⟨x97, hX⟩ := hX
              obtain ⟨x98, hX⟩ := hX
              obtain ⟨x99, hX⟩ := hX
              obtain ⟨x100, hX⟩ := hX
              obtain ⟨x101, hX⟩ := hX
              obtain ⟨x102, hX⟩ := hX
              obtain ⟨x103, hX⟩ := hX
              obtain ⟨x104, hX⟩ := hX
              obtain ⟨x105, hX⟩ := hX
              obtain ⟨x106, hX⟩ := hX
              obtain ⟨x107, hX⟩ := hX
              obtain ⟨x108, hX⟩ := hX
              obtain ⟨x109, hX⟩ := hX
              obtain ⟨x110, hX⟩ := hX
              obtain ⟨x111, hX⟩ := hX
              obtain ⟨x112, hX⟩ := hX
              obtain ⟨x113, hX⟩ := hX
              obtain ⟨x114, hX⟩ := hX
              obtain ⟨x115, hX⟩ := hX
              obtain ⟨x116, hX⟩ := hX
              obtain ⟨x117, hX⟩ := hX
              obtain ⟨x118, hX⟩ := hX
              obtain ⟨x119, hX⟩ := hX
              obtain ⟨x120, hX⟩ := hX
              obtain ⟨x121, hX⟩ := hX
              obtain ⟨x122, hX⟩ := hX
              obtain ⟨x123, hX⟩ := hX
              obtain ⟨x124, hX⟩ := hX
              obtain ⟨x125, hX⟩ := hX
              obtain ⟨x126, hX⟩ := hX
              obtain ⟨x127, hX⟩ := hX
              obtain ⟨x128, hX⟩ := hX
              obtain ⟨x129, hX⟩ := hX
              obtain ⟨x130, hX⟩ := hX
              obtain ⟨x131, hX⟩ := hX
              obtain ⟨x132, hX⟩ := hX
              obtain ⟨x133, hX⟩ := hX
              obtain ⟨x134, hX⟩ := hX
              obtain ⟨x135, hX⟩ := hX
              obtain ⟨x136, hX⟩ := hX
              obtain ⟨x137, hX⟩ := hX
              obtain ⟨x138, hX⟩ := hX
              obtain ⟨x139, hX⟩ := hX
              obtain ⟨x140, hX⟩ := hX
              obtain ⟨x141, hX⟩ := hX
              obtain ⟨x142, hX⟩ := hX
              obtain ⟨x143, hX⟩ := hX
              obtain ⟨x144, hX⟩ := hX
              obtain ⟨x145, hX⟩ := hX
              obtain ⟨x146, hX⟩ := hX
              obtain ⟨x147, hX⟩ := hX
              obtain ⟨x148, hX⟩ := hX
              obtain ⟨x149, hX⟩ := hX
              obtain ⟨x150, hX⟩ := hX
              obtain ⟨x151, hX⟩ := hX
              obtain ⟨x152, hX⟩ := hX
              obtain ⟨x153, hX⟩ := hX
              obtain ⟨x154, hX⟩ := hX
              obtain ⟨x155, hX⟩ := hX
              obtain ⟨x156, hX⟩ := hX
              obtain ⟨x157, hX⟩ := hX
              obtain ⟨x158, hX⟩ := hX
              obtain ⟨x159, hX⟩ := hX
              obtain ⟨x160, hX⟩ := hX
              obtain ⟨x161, hX⟩ := hX
              obtain ⟨x162, hX⟩ := hX
              obtain ⟨x163, hX⟩ := hX
              obtain ⟨x164, hX⟩ := hX
              obtain ⟨x165, hX⟩ := hX
              obtain ⟨x166, hX⟩ := hX
              obtain ⟨x167, hX⟩ := hX
              obtain ⟨x168, hX⟩ := hX
              obtain ⟨x169, hX⟩ := hX
              obtain ⟨x170, hX⟩ := hX
              obtain ⟨x171, hX⟩ := hX
              obtain ⟨x172, hX⟩ := hX
              obtain ⟨x173, hX⟩ := hX
              obtain ⟨S2, sv2, cv2, hM2, hI2, hc2, hx2, rfl⟩ := hX
              clear hM1 hvis1 hpos
              go_wp2_with fail
              go_roundg (n - (k + 1))
              case measure => have := HG.out; omega
              case rel => exact ⟨k + 1, S2, sv2, cv2, by go_num, rfl, by omega, rfl, hM2, hI2, hc2, fun v hv => hx2 v (by omega)⟩
            | normal => exact hq.elim
            | goto l => exact hq.elim
            | ret => exact hq.elim
            | panic c => exact hq.elim
            | outgrown => exact hq.elim
          · have hne : ((S.idx k : Int) == 0) = false := by simp; omega
            go_wp2_with fail
            go_roundg (n - (k + 1))
            case measure => have := HG.out; omega
            case rel =>
              have hall : ∀ v, v < k + 1 → 0 < S.idx v := by
                intro v hv
                by_cases e : v = k
                · subst e; omega
                · exact HI.out.2.2 v (by omega)
              exact ⟨k + 1, S, sv, cv, by go_num, rfl, by omega, rfl, hM, HI.out.1, HI.out.2.1, hall⟩
        · have hkk : k = n := by omega
          have hlt0 : ¬ (k : Int) < (n : Int) := by omega
          go_wp2_with fail
          go_ret
          have hfin := HI.out.1.finish HI.out.2.1 (fun v hv => HI.out.2.2 v (by omega))
          exact ⟨B0 + 4, S.cnt, S.comp, rfl, hM.hComp, by omega, hM.below, hfin⟩
end Go.Proofs.Qxb6603123a
