/-
  SEAT b6603123a: 'FnComponentsTransposeAgree'.
-/
import Derived.Test.Qxb6603123aPure4
import Derived.Deep.QuietTactic
import Derived.BigQuiet
namespace Go.Proofs.Qxb6603123a
open Go.ChangeShapes Go.WideShapes Go.ChangeAt Go.RowKit
set_option linter.unusedVariables false

/-- The two tables, as far as they are laid. -/
structure Ag (w0 w : World) (n : Nat) (f12 f21 : Nat → Int) : Prop where
  r3 : w.rowIs w0.heap.size 3 n (fun i => .int .i64 (f12 i))
  r4 : w.rowIs (w0.heap.size + 1) 3 n (fun i => .int .i64 (f21 i))
  below : Below w0.heap.size w0 w

theorem bel_drew {B : Nat} {a w : World} (h : Below B a w) (q : Nat) : Below B a (w.drewN q) := ⟨h.os, h.tape, h.output, h.size, h.block⟩

theorem Ag.set3 {w0 w : World} {n : Nat} {f12 f21 f : Nat → Int} (h : Ag w0 w n f12 f21) {a : Nat} {x : Int} (hf : ∀ i, i < n → f i = if i = a then x else f12 i) : Ag w0 (w.setCell ⟨w0.heap.size, a, none⟩ (.int .i64 x)) n f f21 :=
  ⟨(h.r3.set a _).congr (fun i hi => by rw [hf i hi]; by_cases e : i = a <;> simp [e]), own_setOther h.r4 (by omega) _, h.below.setCell (by exact Nat.le_refl _) _⟩

theorem Ag.set4 {w0 w : World} {n : Nat} {f12 f21 f : Nat → Int} (h : Ag w0 w n f12 f21) {a : Nat} {x : Int} (hf : ∀ i, i < n → f i = if i = a then x else f21 i) : Ag w0 (w.setCell ⟨w0.heap.size + 1, a, none⟩ (.int .i64 x)) n f12 f :=
  ⟨own_setOther h.r3 (by omega) _, (h.r4.set a _).congr (fun i hi => by rw [hf i hi]; by_cases e : i = a <;> simp [e]), h.below.setCell (by show w0.heap.size ≤ w0.heap.size + 1; omega) _⟩

theorem Ag.congr {w0 w : World} {n : Nat} {f12 f21 f f' : Nat → Int} (h : Ag w0 w n f12 f21) (h1 : ∀ i, i < n → f i = f12 i) (h2 : ∀ i, i < n → f' i = f21 i) : Ag w0 w n f f' :=
  ⟨h.r3.congr (fun i hi => by rw [h1 i hi]), h.r4.congr (fun i hi => by rw [h2 i hi]), h.below⟩

theorem boolOr {B : Bool} {P : Prop} (h : B = true → P) : B = false ∨ (B = true ∧ Hid P) := by
  cases B with
  | false => exact .inl rfl
  | true => exact .inr ⟨rfl, h rfl⟩

set_option maxRecDepth 100000 in
set_option maxHeartbeats 3200000 in
theorem walk4 (ao : Option Addr) (n cap : Nat) (A : Nat → Option Addr) (C : Nat → Nat) (T : Nat → List Int) (w : World) (hn : n ≤ maxLen) (hM : M2 w ao n A C T) (hnil : ao = none → n = 0) :
    Calls Try.prog 4 #[.slice ao n cap] w fun e w' => e = .returned (.bool true) ∧ Below w.heap.size w w' := by
  have HM : Hid (M2 w ao n A C T) := hM
  have HN : Hid (n ≤ maxLen) := hn
  have HL : Hid (ao = none → n = 0) := hnil
  clear hM hnil
  by_cases hbig : 65536 < n
  · unfold maxLen at hn
    go_enter Try.func4, Try.ntmps4
    go_wp2_with (go_at_call 14; refine (bytes14 _ _ _ A C T _ HN.out HM.out).mono ?_; rintro e w1 ⟨⟨B, rfl, _⟩, rfl⟩; cases B)
    all_goals go_ret
    all_goals exact ⟨rfl, Below.refl _ _⟩
  · clear hn
    have hnb : n ≤ 65536 := by omega
    clear hbig
    have hb0 : decide (65536 < (n : Int)) = false := decide_eq_false (by omega)
    have hmk := fun wx => run_make_row' (P := Try.prog) 27 3 (.int .i64 0) 8 Try.underlying27 Try.info3 rfl .i64 .i64 n (by omega) (by omega) wx
    go_enter Try.func4, Try.ntmps4
    go_wp2_with (first
      | (go_at_call 14; refine (bytes14 _ _ _ A C T _ HN.out HM.out).mono ?_; rintro e w1 ⟨⟨B, rfl, hB⟩, rfl⟩; rcases boolOr hB with rfl | ⟨rfl, HB⟩)
      | (go_at_call 8; refine (rowsBytes _ _ _ A C T _ HM.out HB.out).mono ?_; rintro e w1 ⟨⟨r, rfl, hr⟩, rfl⟩; clear hr; by_cases hr : 1048576 < r)
      | (go_at_call 10; refine (targetsIn _ _ _ A C T _ HM.out HB.out).mono ?_; rintro e w1 ⟨⟨B, rfl, hB⟩, rfl⟩; rcases boolOr hB with rfl | ⟨rfl, HI⟩)
      | (go_at_call 11; refine (cloneRows _ _ _ A C T _ HM.out HL.out HB.out).mono ?_; rintro e w1 ⟨ao1, cap1, A1, C1, rfl, hM1, hb1⟩; have HM1 : Hid (M2 w1 ao1 n A1 C1 T) := hM1; have Hb1 : Hid (Below w.heap.size w w1) := hb1; clear hM1 hb1)
      | (go_at_call 15; refine (transpose _ _ _ A1 C1 T _ HM1.out HB.out HI.out).mono ?_; rintro e w2 ⟨ao2, cap2, A2, C2, L, rfl, hM2, hb2, hTI⟩; have HM2 : Hid (M2 w2 ao2 n A2 C2 L) := hM2; have Hb2 : Hid (Below w1.heap.size w1 w2) := hb2; have HTI : Hid (TI n T L n 0) := hTI; clear hM2 hb2 hTI)
      | (go_at_call 12; have hX := HS1.out; clear hX; refine (zzComponents ao2 n cap2 A2 C2 L w3 (HM2.out.below Hb3.out) (by have := HTI.out.sum; have := HB.out; omega) HTI.out.inRange).mono ?_; rintro e w4 ⟨g2, k2, c2, rfl, hr2, hg2, hb4, hS2⟩; have Hr2 : Hid (w4.rowIs g2 3 n (fun i => .int .i64 (c2 i : Int))) := hr2; have Hg2 : Hid (w3.heap.size ≤ g2) := hg2; have Hb4 : Hid (Below w3.heap.size w3 w4) := hb4; have HS2 : Hid (SccSpec n (adjOf L) c2 k2) := hS2; clear hr2 hg2 hb4 hS2)
      | (go_at_call 12; refine (zzComponents ao1 n cap1 A1 C1 T w2 (HM1.out.below Hb2.out) HB.out HI.out).mono ?_; rintro e w3 ⟨g1, k1, c1, rfl, hr1, hg1, hb3, hS1⟩; have Hr1 : Hid (w3.rowIs g1 3 n (fun i => .int .i64 (c1 i : Int))) := hr1; have Hg1 : Hid (w2.heap.size ≤ g1) := hg1; have Hb3 : Hid (Below w2.heap.size w2 w3) := hb3; have HS1 : Hid (SccSpec n (adjOf T) c1 k1) := hS1; clear hr1 hg1 hb3 hS1))
    all_goals first | (go_ret; exact ⟨rfl, Below.refl _ _⟩) | skip
    have HA : Hid (Agree n T c1 c2 k1) := agree_of HTI.out HI.out HS1.out HS2.out
    have Hrow1 : Hid (w4.rowIs g1 3 n (fun i => .int .i64 (c1 i : Int))) := rowIs_below Hr1.out Hb4.out Hr1.out.lt
    have H24 : Hid (Below w1.heap.size w1 w4) := Hb2.out.trans ((Hb3.out.trans (Hb4.out.mono Hb3.out.size)).mono Hb2.out.size)
    have HMg : Hid (M2 w4 ao1 n A1 C1 T) := HM1.out.below H24.out
    have HW : Hid (Below w.heap.size w w4) := Hb1.out.trans (H24.out.mono Hb1.out.size)
    clear H24 Hb2 Hb3 Hb4 Hr1 HS1 HS2 HM1 HM2 HTI Hg1 Hg2 Hb1 HM HN HL hmk hr hb0
    go_loopw [9] (fun i wr => ∃ j : Nat, j ≤ n ∧ i = .int .i64 j ∧ Ag w4 wr n (fun a => if a < j then -1 else 0) (fun a => if a < j then -1 else 0)) (fun i _ => n - (intOf i).toNat)
    case atStart => exact ⟨0, Nat.zero_le _, rfl, ((World.rowIs_made w4 (.int .i64 0) n 3).alloc _).congr (fun i hi => by simp), (by have := World.rowIs_made (w4.alloc (.cells (madeCells #[.int .i64 0] n) 3)) (.int .i64 0) n 3; simpa using this), ((Below.refl _ _).alloc (Nat.le_refl _) _).alloc (by simp) _⟩
    case round =>
      obtain ⟨j, hj, rfl, hAg⟩ := hrel
      by_cases hlt : j < n
      · have hc3 := hAg.r3.cell hlt
        have hf3 := hAg.r3.frozen j
        have h4 := own_setOther (c := w4.heap.size) (j := j) hAg.r4 (by omega) (.int .i64 (-1))
        have hc4 := h4.cell hlt
        have hf4 := h4.frozen j
        clear h4
        go_wp2
        go_roundw
        case rel => exact ⟨j + 1, by omega, by go_num, (hAg.set3 (f := fun a => if a < j + 1 then -1 else 0) (fun i hi => by by_cases e : i = j <;> by_cases e2 : i < j <;> simp [e, e2] <;> omega)).set4 (fun i hi => by by_cases e : i = j <;> by_cases e2 : i < j <;> simp [e, e2] <;> omega)⟩
        case measure => simp [intOf]; omega
      · have hlt0 : ¬ (j : Int) < (n : Int) := by omega
        have hAg0 : Ag w4 wr n (mate c1 c2 0) (mate c2 c1 0) := hAg.congr (fun i hi => by rw [if_pos (by omega)]; rfl) (fun i hi => by rw [if_pos (by omega)]; rfl)
        clear hAg
        go_wp2
        go_loopw [10] (fun i wr => ∃ u : Nat, u ≤ n ∧ i = .int .i64 u ∧ Ag w4 wr n (mate c1 c2 u) (mate c2 c1 u)) (fun i _ => n - (intOf i).toNat)
        case atStart => exact ⟨0, Nat.zero_le _, rfl, hAg0⟩
        case round =>
          clear hAg0 hlt0 hlt hj
          obtain ⟨u, hu, rfl, hAg⟩ := hrel
          by_cases hlt : u < n
          · have ha : c1 u < n := by have := HA.out.lt1 u hlt; have := HA.out.le; omega
            have hb : c2 u < n := by have := HA.out.lt2 u hlt; have := HA.out.le; omega
            have q1 : decide ((c1 u : Int) < 0) = false := decide_eq_false (by omega)
            have q2 : decide ((n : Int) ≤ (c1 u : Int)) = false := decide_eq_false (by omega)
            have q3 : decide ((c2 u : Int) < 0) = false := decide_eq_false (by omega)
            have q4 : decide ((n : Int) ≤ (c2 u : Int)) = false := decide_eq_false (by omega)
            have hcu1 := (rowIs_below Hrow1.out hAg.below Hrow1.out.lt).cell hlt
            have hcu2 := (rowIs_below Hr2.out hAg.below Hr2.out.lt).cell hlt
            have E3 : Hid (mate c1 c2 u (c1 u) = -1 ∨ mate c1 c2 u (c1 u) = c2 u) := mate_at (fun x y hx hy => (HA.out.same x y hx hy).1) hlt
            have E4 : Hid (mate c2 c1 u (c2 u) = -1 ∨ mate c2 c1 u (c2 u) = c1 u) := mate_at (fun x y hx hy => (HA.out.same x y hx hy).2) hlt
            rcases E3.out with e3 | e3 <;> rcases E4.out with e4 | e4 <;> clear E3 E4
            · have hc3 := hAg.r3.cell ha; rw [e3] at hc3; have hf3 := hAg.r3.frozen (c1 u)
              have h4 := own_setOther (c := w4.heap.size) (j := c1 u) hAg.r4 (by omega) (.int .i64 (c2 u : Int))
              have hAg1 := hAg.set3 (f := mate c1 c2 (u + 1)) (a := c1 u) (x := (c2 u : Int)) (fun i hi => rfl)
              have hc4 := h4.cell hb; rw [e4] at hc4
              have hf4 := h4.frozen (c2 u)
              clear h4 e3
              clear e4
              go_wp2
              go_roundw
              case rel => exact ⟨u + 1, by omega, by go_num, hAg1.set4 (fun i hi => rfl)⟩
              case measure => simp [intOf]; omega
            · have hc3 := hAg.r3.cell ha; rw [e3] at hc3; have hf3 := hAg.r3.frozen (c1 u)
              have h4 := own_setOther (c := w4.heap.size) (j := c1 u) hAg.r4 (by omega) (.int .i64 (c2 u : Int))
              have hAg1 := hAg.set3 (f := mate c1 c2 (u + 1)) (a := c1 u) (x := (c2 u : Int)) (fun i hi => rfl)
              have hc4 := h4.cell hb; rw [e4] at hc4
              clear h4 e3
              go_wp2
              go_roundw
              case rel => exact ⟨u + 1, by omega, by go_num, hAg1.congr (fun i hi => rfl) (fun i hi => mate_keep e4 i)⟩
              case measure => simp [intOf]; omega
            · have hc3 := hAg.r3.cell ha; rw [e3] at hc3
              have h4 := hAg.r4
              have hAg1 := hAg.congr (f := mate c1 c2 (u + 1)) (f' := mate c2 c1 u) (fun i hi => mate_keep e3 i) (fun i hi => rfl)
              have hc4 := h4.cell hb; rw [e4] at hc4
              have hf4 := h4.frozen (c2 u)
              clear h4 e3
              clear e4
              go_wp2
              go_roundw
              case rel => exact ⟨u + 1, by omega, by go_num, hAg1.set4 (fun i hi => rfl)⟩
              case measure => simp [intOf]; omega
            · have hc3 := hAg.r3.cell ha; rw [e3] at hc3
              have h4 := hAg.r4
              have hAg1 := hAg.congr (f := mate c1 c2 (u + 1)) (f' := mate c2 c1 u) (fun i hi => mate_keep e3 i) (fun i hi => rfl)
              have hc4 := h4.cell hb; rw [e4] at hc4
              clear h4 e3
              go_wp2
              go_roundw
              case rel => exact ⟨u + 1, by omega, by go_num, hAg1.congr (fun i hi => rfl) (fun i hi => mate_keep e4 i)⟩
              case measure => simp [intOf]; omega
          · have hun : u = n := by omega
            subst hun
            have hlt0 : ¬ (u : Int) < (u : Int) := by omega
            clear hu hlt
            go_wp2
            go_loop [13, 14] (fun kk a => ∃ j q : Nat, j ≤ u ∧ a = .int .i64 j ∧ kk = .int .i64 q ∧ q ≤ j ∧ Hid (q = min j k1)) (fun _ a => u - (intOf a).toNat)
            case atStart => exact ⟨0, 0, Nat.zero_le _, rfl, rfl, Nat.le_refl _, by show _ = _; simp⟩
            case round =>
              obtain ⟨j, q, hj, rfl, rfl, hqj, HQ⟩ := hrel
              by_cases hlt : j < u
              · have hc3 := hAg.r3.cell hlt
                obtain ⟨y, hy⟩ : ∃ y, y = mate c1 c2 u j := ⟨_, rfl⟩
                rw [← hy] at hc3
                by_cases hjk : j < k1
                · have hy0 : 0 ≤ y := by rw [hy]; exact (HA.out.mate_sign j).1 hjk
                  clear hy
                  go_wp2
                  go_round
                  case rel => exact ⟨j + 1, q + 1, by omega, by go_num, by go_num, by omega, by show _ = _; have := HQ.out; omega⟩
                  case measure => simp [intOf]; omega
                · have hy0 : y = -1 := by rw [hy]; exact (HA.out.mate_sign j).2 (by omega)
                  clear hy
                  subst hy0
                  go_wp2
                  go_round
                  case rel => exact ⟨j + 1, q, by omega, by go_num, rfl, by omega, by show _ = _; have := HQ.out; omega⟩
                  case measure => simp [intOf]; omega
              · have hq1 : q = k1 := by have := HQ.out; have := HA.out.le; omega
                subst hq1
                have hju : ¬ (j : Int) < (u : Int) := by omega
                have hB := hAg.below
                clear HQ hAg hlt hqj hlt0
                go_wp2
                go_loopw [15] (fun i wx => ∃ x : Nat, x ≤ u ∧ i = .int .i64 x ∧ Below w4.heap.size w4 wx) (fun i _ => u - (intOf i).toNat)
                case atStart => exact ⟨0, Nat.zero_le _, rfl, hB⟩
                case round =>
                  clear hB hju hj
                  obtain ⟨x, hx, rfl, hB⟩ := hrel
                  by_cases hlt : x < u
                  · have p1 := HA.out.lt1 x hlt
                    have p2 := HA.out.lt2 x hlt
                    have q1 : decide ((q : Int) ≤ (c1 x : Int)) = false := decide_eq_false (by omega)
                    have q2 : decide ((q : Int) ≤ (c2 x : Int)) = false := decide_eq_false (by omega)
                    have hcu1 := (rowIs_below Hrow1.out hB Hrow1.out.lt).cell hlt
                    have hcu2 := (rowIs_below Hr2.out hB Hr2.out.lt).cell hlt
                    obtain ⟨b, off, rfl, hcell⟩ := (HMg.out.below hB).out (by omega)
                    have hck := hcell x hlt
                    obtain ⟨l, hl⟩ : ∃ l, l = (T x).length := ⟨_, rfl⟩
                    have hlen : l ≤ 1048576 := by have := sumL_row T hlt; have := HB.out; omega
                    rw [← hl] at hck
                    have HL : Hid (l = (T x).length) := hl
                    clear hl hcell
                    go_wp2
                    go_loopw [161] (fun i wx => ∃ p : Nat, p ≤ l ∧ i = .int .i64 p ∧ Below w4.heap.size w4 wx) (fun i _ => l - (intOf i).toNat)
                    case atStart => exact ⟨0, Nat.zero_le _, rfl, hB⟩
                    case round =>
                      clear hB hcu1 hcu2 hck q1 q2 p1 p2
                      obtain ⟨p, hp, rfl, hB⟩ := hrel
                      by_cases hlp : p < l
                      · obtain ⟨br, offr, hAr, hcr⟩ := (HMg.out.below hB).row x hlt (by have := HL.out; omega)
                        have hrange := HI.out x hlt p (by have := HL.out; omega)
                        obtain ⟨v, hvx⟩ : ∃ v : Nat, (v : Int) = (T x).getD p 0 := ⟨((T x).getD p 0).toNat, by omega⟩
                        have hvn : v < u := by omega
                        have hvm : (v : Int) ∈ T x := by rw [hvx]; have := HL.out; have h2 : p < (T x).length := by omega
                                                         simp [List.getD, h2]
                        have hcx := hcr p (by have := HL.out; omega)
                        rw [← hvx] at hcx
                        have p1 := HA.out.topo1 x hlt v hvm
                        have p2 := HA.out.topo2 x hlt v hvm
                        have t1 : decide ((c1 x : Int) < (c1 v : Int)) = false := decide_eq_false (by omega)
                        have t2 : decide ((c2 v : Int) < (c2 x : Int)) = false := decide_eq_false (by omega)
                        have R1 := rowIs_below Hrow1.out hB Hrow1.out.lt
                        have R2 := rowIs_below Hr2.out hB Hr2.out.lt
                        have hcu1 := R1.cell hlt
                        have hcu2 := R2.cell hlt
                        have hcv1 := R1.cell hvn
                        have hcv2 := R2.cell hvn
                        clear hrange hvx hcr R1 R2 hvm
                        rw [hAr]
                        clear hAr
                        have i1 : (x : Int) < (u : Int) := by omega
                        have i2 : (v : Int) < (u : Int) := by omega
                        go_wp2_with fail
                        go_quiet (fail)
                        go_wp2_with fail
                        go_quiet (fail)
                        go_wp2_with fail
                        go_roundw
                        case rel => exact ⟨p + 1, by omega, by go_num, bel_drew hB _⟩
                        case measure => simp [intOf]; omega
                      · have hlt0 : ¬ (p : Int) < (l : Int) := by omega
                        go_wp2
                        go_roundw
                        case rel => exact ⟨x + 1, by omega, by go_num, hB⟩
                        case measure => simp [intOf]; omega
                  · have hlt0 : ¬ (x : Int) < (u : Int) := by omega
                    go_wp2
                    go_ret
                    exact ⟨rfl, HW.out.trans (hB.mono HW.out.size)⟩
end Go.Proofs.Qxb6603123a
