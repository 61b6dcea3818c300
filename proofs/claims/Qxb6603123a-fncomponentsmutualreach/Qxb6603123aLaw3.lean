/-
  SEAT b6603123a: 'FnComponentsMutualReach'.
-/
import Derived.Test.Qxb6603123aReachAll
import Derived.Test.Qxb6603123aCount
import Derived.Deep.QuietTactic
import Derived.BigQuiet
namespace Go.Proofs.Qxb6603123a
open Go.ChangeShapes Go.WideShapes Go.ChangeAt Go.RowKit
set_option linter.unusedVariables false

theorem bel_drew3 {B : Nat} {a w : World} (h : Below B a w) (q : Nat) : Below B a (w.drewN q) := ⟨h.os, h.tape, h.output, h.size, h.block⟩

theorem boolOr3 {B : Bool} {P : Prop} (h : B = true → P) : B = false ∨ (B = true ∧ Hid P) := by
  cases B with
  | false => exact .inl rfl
  | true => exact .inr ⟨rfl, h rfl⟩

/-- The table of bits, read at (a, v). -/
def Tab (w : World) (g n N : Nat) (G : Nat → Nat → Bool) : Prop := w.rowIs g 4 N (fun i => .bool (G (i / n) (i % n)))

theorem Tab.cell {w : World} {g n N : Nat} {G : Nat → Nat → Bool} (h : Tab w g n N G) (hN : N = n * n) {s v : Nat} (hs : s < n) (hv : v < n) : w.cell? ⟨g, s * n + v, none⟩ = some (.bool (G s v)) := by
  have := World.rowIs.cell h (i := s * n + v) (by rw [hN]; exact row_lt hs hv)
  rw [(div_row hv).1, (div_row hv).2] at this
  exact this

/-- What the components and the table satisfy together. -/
structure Mr (n : Nat) (T : Nat → List Int) (comp : Nat → Nat) (k : Nat) (G : Nat → Nat → Bool) : Prop where
  lt : ∀ u, u < n → comp u < k
  both : ∀ u v, u < n → v < n → (comp u = comp v ↔ G u v = true ∧ G v u = true)
  dense : ∀ c, c < k → ∃ v, v < n ∧ comp v = c
  topo : ∀ u, u < n → ∀ v : Nat, (v : Int) ∈ T u → comp v ≤ comp u
  le : k ≤ n

theorem mr_of {n : Nat} {T : Nat → List Int} {comp : Nat → Nat} {k : Nat} {G : Nat → Nat → Bool} (h : SccSpec n (adjOf T) comp k) (hG : ∀ a, a < n → ∀ v, v < n → (G a v = true ↔ Reach (adjOf T) a v)) : Mr n T comp k G := by
  refine ⟨h.lt, fun u v hu hv => ?_, h.dense, fun u hu v hv => h.topo u hu v ?_, h.le⟩
  · rw [h.scc u v hu hv, hG u hu v hv, hG v hv u hu]
  · unfold adjOf; exact List.mem_map.2 ⟨_, hv, by simp⟩

theorem wrapMul {n N u : Nat} (hn : n ≤ 512) (hu : u < n) (U : Nat) (hU : U = u * n) : IntKind.i64.wrap ((u : Int) * (n : Int)) = (U : Int) := by
  have h1 : u * n ≤ 512 * 512 := Nat.mul_le_mul (by omega) hn
  have : ((u * n : Nat) : Int) = (u : Int) * (n : Int) := by simp
  rw [IntKind.wrap_i64, ← this, ← hU]; omega

set_option maxRecDepth 100000 in
set_option maxHeartbeats 3200000 in
theorem walk3 (ao : Option Addr) (n cap : Nat) (A : Nat → Option Addr) (C : Nat → Nat) (T : Nat → List Int) (w : World) (hn : n ≤ maxLen) (hM : M2 w ao n A C T) (hnil : ao = none → n = 0) :
    Calls Try.prog 3 #[.slice ao n cap] w fun e w' => e = .returned (.bool true) ∧ Below w.heap.size w w' := by
  have HM : Hid (M2 w ao n A C T) := hM
  have HN : Hid (n ≤ maxLen) := hn
  have HL : Hid (ao = none → n = 0) := hnil
  clear hM hnil
  by_cases hbig : 512 < n
  · unfold maxLen at hn
    go_enter Try.func3, Try.ntmps3
    go_wp2_with (go_at_call 7; refine (bytes7 _ _ _ A C T _ HN.out HM.out).mono ?_; rintro e w1 ⟨⟨B, rfl, _⟩, rfl⟩; cases B)
    all_goals go_ret
    all_goals exact ⟨rfl, Below.refl _ _⟩
  · clear hn
    have hnb : n ≤ 512 := by omega
    clear hbig
    have hb0 : decide (512 < (n : Int)) = false := decide_eq_false (by omega)
    obtain ⟨N, hN⟩ : ∃ N, N = n * n := ⟨_, rfl⟩
    have HNN : Hid (N = n * n) := hN
    clear hN
    go_enter Try.func3, Try.ntmps3
    go_wp2_with (first
      | (go_at_call 7; refine (bytes7 _ _ _ A C T _ HN.out HM.out).mono ?_; rintro e w1 ⟨⟨B, rfl, hB⟩, rfl⟩; rcases boolOr3 hB with rfl | ⟨rfl, HB⟩)
      | (go_at_call 8; refine (rowsBytes _ _ _ A C T _ HM.out HB.out).mono ?_; rintro e w1 ⟨⟨r, rfl, hr⟩, rfl⟩; clear hr; by_cases hr : 1048576 < r)
      | (go_at_call 9; refine (edgeCount _ _ _ A C T _ HM.out HB.out).mono ?_; rintro e w1 ⟨⟨m, rfl⟩, rfl⟩; by_cases hm : 16384 < m)
      | (go_at_call 10; refine (targetsIn _ _ _ A C T _ HM.out HB.out).mono ?_; rintro e w1 ⟨⟨B, rfl, hB⟩, rfl⟩; rcases boolOr3 hB with rfl | ⟨rfl, HI⟩)
      | (go_at_call 11; refine (cloneRows _ _ _ A C T _ HM.out HL.out HB.out).mono ?_; rintro e w1 ⟨ao1, cap1, A1, C1, rfl, hM1, hb1⟩; have HM1 : Hid (M2 w1 ao1 n A1 C1 T) := hM1; have Hb1 : Hid (Below w.heap.size w w1) := hb1; clear hM1 hb1)
      | (go_at_call 12; refine (zzComponents ao1 n cap1 A1 C1 T w1 HM1.out HB.out HI.out).mono ?_; rintro e w2 ⟨g1, k1, comp, rfl, hr1, hg1, hb2, hS1⟩; have Hr1 : Hid (w2.rowIs g1 3 n (fun i => .int .i64 (comp i : Int))) := hr1; have Hb2 : Hid (Below w1.heap.size w1 w2) := hb2; have HS1 : Hid (SccSpec n (adjOf T) comp k1) := hS1; clear hr1 hg1 hb2 hS1)
      | (go_at_call 13; refine (reachAll ao1 n N cap1 A1 C1 T w2 (HM1.out.below Hb2.out) HB.out hnb HI.out HNN.out).mono ?_; rintro e w3 ⟨G, rfl, hTab, hb3, hG⟩; have HTab : Hid (Tab w3 w2.heap.size n N G) := hTab; have Hb3 : Hid (Below w2.heap.size w2 w3) := hb3; have HGG : Hid (∀ a, a < n → ∀ v, v < n → (G a v = true ↔ Reach (adjOf T) a v)) := hG; clear hTab hb3 hG))
    all_goals first | (go_ret; exact ⟨rfl, Below.refl _ _⟩) | skip
    have HA : Hid (Mr n T comp k1 G) := mr_of HS1.out HGG.out
    have Hrow : Hid (w3.rowIs g1 3 n (fun i => .int .i64 (comp i : Int))) := rowIs_below Hr1.out Hb3.out Hr1.out.lt
    have H13 : Hid (Below w1.heap.size w1 w3) := Hb2.out.trans (Hb3.out.mono Hb2.out.size)
    have HMg : Hid (M2 w3 ao1 n A1 C1 T) := HM1.out.below H13.out
    have HW : Hid (Below w.heap.size w w3) := Hb1.out.trans (H13.out.mono Hb1.out.size)
    obtain ⟨gt, hgt⟩ : ∃ gt, gt = w2.heap.size := ⟨_, rfl⟩
    rw [← hgt] at HTab ⊢
    clear hgt H13 Hb2 Hb3 Hr1 HS1 HM1 Hb1 HM HN HL hr hm hb0 HGG
    go_loop [7, 8] (fun kk i => ∃ u q : Nat, u ≤ n ∧ i = .int .i64 u ∧ kk = .int .i64 q ∧ q ≤ u ∧ Hid (q = cntP (seen comp u) k1)) (fun _ i => n - (intOf i).toNat)
    case atStart => exact ⟨0, 0, Nat.zero_le _, rfl, rfl, Nat.le_refl _, by show _ = _; rw [seen_zero]⟩
    case round =>
      obtain ⟨u, q, hu, rfl, rfl, hqu, HQ⟩ := hrel
      by_cases hlt : u < n
      · obtain ⟨U, hU⟩ : ∃ U, U = u * n := ⟨_, rfl⟩
        have hwU := wrapMul (N := N) hnb hlt U hU
        have hUN : U + n ≤ N := by
          have h : (u + 1) * n ≤ n * n := Nat.mul_le_mul_right n (by omega)
          rw [Nat.add_mul] at h
          rw [hU, HNN.out]; omega
        have hNb : N ≤ 262144 := by rw [HNN.out]; exact Nat.mul_le_mul hnb hnb
        have HU : Hid (U = u * n) := hU
        clear hU
        go_wp2
        go_loop [9, 10] (fun fst x => ∃ y : Nat, y ≤ u ∧ x = .int .i64 y ∧ fst = .bool true ∧ Hid (∀ z, z < y → comp z ≠ comp u)) (fun _ x => u - (intOf x).toNat)
        case atStart => exact ⟨0, Nat.zero_le _, rfl, rfl, fun z hz => absurd hz (by omega)⟩
        case round =>
          obtain ⟨y, hy, rfl, rfl, HF⟩ := hrel
          by_cases hlty : y < u
          · obtain ⟨Y, hY⟩ : ∃ Y, Y = y * n := ⟨_, rfl⟩
            have hwY := wrapMul (N := N) hnb (show y < n by omega) Y hY
            have hYN : Y + n ≤ N := by
              have h : (y + 1) * n ≤ n * n := Nat.mul_le_mul_right n (by omega)
              rw [Nat.add_mul] at h
              rw [hY, HNN.out]; omega
            have c1 := HTab.out.cell HNN.out hlt (show y < n by omega)
            have c2 := HTab.out.cell HNN.out (show y < n by omega) hlt
            rw [← HU.out] at c1
            rw [← hY] at c2
            have HB2 : Hid (comp u = comp y ↔ G u y = true ∧ G y u = true) := HA.out.both u y hlt (by omega)
            clear hY
            cases h1 : G u y with
            | false =>
              rw [h1] at c1
              have HX : Hid (comp y ≠ comp u) := fun e => by have := (HB2.out.1 e.symm).1; rw [h1] at this; cases this
              clear h1 HB2 c2
              go_wp2
              go_round
              case rel => exact ⟨y + 1, by omega, by go_num, rfl, fun z hz => by
                by_cases e : z = y
                · subst e; exact HX.out
                · exact HF.out z (by omega)⟩
              case measure => simp [intOf]; omega
            | true =>
              rw [h1] at c1
              cases h2 : G y u with
              | false =>
                rw [h2] at c2
                have HX : Hid (comp y ≠ comp u) := fun e => by have := (HB2.out.1 e.symm).2; rw [h2] at this; cases this
                clear h1 h2 HB2
                go_wp2
                go_round
                case rel => exact ⟨y + 1, by omega, by go_num, rfl, fun z hz => by
                  by_cases e : z = y
                  · subst e; exact HX.out
                  · exact HF.out z (by omega)⟩
                case measure => simp [intOf]; omega
              | true =>
                rw [h2] at c2
                have HX : Hid (comp y = comp u) := (HB2.out.2 ⟨h1, h2⟩).symm
                clear h1 h2 HB2
                go_wp2
                go_round
                case rel => exact ⟨u + 1, q, by omega, by go_num, rfl, by omega, by show _ = _; rw [seen_old ⟨y, hlty, HX.out⟩]; exact HQ.out⟩
                case measure => simp [intOf]; omega
          · have hlt0 : ¬ (y : Int) < (u : Int) := by omega
            go_wp2
            go_round
            case rel => exact ⟨u + 1, q + 1, by omega, by go_num, by go_num, by omega, by show _ = _; rw [seen_new (HA.out.lt u hlt) (fun v hv => HF.out v (by omega)), ← HQ.out]⟩
            case measure => simp [intOf]; omega
      · have hq1 : q = k1 := by
          have hun : u = n := by omega
          have := HQ.out
          rw [hun, seen_full HA.out.dense] at this
          exact this
        subst hq1
        have hlt0 : ¬ (u : Int) < (n : Int) := by omega
        clear HQ hqu
        go_wp2
        go_loopw [11] (fun i wx => ∃ x : Nat, x ≤ n ∧ i = .int .i64 x ∧ Below w3.heap.size w3 wx) (fun i _ => n - (intOf i).toNat)
        case atStart => exact ⟨0, Nat.zero_le _, rfl, Below.refl _ _⟩
        case round =>
          clear hlt0 hlt hu
          obtain ⟨x, hx, rfl, hB⟩ := hrel
          by_cases hlt : x < n
          · have p1 := HA.out.lt x hlt
            have q1 : decide ((comp x : Int) < 0) = false := decide_eq_false (by omega)
            have q2 : decide ((q : Int) ≤ (comp x : Int)) = false := decide_eq_false (by omega)
            have hcu := (rowIs_below Hrow.out hB Hrow.out.lt).cell hlt
            obtain ⟨X, hX⟩ : ∃ X, X = x * n := ⟨_, rfl⟩
            have hwX := wrapMul (N := N) hnb hlt X hX
            have hXN : X + n ≤ N := by
              have h : (x + 1) * n ≤ n * n := Nat.mul_le_mul_right n (by omega)
              rw [Nat.add_mul] at h
              rw [hX, HNN.out]; omega
            have hNb : N ≤ 262144 := by rw [HNN.out]; exact Nat.mul_le_mul hnb hnb
            have HX : Hid (X = x * n) := hX
            clear hX
            go_wp2
            go_loopw [12] (fun i wx => ∃ v : Nat, v ≤ n ∧ i = .int .i64 v ∧ Below w3.heap.size w3 wx) (fun i _ => n - (intOf i).toNat)
            case atStart => exact ⟨0, Nat.zero_le _, rfl, hB⟩
            case round =>
              clear hB hcu q1 q2 p1
              obtain ⟨v, hv, rfl, hB⟩ := hrel
              by_cases hltv : v < n
              · obtain ⟨V, hV⟩ : ∃ V, V = v * n := ⟨_, rfl⟩
                have hwV := wrapMul (N := N) hnb hltv V hV
                have hVN : V + n ≤ N := by
                  have h : (v + 1) * n ≤ n * n := Nat.mul_le_mul_right n (by omega)
                  rw [Nat.add_mul] at h
                  rw [hV, HNN.out]; omega
                have hTab : Tab wr gt n N G := rowIs_below HTab.out hB (World.rowIs.lt HTab.out)
                have c1 := hTab.cell HNN.out hlt hltv
                have c2 := hTab.cell HNN.out hltv hlt
                rw [← HX.out] at c1
                rw [← hV] at c2
                have hR := rowIs_below Hrow.out hB Hrow.out.lt
                have hcu := hR.cell hlt
                have hcv := hR.cell hltv
                have HB2 : Hid (comp x = comp v ↔ G x v = true ∧ G v x = true) := HA.out.both x v hlt hltv
                have i1 : (x : Int) < (n : Int) := by omega
                have i2 : (v : Int) < (n : Int) := by omega
                clear hV hTab hR
                cases h1 : G x v with
                | false =>
                  rw [h1] at c1
                  have hne : ((comp x : Int) == (comp v : Int)) = false := by
                    have : comp x ≠ comp v := fun e => by have := (HB2.out.1 e).1; rw [h1] at this; cases this
                    simp; omega
                  clear h1 HB2 c2
                  go_wp2_with fail
                  go_quiet (fail)
                  go_wp2_with fail
                  go_roundw
                  case rel => exact ⟨v + 1, by omega, by go_num, bel_drew3 hB _⟩
                  case measure => simp [intOf]; omega
                | true =>
                  rw [h1] at c1
                  cases h2 : G v x with
                  | false =>
                    rw [h2] at c2
                    have hne : ((comp x : Int) == (comp v : Int)) = false := by
                      have : comp x ≠ comp v := fun e => by have := (HB2.out.1 e).2; rw [h2] at this; cases this
                      simp; omega
                    clear h1 h2 HB2
                    go_wp2_with fail
                    go_quiet (fail)
                    go_wp2_with fail
                    go_roundw
                    case rel => exact ⟨v + 1, by omega, by go_num, bel_drew3 hB _⟩
                    case measure => simp [intOf]; omega
                  | true =>
                    rw [h2] at c2
                    have he : comp x = comp v := HB2.out.2 ⟨h1, h2⟩
                    have hne : ((comp x : Int) == (comp v : Int)) = true := by simp [he]
                    clear h1 h2 HB2 he
                    go_wp2_with fail
                    go_quiet (fail)
                    go_wp2_with fail
                    go_roundw
                    case rel => exact ⟨v + 1, by omega, by go_num, bel_drew3 hB _⟩
                    case measure => simp [intOf]; omega
              · have hlt0 : ¬ (v : Int) < (n : Int) := by omega
                go_wp2
                go_roundw
                case rel => exact ⟨x + 1, by omega, by go_num, hB⟩
                case measure => simp [intOf]; omega
          · have hlt0 : ¬ (x : Int) < (n : Int) := by omega
            clear hlt
            go_wp2
            go_loopw [14] (fun i wx => ∃ x : Nat, x ≤ n ∧ i = .int .i64 x ∧ Below w3.heap.size w3 wx) (fun i _ => n - (intOf i).toNat)
            case atStart => exact ⟨0, Nat.zero_le _, rfl, hB⟩
            case round =>
              clear hB hlt0 hx
              obtain ⟨x, hx, rfl, hB⟩ := hrel
              by_cases hlt : x < n
              · obtain ⟨b, off, rfl, hcell⟩ := (HMg.out.below hB).out (by omega)
                have hck := hcell x hlt
                obtain ⟨l, hl⟩ : ∃ l, l = (T x).length := ⟨_, rfl⟩
                have hlen : l ≤ 1048576 := by have := sumL_row T hlt; have := HB.out; omega
                rw [← hl] at hck
                have HL : Hid (l = (T x).length) := hl
                clear hl hcell
                go_wp2
                go_loopw [139] (fun i wx => ∃ p : Nat, p ≤ l ∧ i = .int .i64 p ∧ Below w3.heap.size w3 wx) (fun i _ => l - (intOf i).toNat)
                case atStart => exact ⟨0, Nat.zero_le _, rfl, hB⟩
                case round =>
                  clear hB hck
                  obtain ⟨p, hp, rfl, hB⟩ := hrel
                  by_cases hlp : p < l
                  · obtain ⟨br, offr, hAr, hcr⟩ := (HMg.out.below hB).row x hlt (by have := HL.out; omega)
                    have hrange := HI.out x hlt p (by have := HL.out; omega)
                    obtain ⟨v, hvx⟩ : ∃ v : Nat, (v : Int) = (T x).getD p 0 := ⟨((T x).getD p 0).toNat, by omega⟩
                    have hvn : v < n := by omega
                    have hvm : (v : Int) ∈ T x := by
                      have h2 : p < (T x).length := by have := HL.out; omega
                      rw [hvx]; simp [List.getD, h2]
                    have hcx := hcr p (by have := HL.out; omega)
                    rw [← hvx] at hcx
                    have p1 := HA.out.topo x hlt v hvm
                    have t1 : decide ((comp x : Int) < (comp v : Int)) = false := decide_eq_false (by omega)
                    have R1 := rowIs_below Hrow.out hB Hrow.out.lt
                    have hcu := R1.cell hlt
                    have hcv := R1.cell hvn
                    clear hrange hvx hcr R1 hvm
                    rw [hAr]
                    clear hAr
                    have i1 : (x : Int) < (n : Int) := by omega
                    have i2 : (v : Int) < (n : Int) := by omega
                    go_wp2_with fail
                    go_quiet (fail)
                    go_wp2_with fail
                    go_roundw
                    case rel => exact ⟨p + 1, by omega, by go_num, bel_drew3 hB _⟩
                    case measure => simp [intOf]; omega
                  · have hlt0 : ¬ (p : Int) < (l : Int) := by omega
                    go_wp2
                    go_roundw
                    case rel => exact ⟨x + 1, by omega, by go_num, hB⟩
                    case measure => simp [intOf]; omega
              · have hlt0 : ¬ (x : Int) < (n : Int) := by omega
                go_wp2
                go_ret
                exact ⟨rfl, HW.out.trans (hB.mono HW.out.size)⟩
end Go.Proofs.Qxb6603123a
