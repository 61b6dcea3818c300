/-
  SEAT b6603123a: 'zzReachAll'.
-/
import Derived.Test.Qxb6603123aPure3
import Derived.Test.Qxb6603123aTrans
namespace Go.Proofs.Qxb6603123a
open Go.ChangeShapes Go.WideShapes Go.ChangeAt Go.RowKit
set_option linter.unusedVariables false

/-- The table and the stack. -/
structure Ra (w0 w : World) (n N : Nat) (G : Nat → Nat → Bool) (sv : Value) (st : List Nat) : Prop where
  r : w.rowIs w0.heap.size 4 N (fun i => .bool (G (i / n) (i % n)))
  stk : w.ownsRow (w0.heap.size + 1) 3 1 sv st.length (st.map (fun x : Nat => .int .i64 (x : Int)))
  below : Below w0.heap.size w0 w

theorem div_row {n s v : Nat} (hv : v < n) : (s * n + v) / n = s ∧ (s * n + v) % n = v := by
  have hn : 0 < n := by omega
  constructor
  · rw [Nat.mul_comm, Nat.mul_add_div hn, Nat.div_eq_of_lt hv]; omega
  · rw [Nat.mul_comm, Nat.mul_add_mod, Nat.mod_eq_of_lt hv]

theorem row_lt {n s v : Nat} (hs : s < n) (hv : v < n) : s * n + v < n * n := by
  have h : (s + 1) * n ≤ n * n := Nat.mul_le_mul_right n (by omega)
  rw [Nat.add_mul] at h; omega

theorem Ra.cell {w0 w : World} {n N : Nat} {G : Nat → Nat → Bool} {sv : Value} {st : List Nat} (h : Ra w0 w n N G sv st) (hN : N = n * n) {s v : Nat} (hs : s < n) (hv : v < n) : w.cell? ⟨w0.heap.size, s * n + v, none⟩ = some (.bool (G s v)) := by
  have := h.r.cell (i := s * n + v) (by rw [hN]; exact row_lt hs hv)
  rw [(div_row hv).1, (div_row hv).2] at this
  exact this

theorem Ra.mark {w0 w : World} {n N : Nat} {G : Nat → Nat → Bool} {sv : Value} {st : List Nat} (h : Ra w0 w n N G sv st) {s v : Nat} (hv : v < n) : Ra w0 (w.setCell ⟨w0.heap.size, s * n + v, none⟩ (.bool true)) n N (upd G s (upd (G s) v true)) sv st := by
  refine ⟨(h.r.set (s * n + v) _).congr (fun i hi => ?_), ownsRow_setCell_below h.stk (by show w0.heap.size < w0.heap.size + 1; omega) _, h.below.setCell (by exact Nat.le_refl _) _⟩
  by_cases e : i = s * n + v
  · rw [if_pos e, e, (div_row hv).1, (div_row hv).2, upd_same, upd_same]
  · rw [if_neg e]
    by_cases e1 : i / n = s
    · have e2 : i % n ≠ v := by
        intro e2
        have := Nat.div_add_mod i n
        rw [e1, e2, Nat.mul_comm] at this; omega
      rw [e1, upd_same, upd_other _ _ _ _ e2]
    · rw [upd_other _ _ _ _ e1]

theorem Ra.push {w0 w w1 : World} {n N : Nat} {G : Nat → Nat → Bool} {sv sv2 : Value} {st : List Nat} (h : Ra w0 w n N G sv st) (o : Obj) {v : Nat} (hg : (w.alloc o).grownBy w1 sv.ownBlock) (ho : w1.ownsRow (w0.heap.size + 1) 3 1 sv2 (st.length + 1) (st.map (fun x : Nat => .int .i64 (x : Int)) ++ [.int .i64 (v : Int)])) : Ra w0 w1 n N G sv2 (st ++ [v]) := by
  have hr := h.r.lt
  have hrb : ∀ k, sv.ownBlock = some k → w0.heap.size + 1 ≤ k := fun k hk => (h.stk.lt k hk).1
  have hz : (w.alloc o).heap.size = w.heap.size + 1 := by simp
  refine ⟨(h.r.alloc o).of_block (hg.block _ (by rw [hz]; omega) (fun e => by have := hrb _ e.symm; omega)), by simpa using ho, (h.below.alloc h.below.size o).grown hg (by have := h.below.size; rw [hz]; omega) (fun k hk => by have := hrb k hk; omega)⟩

theorem own_shrink {w : World} {base g n m cap : Nat} {xs ys : List Value} (h : w.ownsRow base 3 1 (.slice (some ⟨g, 0, none⟩) n cap) n xs) (hm : m ≤ n) (hy : ys = xs.take m) : w.ownsRow base 3 1 (.slice (some ⟨g, 0, none⟩) m cap) m ys := by
  have hl := h.1
  refine ⟨by rw [hy, List.length_take]; omega, ?_⟩
  rcases h.2 with ⟨h1, _⟩ | ⟨g', cap', cur, hv, hge, hgc, hnc, hcm, hcs, htk⟩
  · cases h1
  · simp only [Value.slice.injEq, Option.some.injEq, Addr.mk.injEq] at hv
    obtain ⟨⟨rfl, _⟩, _, rfl⟩ := hv
    refine .inr ⟨g, cap, cur, rfl, hge, hgc, by omega, hcm, hcs, ?_⟩
    rw [hy, ← htk]
    simp [List.take_take]
    omega

theorem cell_new2 (w : World) (a : Addr) (x v : Value) (t : TypeId) : ((w.setCell a x).alloc (.cells #[v] t)).cell? ⟨w.heap.size, 0, none⟩ = some v := by
  have := cell_new1 (w.setCell a x) v t
  simpa using this

theorem addr_plain (b off i : Nat) : (⟨b, off, none⟩ : Addr).add i = ⟨b, off + i, none⟩ := by
  unfold Addr.add
  by_cases e : i = 0
  · subst e; simp
  · simp [e]

theorem Ra.pop {w0 w : World} {n N : Nat} {G : Nat → Nat → Bool} {g cap u : Nat} {st : List Nat} (h : Ra w0 w n N G (.slice (some ⟨g, 0, none⟩) (st.length + 1) cap) (st ++ [u])) : Ra w0 w n N G (.slice (some ⟨g, 0, none⟩) st.length cap) st := by
  have ho := h.stk
  rw [List.length_append, List.length_singleton] at ho
  exact ⟨h.r, own_shrink ho (by omega) (by simp), h.below⟩

theorem Ra.top {w0 w : World} {n N : Nat} {G : Nat → Nat → Bool} {g cap u : Nat} {st : List Nat} (h : Ra w0 w n N G (.slice (some ⟨g, 0, none⟩) (st.length + 1) cap) (st ++ [u])) : w.cell? ⟨g, st.length, none⟩ = some (.int .i64 (u : Int)) := by
  have ho := h.stk
  rw [List.length_append, List.length_singleton] at ho
  have := ho.cells (n := st.length + 1) rfl st.length (.int .i64 (u : Int)) (by simp)
  rw [addr_plain, Nat.zero_add] at this
  exact this

theorem Ra.capLe {w0 w : World} {n N : Nat} {G : Nat → Nat → Bool} {g l cap : Nat} {st : List Nat} (h : Ra w0 w n N G (.slice (some ⟨g, 0, none⟩) l cap) st) : st.length ≤ cap := by
  rcases h.stk.2 with ⟨h1, _⟩ | ⟨g', cap', cur, hv, hge, hgc, hnc, _⟩
  · cases h1
  · simp only [Value.slice.injEq] at hv
    obtain ⟨_, _, rfl⟩ := hv
    exact hnc

/-- The rows ahead of s are done, those behind it are empty. -/
structure Rest (n : Nat) (adj : Nat → List Nat) (s : Nat) (G : Nat → Nat → Bool) : Prop where
  done : ∀ a, a < s → ∀ v, v < n → (G a v = true ↔ Reach adj a v)
  later : ∀ a, s < a → ∀ v, G a v = false

theorem Rest.mark {n : Nat} {adj : Nat → List Nat} {s : Nat} {G : Nat → Nat → Bool} (h : Rest n adj s G) (M : Nat → Bool) : Rest n adj s (upd G s M) :=
  ⟨fun a ha v hv => by rw [upd_other _ _ _ _ (by omega)]; exact h.done a ha v hv, fun a ha v => by rw [upd_other _ _ _ _ (by omega)]; exact h.later a ha v⟩

/-- What 'zzReachAll' leaves. -/
def ReachPost (w : World) (n N : Nat) (adj : Nat → List Nat) (e : Ending) (w' : World) : Prop :=
  ∃ G : Nat → Nat → Bool, e = .returned (.slice (some ⟨w.heap.size, 0, none⟩) N N) ∧ w'.rowIs w.heap.size 4 N (fun i => .bool (G (i / n) (i % n))) ∧ Below w.heap.size w w' ∧ ∀ a, a < n → ∀ v, v < n → (G a v = true ↔ Reach adj a v)

set_option maxHeartbeats 1600000 in
theorem reachAll (ao : Option Addr) (n N cap : Nat) (A : Nat → Option Addr) (C : Nat → Nat) (T : Nat → List Int) (w : World) (hM : M2 w ao n A C T) (hb : n + sumL T n ≤ 1048576) (hn : n ≤ 512) (hin : InRange n T) (hN : N = n * n) :
    Calls Try.prog 13 #[.slice ao n cap] w fun e w' => ReachPost w n N (adjOf T) e w' := by
  have hNb : N ≤ 262144 := by rw [hN]; exact Nat.mul_le_mul hn hn
  have hmb := fun wx => run_make_row' (P := Try.prog) 29 4 (.bool false) 1 Try.underlying29 Try.info4 rfl .i64 .i64 N (by omega) (by omega) wx
  have hms : ∀ wx : World, (Instr.makeSlice 27 (.int .i64 0) (.int .i64 (n : Int))).run Try.prog wx = .ok (.slice (some ⟨wx.heap.size, 0, none⟩) 0 n) (wx.alloc (.cells (madeCells #[.int .i64 0] n) 3)) := by
    intro wx
    obtain ⟨i0, hi, hz0, hz1, hz2⟩ := info_parts Try.info3
    have h := run_make (P := Try.prog) wx 27 3 i0 (.int .i64 0) Try.underlying27 hi hz0 .i64 .i64 0 (n : Int) (by omega) (by omega) (by rw [hz2]; omega) (by omega)
    rw [hz1] at h
    simpa [Value.cells] using h
  have hw1 : IntKind.i64.wrap ((n : Int) * (n : Int)) = (N : Int) := by rw [IntKind.wrap_i64, hN]; have : ((n * n : Nat) : Int) = (n : Int) * (n : Int) := by simp
                                                                        rw [← this, ← hN]; omega
  have HM : Hid (M2 w ao n A C T) := hM
  have HB : Hid (n + sumL T n ≤ 1048576) := hb
  have HIN : Hid (InRange n T) := hin
  have HN : Hid (N = n * n) := hN
  clear hM hb hin hN
  go_enter Try.func13, Try.ntmps13
  go_wp2
  go_loopw [5, 6] (fun s5 i wr => ∃ (s : Nat) (G : Nat → Nat → Bool) (gS capS : Nat) (st : List Nat), s ≤ n ∧ i = .int .i64 s ∧ s5 = .slice (some ⟨gS, 0, none⟩) st.length capS ∧ Ra w wr n N G s5 st ∧ Hid (Rest n (adjOf T) s G) ∧ Hid (∀ v, G s v = false)) (fun _ i _ => n - (intOf i).toNat)
  case atStart => exact ⟨0, fun _ _ => false, w.heap.size + 1, n, [], Nat.zero_le _, rfl, rfl, ⟨((World.rowIs_made w (.bool false) N 4).alloc _).congr (fun i hi => by simp), (by have := World.ownsRow_made (base := w.heap.size + 1) (e := 3) (size := 1) (w.alloc (.cells (madeCells #[.bool false] N) 4)) (madeCells #[.int .i64 0] n) n (by simp) (by unfold maxLen; omega) (by simp [madeCells]); simpa using this), ((Below.refl _ _).alloc (Nat.le_refl _) _).alloc (by simp) _⟩, ⟨fun a ha => absurd ha (by omega), fun a ha v => rfl⟩, fun v => rfl⟩
  case round =>
    obtain ⟨s, G, gS, capS, st, hs, rfl, rfl, hR, HR, H0⟩ := hrel
    by_cases hlt : s < n
    · obtain ⟨S, hS⟩ : ∃ S, S = s * n := ⟨_, rfl⟩
      have hSN : S + n ≤ N := by
        have h : (s + 1) * n ≤ n * n := Nat.mul_le_mul_right n (by omega)
        rw [Nat.add_mul] at h
        rw [hS, HN.out]; omega
      have hw2 : IntKind.i64.wrap ((s : Int) * (n : Int)) = (S : Int) := by
        have : ((s * n : Nat) : Int) = (s : Int) * (n : Int) := by simp
        rw [IntKind.wrap_i64, ← this, ← hS]; omega
      have hc := hR.cell HN.out hlt hlt
      rw [← hS] at hc
      have hf := hR.r.frozen (S + s)
      have hR1 := hR.mark (s := s) hlt
      rw [← hS] at hR1
      have HS : Hid (S = s * n) := hS
      clear hS
      have hshr := own_shrink hR1.stk (Nat.zero_le _) (ys := []) (by simp)
      have hR2 : Ra w (wr.setCell ⟨w.heap.size, S + s, none⟩ (.bool true)) n N (upd G s (upd (G s) s true)) (.slice (some ⟨gS, 0, none⟩) 0 capS) [] := ⟨hR1.r, hshr, hR1.below⟩
      clear hshr hR1
      go_wp2_with (at_builtin; refine wpList_push1 rfl (.tmp 38) (.tmp 40) rfl (w.heap.size + 1) (.slice (some ⟨gS, 0, none⟩) 0 capS) 0 [] rfl (hR2.stk.alloc _) (.int .i64 (s : Int)) rfl _ rfl (cell_new2 _ _ _ _ _) (by omega) (by have := hR2.r.lt; simp at this ⊢; omega) ?_; intro v' w1 ho hgr hd; obtain ⟨g2, k2, rfl⟩ := own_shape ho (by omega))
      have hR3 := hR2.push _ hgr ho
      have HD : Hid (Ds n (adjOf T) s (upd (G s) s true) [s] (fun _ _ => False)) := by
        have e : G s = fun _ => false := funext H0.out
        rw [e]; exact Ds.start hlt
      have HR3 : Hid (Rest n (adjOf T) s (upd G s (upd (G s) s true))) := HR.out.mark _
      clear hgr ho hd hR2 hR hc hf HR H0
      go_loopg [5] (2 * cntP (fun v => !(upd (G s) s true) v) n + 1) (fun gm s5 wq => ∃ (G : Nat → Nat → Bool) (st : List Nat) (gS capS : Nat), s5 = .slice (some ⟨gS, 0, none⟩) st.length capS ∧ Hid (gm = 2 * cntP (fun v => !G s v) n + st.length) ∧ Ra w wq n N G s5 st ∧ Hid (Ds n (adjOf T) s (G s) st (fun _ _ => False)) ∧ Hid (Rest n (adjOf T) s G))
      case atStart => exact ⟨upd G s (upd (G s) s true), [s], g2, k2, rfl, by show _ = _; rw [upd_same]; rfl, hR3, by rw [upd_same]; exact HD, HR3⟩
      case round =>
        clear hR3 HD HR3
        obtain ⟨G, st, gS, capS, rfl, HG, hR, HD, HR⟩ := hrel
        rcases List.eq_nil_or_concat st with rfl | ⟨st', u, rfl⟩
        · have hDone := HD.out.done hlt (fun v hv y hy => adjOf_in HIN.out v hv y hy)
          have HDone : Hid (∀ v, v < n → (G s v = true ↔ Reach (adjOf T) s v)) := fun v hv => hDone v hv
          clear hDone HD HG
          simp only [List.length_nil] at hR ⊢
          go_wp2
          go_roundw
          case rel =>
            refine ⟨s + 1, G, gS, capS, [], by omega, by go_num, rfl, hR, ⟨fun a ha v hv => ?_, fun a ha v => HR.out.later a (by omega) v⟩, fun v => HR.out.later (s + 1) (by omega) v⟩
            by_cases e : a = s
            · subst e; exact HDone.out v hv
            · exact HR.out.done a (by omega) v hv
          case measure => simp [intOf]; omega
        · simp only [List.concat_eq_append, List.length_append, List.length_singleton] at *
          have hu := (HD.out.stk u (by simp)).1
          have HU : Hid (G s u = true) := (HD.out.stk u (by simp)).2
          have hcap := hR.capLe
          simp only [List.length_append, List.length_singleton] at hcap
          have htop := hR.top
          have hR1 := hR.pop
          have HD1 : Hid (Ds n (adjOf T) s (G s) st' (fun x y => x = u ∧ y ∈ (adjOf T u).drop 0)) := HD.out.pop
          have hlen' : st'.length < 1048576 := by have := HD.out.room; simp at this; omega
          obtain ⟨b, off, rfl, hcell⟩ := (HM.out.below hR.below).out (by omega)
          have hck := hcell u hu
          obtain ⟨l, hl⟩ : ∃ l, l = (T u).length := ⟨_, rfl⟩
          have hlm : l ≤ 1048576 := by have := sumL_row T hu; have := HB.out; omega
          rw [← hl] at hck
          have HL : Hid (l = (T u).length) := hl
          clear hl hcell HD hR
          go_wp2
          obtain ⟨m0, hm0⟩ : ∃ m0, m0 = 2 * cntP (fun v => !G s v) n + (st'.length + 1) := ⟨_, rfl⟩
          rw [← hm0] at HG
          have HM0 : Hid (2 * cntP (fun v => !G s v) n + st'.length < m0) := by show _ < _; omega
          clear hm0 hck htop hcap hlen'
          go_loopw [5, 61] (fun s5 s61 wq => ∃ (p : Nat) (G : Nat → Nat → Bool) (st : List Nat) (gS capS : Nat), p ≤ l ∧ s61 = .int .i64 p ∧ s5 = .slice (some ⟨gS, 0, none⟩) st.length capS ∧ Ra w wq n N G s5 st ∧ Hid (Ds n (adjOf T) s (G s) st (fun x y => x = u ∧ y ∈ (adjOf T u).drop p)) ∧ Hid (Rest n (adjOf T) s G) ∧ Hid (2 * cntP (fun v => !G s v) n + st.length < m0) ∧ Hid (G s u = true)) (fun _ s61 _ => l - (intOf s61).toNat)
          case atStart => exact ⟨0, G, st', gS, capS, Nat.zero_le _, rfl, rfl, hR1, HD1, HR, HM0, HU⟩
          case round =>
            clear hR1 HD1 HR HM0 HU
            obtain ⟨p, G, st, gS, capS, hp, rfl, rfl, hR, HD, HR, HM0, HU⟩ := hrel
            by_cases hlp : p < l
            · obtain ⟨br, offr, hAr, hcr⟩ := (HM.out.below hR.below).row u hu (by have := HL.out; omega)
              have hrange := HIN.out u hu p (by have := HL.out; omega)
              obtain ⟨v, hvx⟩ : ∃ v : Nat, (v : Int) = (T u).getD p 0 := ⟨((T u).getD p 0).toNat, by omega⟩
              have hvn : v < n := by omega
              have hcx := hcr p (by have := HL.out; omega)
              rw [← hvx] at hcx
              have HV : Hid (p < (adjOf T u).length ∧ (adjOf T u).getD p 0 = v) := by
                have h2 : p < (T u).length := by have := HL.out; omega
                refine ⟨by rw [adjOf_len]; exact h2, ?_⟩
                simp [List.getD, h2] at hvx
                simp [adjOf, List.getD, h2, ← hvx]
              have hcm := hR.cell HN.out hlt hvn
              rw [← HS.out] at hcm
              clear hrange hvx hcr
              rw [hAr]
              clear hAr
              cases hG : G s v with
              | true =>
                rw [hG] at hcm
                have HX : Hid (G s v = true) := hG
                clear hG
                go_wp2
                go_roundw
                case rel => exact ⟨p + 1, G, st, gS, capS, by omega, by go_num, rfl, hR, HD.out.old HV.out.1 HV.out.2 HX.out, HR, HM0, HU⟩
                case measure => simp [intOf]; omega
              | false =>
                rw [hG] at hcm
                have hf := hR.r.frozen (S + v)
                have hR1 := hR.mark (s := s) hvn
                rw [← HS.out] at hR1
                have HD1 : Hid (Ds n (adjOf T) s (upd (G s) v true) (st ++ [v]) (fun x y => x = u ∧ y ∈ (adjOf T u).drop (p + 1))) := HD.out.new hu HU.out HV.out.1 HV.out.2 hvn hG
                have HC : Hid (cntP (fun x => !G s x) n = cntP (fun x => !(upd (G s) v true) x) n + 1) := cntP_more (P := fun x => !(upd (G s) v true) x) (Q := fun x => !G s x) hvn (fun i hi hne => by simp [upd_other _ _ _ _ hne]) (by simp [upd_same]) (by simp [hG])
                have hstl : st.length ≤ 1048576 := by have := HD.out.room; omega
                have HU1 : Hid (upd (G s) v true u = true) := by
                  show _ = _
                  by_cases e : u = v
                  · rw [e, upd_same]
                  · rw [upd_other _ _ _ _ e]; exact HU.out
                clear hG
                go_wp2_with (at_builtin; refine wpList_push1 rfl (.tmp 73) (.tmp 75) rfl (w.heap.size + 1) (.slice (some ⟨gS, 0, none⟩) st.length capS) st.length _ rfl (hR1.stk.alloc _) (.int .i64 (v : Int)) rfl _ rfl (cell_new2 _ _ _ _ _) hstl (by have := hR1.r.lt; simp at this ⊢; omega) ?_; intro v' w1 ho hgr hd; obtain ⟨g3, k3, rfl⟩ := own_shape ho (by omega))
                go_roundw
                case rel => exact ⟨p + 1, upd G s (upd (G s) v true), st ++ [v], g3, k3, by omega, by go_num, by simp, (by simpa using hR1.push _ hgr ho), by rw [upd_same]; exact HD1, HR.out.mark _, (by show _ < _; rw [upd_same]; have := HC.out; have := HM0.out; simp only [List.length_append, List.length_singleton]; omega), by rw [upd_same]; exact HU1⟩
                case measure => simp [intOf]; omega
            · have hpl : p = l := by omega
              have hlt0 : ¬ (p : Int) < (l : Int) := by omega
              have HE : Hid (p = l) := hpl
              clear hpl
              go_wp2
              go_roundg (2 * cntP (fun v => !G s v) n + st.length)
              case measure => have := HG.out; have := HM0.out; omega
              case rel =>
                have h2 := HD.out
                rw [HE.out, HL.out, ← adjOf_len] at h2
                exact ⟨G, st, gS, capS, rfl, rfl, hR, h2.next, HR⟩
    · have hsn : s = n := by omega
      have hlt0 : ¬ (s : Int) < (n : Int) := by omega
      have HE : Hid (s = n) := hsn
      clear hsn
      go_wp2
      go_ret
      exact ⟨G, rfl, hR.r, hR.below, fun a ha v hv => HR.out.done a (by have := HE.out; omega) v hv⟩
end Go.Proofs.Qxb6603123a
