/-
  SEAT b6603123a: 'zzCloneInts', 'zzCloneIntRows'.
-/
import Derived.Test.Qxb6603123aGrid
import Derived.Test.Qxb6603123aMem
namespace Go.Proofs.Qxb6603123a
open Go.ChangeShapes Go.WideShapes Go.ChangeAt Go.RowKit
set_option linter.unusedVariables false

theorem Try.info27 : (Try.prog.info? 27).map (fun i => (i.zero, i.size, i.bytes)) = some (some (.slice none 0 0), 1, 24) := by kernel_rfl

theorem rowIs_below {w w' : World} {B g n : Nat} {t : TypeId} {f : Nat → Value} (h : w.rowIs g t n f) (hb : Below B w w') (hg : g < B) : w'.rowIs g t n f := h.of_block (hb.block g hg)

/-- What 'zzCloneInts' leaves. -/
def ClonePost (w : World) (t : List Int) (e : Ending) (w' : World) : Prop :=
  ∃ (ao : Option Addr) (c : Nat), e = .returned (.slice ao t.length c) ∧ (0 < t.length → ∃ g, ao = some ⟨g, 0, none⟩ ∧ w.heap.size ≤ g ∧ w'.rowIs g 3 t.length (fun j => .int .i64 (t.getD j 0))) ∧ Below w.heap.size w w'

theorem cloneInts (ao : Option Addr) (cap : Nat) (t : List Int) (w : World) (hl : t.length ≤ 1048576) (hnil : ao = none → t.length = 0) (hc : 0 < t.length → ∃ b off, ao = some ⟨b, off, none⟩ ∧ ∀ j, j < t.length → w.cell? ⟨b, off + j, none⟩ = some (.int .i64 (t.getD j 0))) :
    Calls Try.prog 20 #[.slice ao t.length cap] w fun e w' => ClonePost w t e w' := by
  have hnn := fun wx => Lib.run_eql_slice_nil (P := Try.prog) wx 27 3 ao t.length cap 0 0 Try.underlying27
  have HC : Hid (0 < t.length → ∃ b off, ao = some ⟨b, off, none⟩ ∧ ∀ j, j < t.length → w.cell? ⟨b, off + j, none⟩ = some (.int .i64 (t.getD j 0))) := hc
  clear hc
  cases ao with
  | none =>
    have h0 := hnil rfl
    have H0 : Hid (t.length = 0) := h0
    clear h0 hnil
    go_enter Try.func20, Try.ntmps20
    go_wp2
    go_ret
    refine ⟨none, 0, ?_, fun h => by have := H0.out; omega, Below.refl _ _⟩
    rw [H0.out]; rfl
  | some x =>
    clear hnil
    have hmk := fun wx => run_make_row' (P := Try.prog) 27 3 (.int .i64 0) 8 Try.underlying27 Try.info3 rfl .i64 .i64 t.length (by omega) (by omega) wx
    go_enter Try.func20, Try.ntmps20
    go_wp2
    go_loopw [4] (fun i wr => ∃ k : Nat, k ≤ t.length ∧ i = .int .i64 k ∧ wr.rowIs w.heap.size 3 t.length (fun j => .int .i64 (if j < k then t.getD j 0 else 0)) ∧ Below w.heap.size w wr) (fun i _ => t.length - (intOf i).toNat)
    case atStart => exact ⟨0, Nat.zero_le _, rfl, (World.rowIs_made w (.int .i64 0) t.length 3).congr (fun j _ => by simp), (Below.refl _ _).alloc (Nat.le_refl _) _⟩
    case round =>
      obtain ⟨k, hk, rfl, hR, hB⟩ := hrel
      by_cases hlt : k < t.length
      · obtain ⟨b, off, e, hcell⟩ := HC.out (by omega)
        have e' := Option.some.inj e
        subst e'
        have hbw := World.block_lt_of_cell? w _ (hcell k hlt)
        have hck : wr.cell? ⟨b, off + k, none⟩ = some (.int .i64 (t.getD k 0)) := (hB.cell (p := ⟨b, off + k, none⟩) hbw).trans (hcell k hlt)
        obtain ⟨y, hy⟩ : ∃ y, y = t.getD k 0 := ⟨_, rfl⟩
        rw [← hy] at hck
        have hcg := hR.cell hlt
        have hfg := hR.frozen k
        have HY : Hid (y = t.getD k 0) := hy
        clear hy hcell e
        go_wp2
        go_roundw
        case rel =>
          refine ⟨k + 1, by omega, by go_num, (hR.set k (.int .i64 y)).congr (fun j hj => ?_), hB.setCell (by exact Nat.le_refl _) _⟩
          by_cases e : j = k
          · subst e; rw [if_pos rfl, if_pos (by omega), HY.out]
          · rw [if_neg e]
            by_cases h2 : j < k
            · rw [if_pos h2, if_pos (by omega)]
            · rw [if_neg h2, if_neg (by omega)]
        case measure => simp [intOf]; omega
      · have hlt0 : ¬ (k : Int) < (t.length : Int) := by omega
        go_wp2
        go_ret
        refine ⟨some ⟨w.heap.size, 0, none⟩, t.length, rfl, fun _ => ⟨_, rfl, Nat.le_refl _, hR.congr (fun j hj => by rw [if_pos (by omega)])⟩, hB⟩

theorem M2.nilr {w : World} {ao : Option Addr} {n : Nat} {A : Nat → Option Addr} {C : Nat → Nat} {T : Nat → List Int} (h : M2 w ao n A C T) {i : Nat} (hi : i < n) (hA : A i = none) : (T i).length = 0 := by
  by_cases h0 : 0 < (T i).length
  · obtain ⟨b, off, e, _⟩ := h.row i hi h0
    rw [hA] at e; cases e
  · omega

/-- A slice of slices of int that reads as T. -/
def GridPost (w : World) (n : Nat) (T : Nat → List Int) (e : Ending) (w' : World) : Prop :=
  ∃ (ao : Option Addr) (cap : Nat) (A : Nat → Option Addr) (C : Nat → Nat), e = .returned (.slice ao n cap) ∧ M2 w' ao n A C T ∧ Below w.heap.size w w'

/-- k rows have been cloned into the block G. -/
structure Cl (w0 w : World) (G n k : Nat) (A : Nat → Option Addr) (C : Nat → Nat) (T : Nat → List Int) : Prop where
  top : w.rowIs G 27 n (fun i => if i < k then .slice (A i) (T i).length (C i) else .slice none 0 0)
  rows : ∀ i, i < k → 0 < (T i).length → ∃ g, A i = some ⟨g, 0, none⟩ ∧ G < g ∧ w.rowIs g 3 (T i).length (fun j => .int .i64 ((T i).getD j 0))
  below : Below w0.heap.size w0 w
  base : w0.heap.size ≤ G

theorem Cl.m2 {w0 w : World} {G n : Nat} {A : Nat → Option Addr} {C : Nat → Nat} {T : Nat → List Int} (h : Cl w0 w G n n A C T) (hl : ∀ i, i < n → (T i).length ≤ maxLen) : M2 w (some ⟨G, 0, none⟩) n A C T := by
  refine ⟨fun _ => ⟨G, 0, rfl, fun i hi => ?_⟩, fun i hi h0 => ?_, hl⟩
  · have := h.top.cell hi
    rw [if_pos hi] at this
    simpa using this
  · obtain ⟨g, e, _, hr⟩ := h.rows i hi h0
    exact ⟨g, 0, e, fun j hj => by simpa using hr.cell hj⟩

/-- One row more. -/
theorem Cl.step {w0 w w1 : World} {G n k : Nat} {A : Nat → Option Addr} {C : Nat → Nat} {T : Nat → List Int} (h : Cl w0 w G n k A C T) (hk : k < n) {ar : Option Addr} {cr : Nat}
    (hr : 0 < (T k).length → ∃ g, ar = some ⟨g, 0, none⟩ ∧ w.heap.size ≤ g ∧ w1.rowIs g 3 (T k).length (fun j => .int .i64 ((T k).getD j 0))) (hb : Below w.heap.size w w1) :
    Cl w0 (w1.setCell ⟨G, k, none⟩ (.slice ar (T k).length cr)) G n (k + 1) (upd A k ar) (upd C k cr) T := by
  have hG := h.top.lt
  refine ⟨((rowIs_below h.top hb hG).set k _).congr (fun i hi => ?_), fun i hi h0 => ?_, (h.below.trans (hb.mono h.below.size)).setCell (by exact h.base) _, h.base⟩
  · by_cases e : i = k
    · subst e; rw [if_pos rfl, if_pos (by omega), upd_same, upd_same]
    · rw [if_neg e, upd_other _ _ _ _ e, upd_other _ _ _ _ e]
      by_cases h2 : i < k
      · rw [if_pos h2, if_pos (by omega)]
      · rw [if_neg h2, if_neg (by omega)]
  · by_cases e : i = k
    · subst e
      obtain ⟨g, e1, hg, hrow⟩ := hr h0
      refine ⟨g, by rw [upd_same]; exact e1, by omega, own_setOther hrow (by omega) _⟩
    · obtain ⟨g, e1, hg, hrow⟩ := h.rows i (by omega) h0
      exact ⟨g, by rw [upd_other _ _ _ _ e]; exact e1, hg, own_setOther (rowIs_below hrow hb hrow.lt) (by omega) _⟩

set_option maxHeartbeats 800000 in
theorem cloneRows (ao : Option Addr) (n cap : Nat) (A : Nat → Option Addr) (C : Nat → Nat) (T : Nat → List Int) (w : World) (hM : M2 w ao n A C T) (hn : ao = none → n = 0) (hb : n + sumL T n ≤ 1048576) :
    Calls Try.prog 11 #[.slice ao n cap] w fun e w' => GridPost w n T e w' := by
  have hnn := fun wx => Lib.run_eql_slice_nil (P := Try.prog) wx 22 27 ao n cap 0 0 Try.underlying22
  have HM : Hid (M2 w ao n A C T) := hM
  have HB : Hid (n + sumL T n ≤ 1048576) := hb
  have hnb : n ≤ 1048576 := by omega
  clear hM hb
  cases ao with
  | none =>
    have h0 := hn rfl
    subst h0
    go_enter Try.func11, Try.ntmps11
    go_wp2
    go_ret
    exact ⟨none, 0, A, C, rfl, ⟨fun h => absurd h (by omega), fun i hi => absurd hi (by omega), fun i hi => absurd hi (by omega)⟩, Below.refl _ _⟩
  | some x =>
    clear hn
    have hmk := fun wx => run_make_row' (P := Try.prog) 22 27 (.slice none 0 0) 24 Try.underlying22 Try.info27 rfl .i64 .i64 n (by omega) (by omega) wx
    go_enter Try.func11, Try.ntmps11
    go_wp2
    go_loopw [4] (fun i wr => ∃ (k : Nat) (A' : Nat → Option Addr) (C' : Nat → Nat), k ≤ n ∧ i = .int .i64 k ∧ Cl w wr w.heap.size n k A' C' T) (fun i _ => n - (intOf i).toNat)
    case atStart => exact ⟨0, A, C, Nat.zero_le _, rfl, (World.rowIs_made w (.slice none 0 0) n 27).congr (fun j _ => by simp), fun i hi => absurd hi (by omega), (Below.refl _ _).alloc (Nat.le_refl _) _, Nat.le_refl _⟩
    case round =>
      obtain ⟨k, A', C', hk, rfl, hCl⟩ := hrel
      by_cases hlt : k < n
      · obtain ⟨b, off, e, hcell⟩ := HM.out.out (by omega)
        have e' := Option.some.inj e
        subst e'
        have hbw := World.block_lt_of_cell? w _ (hcell k hlt)
        have hck : wr.cell? ⟨b, off + k, none⟩ = some (.slice (A k) (T k).length (C k)) := (hCl.below.cell (p := ⟨b, off + k, none⟩) hbw).trans (hcell k hlt)
        have hM2 := HM.out.below hCl.below
        have HM2 : Hid (M2 wr (some ⟨b, off, none⟩) n A C T) := hM2
        have hlen : (T k).length ≤ 1048576 := by have := sumL_row T hlt; have := HB.out; omega
        clear hM2 hcell e
        go_wp2_with (go_at_call 20; refine (cloneInts (A k) (C k) (T k) _ hlen (fun h => HM2.out.nilr hlt h) (HM2.out.row k hlt)).mono ?_; rintro e w1 ⟨ar, cr, rfl, hr, hb1⟩; have hcg := (rowIs_below hCl.top hb1 hCl.top.lt).cell hlt; have hfg := (rowIs_below hCl.top hb1 hCl.top.lt).frozen k)
        go_roundw
        case rel => exact ⟨k + 1, _, _, by omega, by go_num, hCl.step hlt hr hb1⟩
        case measure => simp [intOf]; omega
      · have hkk : k = n := by omega
        have hlt0 : ¬ (k : Int) < (n : Int) := by omega
        have HK : Hid (k = n) := hkk
        clear hkk
        go_wp2
        go_ret
        have hkk := HK.out
        subst hkk
        exact ⟨_, _, A', C', rfl, hCl.m2 HM.out.len, hCl.below⟩

end Go.Proofs.Qxb6603123a
