/-
  SEAT b6603123a: 'ZZComponents': the graph is built, then 'components' is asked.
-/
import Derived.Test.Qxb6603123aClone
import Derived.Test.Qxb6603123aComp
namespace Go.Proofs.Qxb6603123a
open Go.ChangeShapes Go.WideShapes Go.ChangeAt Go.RowKit
set_option linter.unusedVariables false

theorem Try.info42 : (Try.prog.info? 42).map (fun i => (i.zero, i.size, i.bytes)) = some (some (.slice none 0 0), 1, 24) := by kernel_rfl
theorem Try.info45 : (Try.prog.info? 45).map (fun i => (i.zero, i.size, i.bytes)) = some (some (.agg #[.int .i64 0, .int .u8 0, .int .i64 0]), 3, 24) := by kernel_rfl

/-- 'make([]edge, l)'. -/
theorem make_edges (l : Nat) (hl : l ≤ 1048576) (w : World) :
    (Instr.makeSlice 42 (.int .i64 (l : Int)) (.int .i64 (l : Int))).run Try.prog w = .ok (.slice (some ⟨w.heap.size, 0, none⟩) l l) (w.alloc (.cells (madeCells (Value.agg #[.int .i64 0, .int .u8 0, .int .i64 0]).cells (l * 3)) 45)) := by
  obtain ⟨i0, hi, hz0, hz1, hz2⟩ := info_parts Try.info45
  have h := run_make (P := Try.prog) w 42 45 i0 (.agg #[.int .i64 0, .int .u8 0, .int .i64 0]) Try.underlying42 hi hz0 .i64 .i64 (l : Int) (l : Int) (by omega) (by omega) (by rw [hz2]; omega) (by omega)
  rw [hz1] at h
  simpa using h

theorem row_any (w : World) (c : Array Value) (t : TypeId) {m : Nat} (hm : c.size = m) : (w.alloc (.cells c t)).rowIs w.heap.size t m (fun i => (c[i]?).getD undef) := by
  subst hm
  exact World.rowIs_alloc w c t _ (fun i hi => by simp [hi])

theorem cell_at0 (w : World) (a b : Value) (t : TypeId) : (w.alloc (.cells #[a, b] t)).cell? ⟨w.heap.size, 0, none⟩ = some a := by
  simp

/-- k rows of edges have been built. -/
structure Bd (w0 w : World) (G n k : Nat) (be : Nat → Nat) (T : Nat → List Int) : Prop where
  top : w.rowIs G 42 n (fun i => if i < k then .slice (some ⟨be i, 0, none⟩) (T i).length (T i).length else .slice none 0 0)
  rows : ∀ i, i < k → G < be i ∧ ∃ f : Nat → Value, w.rowIs (be i) 45 ((T i).length * 3) f ∧ ∀ j, j < (T i).length → f (j * 3) = .int .i64 ((T i).getD j 0)
  below : Below w0.heap.size w0 w
  base : w0.heap.size ≤ G

/-- q edges of row k have been laid into the block g. -/
structure Bi (w0 w : World) (G n k : Nat) (be : Nat → Nat) (T : Nat → List Int) (g q : Nat) : Prop where
  bd : Bd w0 w G n k be T
  new : G < g
  far : ∀ i, i < k → be i ≠ g
  row : ∃ f : Nat → Value, w.rowIs g 45 ((T k).length * 3) f ∧ ∀ j, j < q → f (j * 3) = .int .i64 ((T k).getD j 0)

theorem Bd.set {w0 w : World} {G n k : Nat} {be : Nat → Nat} {T : Nat → List Int} (h : Bd w0 w G n k be T) {g o : Nat} {x : Value} (hg : G < g) (hf : ∀ i, i < k → be i ≠ g) : Bd w0 (w.setCell ⟨g, o, none⟩ x) G n k be T := by
  have hB := h.base
  refine ⟨own_setOther h.top (by omega) _, fun i hi => ?_, h.below.setCell (by show w0.heap.size ≤ g; omega) _, h.base⟩
  obtain ⟨h1, f, h2, h3⟩ := h.rows i hi
  exact ⟨h1, f, own_setOther h2 (hf i hi) _, h3⟩

theorem Bd.alloc {w0 w : World} {G n k : Nat} {be : Nat → Nat} {T : Nat → List Int} (h : Bd w0 w G n k be T) (o : Obj) : Bd w0 (w.alloc o) G n k be T :=
  ⟨h.top.alloc o, fun i hi => by obtain ⟨h1, f, h2, h3⟩ := h.rows i hi; exact ⟨h1, f, h2.alloc o, h3⟩, h.below.alloc h.below.size o, h.base⟩

theorem Bi.step {w0 w : World} {G n k : Nat} {be : Nat → Nat} {T : Nat → List Int} {g q : Nat} (h : Bi w0 w G n k be T g q) {x : Int} (hx : x = (T k).getD q 0) (a b : Value) :
    Bi w0 (((w.setCell ⟨g, q * 3, none⟩ (.int .i64 x)).setCell ⟨g, q * 3 + 1, none⟩ a).setCell ⟨g, q * 3 + 2, none⟩ b) G n k be T g (q + 1) := by
  obtain ⟨f, h2, h3⟩ := h.row
  refine ⟨((h.bd.set h.new h.far).set h.new h.far).set h.new h.far, h.new, h.far, _, ((h2.set _ _).set _ _).set _ _, fun j hj => ?_⟩
  by_cases e : j = q
  · subst e
    rw [if_neg (by omega), if_neg (by omega), if_pos rfl, hx]
  · rw [if_neg (by omega), if_neg (by omega), if_neg (by omega)]
    exact h3 j (by omega)

theorem Bi.done {w0 w : World} {G n k : Nat} {be : Nat → Nat} {T : Nat → List Int} {g : Nat} (h : Bi w0 w G n k be T g (T k).length) : Bd w0 (w.setCell ⟨G, k, none⟩ (.slice (some ⟨g, 0, none⟩) (T k).length (T k).length)) G n (k + 1) (upd be k g) T := by
  have hn := h.new
  refine ⟨(h.bd.top.set k _).congr (fun i hi => ?_), fun i hi => ?_, h.bd.below.setCell (by exact h.bd.base) _, h.bd.base⟩
  · by_cases e : i = k
    · subst e; rw [if_pos rfl, if_pos (by omega), upd_same]
    · rw [if_neg e, upd_other _ _ _ _ e]
      by_cases h2 : i < k
      · rw [if_pos h2, if_pos (by omega)]
      · rw [if_neg h2, if_neg (by omega)]
  · by_cases e : i = k
    · subst e
      obtain ⟨f, h2, h3⟩ := h.row
      exact ⟨by rw [upd_same]; exact h.new, f, by rw [upd_same]; exact own_setOther h2 (by omega) _, h3⟩
    · obtain ⟨h1, f, h2, h3⟩ := h.bd.rows i (by omega)
      rw [upd_other _ _ _ _ e]
      exact ⟨h1, f, own_setOther h2 (by omega) _, h3⟩

/-- The graph that the rows describe. -/
def adjOf (T : Nat → List Int) (v : Nat) : List Nat := (T v).map Int.toNat
theorem adjOf_len (T : Nat → List Int) (v : Nat) : (adjOf T v).length = (T v).length := by simp [adjOf]
theorem adjOf_at {n : Nat} {T : Nat → List Int} (h : InRange n T) {v j : Nat} (hv : v < n) (hj : j < (T v).length) : (((adjOf T v).getD j 0 : Nat) : Int) = (T v).getD j 0 := by
  have := h v hv j hj
  simp only [List.getD, List.getElem?_eq_getElem hj, Option.getD_some] at this
  simp only [adjOf, List.getD, List.getElem?_map, List.getElem?_eq_getElem hj, Option.map_some, Option.getD_some]
  omega
theorem adjOf_in {n : Nat} {T : Nat → List Int} (h : InRange n T) : ∀ v, v < n → ∀ x ∈ adjOf T v, x < n := by
  intro v hv x hx
  obtain ⟨j, hj, e⟩ := List.getElem_of_mem hx
  have hj' : j < (T v).length := by rw [← adjOf_len]; exact hj
  have h1 := adjOf_at h hv hj'
  have h2 := h v hv j hj'
  have e2 : (adjOf T v).getD j 0 = x := by simp [List.getD, hj, e]
  rw [e2] at h1
  omega

set_option maxHeartbeats 1600000 in
theorem zzComponents (ao : Option Addr) (n cap : Nat) (A : Nat → Option Addr) (C : Nat → Nat) (T : Nat → List Int) (w : World) (hM : M2 w ao n A C T) (hb : n + sumL T n ≤ 1048576) (hin : InRange n T) :
    Calls Try.prog 12 #[.slice ao n cap] w fun e w' => CompPost w n (adjOf T) e w' := by
  have hmk := fun wx => run_make_row' (P := Try.prog) 41 42 (.slice none 0 0) 24 Try.underlying41 Try.info42 rfl .i64 .i64 n (by omega) (by omega) wx
  have HM : Hid (M2 w ao n A C T) := hM
  have HB : Hid (n + sumL T n ≤ 1048576) := hb
  have hnb : n ≤ 1048576 := by omega
  have HIN : Hid (InRange n T) := hin
  clear hM hb hin
  go_enter Try.func12, Try.ntmps12
  go_wp2
  go_loopw [13] (fun i wr => ∃ (k : Nat) (be : Nat → Nat), k ≤ n ∧ i = .int .i64 k ∧ Bd w wr w.heap.size n k be T) (fun i _ => n - (intOf i).toNat)
  case atStart => exact ⟨0, fun _ => 0, Nat.zero_le _, rfl, (World.rowIs_made w (.slice none 0 0) n 42).congr (fun j _ => by simp), fun i hi => absurd hi (by omega), (Below.refl _ _).alloc (Nat.le_refl _) _, Nat.le_refl _⟩
  case round =>
    obtain ⟨k, be, hk, rfl, hBd⟩ := hrel
    by_cases hlt : k < n
    · obtain ⟨b, off, rfl, hcell⟩ := HM.out.out (by omega)
      have hbw : b < w.heap.size := World.block_lt_of_cell? w _ (hcell k hlt)
      have hck : wr.cell? ⟨b, off + k, none⟩ = some (.slice (A k) (T k).length (C k)) := (hBd.below.cell (p := ⟨b, off + k, none⟩) hbw).trans (hcell k hlt)
      obtain ⟨l, hl⟩ : ∃ l, l = (T k).length := ⟨_, rfl⟩
      have hlen : l ≤ 1048576 := by have := sumL_row T hlt; have := HB.out; omega
      rw [← hl] at hck
      have HL : Hid (l = (T k).length) := hl
      have hmk2 := make_edges l hlen
      have hbwr : b < wr.heap.size := by have := hBd.below.size; omega
      have hck2 : ∀ o, (wr.alloc o).cell? ⟨b, off + k, none⟩ = some (.slice (A k) l (C k)) := fun o => by rw [World.cell?_alloc_lt (a := ⟨b, off + k, none⟩) (h := hbwr)]; exact hck
      clear hl hcell
      go_wp2
      have hT0 : Bi w (wr.alloc (.cells (madeCells (Value.agg #[.int .i64 0, .int .u8 0, .int .i64 0]).cells (l * 3)) 45)) w.heap.size n k be T wr.heap.size 0 := by
        have hsz := hBd.top.lt
        refine ⟨hBd.alloc _, hsz, fun i hi e => ?_, _, row_any wr _ 45 (by rw [size_madeCells, HL.out]), fun j hj => absurd hj (by omega)⟩
        obtain ⟨_, f, h2, _⟩ := hBd.rows i hi
        have := h2.lt
        omega
      obtain ⟨g, hg⟩ : ∃ g, g = wr.heap.size := ⟨_, rfl⟩
      rw [← hg] at hT0 ⊢
      clear hg hck hck2 hbwr hBd hmk2
      go_loopw [27] (fun s27 wq => ∃ q : Nat, q ≤ l ∧ s27 = .int .i64 q ∧ Bi w wq w.heap.size n k be T g q) (fun s27 _ => l - (intOf s27).toNat)
      case atStart => exact ⟨0, Nat.zero_le _, rfl, hT0⟩
      case round =>
        clear hT0
        obtain ⟨q, hq, rfl, hBi⟩ := hrel
        have hcell := (HM.out.below hBi.bd.below).out (by omega)
        obtain ⟨b', off', e, hcell⟩ := hcell
        simp only [Option.some.injEq, Addr.mk.injEq, and_true] at e
        obtain ⟨rfl, rfl⟩ := e
        have hck := hcell k hlt
        rw [← HL.out] at hck
        by_cases hlq : q < l
        · obtain ⟨br, offr, hAr, hcr⟩ := (HM.out.below hBi.bd.below).row k hlt (by have := HL.out; omega)
          rw [hAr] at hck
          obtain ⟨x, hx⟩ : ∃ x, x = (T k).getD q 0 := ⟨_, rfl⟩
          have hcx : wr.cell? ⟨br, offr + q, none⟩ = some (.int .i64 x) := by rw [hx]; exact hcr q (by have := HL.out; omega)
          obtain ⟨f, hrow, _⟩ := id hBi.row
          have h0 := hrow.cell (i := q * 3) (by have := HL.out; omega)
          have h1 := hrow.cell (i := q * 3 + 1) (by have := HL.out; omega)
          have h2 := hrow.cell (i := q * 3 + 2) (by have := HL.out; omega)
          have f0 := hrow.frozen (q * 3)
          have f1 := hrow.frozen (q * 3 + 1)
          have f2 := hrow.frozen (q * 3 + 2)
          have HX : Hid (x = (T k).getD q 0) := hx
          clear hx hcr hcell hrow
          go_wp2
          go_roundw
          case rel => exact ⟨q + 1, by omega, by go_num, hBi.step HX.out _ _⟩
          case measure => simp [intOf]; omega
        · have hqq : q = l := by omega
          have hlt0 : ¬ (q : Int) < (l : Int) := by omega
          have hcg := hBi.bd.top.cell hlt
          have hfg := hBi.bd.top.frozen k
          have HQ : Hid (q = l) := hqq
          clear hqq hcell
          go_wp2
          go_roundw
          case rel =>
            have hq := HQ.out
            have hl := HL.out
            subst hq
            subst hl
            exact ⟨k + 1, _, by omega, by go_num, hBi.done⟩
          case measure => simp [intOf]; omega
    · have hkk : k = n := by omega
      have hlt0 : ¬ (k : Int) < (n : Int) := by omega
      have HK : Hid (k = n) := hkk
      clear hkk
      go_wp2_with fail
      have hkk := HK.out
      subst hkk
      have hin := HIN.out
      have hGr : Gr (wr.alloc (.cells #[.slice (some ⟨w.heap.size, 0, none⟩) k k, .int .i64 (k : Int)] 48)) wr.heap.size w.heap.size be k (adjOf T) := by
        refine ⟨cell_at0 _ _ _ _, fun v hv => ?_, fun v hv j hj => ?_⟩
        · have h1 := (hBd.top.alloc (.cells #[.slice (some ⟨w.heap.size, 0, none⟩) k k, .int .i64 (k : Int)] 48)).cell hv
          rw [if_pos hv] at h1
          rw [adjOf_len]; exact h1
        · rw [adjOf_len] at hj
          obtain ⟨_, f, h2, h3⟩ := hBd.rows v hv
          rw [(h2.alloc _).cell (i := j * 3) (by omega), h3 j hj, adjOf_at hin hv hj]
      refine (components_any _ wr.heap.size w.heap.size k be (adjOf T) hGr hnb (adjOf_in hin) (fun v hv => by rw [adjOf_len]; have := sumL_row T hv; have := HB.out; omega)).mono ?_
      rintro e w1 ⟨gc, kc, comp, rfl, hrow, hge, hbel, hspec⟩
      go_wp2
      go_ret
      have hsz := hBd.below.size
      exact ⟨gc, kc, comp, rfl, hrow, by rw [size_alloc] at hge; omega, (hBd.below.alloc hsz _).trans (hbel.mono (by rw [size_alloc]; omega)), hspec⟩
end Go.Proofs.Qxb6603123a
