/-
  SEAT b6603123a: SMALL FACTS FOR THE WALK OF '(*graph).components'.
-/
import Derived.Test.Qxb6603123aVisit
import Derived.Deep.LoopGhost
import Derived.Deep.QuietTactic
import Derived.BigQuiet
import Derived.Deep.Light
namespace Go.Proofs.Qxb6603123a
open Go.ChangeShapes Go.WideShapes Go.ChangeAt Go.RowKit
set_option linter.unusedVariables false

/-- The bodies of a code's loops, the outer ahead of the inner, in the text's order. -/
def loopsIn : Code → List Code
  | .loop c => c :: loopsIn c
  | .seq a b => loopsIn a ++ loopsIn b
  | .block _ c => loopsIn c
  | .scope c => loopsIn c
  | .cond _ a b => loopsIn a ++ loopsIn b
  | _ => []
/-- The body of loop number k (from 1 on). -/
def nthLoop (k : Nat) (c : Code) : Option Code := (loopsIn c)[k - 1]?

/-- A graph in memory. -/
structure Gr (w : World) (bg bo : Nat) (be : Nat → Nat) (n : Nat) (adj : Nat → List Nat) : Prop where
  hg : w.cell? ⟨bg, 0, none⟩ = some (.slice (some ⟨bo, 0, none⟩) n n)
  ho : ∀ v, v < n → w.cell? ⟨bo, v, none⟩ = some (.slice (some ⟨be v, 0, none⟩) (adj v).length (adj v).length)
  he : ∀ v, v < n → ∀ j, j < (adj v).length → w.cell? ⟨be v, j * 3, none⟩ = some (.int .i64 (((adj v).getD j 0 : Nat) : Int))

theorem Gr.below {w w' : World} {bg bo n : Nat} {be : Nat → Nat} {adj : Nat → List Nat} (h : Gr w bg bo be n adj) (hb : Below w.heap.size w w') : Gr w' bg bo be n adj :=
  ⟨(hb.cell (p := ⟨bg, 0, none⟩) (World.block_lt_of_cell? w _ h.hg)).trans h.hg,
   fun v hv => (hb.cell (p := ⟨bo, v, none⟩) (World.block_lt_of_cell? w _ (h.ho v hv))).trans (h.ho v hv),
   fun v hv j hj => (hb.cell (p := ⟨be v, j * 3, none⟩) (World.block_lt_of_cell? w _ (h.he v hv j hj))).trans (h.he v hv j hj)⟩

/-- Behind region 2: four blocks. -/
def Four (w : World) (n gIdx gLow bIdx bLow : Nat) (wc : World) : Prop :=
  Dist w.heap.size gIdx gLow bIdx bLow ∧ wc.rowIs gIdx 3 n (fun _ => .int .i64 0) ∧ wc.rowIs gLow 3 n (fun _ => .int .i64 0) ∧
  wc.rowIs bIdx 27 1 (fun _ => .slice (some ⟨gIdx, 0, none⟩) n n) ∧ wc.rowIs bLow 27 1 (fun _ => .slice (some ⟨gLow, 0, none⟩) n n) ∧ wc.heap.size = w.heap.size + 4 ∧ Below w.heap.size w wc

theorem look0 (w : World) (o0 o1 o2 o3 : Obj) : ((((w.alloc o0).alloc o1).alloc o2).alloc o3).drew.heap[w.heap.size]? = some o0 := by
  show ((((w.heap.push o0).push o1).push o2).push o3)[w.heap.size]? = _
  simp only [Array.getElem?_push, Array.size_push]
  repeat rw [if_neg (by omega)]
  exact if_pos trivial
theorem look1 (w : World) (o0 o1 o2 o3 : Obj) : ((((w.alloc o0).alloc o1).alloc o2).alloc o3).drew.heap[w.heap.size + 1]? = some o1 := by
  show ((((w.heap.push o0).push o1).push o2).push o3)[w.heap.size + 1]? = _
  simp only [Array.getElem?_push, Array.size_push]
  repeat rw [if_neg (by omega)]
  exact if_pos trivial
theorem look2 (w : World) (o0 o1 o2 o3 : Obj) : ((((w.alloc o0).alloc o1).alloc o2).alloc o3).drew.heap[w.heap.size + 1 + 1]? = some o2 := by
  show ((((w.heap.push o0).push o1).push o2).push o3)[w.heap.size + 1 + 1]? = _
  simp only [Array.getElem?_push, Array.size_push]
  repeat rw [if_neg (by omega)]
  exact if_pos trivial
theorem look3 (w : World) (o0 o1 o2 o3 : Obj) : ((((w.alloc o0).alloc o1).alloc o2).alloc o3).drew.heap[w.heap.size + 1 + 1 + 1]? = some o3 := by
  show ((((w.heap.push o0).push o1).push o2).push o3)[w.heap.size + 1 + 1 + 1]? = _
  simp only [Array.getElem?_push, Array.size_push]
  repeat rw [if_neg (by omega)]
  exact if_pos trivial
theorem look_below (w : World) (o0 o1 o2 o3 : Obj) : Below w.heap.size w ((((w.alloc o0).alloc o1).alloc o2).alloc o3).drew ∧ ((((w.alloc o0).alloc o1).alloc o2).alloc o3).drew.heap.size = w.heap.size + 4 :=
  ⟨(((((Below.refl _ _).alloc (Nat.le_refl _) o0).alloc (by simp) o1).alloc (by simp; omega) o2).alloc (by simp; omega) o3).drew, by
    show ((((w.heap.push o0).push o1).push o2).push o3).size = _
    simp⟩

theorem four_of {w W : World} {n gI gL bI bL : Nat} (h3 : W.heap[bI]? = some (.cells #[.slice (some ⟨gI, 0, none⟩) n n] 27 (0, 0))) (h4 : W.heap[bL]? = some (.cells #[.slice (some ⟨gL, 0, none⟩) n n] 27 (0, 0)))
    (h1 : W.heap[gI]? = some (.cells (madeCells #[.int .i64 0] n) 3 (0, 0))) (h2 : W.heap[gL]? = some (.cells (madeCells #[.int .i64 0] n) 3 (0, 0))) (hb : Below w.heap.size w W ∧ W.heap.size = w.heap.size + 4) (hd : Dist w.heap.size gI gL bI bL) : Four w n gI gL bI bL W :=
  ⟨hd, ⟨_, h1, size_madeCells _ _, fun i hi => by simp [madeCells, hi, Nat.mod_one]⟩, ⟨_, h2, size_madeCells _ _, fun i hi => by simp [madeCells, hi, Nat.mod_one]⟩,
   ⟨_, h3, rfl, fun i hi => by obtain rfl : i = 0 := (by omega); rfl⟩, ⟨_, h4, rfl, fun i hi => by obtain rfl : i = 0 := (by omega); rfl⟩, hb.2, hb.1⟩

theorem size_alloc (w : World) (o : Obj) : (w.alloc o).heap.size = w.heap.size + 1 := by simp
theorem row_one (w : World) (v : Value) (t : TypeId) {b : Nat} (hb : w.heap.size = b) : (w.alloc (.cells #[v] t)).rowIs b t 1 (fun _ => v) := by
  subst hb
  exact World.rowIs_alloc w #[v] t _ (fun i hi => by obtain rfl : i = 0 := (by simpa using hi); rfl)
theorem row_made (w : World) (z : Value) (n : Nat) (t : TypeId) {b : Nat} (hb : w.heap.size = b) : (w.alloc (.cells (madeCells #[z] n) t)).rowIs b t n (fun _ => z) := by
  subst hb
  exact World.rowIs_made w z n t

theorem mem_start {w wc : World} {n gIdx gLow bIdx bLow : Nat} (d : Dist w.heap.size gIdx gLow bIdx bLow) (f1 : wc.rowIs gIdx 3 n (fun _ => .int .i64 0)) (f2 : wc.rowIs gLow 3 n (fun _ => .int .i64 0))
    (f3 : wc.rowIs bIdx 27 1 (fun _ => .slice (some ⟨gIdx, 0, none⟩) n n)) (f4 : wc.rowIs bLow 27 1 (fun _ => .slice (some ⟨gLow, 0, none⟩) n n)) (hz : wc.heap.size = w.heap.size + 4) (hb : Below w.heap.size w wc) :
    Mem w w.heap.size gIdx gLow bIdx bLow n TS.start (.slice none 0 0) (.slice none 0 0)
      ((((((wc.alloc (.cells (madeCells #[.int .i64 0] n) 3)).alloc (.cells (madeCells #[.bool false] n) 4)).alloc (.cells #[.slice (some ⟨w.heap.size + 4 + 1, 0, none⟩) n n] 29)).alloc (.cells #[.slice none 0 0] 27)).alloc (.cells #[.slice none 0 0] 54)).alloc (.cells #[.int .i64 0] 3)) := by
  refine ⟨((((((f1.alloc _).alloc _).alloc _).alloc _).alloc _).alloc _).congr (fun i _ => rfl), ((((((f2.alloc _).alloc _).alloc _).alloc _).alloc _).alloc _).congr (fun i _ => rfl), ((((((f3.alloc _).alloc _).alloc _).alloc _).alloc _).alloc _), ((((((f4.alloc _).alloc _).alloc _).alloc _).alloc _).alloc _),
    (((((((row_made wc (.int .i64 0) n 3 hz)).alloc _).alloc _).alloc _).alloc _).alloc _).congr (fun i _ => rfl),
    ((((((row_made _ (.bool false) n 4 (b := w.heap.size + 5) ?_)).alloc _).alloc _).alloc _).alloc _).congr (fun i _ => rfl),
    (((((row_one _ _ 29 (b := w.heap.size + 6) ?_)).alloc _).alloc _).alloc _), ((((row_one _ _ 27 (b := w.heap.size + 7) ?_)).alloc _).alloc _), (((row_one _ _ 54 (b := w.heap.size + 8) ?_)).alloc _), (row_one _ _ 3 (b := w.heap.size + 9) ?_).congr (fun i _ => rfl),
    World.ownsRow_nil _ _ _ _, World.ownsRow_nil _ _ _ _, ?_, ?_⟩
  · rw [size_alloc, hz]
  · rw [size_alloc, size_alloc, hz]
  · rw [size_alloc, size_alloc, size_alloc, hz]
  · rw [size_alloc, size_alloc, size_alloc, size_alloc, hz]
  · rw [size_alloc, size_alloc, size_alloc, size_alloc, size_alloc, hz]
  · simp only [size_alloc, hz]; omega
  · exact (((((hb.alloc (by omega) _).alloc (by simp only [size_alloc]; omega) _).alloc (by simp only [size_alloc]; omega) _).alloc (by simp only [size_alloc]; omega) _).alloc (by simp only [size_alloc]; omega) _).alloc (by simp only [size_alloc]; omega) _

theorem own_any {w : World} {base e size n : Nat} {v : Value} {xs : List Value} (h : w.ownsRow base e size v n xs) : ∃ a cap, v = .slice a n cap := by
  rcases h.2 with ⟨h1, h0⟩ | ⟨g, cap, cur, hv, _⟩
  · exact ⟨none, 0, by rw [h1, h0]⟩
  · exact ⟨_, cap, hv⟩

theorem own_cap {w : World} {base e size n g cap : Nat} {xs : List Value} (h : w.ownsRow base e size (.slice (some ⟨g, 0, none⟩) n cap) n xs) : n ≤ cap := by
  rcases h.2 with ⟨h1, _⟩ | ⟨g', cap', cur, hv, _, _, hn, _⟩
  · cases h1
  · cases hv; exact hn

theorem topS_of {w0 w : World} {B0 gIdx gLow bIdx bLow n : Nat} {S : TS} {sv cv : Value} (h : Mem w0 B0 gIdx gLow bIdx bLow n S sv cv w) {y : Nat} {r : List Nat} (hs : S.stk = y :: r) :
    ∃ gS cap, sv = .slice (some ⟨gS, 0, none⟩) (r.length + 1) cap ∧ w.cell? ⟨gS, r.length, none⟩ = some (.int .i64 (y : Int)) ∧ r.length + 1 ≤ cap := by
  have ho := h.stk
  rw [hs] at ho
  simp only [List.length_cons] at ho
  obtain ⟨gS, cap, rfl⟩ := own_shape ho (by omega)
  refine ⟨gS, cap, rfl, ?_, own_cap ho⟩
  rw [ho.cellAt r.length (by omega), stkC_cons, List.getElem?_append_right (by rw [stkC_len]; exact Nat.le_refl _), stkC_len]
  simp

theorem clr_snoc (P : List Nat) (y : Nat) (f : Nat → Bool) : upd (clr P f) y false = clr (P ++ [y]) f := by
  funext x
  unfold upd clr
  by_cases e : x = y
  · simp [e]
  · by_cases m : x ∈ P <;> simp [e, m]
theorem put_snoc (P : List Nat) (y c : Nat) (f : Nat → Nat) : upd (put P c f) y c = put (P ++ [y]) c f := by
  funext x
  unfold upd put
  by_cases e : x = y
  · simp [e]
  · by_cases m : x ∈ P <;> simp [e, m]
/-- The low numbers behind the pop of a frame. -/
def lowN (S : TS) (v : Nat) : List (Nat × Nat) → Nat → Nat
  | [] => S.low
  | f :: _ => upd S.low f.1 (min (S.low f.1) (S.low v))

theorem clr_nil (f : Nat → Bool) : clr [] f = f := by funext x; simp [clr]
theorem put_nil (c : Nat) (f : Nat → Nat) : put [] c f = f := by funext x; simp [put]
theorem lowN_eq {n : Nat} {adj : Nat → List Nat} {S : TS} (h : Inv n adj S) {v nx : Nat} {cs : List (Nat × Nat)} (hc : S.calls = (v, nx) :: cs) (hl : S.low v = S.idx v) : lowN S v cs = S.low := by
  cases cs with
  | nil => rfl
  | cons g cs' => exact upd_id _ _ _ (h.popLow (p := g.1) (np := g.2) hc hl)

/-- What the walk of the popping loop is told of the cells that it comes to. -/
theorem popFacts {w0 w : World} {B0 gIdx gLow bIdx bLow n : Nat} {S : TS} {sv cv : Value} (h : Mem w0 B0 gIdx gLow bIdx bLow n S sv cv w) {y : Nat} (hy : y < n) :
    (∀ x, (w.setCell ⟨B0 + 7, 0, none⟩ x).cell? ⟨B0 + 6, 0, none⟩ = some (.slice (some ⟨B0 + 5, 0, none⟩) n n)) ∧ (∀ x, (w.setCell ⟨B0 + 7, 0, none⟩ x).cell? ⟨B0 + 5, y, none⟩ = some (.bool (S.on y))) ∧ (∀ x, (w.setCell ⟨B0 + 7, 0, none⟩ x).frozen? ⟨B0 + 5, y, none⟩ = false) ∧
    (∀ x x', ((w.setCell ⟨B0 + 7, 0, none⟩ x).setCell ⟨B0 + 5, y, none⟩ x').cell? ⟨B0 + 4, y, none⟩ = some (.int .i64 (S.comp y : Int))) ∧ (∀ x x', ((w.setCell ⟨B0 + 7, 0, none⟩ x).setCell ⟨B0 + 5, y, none⟩ x').frozen? ⟨B0 + 4, y, none⟩ = false) := by
  refine ⟨fun x => ?_, fun x => ?_, fun x => ?_, fun x x' => ?_, fun x x' => ?_⟩
  · rw [cell_off _ _ _ _ _ _ (by omega)]; exact h.hbO.cell (i := 0) (by omega)
  · rw [cell_off _ _ _ _ _ _ (by omega)]; exact h.hOn.cell hy
  · rw [frozen_off _ _ _ _ _ _ (by omega)]; exact h.hOn.frozen y
  · rw [cell_off _ _ _ _ _ _ (by omega), cell_off _ _ _ _ _ _ (by omega)]; exact h.hComp.cell hy
  · rw [frozen_off _ _ _ _ _ _ (by omega), frozen_off _ _ _ _ _ _ (by omega)]; exact h.hComp.frozen y

theorem top_of {w0 w : World} {B0 gIdx gLow bIdx bLow n : Nat} {S : TS} {sv cv : Value} (h : Mem w0 B0 gIdx gLow bIdx bLow n S sv cv w) {v nx : Nat} {cs : List (Nat × Nat)} (hc : S.calls = (v, nx) :: cs) :
    ∃ gC cap, cv = .slice (some ⟨gC, 0, none⟩) (cs.length + 1) cap ∧ w.cell? ⟨gC, cs.length * 2, none⟩ = some (.int .i64 (v : Int)) ∧ w.cell? ⟨gC, cs.length * 2 + 1, none⟩ = some (.int .i64 (nx : Int)) ∧ w.frozen? ⟨gC, cs.length * 2 + 1, none⟩ = false ∧ B0 + 10 ≤ gC ∧ cs.length + 1 ≤ cap := by
  have ho := h.cal
  rw [hc] at ho
  simp only [List.length_cons] at ho
  obtain ⟨gC, cap, rfl⟩ := own_shape ho (by omega)
  have hl := calC_len cs
  refine ⟨gC, cap, rfl, ?_, ?_, ho.frozenAt _, (ho.lt gC rfl).1, own_cap ho⟩
  · rw [ho.cellAt (cs.length * 2) (by omega), calC_cons, List.getElem?_append_right (by omega), hl]
    simp
  · rw [ho.cellAt (cs.length * 2 + 1) (by omega), calC_cons, List.getElem?_append_right (by omega), hl]
    simp

end Go.Proofs.Qxb6603123a
