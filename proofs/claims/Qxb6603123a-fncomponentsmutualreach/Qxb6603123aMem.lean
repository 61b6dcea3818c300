/-
  SEAT b6603123a: THE MEMORY OF '(*graph).components': ten blocks of its own (four slices' rows, six boxes of captured variables), and two rows that grow.
-/
import Derived.Test.Qxb6603123aRows
import Derived.Test.Qxb6603123aScc
import Derived.WalkKit
import Derived.ProofKit
import Derived.Below
import Derived.WalkSpells
import Derived.WalkSmall
import Derived.Deep.OwnRows
namespace Go.Proofs.Qxb6603123a
open Go.ChangeShapes Go.WideShapes Go.ChangeAt Go.RowKit
set_option linter.unusedVariables false

theorem Try.info3 : (Try.prog.info? 3).map (fun i => (i.zero, i.size, i.bytes)) = some (some (.int .i64 0), 1, 8) := by kernel_rfl
theorem Try.info4 : (Try.prog.info? 4).map (fun i => (i.zero, i.size, i.bytes)) = some (some (.bool false), 1, 1) := by kernel_rfl
theorem Try.info56 : (Try.prog.info? 56).map (fun i => (i.zero, i.size, i.bytes)) = some (some (.agg #[.int .i64 0, .int .i64 0]), 2, 16) := by kernel_rfl

theorem own_setOther {w : World} {b c j : Nat} {t : TypeId} {n : Nat} {f : Nat → Value} (h : w.rowIs b t n f) (hne : b ≠ c) (v : Value) : (w.setCell ⟨c, j, none⟩ v).rowIs b t n f := h.setOther (a := ⟨c, j, none⟩) hne v

/-- The stack's cells, the calls' cells: bottom first. -/
def stkC (l : List Nat) : List Value := l.reverse.map fun (v : Nat) => Value.int .i64 (v : Int)
def calC (l : List (Nat × Nat)) : List Value := l.reverse.flatMap fun (f : Nat × Nat) => [Value.int .i64 (f.1 : Int), Value.int .i64 (f.2 : Int)]
theorem stkC_cons (v : Nat) (l : List Nat) : stkC (v :: l) = stkC l ++ [.int .i64 (v : Int)] := by simp [stkC]
theorem stkC_len (l : List Nat) : (stkC l).length = l.length := by simp [stkC]
theorem calC_cons (f : Nat × Nat) (l : List (Nat × Nat)) : calC (f :: l) = calC l ++ [.int .i64 (f.1 : Int), .int .i64 (f.2 : Int)] := by simp [calC]
theorem calC_len (l : List (Nat × Nat)) : (calC l).length = l.length * 2 := by
  induction l with
  | nil => rfl
  | cons f l ih => rw [calC_cons]; simp [ih]; omega

/-- Where the ten blocks lie: the first four in an order that Go leaves open. -/
structure Dist (B0 gIdx gLow bIdx bLow : Nat) : Prop where
  i0 : B0 ≤ gIdx
  i1 : gIdx < B0 + 4
  l0 : B0 ≤ gLow
  l1 : gLow < B0 + 4
  p0 : B0 ≤ bIdx
  p1 : bIdx < B0 + 4
  q0 : B0 ≤ bLow
  q1 : bLow < B0 + 4
  il : gIdx ≠ gLow
  ip : gIdx ≠ bIdx
  iq : gIdx ≠ bLow
  lp : gLow ≠ bIdx
  lq : gLow ≠ bLow
  pq : bIdx ≠ bLow

structure Mem (w0 : World) (B0 gIdx gLow bIdx bLow n : Nat) (S : TS) (sv cv : Value) (w : World) : Prop where
  hIdx : w.rowIs gIdx 3 n (fun i => .int .i64 (S.idx i : Int))
  hLow : w.rowIs gLow 3 n (fun i => .int .i64 (S.low i : Int))
  hbI : w.rowIs bIdx 27 1 (fun _ => .slice (some ⟨gIdx, 0, none⟩) n n)
  hbL : w.rowIs bLow 27 1 (fun _ => .slice (some ⟨gLow, 0, none⟩) n n)
  hComp : w.rowIs (B0 + 4) 3 n (fun i => .int .i64 (S.comp i : Int))
  hOn : w.rowIs (B0 + 5) 4 n (fun i => .bool (S.on i))
  hbO : w.rowIs (B0 + 6) 29 1 (fun _ => .slice (some ⟨B0 + 5, 0, none⟩) n n)
  hbS : w.rowIs (B0 + 7) 27 1 (fun _ => sv)
  hbC : w.rowIs (B0 + 8) 54 1 (fun _ => cv)
  hbV : w.rowIs (B0 + 9) 3 1 (fun _ => .int .i64 (S.vis : Int))
  stk : w.ownsRow (B0 + 10) 3 1 sv S.stk.length (stkC S.stk)
  cal : w.ownsRow (B0 + 10) 56 2 cv S.calls.length (calC S.calls)
  size : B0 + 10 ≤ w.heap.size
  below : Below w0.heap.size w0 w

variable {w0 w w' : World} {B0 gIdx gLow bIdx bLow n : Nat} {S : TS} {sv cv : Value}

theorem Mem.drewN (h : Mem w0 B0 gIdx gLow bIdx bLow n S sv cv w) (k : Nat) : Mem w0 B0 gIdx gLow bIdx bLow n S sv cv (w.drewN k) :=
  ⟨h.hIdx, h.hLow, h.hbI, h.hbL, h.hComp, h.hOn, h.hbO, h.hbS, h.hbC, h.hbV, h.stk, h.cal, h.size, below_drewN h.below k⟩
theorem Mem.drew (h : Mem w0 B0 gIdx gLow bIdx bLow n S sv cv w) : Mem w0 B0 gIdx gLow bIdx bLow n S sv cv w.drew :=
  ⟨h.hIdx, h.hLow, h.hbI, h.hbL, h.hComp, h.hOn, h.hbO, h.hbS, h.hbC, h.hbV, h.stk, h.cal, h.size, h.below.drew⟩

theorem upd_val {α : Type} (F : α → Value) (f : Nat → α) (v : Nat) (x : α) : ∀ i, (if i = v then F x else F (f i)) = F (upd f v x i) := by
  intro i; unfold upd; split <;> rfl

theorem heap_size_setCell (w : World) (a : Addr) (v : Value) : (w.setCell a v).heap.size = w.heap.size := by simp

theorem Mem.setVis (h : Mem w0 B0 gIdx gLow bIdx bLow n S sv cv w) (d : Dist B0 gIdx gLow bIdx bLow) (hB : w0.heap.size ≤ B0) (x : Nat) : Mem w0 B0 gIdx gLow bIdx bLow n { S with vis := x } sv cv (w.setCell ⟨B0 + 9, 0, none⟩ (.int .i64 (x : Int))) := by
  obtain ⟨i0, i1, l0, l1, p0, p1, q0, q1, il, ip, iq, lp, lq, pq⟩ := d
  exact ⟨own_setOther h.hIdx (by omega) _, own_setOther h.hLow (by omega) _, own_setOther h.hbI (by omega) _, own_setOther h.hbL (by omega) _, own_setOther h.hComp (by omega) _, own_setOther h.hOn (by omega) _, own_setOther h.hbO (by omega) _, own_setOther h.hbS (by omega) _, own_setOther h.hbC (by omega) _, ((h.hbV.set 0 _).congr (fun i hi => by simp; omega)), ownsRow_setCell_below h.stk (by show (B0 + 9) < B0 + 10; omega) _, ownsRow_setCell_below h.cal (by show (B0 + 9) < B0 + 10; omega) _, by rw [heap_size_setCell]; exact h.size, h.below.setCell (by show w0.heap.size ≤ (B0 + 9); omega) _⟩

theorem Mem.setIdx (h : Mem w0 B0 gIdx gLow bIdx bLow n S sv cv w) (d : Dist B0 gIdx gLow bIdx bLow) (hB : w0.heap.size ≤ B0) (v x : Nat) : Mem w0 B0 gIdx gLow bIdx bLow n { S with idx := upd S.idx v x } sv cv (w.setCell ⟨gIdx, v, none⟩ (.int .i64 (x : Int))) := by
  obtain ⟨i0, i1, l0, l1, p0, p1, q0, q1, il, ip, iq, lp, lq, pq⟩ := d
  exact ⟨((h.hIdx.set v _).congr (fun i _ => upd_val (fun a : Nat => Value.int .i64 (a : Int)) S.idx v x i)), own_setOther h.hLow (by omega) _, own_setOther h.hbI (by omega) _, own_setOther h.hbL (by omega) _, own_setOther h.hComp (by omega) _, own_setOther h.hOn (by omega) _, own_setOther h.hbO (by omega) _, own_setOther h.hbS (by omega) _, own_setOther h.hbC (by omega) _, own_setOther h.hbV (by omega) _, ownsRow_setCell_below h.stk (by show gIdx < B0 + 10; omega) _, ownsRow_setCell_below h.cal (by show gIdx < B0 + 10; omega) _, by rw [heap_size_setCell]; exact h.size, h.below.setCell (by show w0.heap.size ≤ gIdx; omega) _⟩

theorem Mem.setLow (h : Mem w0 B0 gIdx gLow bIdx bLow n S sv cv w) (d : Dist B0 gIdx gLow bIdx bLow) (hB : w0.heap.size ≤ B0) (v x : Nat) : Mem w0 B0 gIdx gLow bIdx bLow n { S with low := upd S.low v x } sv cv (w.setCell ⟨gLow, v, none⟩ (.int .i64 (x : Int))) := by
  obtain ⟨i0, i1, l0, l1, p0, p1, q0, q1, il, ip, iq, lp, lq, pq⟩ := d
  exact ⟨own_setOther h.hIdx (by omega) _, ((h.hLow.set v _).congr (fun i _ => upd_val (fun a : Nat => Value.int .i64 (a : Int)) S.low v x i)), own_setOther h.hbI (by omega) _, own_setOther h.hbL (by omega) _, own_setOther h.hComp (by omega) _, own_setOther h.hOn (by omega) _, own_setOther h.hbO (by omega) _, own_setOther h.hbS (by omega) _, own_setOther h.hbC (by omega) _, own_setOther h.hbV (by omega) _, ownsRow_setCell_below h.stk (by show gLow < B0 + 10; omega) _, ownsRow_setCell_below h.cal (by show gLow < B0 + 10; omega) _, by rw [heap_size_setCell]; exact h.size, h.below.setCell (by show w0.heap.size ≤ gLow; omega) _⟩

theorem Mem.setComp (h : Mem w0 B0 gIdx gLow bIdx bLow n S sv cv w) (d : Dist B0 gIdx gLow bIdx bLow) (hB : w0.heap.size ≤ B0) (v x : Nat) : Mem w0 B0 gIdx gLow bIdx bLow n { S with comp := upd S.comp v x } sv cv (w.setCell ⟨B0 + 4, v, none⟩ (.int .i64 (x : Int))) := by
  obtain ⟨i0, i1, l0, l1, p0, p1, q0, q1, il, ip, iq, lp, lq, pq⟩ := d
  exact ⟨own_setOther h.hIdx (by omega) _, own_setOther h.hLow (by omega) _, own_setOther h.hbI (by omega) _, own_setOther h.hbL (by omega) _, ((h.hComp.set v _).congr (fun i _ => upd_val (fun a : Nat => Value.int .i64 (a : Int)) S.comp v x i)), own_setOther h.hOn (by omega) _, own_setOther h.hbO (by omega) _, own_setOther h.hbS (by omega) _, own_setOther h.hbC (by omega) _, own_setOther h.hbV (by omega) _, ownsRow_setCell_below h.stk (by show (B0 + 4) < B0 + 10; omega) _, ownsRow_setCell_below h.cal (by show (B0 + 4) < B0 + 10; omega) _, by rw [heap_size_setCell]; exact h.size, h.below.setCell (by show w0.heap.size ≤ (B0 + 4); omega) _⟩

theorem Mem.setOn (h : Mem w0 B0 gIdx gLow bIdx bLow n S sv cv w) (d : Dist B0 gIdx gLow bIdx bLow) (hB : w0.heap.size ≤ B0) (v : Nat) (x : Bool) : Mem w0 B0 gIdx gLow bIdx bLow n { S with on := upd S.on v x } sv cv (w.setCell ⟨B0 + 5, v, none⟩ (.bool x)) := by
  obtain ⟨i0, i1, l0, l1, p0, p1, q0, q1, il, ip, iq, lp, lq, pq⟩ := d
  exact ⟨own_setOther h.hIdx (by omega) _, own_setOther h.hLow (by omega) _, own_setOther h.hbI (by omega) _, own_setOther h.hbL (by omega) _, own_setOther h.hComp (by omega) _, ((h.hOn.set v _).congr (fun i _ => upd_val (fun a : Bool => Value.bool a) S.on v x i)), own_setOther h.hbO (by omega) _, own_setOther h.hbS (by omega) _, own_setOther h.hbC (by omega) _, own_setOther h.hbV (by omega) _, ownsRow_setCell_below h.stk (by show (B0 + 5) < B0 + 10; omega) _, ownsRow_setCell_below h.cal (by show (B0 + 5) < B0 + 10; omega) _, by rw [heap_size_setCell]; exact h.size, h.below.setCell (by show w0.heap.size ≤ (B0 + 5); omega) _⟩

/-- The stack's box is given a value that owns other cells. -/
theorem Mem.putS (h : Mem w0 B0 gIdx gLow bIdx bLow n S sv cv w) (d : Dist B0 gIdx gLow bIdx bLow) (hB : w0.heap.size ≤ B0) (sv2 : Value) (stk2 : List Nat) (ho : w.ownsRow (B0 + 10) 3 1 sv2 stk2.length (stkC stk2)) : Mem w0 B0 gIdx gLow bIdx bLow n { S with stk := stk2 } sv2 cv (w.setCell ⟨B0 + 7, 0, none⟩ sv2) := by
  obtain ⟨i0, i1, l0, l1, p0, p1, q0, q1, il, ip, iq, lp, lq, pq⟩ := d
  exact ⟨own_setOther h.hIdx (by omega) _, own_setOther h.hLow (by omega) _, own_setOther h.hbI (by omega) _, own_setOther h.hbL (by omega) _, own_setOther h.hComp (by omega) _, own_setOther h.hOn (by omega) _, own_setOther h.hbO (by omega) _, ((h.hbS.set 0 _).congr (fun i hi => by simp; omega)), own_setOther h.hbC (by omega) _, own_setOther h.hbV (by omega) _, ownsRow_setCell_below ho (by show (B0 + 7) < B0 + 10; omega) _, ownsRow_setCell_below h.cal (by show (B0 + 7) < B0 + 10; omega) _, by rw [heap_size_setCell]; exact h.size, h.below.setCell (by show w0.heap.size ≤ (B0 + 7); omega) _⟩

theorem Mem.putC (h : Mem w0 B0 gIdx gLow bIdx bLow n S sv cv w) (d : Dist B0 gIdx gLow bIdx bLow) (hB : w0.heap.size ≤ B0) (cv2 : Value) (cal2 : List (Nat × Nat)) (ho : w.ownsRow (B0 + 10) 56 2 cv2 cal2.length (calC cal2)) : Mem w0 B0 gIdx gLow bIdx bLow n { S with calls := cal2 } sv cv2 (w.setCell ⟨B0 + 8, 0, none⟩ cv2) := by
  obtain ⟨i0, i1, l0, l1, p0, p1, q0, q1, il, ip, iq, lp, lq, pq⟩ := d
  exact ⟨own_setOther h.hIdx (by omega) _, own_setOther h.hLow (by omega) _, own_setOther h.hbI (by omega) _, own_setOther h.hbL (by omega) _, own_setOther h.hComp (by omega) _, own_setOther h.hOn (by omega) _, own_setOther h.hbO (by omega) _, own_setOther h.hbS (by omega) _, ((h.hbC.set 0 _).congr (fun i hi => by simp; omega)), own_setOther h.hbV (by omega) _, ownsRow_setCell_below h.stk (by show (B0 + 8) < B0 + 10; omega) _, ownsRow_setCell_below ho (by show (B0 + 8) < B0 + 10; omega) _, by rw [heap_size_setCell]; exact h.size, h.below.setCell (by show w0.heap.size ≤ (B0 + 8); omega) _⟩

/-- Rows of different element types lie in different blocks. -/
theorem own_ne {base base' e e' size size' n1 n2 : Nat} {v v' : Value} {xs ys : List Value} (hee : e ≠ e') (h : w.ownsRow base e size v n1 xs) (h' : w.ownsRow base' e' size' v' n2 ys) : v.ownBlock = none ∨ v.ownBlock ≠ v'.ownBlock := by
  rcases h.2 with ⟨rfl, _⟩ | ⟨g, cap, cur, rfl, _, hg, _⟩
  · exact .inl rfl
  · refine .inr fun e1 => ?_
    rcases h'.2 with ⟨rfl, _⟩ | ⟨g', cap', cur', rfl, _, hg', _⟩
    · simp [Value.ownBlock] at e1
    · simp only [Value.ownBlock, Option.some.injEq] at e1
      subst e1
      rw [hg] at hg'
      simp only [Option.some.injEq, Obj.cells.injEq] at hg'
      exact hee hg'.2.1

/-- A world in which a row from B0 + 10 on has grown. -/
theorem Mem.grown (h : Mem w0 B0 gIdx gLow bIdx bLow n S sv cv w) (d : Dist B0 gIdx gLow bIdx bLow) (hB : w0.heap.size ≤ B0) {row : Option Nat} (hg : w.grownBy w' row) (hr : ∀ k, row = some k → B0 + 10 ≤ k)
    (hs : w'.ownsRow (B0 + 10) 3 1 sv S.stk.length (stkC S.stk)) (hc : w'.ownsRow (B0 + 10) 56 2 cv S.calls.length (calC S.calls)) : Mem w0 B0 gIdx gLow bIdx bLow n S sv cv w' := by
  obtain ⟨i0, i1, l0, l1, p0, p1, q0, q1, il, ip, iq, lp, lq, pq⟩ := d
  have hz := h.size
  have k : ∀ b, b < B0 + 10 → w'.heap[b]? = w.heap[b]? := fun b hb => hg.block b (by omega) (fun e => by have := hr b e.symm; omega)
  exact ⟨h.hIdx.of_block (k _ (by omega)), h.hLow.of_block (k _ (by omega)), h.hbI.of_block (k _ (by omega)), h.hbL.of_block (k _ (by omega)), h.hComp.of_block (k _ (by omega)), h.hOn.of_block (k _ (by omega)), h.hbO.of_block (k _ (by omega)), h.hbS.of_block (k _ (by omega)), h.hbC.of_block (k _ (by omega)), h.hbV.of_block (k _ (by omega)), hs, hc, Nat.le_trans h.size hg.size, h.below.grown hg h.below.size (fun j hj => by have := hr j hj; omega)⟩

theorem Mem.alloc (h : Mem w0 B0 gIdx gLow bIdx bLow n S sv cv w) (d : Dist B0 gIdx gLow bIdx bLow) (hB : w0.heap.size ≤ B0) (o : Obj) : Mem w0 B0 gIdx gLow bIdx bLow n S sv cv (w.alloc o) :=
  h.grown d hB (World.grownBy_alloc w o none) (fun k hk => by cases hk) (h.stk.alloc o) (h.cal.alloc o)


/-- The stack has got one node more, and its box the new value. -/
theorem Mem.pushS (h : Mem w0 B0 gIdx gLow bIdx bLow n S sv cv w) (d : Dist B0 gIdx gLow bIdx bLow) (hB : w0.heap.size ≤ B0) (o : Obj) (hg : (w.alloc o).grownBy w' sv.ownBlock) {v : Nat} {sv2 : Value} (ho : w'.ownsRow (B0 + 10) 3 1 sv2 (S.stk.length + 1) (stkC S.stk ++ [.int .i64 (v : Int)])) : Mem w0 B0 gIdx gLow bIdx bLow n { S with stk := v :: S.stk } sv2 cv (w'.setCell ⟨B0 + 7, 0, none⟩ sv2) := by
  obtain ⟨i0, i1, l0, l1, p0, p1, q0, q1, il, ip, iq, lp, lq, pq⟩ := d
  have hz := h.size
  have hr : ∀ j, sv.ownBlock = some j → B0 + 10 ≤ j := fun j hj => (h.stk.lt j hj).1
  have k : ∀ b, b < B0 + 10 → w'.heap[b]? = w.heap[b]? := fun b hb => (hg.block b (by simp; omega) (fun e => by have := hr b e.symm; omega)).trans (Below.heap_alloc _ _ _ (by omega))
  have hs2 := hg.size
  simp at hs2
  exact ⟨own_setOther (h.hIdx.of_block (k _ (by omega))) (by omega) _, own_setOther (h.hLow.of_block (k _ (by omega))) (by omega) _, own_setOther (h.hbI.of_block (k _ (by omega))) (by omega) _, own_setOther (h.hbL.of_block (k _ (by omega))) (by omega) _, own_setOther (h.hComp.of_block (k _ (by omega))) (by omega) _, own_setOther (h.hOn.of_block (k _ (by omega))) (by omega) _, own_setOther (h.hbO.of_block (k _ (by omega))) (by omega) _, (((h.hbS.of_block (k _ (by omega))).set 0 _).congr (fun i hi => by simp; omega)), own_setOther (h.hbC.of_block (k _ (by omega))) (by omega) _, own_setOther (h.hbV.of_block (k _ (by omega))) (by omega) _, ownsRow_setCell_below (by rw [← stkC_cons] at ho; exact ho) (by show B0 + 7 < B0 + 10; omega) _, ownsRow_setCell_below ((h.cal.alloc o).kept hg (own_ne (by decide) (h.cal.alloc o) (h.stk.alloc o))) (by show B0 + 7 < B0 + 10; omega) _, by rw [heap_size_setCell]; omega, ((h.below.alloc h.below.size o).grown hg (by have := h.below.size; simp; omega) (fun j hj => by have := hr j hj; omega)).setCell (by show w0.heap.size ≤ B0 + 7; omega) _⟩

/-- The box, ahead of that store. -/
theorem Mem.pushSBox (h : Mem w0 B0 gIdx gLow bIdx bLow n S sv cv w) (o : Obj) (hg : (w.alloc o).grownBy w' sv.ownBlock) : w'.cell? ⟨B0 + 7, 0, none⟩ = some sv ∧ w'.frozen? ⟨B0 + 7, 0, none⟩ = false := by
  have hz := h.size
  have hr : ∀ j, sv.ownBlock = some j → B0 + 10 ≤ j := fun j hj => (h.stk.lt j hj).1
  have k := (hg.block (B0 + 7) (by simp; omega) (fun e => by have := hr _ e.symm; omega)).trans (Below.heap_alloc w o _ (by omega))
  exact ⟨(h.hbS.of_block k).cell (i := 0) (by omega), (h.hbS.of_block k).frozen 0⟩

/-- The calls have got one frame more, and their box the new value. -/
theorem Mem.pushC (h : Mem w0 B0 gIdx gLow bIdx bLow n S sv cv w) (d : Dist B0 gIdx gLow bIdx bLow) (hB : w0.heap.size ≤ B0) (o : Obj) (hg : (w.alloc o).grownBy w' cv.ownBlock) {f : Nat × Nat} {cv2 : Value} (ho : w'.ownsRow (B0 + 10) 56 2 cv2 (S.calls.length + 1) (calC S.calls ++ [.int .i64 (f.1 : Int), .int .i64 (f.2 : Int)])) : Mem w0 B0 gIdx gLow bIdx bLow n { S with calls := f :: S.calls } sv cv2 (w'.setCell ⟨B0 + 8, 0, none⟩ cv2) := by
  obtain ⟨i0, i1, l0, l1, p0, p1, q0, q1, il, ip, iq, lp, lq, pq⟩ := d
  have hz := h.size
  have hr : ∀ j, cv.ownBlock = some j → B0 + 10 ≤ j := fun j hj => (h.cal.lt j hj).1
  have k : ∀ b, b < B0 + 10 → w'.heap[b]? = w.heap[b]? := fun b hb => (hg.block b (by simp; omega) (fun e => by have := hr b e.symm; omega)).trans (Below.heap_alloc _ _ _ (by omega))
  have hs2 := hg.size
  simp at hs2
  exact ⟨own_setOther (h.hIdx.of_block (k _ (by omega))) (by omega) _, own_setOther (h.hLow.of_block (k _ (by omega))) (by omega) _, own_setOther (h.hbI.of_block (k _ (by omega))) (by omega) _, own_setOther (h.hbL.of_block (k _ (by omega))) (by omega) _, own_setOther (h.hComp.of_block (k _ (by omega))) (by omega) _, own_setOther (h.hOn.of_block (k _ (by omega))) (by omega) _, own_setOther (h.hbO.of_block (k _ (by omega))) (by omega) _, own_setOther (h.hbS.of_block (k _ (by omega))) (by omega) _, (((h.hbC.of_block (k _ (by omega))).set 0 _).congr (fun i hi => by simp; omega)), own_setOther (h.hbV.of_block (k _ (by omega))) (by omega) _, ownsRow_setCell_below ((h.stk.alloc o).kept hg (own_ne (by decide) (h.stk.alloc o) (h.cal.alloc o))) (by show B0 + 8 < B0 + 10; omega) _, ownsRow_setCell_below (by rw [← calC_cons] at ho; exact ho) (by show B0 + 8 < B0 + 10; omega) _, by rw [heap_size_setCell]; omega, ((h.below.alloc h.below.size o).grown hg (by have := h.below.size; simp; omega) (fun j hj => by have := hr j hj; omega)).setCell (by show w0.heap.size ≤ B0 + 8; omega) _⟩

/-- The box, ahead of that store. -/
theorem Mem.pushCBox (h : Mem w0 B0 gIdx gLow bIdx bLow n S sv cv w) (o : Obj) (hg : (w.alloc o).grownBy w' cv.ownBlock) : w'.cell? ⟨B0 + 8, 0, none⟩ = some cv ∧ w'.frozen? ⟨B0 + 8, 0, none⟩ = false := by
  have hz := h.size
  have hr : ∀ j, cv.ownBlock = some j → B0 + 10 ≤ j := fun j hj => (h.cal.lt j hj).1
  have k := (hg.block (B0 + 8) (by simp; omega) (fun e => by have := hr _ e.symm; omega)).trans (Below.heap_alloc w o _ (by omega))
  exact ⟨(h.hbC.of_block k).cell (i := 0) (by omega), (h.hbC.of_block k).frozen 0⟩

/-- The top frame's 'next' is stored. -/
theorem Mem.nextC {v nx gC capC : Nat} {cs : List (Nat × Nat)} (h : Mem w0 B0 gIdx gLow bIdx bLow n S sv (.slice (some ⟨gC, 0, none⟩) (cs.length + 1) capC) w) (d : Dist B0 gIdx gLow bIdx bLow) (hB : w0.heap.size ≤ B0) (hc : S.calls = (v, nx) :: cs) (x : Nat) :
    Mem w0 B0 gIdx gLow bIdx bLow n { S with calls := (v, x) :: cs } sv (.slice (some ⟨gC, 0, none⟩) (cs.length + 1) capC) (w.setCell ⟨gC, cs.length * 2 + 1, none⟩ (.int .i64 (x : Int))) := by
  obtain ⟨i0, i1, l0, l1, p0, p1, q0, q1, il, ip, iq, lp, lq, pq⟩ := d
  have ho := h.cal
  have hgC := (ho.lt gC rfl).1
  have hne : sv.ownBlock ≠ some gC := by
    rcases own_ne (by decide) h.stk ho with e | e
    · rw [e]; simp
    · exact e
  rw [hc] at ho
  simp only [List.length_cons] at ho
  have hst := (ho.stored (cs.length * 2 + 1) (.int .i64 (x : Int))).1
  have hl := calC_len cs
  have e : (calC ((v, nx) :: cs)).set (cs.length * 2 + 1) (.int .i64 (x : Int)) = calC ((v, x) :: cs) := by
    rw [calC_cons, calC_cons, List.set_append_right _ _ (by omega), hl]
    simp
  rw [e] at hst
  exact ⟨own_setOther h.hIdx (by omega) _, own_setOther h.hLow (by omega) _, own_setOther h.hbI (by omega) _, own_setOther h.hbL (by omega) _, own_setOther h.hComp (by omega) _, own_setOther h.hOn (by omega) _, own_setOther h.hbO (by omega) _, own_setOther h.hbS (by omega) _, own_setOther h.hbC (by omega) _, own_setOther h.hbV (by omega) _, ownsRow_setCell_other h.stk hne _, hst, by rw [heap_size_setCell]; exact h.size, h.below.setCell (by show w0.heap.size ≤ gC; omega) _⟩

/-- The top frame is popped: the box is given the shorter slice. -/
theorem Mem.popC {f : Nat × Nat} {gC capC : Nat} {cs : List (Nat × Nat)} (h : Mem w0 B0 gIdx gLow bIdx bLow n S sv (.slice (some ⟨gC, 0, none⟩) (cs.length + 1) capC) w) (d : Dist B0 gIdx gLow bIdx bLow) (hB : w0.heap.size ≤ B0) (hc : S.calls = f :: cs) :
    Mem w0 B0 gIdx gLow bIdx bLow n { S with calls := cs } sv (.slice (some ⟨gC, 0, none⟩) cs.length capC) (w.setCell ⟨B0 + 8, 0, none⟩ (.slice (some ⟨gC, 0, none⟩) cs.length capC)) := by
  have ho := h.cal
  rw [hc, calC_cons] at ho
  exact h.putC d hB _ cs (ownsRow_pop (calC_len cs) ho)

/-- The top node is popped off the stack. -/
theorem Mem.popS {v gS capS : Nat} {rest : List Nat} (h : Mem w0 B0 gIdx gLow bIdx bLow n S (.slice (some ⟨gS, 0, none⟩) (rest.length + 1) capS) cv w) (d : Dist B0 gIdx gLow bIdx bLow) (hB : w0.heap.size ≤ B0) (hs : S.stk = v :: rest) :
    Mem w0 B0 gIdx gLow bIdx bLow n { S with stk := rest } (.slice (some ⟨gS, 0, none⟩) rest.length capS) cv (w.setCell ⟨B0 + 7, 0, none⟩ (.slice (some ⟨gS, 0, none⟩) rest.length capS)) := by
  have ho := h.stk
  rw [hs, stkC_cons] at ho
  exact h.putS d hB _ rest (ownsRow_pop (by rw [stkC_len, Nat.mul_one]) ho)
end Go.Proofs.Qxb6603123a
