/-
  SEAT b6600806a: TWO ROWS OF BYTES THAT THE CALL HAS MADE (the writer's 'out' and 'closers'); 'appendText'.
-/
import Derived.Test.Qxb6600806aWalks
import Derived.Test.Qxb6600806aWriter
namespace Go.Proofs.Qxb6600806a
open Go.ChangeShapes Go.WideShapes Go.ChangeAt Go.RowKit
set_option linter.unusedVariables false

/-- 'make([]byte, 1, n)'. -/
theorem wpList_makeOneB {w : World} {ops : Array Oper} {rest : List Oper} {o : Oper} {a : Act} {Q : Exit → Act → World → Prop}
    (hg : o.guard = none) (l c : Operand) (hop : o.op = Op.makeSlice 22 l c) (w0 : World) (hb : Below w0.heap.size w0 w) (C : Int) (n : Nat) (hl : a.eval l = .int .i64 1) (hc : a.eval c = .int .i64 C) (hC : C = (n : Int)) (h1 : 1 ≤ n) (hn : n ≤ 281474976710656)
    (hK : ∀ w', RowB w0 w' w.heap.size 1 n [0] → w.grownBy w' none → wpList Try.prog ops Q rest (a.put o.dst (.slice (some ⟨w.heap.size, 0, none⟩) 1 n)) w') :
    wpList Try.prog ops Q (o :: rest) a w := by
  obtain ⟨i0, hi, hz0, hz1, hz2⟩ := info_parts Try.info5
  refine wpList_plain hg fun K hK' => ?_
  have hrun := run_make (P := Try.prog) w 22 5 i0 (.int .u8 0) Try.underlying22 hi hz0 .i64 .i64 1 (n : Int) (by omega) (by omega) (by rw [hz2]; omega) (by omega)
  subst hC
  unfold Oper.wp
  simp only [execOp, hop, hl, hc]
  simp [hrun, Result.andThen]
  refine hK' _ _ (hK _ ⟨hb.size, hb.alloc hb.size _, ?_⟩ (World.grownBy_alloc _ _ _))
  rw [hz1, Nat.mul_one]
  refine ⟨rfl, .inr ⟨w.heap.size, n, _, rfl, hb.size, heap_alloc_new w _, h1, by unfold maxLen; omega, by rw [size_madeCells, Nat.mul_one], ?_⟩⟩
  show (madeCells #[Value.int .u8 0] n).toList.take (1 * 1) = _
  rw [toList_madeCells_one, List.take_replicate, Nat.min_eq_left (by omega)]
  rfl

theorem RowB.cell0 {w0 w : World} {G n cap : Nat} {os : List Int} (h : RowB w0 w G n cap os) (j : Nat) (hj : j < n) : w.cell? ⟨G, j, none⟩ = some (.int .u8 (os.getD j 0)) := by
  have := h.bytes j (by rw [h.len]; exact hj)
  simpa using this
theorem RowB.free {w0 w : World} {G n cap : Nat} {os : List Int} (h : RowB w0 w G n cap os) (j : Nat) : w.frozen? ⟨G, j, none⟩ = false := h.own.frozenAt j
theorem RowB.lt {w0 w : World} {G n cap : Nat} {os : List Int} (h : RowB w0 w G n cap os) : G < w.heap.size := (h.own.lt G rfl).2
theorem RowB.store {w0 w : World} {G n cap : Nat} {os : List Int} (h : RowB w0 w G n cap os) (j : Nat) (y : Int) : RowB w0 (w.setCell ⟨G, j, none⟩ (.int .u8 y)) G n cap (os.set j y) := by
  have := (h.own.stored j (.int .u8 y)).1
  rw [← List.map_set] at this
  exact ⟨h.base, h.below.setCell (p := ⟨G, j, none⟩) h.base _, this⟩

theorem RowB.kept' {w0 w w' : World} {G n cap : Nat} {os : List Int} (h : RowB w0 w G n cap os) (hg : w.grownBy w' none) : RowB w0 w' G n cap os :=
  ⟨h.base, h.below.grown hg h.below.size (fun k hk => by cases hk), h.own.kept hg (.inr (by simp [Value.ownBlock]))⟩

/-- Two rows. -/
structure Two (w0 w : World) (G1 n1 c1 : Nat) (os : List Int) (G2 n2 c2 : Nat) (cl : List Int) : Prop where
  r1 : RowB w0 w G1 n1 c1 os
  r2 : RowB w0 w G2 n2 c2 cl
  ne : G1 ≠ G2

theorem Two.alloc {w0 w : World} {G1 n1 c1 G2 n2 c2 : Nat} {os cl : List Int} (h : Two w0 w G1 n1 c1 os G2 n2 c2 cl) (o : Obj) : Two w0 (w.alloc o) G1 n1 c1 os G2 n2 c2 cl :=
  ⟨h.r1.alloc o, h.r2.alloc o, h.ne⟩

theorem Two.pop {w0 w : World} {G1 n1 c1 G2 n2 c2 : Nat} {os cl : List Int} (h : Two w0 w G1 n1 c1 os G2 (n2 + 1) c2 cl) : Two w0 w G1 n1 c1 os G2 n2 c2 (cl.take n2) := ⟨h.r1, h.r2.pop, h.ne⟩

/-- One byte more in the first row: the byte has just been laid in a block of its own. -/
theorem wpList_pushT1 {w : World} {ops : Array Oper} {rest : List Oper} {o : Oper} {a : Act} {Q : Exit → Act → World → Prop}
    (hg : o.guard = none) (s x : Operand) (hop : o.op = Op.call { callee := Callee.builtin Builtin.append, args := #[s, x], argTypes := #[22, 22] })
    (w0 : World) (G1 n1 c1 : Nat) (os : List Int) (G2 n2 c2 : Nat) (cl : List Int) (y : Int) (hs : a.eval s = .slice (some ⟨G1, 0, none⟩) n1 c1) (g : Nat) (hx : a.eval x = .slice (some ⟨g, 0, none⟩) 1 1) (hgz : g = w.heap.size)
    (hT : Two w0 w G1 n1 c1 os G2 n2 c2 cl) (b1 : n1 + 1 ≤ c1)
    (hK : ∀ w', Two w0 w' G1 (n1 + 1) c1 (os ++ [y]) G2 n2 c2 cl → wpList Try.prog ops Q rest (a.put o.dst (.slice (some ⟨G1, 0, none⟩) (n1 + 1) c1)) w') :
    wpList Try.prog ops Q (o :: rest) a (w.alloc (.cells #[.int .u8 y] 5)) :=
  wpList_pushB hg s x hop w0 G1 n1 c1 os y hs (hT.r1.alloc _) _ hx (by rw [hgz]; exact cell_new _ _ _) b1 fun w' hR hgr => hK w' ⟨hR, (hT.r2.alloc _).kept hgr hT.ne.symm hT.r1.base, hT.ne⟩

theorem wpList_pushT2 {w : World} {ops : Array Oper} {rest : List Oper} {o : Oper} {a : Act} {Q : Exit → Act → World → Prop}
    (hg : o.guard = none) (s x : Operand) (hop : o.op = Op.call { callee := Callee.builtin Builtin.append, args := #[s, x], argTypes := #[22, 22] })
    (w0 : World) (G1 n1 c1 : Nat) (os : List Int) (G2 n2 c2 : Nat) (cl : List Int) (y : Int) (hs : a.eval s = .slice (some ⟨G2, 0, none⟩) n2 c2) (g : Nat) (hx : a.eval x = .slice (some ⟨g, 0, none⟩) 1 1) (hgz : g = w.heap.size)
    (hT : Two w0 w G1 n1 c1 os G2 n2 c2 cl) (b1 : n2 + 1 ≤ c2)
    (hK : ∀ w', Two w0 w' G1 n1 c1 os G2 (n2 + 1) c2 (cl ++ [y]) → wpList Try.prog ops Q rest (a.put o.dst (.slice (some ⟨G2, 0, none⟩) (n2 + 1) c2)) w') :
    wpList Try.prog ops Q (o :: rest) a (w.alloc (.cells #[.int .u8 y] 5)) :=
  wpList_pushB hg s x hop w0 G2 n2 c2 cl y hs (hT.r2.alloc _) _ hx (by rw [hgz]; exact cell_new _ _ _) b1 fun w' hR hgr => hK w' ⟨(hT.r1.alloc _).kept hgr hT.ne hT.r2.base, hR, hT.ne⟩

/-- A string's bytes as numbers. -/
def txt (s : ByteArray) : List Int := s.data.toList.map fun c => (c.toNat : Int)
theorem txt_len (s : ByteArray) : (txt s).length = s.size := by unfold txt; rw [List.length_map, Array.length_toList]; rfl
theorem txt_at (s : ByteArray) (k : Nat) (h : k < s.size) : (txt s).take (k + 1) = (txt s).take k ++ [((s[k]).toNat : Int)] := by
  have h' : k < (txt s).length := by rw [txt_len]; exact h
  rw [List.take_succ_eq_append_getElem h']
  simp [txt]
  rfl

set_option maxHeartbeats 800000 in
/-- 'appendText(out, s)'. -/
theorem text_any (w0 w : World) (G1 n1 c1 : Nat) (os : List Int) (G2 n2 c2 : Nat) (cl : List Int) (s : ByteArray) (hT : Two w0 w G1 n1 c1 os G2 n2 c2 cl) (hc : c1 ≤ 1048576) (b1 : n1 + s.size ≤ c1) :
    Calls Try.prog 32 #[.slice (some ⟨G1, 0, none⟩) n1 c1, .string s] w fun e w' => e = .returned (.slice (some ⟨G1, 0, none⟩) (n1 + s.size) c1) ∧ Two w0 w' G1 (n1 + s.size) c1 (os ++ txt s) G2 n2 c2 cl := by
  go_enter Try.func32, Try.ntmps32
  go_wp2
  go_loopw [0, 5] (fun v i wr => ∃ k : Nat, k ≤ s.size ∧ i = .int .i64 k ∧ v = .slice (some ⟨G1, 0, none⟩) (n1 + k) c1 ∧ Two w0 wr G1 (n1 + k) c1 (os ++ (txt s).take k) G2 n2 c2 cl)
    (fun _ i _ => s.size - (intOf i).toNat)
  case atStart => exact ⟨0, Nat.zero_le _, rfl, rfl, by simpa using hT⟩
  case round =>
    obtain ⟨k, hk, rfl, rfl, hR⟩ := hrel
    by_cases hlt : k < s.size
    · have HT : Hid ((txt s).take (k + 1) = (txt s).take k ++ [((s[k]).toNat : Int)]) := txt_at s k hlt
      clear hT
      go_wp2_with (at_builtin; refine wpList_pushT1 rfl (.tmp 12) (.tmp 16) rfl w0 G1 (n1 + k) c1 _ G2 n2 c2 cl _ rfl _ rfl rfl hR (by omega) ?_; intro w2 hR2)
      go_roundw
      case rel => exact ⟨k + 1, by omega, by go_num, rfl, by rw [HT.out, ← List.append_assoc]; exact hR2⟩
      case measure => simp [intOf]; omega
    · have hkk : k = s.size := by omega
      have e : (txt s).take k = txt s := List.take_of_length_le (by rw [txt_len]; omega)
      rw [e] at hR
      clear e hT
      subst hkk
      go_wp2
      go_ret
      exact ⟨rfl, hR⟩

theorem text_lit (w0 w : World) (G1 n1 c1 : Nat) (os : List Int) (G2 n2 c2 : Nat) (cl : List Int) (s : ByteArray) (L : List Int) (m : Nat) (hm : s.size = m) (hL : txt s = L) (hT : Two w0 w G1 n1 c1 os G2 n2 c2 cl) (hc : c1 ≤ 1048576) (b1 : n1 + m ≤ c1) :
    Calls Try.prog 32 #[.slice (some ⟨G1, 0, none⟩) n1 c1, .string s] w fun e w' => e = .returned (.slice (some ⟨G1, 0, none⟩) (n1 + m) c1) ∧ Two w0 w' G1 (n1 + m) c1 (os ++ L) G2 n2 c2 cl := by
  subst hm; subst hL
  exact text_any w0 w G1 n1 c1 os G2 n2 c2 cl s hT hc b1

end Go.Proofs.Qxb6600806a
