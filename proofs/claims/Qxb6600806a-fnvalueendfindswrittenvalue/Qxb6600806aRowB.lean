/-
  SEAT b6600806a: ROWS OF BYTES: what came in ('IsRow', 'Seen'), and what the call itself makes ('RowB'), with the laws on make, append and copy in the form that the walks take.
-/
import Derived.Test.Qxb6600806aRows
import Derived.Test.Qxb6600806aPlain
import Derived.WalkKit
import Derived.ProofKit
import Derived.Below
import Derived.Laws.CopyOwn
import Derived.WalkSpells
import Derived.WalkSmall
import Derived.OpenShut
namespace Go.Proofs.Qxb6600806a
open Go.ChangeShapes Go.WideShapes Go.ChangeAt Go.RowKit
set_option linter.unusedVariables false

theorem ret_int {k : IntKind} {a b : Int} (h : a = b) : Ending.returned (.int k a) = .returned (.int k b) := by rw [h]
theorem ret_bool {a b : Bool} (h : a = b) : Ending.returned (.bool a) = .returned (.bool b) := by rw [h]
theorem Try.info5 : (Try.prog.info? 5).map (fun i => (i.zero, i.size, i.bytes)) = some (some (.int .u8 0), 1, 1) := by kernel_rfl

/-- The cells of a row of bytes. -/
def Bytes (w : World) (b off : Nat) (d : List Int) : Prop := ∀ i, i < d.length → w.cell? ⟨b, off + i, none⟩ = some (.int .u8 (d.getD i 0))

theorem Bytes.lt {w : World} {b off : Nat} {d : List Int} (h : Bytes w b off d) (hd : 0 < d.length) : b < w.heap.size := World.block_lt_of_cell? w _ (h 0 hd)
theorem Bytes.below {B : Nat} {w w' : World} {b off : Nat} {d : List Int} (h : Bytes w b off d) (hb : Below B w w') (hB : b < B) : Bytes w' b off d :=
  fun i hi => (hb.cell (p := ⟨b, off + i, none⟩) hB).trans (h i hi)

/-- WHAT THE WALK IS TOLD OF A SLICE OF INTEGERS THAT CAME IN (the shells' own words). -/
def IsRow (k : IntKind) (w : World) (a : Option Addr) (len cap : Nat) (zs : List Int) : Prop :=
  (a = none ∧ len = 0 ∧ cap = 0 ∧ zs = []) ∨
  ∃ x, a = some x ∧ len ≤ cap ∧ cap ≤ maxLen ∧ zs.length = cap ∧ (∀ i, i < zs.length → w.cell? (x.add i) = some (.int k (zs.getD i 0))) ∧ ∀ n ∈ zs, (Lit.int k n).wf = true

/-- The same in one form, nil or not: its bytes are 'd'. -/
structure Seen (w : World) (a : Option Addr) (cap : Nat) (d : List Int) : Prop where
  le : d.length ≤ cap
  room : cap ≤ maxLen
  nil : a = none → d.length = 0 ∧ cap = 0
  cells : ∀ ad, a = some ad → ∀ j u, (d.map (Value.int .u8))[j]? = some u → w.cell? (ad.add j) = some u
  at_ : 0 < d.length → ∃ b off, a = some ⟨b, off, none⟩ ∧ Bytes w b off d ∧ b < w.heap.size
  wf : ∀ n ∈ d, 0 ≤ n ∧ n ≤ 255

theorem seen_of_row {w : World} {a : Option Addr} {len cap : Nat} {zs : List Int} (h : IsRow .u8 w a len cap zs) : ∃ d : List Int, d.length = len ∧ Seen w a cap d := by
  rcases h with ⟨rfl, rfl, rfl, rfl⟩ | ⟨x, rfl, hl, hm, hz, hc, hw⟩
  · exact ⟨[], rfl, ⟨Nat.le_refl _, Nat.zero_le _, fun _ => ⟨rfl, rfl⟩, fun _ h => by (cases h), fun h => absurd h (by simp), by simp⟩⟩
  · have hlen : (zs.take len).length = len := by simp; omega
    have hget : ∀ i, i < len → (zs.take len).getD i 0 = zs.getD i 0 := fun i hi => by simp [List.getD, hi]
    refine ⟨zs.take len, hlen, ⟨by omega, hm, fun h => (by cases h), ?_, ?_, ?_⟩⟩
    · intro ad had j u hu
      obtain rfl := Option.some.inj had
      have hj := (List.getElem?_eq_some_iff.1 hu).1
      simp only [List.length_map] at hj
      rw [hc j (by omega), ← hget j (by omega)]
      rw [← hu, List.getElem?_map, List.getElem?_eq_getElem hj]
      simp only [List.getD, List.getElem?_eq_getElem hj, Option.map_some, Option.getD_some]
    · intro h0
      have h00 := hc 0 (by omega)
      obtain ⟨b, off, spot⟩ := x
      have hs : spot = none := by simpa [Addr.add] using World.cell?_spot h00
      subst hs
      refine ⟨b, off, rfl, fun i hi => ?_, World.block_lt_of_cell? w _ h00⟩
      rw [hget i (by omega), ← hc i (by omega), Addr.add_lit]
    · intro n hn
      have := hw n (List.mem_of_mem_take hn)
      have := bounds_u8 this
      omega

/-- A ROW OF BYTES THAT THE CALL HAS MADE: the slice value at block G, 'n' bytes 'os', room for 'cap'; below the heap's size at the call's start nothing has turned. -/
structure RowB (w0 w : World) (G n cap : Nat) (os : List Int) : Prop where
  base : w0.heap.size ≤ G
  below : Below w0.heap.size w0 w
  own : w.ownsRow w0.heap.size 5 1 (.slice (some ⟨G, 0, none⟩) n cap) n (os.map (Value.int .u8))

theorem RowB.len {w0 w : World} {G n cap : Nat} {os : List Int} (h : RowB w0 w G n cap os) : os.length = n := by
  have := h.own.1; simpa using this
theorem RowB.cast {w0 w : World} {G n n' cap : Nat} {os os' : List Int} (h : RowB w0 w G n cap os) (hn : n = n') (ho : os = os') : RowB w0 w G n' cap os' := by subst hn; subst ho; exact h
theorem RowB.bytes {w0 w : World} {G n cap : Nat} {os : List Int} (h : RowB w0 w G n cap os) : Bytes w G 0 os := by
  intro i hi
  have hn := h.len
  rw [Nat.zero_add, h.own.cellAt i (by omega)]
  simp [List.getD, hi]
theorem RowB.alloc {w0 w : World} {G n cap : Nat} {os : List Int} (h : RowB w0 w G n cap os) (o : Obj) : RowB w0 (w.alloc o) G n cap os :=
  ⟨h.base, h.below.alloc h.below.size o, h.own.alloc o⟩
theorem RowB.kept {w0 w w' : World} {G n cap G' : Nat} {os : List Int} (h : RowB w0 w G n cap os) (hg : w.grownBy w' (some G')) (hne : G ≠ G') (hG' : w0.heap.size ≤ G') : RowB w0 w' G n cap os :=
  ⟨h.base, h.below.grown hg h.below.size (fun k hk => by cases hk; exact hG'), h.own.kept hg (.inr (by simpa [Value.ownBlock] using hne))⟩
theorem RowB.pop {w0 w : World} {G n cap : Nat} {os : List Int} (h : RowB w0 w G (n + 1) cap os) : RowB w0 w G n cap (os.take n) := by
  refine ⟨h.base, h.below, ?_⟩
  have hl := h.len
  have e : os.map (Value.int .u8) = (os.take n).map (Value.int .u8) ++ (os.drop n).map (Value.int .u8) := by rw [← List.map_append, List.take_append_drop]
  have := h.own
  rw [e] at this
  exact ownsRow_pop (by simp; omega) this

theorem cell_new (w : World) (v : Value) (t : TypeId) : (w.alloc (.cells #[v] t)).cell? ⟨w.heap.size, 0, none⟩ = some v := by
  simp

/-- One byte more, within the room. -/
theorem wpList_pushB {w : World} {ops : Array Oper} {rest : List Oper} {o : Oper} {a : Act} {Q : Exit → Act → World → Prop}
    (hg : o.guard = none) (s x : Operand) (hop : o.op = Op.call { callee := Callee.builtin Builtin.append, args := #[s, x], argTypes := #[22, 22] })
    (w0 : World) (G n cap : Nat) (os : List Int) (y : Int) (hs : a.eval s = .slice (some ⟨G, 0, none⟩) n cap) (hR : RowB w0 w G n cap os)
    (g : Nat) (hx : a.eval x = .slice (some ⟨g, 0, none⟩) 1 1) (hc : w.cell? ⟨g, 0, none⟩ = some (.int .u8 y)) (b1 : n + 1 ≤ cap)
    (hK : ∀ w', RowB w0 w' G (n + 1) cap (os ++ [y]) → w.grownBy w' (some G) → wpList Try.prog ops Q rest (a.put o.dst (.slice (some ⟨G, 0, none⟩) (n + 1) cap)) w') :
    wpList Try.prog ops Q (o :: rest) a w := by
  obtain ⟨i0, hi, hz0, hz1, hz2⟩ := info_parts Try.info5
  refine wpList_append_fits w hg s x 22 hop w0.heap.size 5 i0 1 Try.underlying22 hi hz1 G n cap _ hs hR.own ⟨g, 0, none⟩ 1 1 [.int .u8 y] hx rfl ?_ (by intro u hu; simp at hu; subst hu; rfl) b1 ?_
  · intro j u hj
    match j, hj with
    | 0, hj => simp at hj; subst hj; simpa [Addr.add] using hc
  · intro w' hown hgr
    exact hK w' ⟨hR.base, hR.below.grown hgr hR.below.size (fun k hk => by cases hk; exact hR.base), by simpa using hown⟩ hgr

/-- 'append(out, xs...)', within the room; xs came in, nil or not. -/
theorem wpList_manyB {w : World} {ops : Array Oper} {rest : List Oper} {o : Oper} {a : Act} {Q : Exit → Act → World → Prop}
    (hg : o.guard = none) (s x : Operand) (hop : o.op = Op.call { callee := Callee.builtin Builtin.append, args := #[s, x], argTypes := #[22, 22] })
    (w0 : World) (G n cap : Nat) (os : List Int) (hs : a.eval s = .slice (some ⟨G, 0, none⟩) n cap) (hR : RowB w0 w G n cap os)
    (ao : Option Addr) (m c : Nat) (d : List Int) (hx : a.eval x = .slice ao m c) (hm : d.length = m) (hnil : ao = none → m = 0 ∧ c = 0)
    (hc : ∀ ad, ao = some ad → ∀ j u, (d.map (Value.int .u8))[j]? = some u → w.cell? (ad.add j) = some u) (b1 : n + m ≤ cap)
    (hK : ∀ w', RowB w0 w' G (n + m) cap (os ++ d) → w.grownBy w' (some G) → wpList Try.prog ops Q rest (a.put o.dst (.slice (some ⟨G, 0, none⟩) (n + m) cap)) w') :
    wpList Try.prog ops Q (o :: rest) a w := by
  obtain ⟨i0, hi, hz0, hz1, hz2⟩ := info_parts Try.info5
  refine wpList_append_fits_any w hg s x 22 hop w0.heap.size 5 i0 1 Try.underlying22 hi hz1 G n cap _ hs hR.own ao m c (d.map (Value.int .u8)) hx (by simp [hm]) hnil hc (ints_oneCell _ _) b1 ?_
  intro w' hown hgr
  exact hK w' ⟨hR.base, hR.below.grown hgr hR.below.size (fun k hk => by cases hk; exact hR.base), by simpa using hown⟩ hgr

/-- 'make([]byte, 0, n)'. -/
theorem wpList_makeB {w : World} {ops : Array Oper} {rest : List Oper} {o : Oper} {a : Act} {Q : Exit → Act → World → Prop}
    (hg : o.guard = none) (l c : Operand) (hop : o.op = Op.makeSlice 22 l c) (w0 : World) (hb : Below w0.heap.size w0 w) (C : Int) (n : Nat) (hl : a.eval l = .int .i64 0) (hc : a.eval c = .int .i64 C) (hC : C = (n : Int)) (hn : n ≤ 281474976710656)
    (hK : ∀ w', RowB w0 w' w.heap.size 0 n [] → w.grownBy w' none → wpList Try.prog ops Q rest (a.put o.dst (.slice (some ⟨w.heap.size, 0, none⟩) 0 n)) w') :
    wpList Try.prog ops Q (o :: rest) a w := by
  obtain ⟨i0, hi, hz0, hz1, hz2⟩ := info_parts Try.info5
  refine wpList_make_own w hg l c 22 hop w0.heap.size 5 i0 (.int .u8 0) 1 Try.underlying22 hi hz0 hz1 .i64 .i64 C n hl hc hC (by rw [hz2]; omega) (by unfold maxLen; omega) hb.size ?_
  intro w' hown hgr
  exact hK w' ⟨hb.size, hb.grown hgr hb.size (fun k hk => by cases hk), by simpa using hown⟩ hgr

/-- 'make([]byte, n)'. -/
theorem wpList_makeFullB {w : World} {ops : Array Oper} {rest : List Oper} {o : Oper} {a : Act} {Q : Exit → Act → World → Prop}
    (hg : o.guard = none) (l c : Operand) (hop : o.op = Op.makeSlice 22 l c) (w0 : World) (hb : Below w0.heap.size w0 w) (L C : Int) (n : Nat) (hl : a.eval l = .int .i64 L) (hc : a.eval c = .int .i64 C) (hL : L = (n : Int)) (hC : C = (n : Int)) (hn : n ≤ 281474976710656)
    (hK : ∀ w', RowB w0 w' w.heap.size n n (List.replicate n 0) → w.grownBy w' none → wpList Try.prog ops Q rest (a.put o.dst (.slice (some ⟨w.heap.size, 0, none⟩) n n)) w') :
    wpList Try.prog ops Q (o :: rest) a w := by
  obtain ⟨i0, hi, hz0, hz1, hz2⟩ := info_parts Try.info5
  refine wpList_make_full w hg l c 22 hop w0.heap.size 5 i0 (.int .u8 0) 1 Try.underlying22 hi hz0 hz1 .i64 .i64 L C n hl hc hL hC (by rw [hz2]; omega) (by unfold maxLen; omega) hb.size ?_
  intro w' hown hgr
  refine hK w' ⟨hb.size, hb.grown hgr hb.size (fun k hk => by cases hk), ?_⟩ hgr
  have e : (madeCells (Value.int .u8 0).cells (n * 1)).toList = (List.replicate n 0).map (Value.int .u8) := by
    rw [Nat.mul_one]
    show (madeCells #[Value.int .u8 0] n).toList = _
    rw [toList_madeCells_one]; simp
  rw [e] at hown
  exact hown

/-- 'copy(zzc, data)', both of one length: the row that the call made now holds data's bytes: A RUN EQUATION, to be laid among the hypotheses as soon as the row is made. -/
theorem copy_run {w0 w : World} {G n cap c : Nat} {os ds : List Int} {ao : Option Addr} (hR : RowB w0 w G n cap os) (hm : ds.length = n) (hS : Seen w0 ao c ds) :
    ∃ w', (Builtin.copy_ #[22, 22] 3 #[.slice (some ⟨G, 0, none⟩) n cap, .slice ao n c]).run Try.prog w = .ok (.int .i64 n) w' ∧ RowB w0 w' G n cap ds := by
  obtain ⟨h1, h2⟩ := hR.own
  rcases h2 with ⟨h', _⟩ | ⟨g', cap', cur, h', hb, hgc, hnc, hcm, hcs, htake⟩
  · simp at h'
  · simp only [Value.slice.injEq, Option.some.injEq, Addr.mk.injEq, and_true, true_and] at h'
    obtain ⟨rfl, rfl⟩ := h'
    have hlen : (ds.map (Value.int .u8)).length = n := by simp [hm]
    have hcur : cur.toList.length = cap := by simpa using hcs
    by_cases h0 : n = 0
    · subst h0
      obtain rfl : ds = [] := List.eq_nil_of_length_eq_zero hm
      have hl := hR.len
      obtain rfl : os = [] := List.eq_nil_of_length_eq_zero hl
      exact ⟨w, run_copy_none w 22 22 3 5 _ ao 0 cap 0 c Try.underlying22 (by kernel_rfl) rfl, hR⟩
    · obtain ⟨b, off, rfl, hB, hlt⟩ := hS.at_ (by omega)
      have hrun := run_copy_row (P := Try.prog) w 22 22 3 5 G 0 n cap ⟨b, off, none⟩ n c cur 5 (ds.map (Value.int .u8)) Try.underlying22 (by kernel_rfl) hgc (by rw [hlen]; exact (Nat.min_self n).symm)
        (fun j u hu => (hR.below.cell (p := (⟨b, off, none⟩ : Addr).add j) (by rw [Addr.add_lit]; exact hlt)).trans (hS.cells _ rfl j u hu)) (by rw [hlen]; simp at hcur; omega) (ints_oneCell _ _)
      rw [hlen] at hrun
      refine ⟨_, hrun, hR.base, below_setRow hR.below hR.base _, ?_⟩
      refine ⟨by simp [hm], .inr ⟨G, cap, _, rfl, hR.base, setRow_heap w G _ _ 5 _ hgc, hnc, hcm, ?_, ?_⟩⟩
      · simp at hcur ⊢; omega
      · simp only [List.take_zero, List.nil_append, Nat.mul_one]
        rw [List.take_append_of_le_length (by omega), List.take_of_length_le (by omega)]

end Go.Proofs.Qxb6600806a
