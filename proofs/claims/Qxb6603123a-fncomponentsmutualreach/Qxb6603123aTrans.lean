/-
  SEAT b6603123a: 'zzTranspose'.
-/
import Derived.Test.Qxb6603123aClone
import Derived.Test.Qxb6603123aVisit
import Derived.ArgAppend
namespace Go.Proofs.Qxb6603123a
open Go.ChangeShapes Go.WideShapes Go.ChangeAt Go.RowKit
set_option linter.unusedVariables false

theorem own_base {w : World} {base base' e size n : Nat} {v : Value} {xs : List Value} (h : w.ownsRow base e size v n xs) (hb : base' ≤ base) : w.ownsRow base' e size v n xs := by
  refine ⟨h.1, ?_⟩
  rcases h.2 with h1 | ⟨g, cap, cur, hv, hg, r⟩
  · exact .inl h1
  · exact .inr ⟨g, cap, cur, hv, by omega, r⟩

/-- 'append(row, y)' on a row that the call owns, of several: the new value lies where the old one lay, or in a new block. -/
theorem wpList_push1 {w : World} {ops : Array Oper} {rest : List Oper} {o : Oper} {a : Act} {Q : Exit → Act → World → Prop}
    (hg : o.guard = none) (s x : Operand) (hop : o.op = Op.call { callee := Callee.builtin Builtin.append, args := #[s, x], argTypes := #[27, 27] })
    (base : Nat) (rv : Value) (n : Nat) (xs : List Value) (hs : a.eval s = rv) (hown : w.ownsRow base 3 1 rv n xs) (y : Value) (hy : y.oneCell' = true) (ad : Addr) (hx : a.eval x = .slice (some ad) 1 1) (hc : w.cell? ad = some y)
    (hn : n ≤ 1048576) (hbase : base ≤ w.heap.size)
    (hK : ∀ v' w', w'.ownsRow base 3 1 v' (n + 1) (xs ++ [y]) → w.grownBy w' rv.ownBlock → (v'.ownBlock = rv.ownBlock ∨ ∃ g, v'.ownBlock = some g ∧ w.heap.size ≤ g) → wpList Try.prog ops Q rest (a.put o.dst v') w') :
    wpList Try.prog ops Q (o :: rest) a w := by
  obtain ⟨i0, hi, hz0, hz1, hz2⟩ := info_parts Try.info3
  have hcc : ∀ j u, [y][j]? = some u → w.cell? (ad.add j) = some u := by
    intro j u hj
    match j, hj with
    | 0, hj => simp at hj; subst hj; simpa [Addr.add] using hc
  have h1c : ∀ u ∈ [y], u.oneCell' = true := by intro u hu; simp at hu; subst hu; exact hy
  have grow : ∀ (ao : Option Addr) (cap : Nat), rv = .slice ao n cap → (ao = none → n = 0 ∧ cap = 0) → (∀ b, ao = some b → ∀ j u, xs[j]? = some u → w.cell? (b.add j) = some u) → cap < n + 1 → wpList Try.prog ops Q (o :: rest) a w := by
    intro ao cap hrv hnone hcells hfull
    refine wpList_append_grows w hg s x 27 hop 3 i0 (.int .i64 0) 1 8 Try.underlying27 hi hz0 hz1 hz2 rfl (by decide) ao n cap xs (by rw [hs, hrv]) hnone hown.1 hcells ad 1 1 [y] hx rfl hcc h1c hfull (by unfold maxLen; omega) (by omega) ?_
    intro v' w' ho hgr
    refine hK v' w' (own_base ho hbase) ⟨hgr.os, hgr.tape, hgr.output, hgr.size, fun k hk _ => hgr.block k hk (by simp)⟩ (.inr ?_)
    rcases ho.2 with ⟨_, h0⟩ | ⟨g, cap', cur, hv, hge, _⟩
    · omega
    · exact ⟨g, by rw [hv]; rfl, hge⟩
  rcases hown.2 with ⟨h1, h0⟩ | ⟨g, cap, cur, hv, hge, hgc, hnc, hcm, hcs, htk⟩
  · exact grow none 0 (by rw [h1, h0]) (fun _ => ⟨h0, rfl⟩) (fun b hb => by cases hb) (by omega)
  · by_cases hfit : n + 1 ≤ cap
    · refine wpList_append_fits w hg s x 27 hop base 3 i0 1 Try.underlying27 hi hz1 g n cap xs (by rw [hs, hv]) (by rw [← hv]; exact hown) ad 1 1 [y] hx rfl hcc h1c hfit ?_
      intro w' ho hgr
      exact hK _ w' ho (by rw [hv]; exact hgr) (.inl (by rw [hv]; rfl))
    · exact grow (some ⟨g, 0, none⟩) cap hv (fun h => by cases h) (fun b hb => by obtain rfl := Option.some.inj hb; exact hown.cells (by rw [hv]; rfl)) (by omega)

theorem cell_new1 (w : World) (v : Value) (t : TypeId) : (w.alloc (.cells #[v] t)).cell? ⟨w.heap.size, 0, none⟩ = some v := by simp

/-- n rows that grow, told by one row of slices. -/
structure Tr (w0 w : World) (G n : Nat) (R : Nat → Value) (L : Nat → List Int) : Prop where
  top : w.rowIs G 27 n R
  rows : ∀ i, i < n → w.ownsRow (G + 1) 3 1 (R i) (L i).length ((L i).map (Value.int .i64))
  apart : ∀ i j, i < n → j < n → i ≠ j → ∀ g, (R i).ownBlock = some g → (R j).ownBlock ≠ some g
  below : Below w0.heap.size w0 w
  base : w0.heap.size ≤ G

theorem Tr.push {w0 w w1 : World} {G n : Nat} {R : Nat → Value} {L : Nat → List Int} (h : Tr w0 w G n R L) {v : Nat} (hv : v < n) (o : Obj) {y : Int} {v' : Value}
    (ho : w1.ownsRow (G + 1) 3 1 v' ((L v).length + 1) ((L v).map (Value.int .i64) ++ [.int .i64 y])) (hg : (w.alloc o).grownBy w1 (R v).ownBlock) (hd : v'.ownBlock = (R v).ownBlock ∨ ∃ g, v'.ownBlock = some g ∧ (w.alloc o).heap.size ≤ g) :
    Tr w0 (w1.setCell ⟨G, v, none⟩ v') G n (upd R v v') (upd L v (L v ++ [y])) := by
  have hGs := h.top.lt
  have hB := h.base
  have hz : (w.alloc o).heap.size = w.heap.size + 1 := by simp
  have hrb : ∀ k, (R v).ownBlock = some k → G + 1 ≤ k := fun k hk => ((h.rows v hv).lt k hk).1
  have htop : w1.rowIs G 27 n R := (h.top.alloc o).of_block (hg.block G (by rw [hz]; omega) (fun e => by have := hrb G e.symm; omega))
  refine ⟨(htop.set v _).congr (fun i hi => ?_), fun i hi => ?_, fun i j hi hj hij g hgi hgj => ?_, ((h.below.alloc h.below.size o).grown hg (by have := h.below.size; rw [hz]; omega) (fun k hk => by have := hrb k hk; omega)).setCell (by exact hB) _, hB⟩
  · unfold upd; split <;> rfl
  · by_cases e : i = v
    · subst e
      rw [upd_same, upd_same]
      have := ownsRow_setCell_below ho (a := ⟨G, i, none⟩) (by show G < G + 1; omega) v'
      simpa using this
    · rw [upd_other _ _ _ _ e, upd_other _ _ _ _ e]
      refine ownsRow_setCell_below (((h.rows i hi).alloc o).kept hg ?_) (by show G < G + 1; omega) _
      cases hb : (R i).ownBlock with
      | none => exact .inl rfl
      | some g => exact .inr (fun e2 => h.apart i v hi hv e g hb e2.symm)
  · have lt : ∀ k, k < n → ∀ g, (R k).ownBlock = some g → g < w.heap.size := fun k hk g hg => ((h.rows k hk).lt g hg).2
    by_cases ei : i = v
    · subst ei
      rw [upd_same] at hgi
      rw [upd_other _ _ _ _ (fun e => hij e.symm)] at hgj
      rcases hd with hd | ⟨g', hd, hge⟩
      · rw [hd] at hgi; exact h.apart i j hi hj hij g hgi hgj
      · rw [hd] at hgi; cases hgi; have := lt j hj g hgj; rw [hz] at hge; omega
    · rw [upd_other _ _ _ _ ei] at hgi
      by_cases ej : j = v
      · subst ej
        rw [upd_same] at hgj
        rcases hd with hd | ⟨g', hd, hge⟩
        · rw [hd] at hgj; exact h.apart i j hi hj hij g hgi hgj
        · rw [hd] at hgj; cases hgj; have := lt i hi g hgi; rw [hz] at hge; omega
      · rw [upd_other _ _ _ _ ej] at hgj
        exact h.apart i j hi hj hij g hgi hgj

def addrOf : Value → Option Addr | .slice a _ _ => a | _ => none
def capOf : Value → Nat | .slice _ _ c => c | _ => 0

theorem Tr.m2 {w0 w : World} {G n : Nat} {R : Nat → Value} {L : Nat → List Int} (h : Tr w0 w G n R L) (hl : ∀ i, i < n → (L i).length ≤ maxLen) : M2 w (some ⟨G, 0, none⟩) n (fun i => addrOf (R i)) (fun i => capOf (R i)) L := by
  refine ⟨fun _ => ⟨G, 0, rfl, fun i hi => ?_⟩, fun i hi h0 => ?_, hl⟩
  · have := h.top.cell hi
    rcases (h.rows i hi).2 with ⟨h1, h2⟩ | ⟨g, cap, cur, hv, _⟩
    · rw [h1] at this ⊢; rw [h2]; simpa [addrOf, capOf] using this
    · rw [hv] at this ⊢; simpa [addrOf, capOf] using this
  · have ho := h.rows i hi
    obtain ⟨g, cap, hv⟩ := own_shape ho (by omega)
    refine ⟨g, 0, by rw [hv]; rfl, fun j hj => ?_⟩
    rw [hv] at ho
    rw [Nat.zero_add, ho.cellAt j (by omega)]
    simp [List.getD, hj]

theorem sumL_upd_out (L : Nat → List Int) (v n : Nat) (t : List Int) (h : n ≤ v) : sumL (upd L v t) n = sumL L n := by
  induction n with
  | zero => rfl
  | succ n ih => simp only [sumL]; rw [ih (by omega), upd_other _ _ _ _ (by omega)]
theorem sumL_push (L : Nat → List Int) (v n : Nat) (y : Int) (h : v < n) : sumL (upd L v (L v ++ [y])) n = sumL L n + 1 := by
  induction n with
  | zero => omega
  | succ n ih =>
    simp only [sumL]
    by_cases e : v = n
    · subst e
      rw [sumL_upd_out _ _ _ _ (Nat.le_refl _), upd_same]; simp; omega
    · rw [ih (by omega), upd_other _ _ _ _ (by omega)]; omega

/-- The rows L are the transpose of T as far as (u, q). -/
structure TI (n : Nat) (T L : Nat → List Int) (u q : Nat) : Prop where
  mem : ∀ v, v < n → ∀ x : Int, x ∈ L v ↔ ∃ a : Nat, x = a ∧ ((a < u ∧ (v : Int) ∈ T a) ∨ (a = u ∧ (v : Int) ∈ (T u).take q))
  sum : sumL L n = sumL T u + q

theorem TI.start (n : Nat) (T : Nat → List Int) : TI n T (fun _ => []) 0 0 := by
  refine ⟨fun v hv x => ?_, ?_⟩
  · simp
  · have : ∀ m, sumL (fun _ => []) m = 0 := by
      intro m
      induction m with
      | zero => rfl
      | succ m ih => simp [sumL, ih]
    rw [this]; rfl

theorem TI.push {n : Nat} {T L : Nat → List Int} {u q : Nat} (h : TI n T L u q) (hq : q < (T u).length) {v : Nat} (hv : v < n) (e : (T u).getD q 0 = v) : TI n T (upd L v (L v ++ [(u : Int)])) u (q + 1) := by
  have ht : (T u).take (q + 1) = (T u).take q ++ [(v : Int)] := by
    rw [List.take_succ_eq_append_getElem hq, ← e]; simp [List.getD, hq]
  refine ⟨fun z hz x => ?_, ?_⟩
  · by_cases ez : z = v
    · subst ez
      rw [upd_same, List.mem_append, h.mem z hz, ht]
      constructor
      · rintro (⟨a, rfl, h1 | ⟨rfl, h1⟩⟩ | hx)
        · exact ⟨a, rfl, .inl h1⟩
        · exact ⟨a, rfl, .inr ⟨rfl, by simp [h1]⟩⟩
        · exact ⟨u, List.mem_singleton.1 hx, .inr ⟨rfl, by simp⟩⟩
      · rintro ⟨a, rfl, h1 | ⟨rfl, _⟩⟩
        · exact .inl ⟨a, rfl, .inl h1⟩
        · exact .inr (by simp)
    · rw [upd_other _ _ _ _ ez, h.mem z hz, ht]
      constructor
      · rintro ⟨a, rfl, h1 | ⟨rfl, h1⟩⟩
        · exact ⟨a, rfl, .inl h1⟩
        · exact ⟨a, rfl, .inr ⟨rfl, by simp [h1]⟩⟩
      · rintro ⟨a, rfl, h1 | ⟨rfl, h1⟩⟩
        · exact ⟨a, rfl, .inl h1⟩
        · refine ⟨a, rfl, .inr ⟨rfl, ?_⟩⟩
          rw [List.mem_append] at h1
          rcases h1 with h1 | h1
          · exact h1
          · have := List.mem_singleton.1 h1; omega
  · rw [sumL_push L v n _ hv, h.sum]; omega

theorem TI.next {n : Nat} {T L : Nat → List Int} {u : Nat} (h : TI n T L u (T u).length) : TI n T L (u + 1) 0 := by
  refine ⟨fun v hv x => ?_, ?_⟩
  · rw [h.mem v hv]
    constructor
    · rintro ⟨a, rfl, h1 | ⟨rfl, h1⟩⟩
      · exact ⟨a, rfl, .inl ⟨by omega, h1.2⟩⟩
      · exact ⟨a, rfl, .inl ⟨by omega, by simpa using h1⟩⟩
    · rintro ⟨a, rfl, h1 | ⟨_, h1⟩⟩
      · by_cases e : a = u
        · subst e; exact ⟨a, rfl, .inr ⟨rfl, by simpa using h1.2⟩⟩
        · exact ⟨a, rfl, .inl ⟨by omega, h1.2⟩⟩
      · simp at h1
  · rw [h.sum]; simp [sumL]

theorem Tr.box {w0 w w1 : World} {G n : Nat} {R : Nat → Value} {L : Nat → List Int} (h : Tr w0 w G n R L) {v : Nat} (hv : v < n) (o : Obj) (hg : (w.alloc o).grownBy w1 (R v).ownBlock) : w1.cell? ⟨G, v, none⟩ = some (R v) ∧ w1.frozen? ⟨G, v, none⟩ = false := by
  have hGs := h.top.lt
  have hz : (w.alloc o).heap.size = w.heap.size + 1 := by simp
  have htop : w1.rowIs G 27 n R := (h.top.alloc o).of_block (hg.block G (by rw [hz]; omega) (fun e => by have := ((h.rows v hv).lt G e.symm).1; omega))
  exact ⟨htop.cell hv, htop.frozen v⟩

/-- What 'zzTranspose' leaves. -/
def TransPost (w : World) (n : Nat) (T : Nat → List Int) (e : Ending) (w' : World) : Prop :=
  ∃ (ao : Option Addr) (cap : Nat) (A : Nat → Option Addr) (C : Nat → Nat) (L : Nat → List Int), e = .returned (.slice ao n cap) ∧ M2 w' ao n A C L ∧ Below w.heap.size w w' ∧ TI n T L n 0

set_option maxHeartbeats 1600000 in
theorem transpose (ao : Option Addr) (n cap : Nat) (A : Nat → Option Addr) (C : Nat → Nat) (T : Nat → List Int) (w : World) (hM : M2 w ao n A C T) (hb : n + sumL T n ≤ 1048576) (hin : InRange n T) :
    Calls Try.prog 15 #[.slice ao n cap] w fun e w' => TransPost w n T e w' := by
  have hmk := fun wx => run_make_row' (P := Try.prog) 22 27 (.slice none 0 0) 24 Try.underlying22 Try.info27 rfl .i64 .i64 n (by omega) (by omega) wx
  have HM : Hid (M2 w ao n A C T) := hM
  have HB : Hid (n + sumL T n ≤ 1048576) := hb
  have hnb : n ≤ 1048576 := by omega
  have HIN : Hid (InRange n T) := hin
  clear hM hb hin
  go_enter Try.func15, Try.ntmps15
  go_wp2
  go_loopw [5] (fun i wr => ∃ (u : Nat) (R : Nat → Value) (L : Nat → List Int), u ≤ n ∧ i = .int .i64 u ∧ Tr w wr w.heap.size n R L ∧ Hid (TI n T L u 0)) (fun i _ => n - (intOf i).toNat)
  case atStart => exact ⟨0, fun _ => .slice none 0 0, fun _ => [], Nat.zero_le _, rfl, ⟨World.rowIs_made w (.slice none 0 0) n 27, fun i hi => World.ownsRow_nil _ _ _ _, fun i j hi hj hij g hg => by simp [Value.ownBlock] at hg, (Below.refl _ _).alloc (Nat.le_refl _) _, Nat.le_refl _⟩, TI.start n T⟩
  case round =>
    obtain ⟨u, R, L, hu, rfl, hT, HTI⟩ := hrel
    by_cases hlt : u < n
    · obtain ⟨b, off, rfl, hcell⟩ := (HM.out.below hT.below).out (by omega)
      have hck := hcell u hlt
      obtain ⟨l, hl⟩ : ∃ l, l = (T u).length := ⟨_, rfl⟩
      have hlen : l ≤ 1048576 := by have := sumL_row T hlt; have := HB.out; omega
      rw [← hl] at hck
      have HL : Hid (l = (T u).length) := hl
      clear hl hcell
      go_wp2
      go_loopw [22] (fun s22 wq => ∃ (q : Nat) (R : Nat → Value) (L : Nat → List Int), q ≤ l ∧ s22 = .int .i64 q ∧ Tr w wq w.heap.size n R L ∧ Hid (TI n T L u q)) (fun s22 _ => l - (intOf s22).toNat)
      case atStart => exact ⟨0, R, L, Nat.zero_le _, rfl, hT, HTI⟩
      case round =>
        clear hT HTI hck
        obtain ⟨q, R, L, hq, rfl, hT, HTI⟩ := hrel
        by_cases hlq : q < l
        · obtain ⟨br, offr, hAr, hcr⟩ := (HM.out.below hT.below).row u hlt (by have := HL.out; omega)
          have hrange := HIN.out u hlt q (by have := HL.out; omega)
          obtain ⟨v, hvx⟩ : ∃ v : Nat, (v : Int) = (T u).getD q 0 := ⟨((T u).getD q 0).toNat, by omega⟩
          have hvn : v < n := by omega
          have hcx : wr.cell? ⟨br, offr + q, none⟩ = some (.int .i64 (v : Int)) := by rw [hvx]; exact hcr q (by have := HL.out; omega)
          have HV : Hid ((T u).getD q 0 = (v : Int)) := hvx.symm
          have hct := hT.top.cell hvn
          have hLl : (L v).length ≤ 1048576 := by have h1 := sumL_row L hvn; have h2 := HTI.out.sum; have h3 := sumL_mono T (show u + 1 ≤ n by omega); simp only [sumL] at h3; have := HB.out; have := HL.out; omega
          have hsz := hT.top.lt
          clear hrange hvx hcr
          rw [hAr]
          clear hAr
          go_wp2_with (at_builtin; refine wpList_push1 rfl (.tmp 31) (.tmp 33) rfl (w.heap.size + 1) (R v) (L v).length _ rfl ((hT.rows v hvn).alloc _) (.int .i64 (u : Int)) rfl _ rfl (cell_new1 _ _ _) hLl (by simp; omega) ?_; intro v' w1 ho hgr hd; obtain ⟨hb1, hb2⟩ := hT.box hvn _ hgr; obtain ⟨g2, k2, rfl⟩ := own_shape ho (by omega))
          go_roundw
          case rel => exact ⟨q + 1, _, _, by omega, by go_num, hT.push hvn _ ho hgr hd, HTI.out.push (by have := HL.out; omega) hvn HV.out⟩
          case measure => simp [intOf]; omega
        · have hqq : q = l := by omega
          have hlt0 : ¬ (q : Int) < (l : Int) := by omega
          have HQ : Hid (q = l) := hqq
          clear hqq
          go_wp2
          go_roundw
          case rel =>
            have hT2 := HTI.out
            rw [HQ.out, HL.out] at hT2
            exact ⟨u + 1, R, L, by omega, by go_num, hT, hT2.next⟩
          case measure => simp [intOf]; omega
    · have hkk : u = n := by omega
      have hlt0 : ¬ (u : Int) < (n : Int) := by omega
      have HK : Hid (u = n) := hkk
      clear hkk
      go_wp2
      go_ret
      have hkk := HK.out
      subst hkk
      have hTI := HTI.out
      exact ⟨_, _, _, _, L, rfl, hT.m2 (fun i hi => by have h1 := sumL_row L hi; have h2 := hTI.sum; have := HB.out; unfold maxLen; omega), hT.below, hTI⟩
end Go.Proofs.Qxb6603123a
