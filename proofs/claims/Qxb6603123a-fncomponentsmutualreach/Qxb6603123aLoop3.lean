/-
  SEAT b6603123a: THE POPPING LOOP OF '(*graph).components', A DECLARATION OF ITS OWN.
-/
import Derived.Test.Qxb6603123aHelp
namespace Go.Proofs.Qxb6603123a
open Go.ChangeShapes Go.WideShapes Go.ChangeAt Go.RowKit
set_option linter.unusedVariables false

/-- What stands behind the popping loop: the component from P down to v is popped. -/
def X3 (w0 : World) (B0 gIdx gLow bIdx bLow n : Nat) (S : TS) (cv : Value) (pre rest : List Nat) (v cnt : Nat) (c0 c1 c2 c3 c4 c5 c9 c10 c12 c13 c14 c16 c17 c19 c20 c21 c22 c23 c24 c25 c26 c27 c28 c29 c30 c31 c32 c33 c34 c35 c36 c37 c38 c39 c40 c41 c42 c43 c44 c45 c46 c47 c48 c49 c50 c51 c52 c53 c54 c55 c56 c57 c58 c59 c60 c61 c62 c63 c64 c65 c66 c67 c68 c69 c70 c71 c72 c73 c74 c75 c76 c77 c78 c79 c80 c81 c82 c83 c84 c85 c86 c87 c88 c89 c90 c91 c92 c93 c94 c95 c96 c97 c98 c99 c100 c101 c102 c103 c104 c105 c106 c107 c108 c109 c110 c111 c112 c113 c114 c115 c116 c117 c118 c119 c120 c121 c122 c123 c124 c125 c126 c127 c128 c129 c130 c131 c132 c133 c134 c135 c136 c137 c138 c139 c140 c141 c142 c143 c144 c145 c146 c147 c148 c149 c150 c172 c173 c174 c175 : Value) (a : Act) (w : World) : Prop :=
  ∃ u18 u151 u152 u153 u154 u155 u156 u157 u158 u159 u160 u161 u162 u163 u164 u165 u166 u167 u168 u169 u170 u171 sv : Value, Mem w0 B0 gIdx gLow bIdx bLow n { S with on := clr (pre ++ [v]) S.on, comp := put (pre ++ [v]) cnt S.comp, stk := rest } sv cv w ∧ a = ⟨(c0 :: c1 :: c2 :: c3 :: c4 :: c5 :: (.slice (some ⟨B0 + 4, 0, none⟩) n n) :: (.pointer (some ⟨B0 + 6, 0, none⟩)) :: (.pointer (some ⟨B0 + 7, 0, none⟩)) :: c9 :: c10 :: (.int .i64 (cnt : Int)) :: c12 :: c13 :: c14 :: (.int .i64 (v : Int)) :: c16 :: c17 :: u18 :: c19 :: c20 :: c21 :: c22 :: c23 :: c24 :: c25 :: c26 :: c27 :: c28 :: c29 :: c30 :: c31 :: c32 :: c33 :: c34 :: c35 :: c36 :: c37 :: c38 :: c39 :: c40 :: c41 :: c42 :: c43 :: c44 :: c45 :: c46 :: c47 :: c48 :: c49 :: c50 :: c51 :: c52 :: c53 :: c54 :: c55 :: c56 :: c57 :: c58 :: c59 :: c60 :: c61 :: c62 :: c63 :: c64 :: c65 :: c66 :: c67 :: c68 :: c69 :: c70 :: c71 :: c72 :: c73 :: c74 :: c75 :: c76 :: c77 :: c78 :: c79 :: c80 :: c81 :: c82 :: c83 :: c84 :: c85 :: c86 :: c87 :: c88 :: c89 :: c90 :: c91 :: c92 :: c93 :: c94 :: c95 :: c96 :: c97 :: c98 :: c99 :: c100 :: c101 :: c102 :: c103 :: c104 :: c105 :: c106 :: c107 :: c108 :: c109 :: c110 :: c111 :: c112 :: c113 :: c114 :: c115 :: c116 :: c117 :: c118 :: c119 :: c120 :: c121 :: c122 :: c123 :: c124 :: c125 :: c126 :: c127 :: c128 :: c129 :: c130 :: c131 :: c132 :: c133 :: c134 :: c135 :: c136 :: c137 :: c138 :: c139 :: c140 :: c141 :: c142 :: c143 :: c144 :: c145 :: c146 :: c147 :: c148 :: c149 :: c150 :: u151 :: u152 :: u153 :: u154 :: u155 :: u156 :: u157 :: u158 :: u159 :: u160 :: u161 :: u162 :: u163 :: u164 :: u165 :: u166 :: u167 :: u168 :: u169 :: u170 :: u171 :: c172 :: c173 :: c174 :: c175 :: []).toArray, []⟩

set_option maxHeartbeats 1600000 in
set_option maxRecDepth 1000000 in
theorem loop3 (w0 w : World) (B0 gIdx gLow bIdx bLow n : Nat) (S : TS) (sv cv : Value) (pre rest : List Nat) (v cnt : Nat) (d : Dist B0 gIdx gLow bIdx bLow) (hBB : w0.heap.size ≤ B0) (hM : Mem w0 B0 gIdx gLow bIdx bLow n S sv cv w) (hs : S.stk = pre ++ v :: rest)
    (hpv : ∀ y ∈ pre, y ≠ v) (hpn : ∀ y ∈ pre, y < n) (hvn : v < n) (hlen : pre.length + rest.length < 1048576) (hn : n ≤ 1048576) (c0 c1 c2 c3 c4 c5 c9 c10 c12 c13 c14 c16 c17 c19 c20 c21 c22 c23 c24 c25 c26 c27 c28 c29 c30 c31 c32 c33 c34 c35 c36 c37 c38 c39 c40 c41 c42 c43 c44 c45 c46 c47 c48 c49 c50 c51 c52 c53 c54 c55 c56 c57 c58 c59 c60 c61 c62 c63 c64 c65 c66 c67 c68 c69 c70 c71 c72 c73 c74 c75 c76 c77 c78 c79 c80 c81 c82 c83 c84 c85 c86 c87 c88 c89 c90 c91 c92 c93 c94 c95 c96 c97 c98 c99 c100 c101 c102 c103 c104 c105 c106 c107 c108 c109 c110 c111 c112 c113 c114 c115 c116 c117 c118 c119 c120 c121 c122 c123 c124 c125 c126 c127 c128 c129 c130 c131 c132 c133 c134 c135 c136 c137 c138 c139 c140 c141 c142 c143 c144 c145 c146 c147 c148 c149 c150 c172 c173 c174 c175 u18 u151 u152 u153 u154 u155 u156 u157 u158 u159 u160 u161 u162 u163 u164 u165 u166 u167 u168 u169 u170 u171 : Value) (Q0 : Exit → Act → World → Prop)
    (hexit : ∀ a' w', X3 w0 B0 gIdx gLow bIdx bLow n S cv pre rest v cnt c0 c1 c2 c3 c4 c5 c9 c10 c12 c13 c14 c16 c17 c19 c20 c21 c22 c23 c24 c25 c26 c27 c28 c29 c30 c31 c32 c33 c34 c35 c36 c37 c38 c39 c40 c41 c42 c43 c44 c45 c46 c47 c48 c49 c50 c51 c52 c53 c54 c55 c56 c57 c58 c59 c60 c61 c62 c63 c64 c65 c66 c67 c68 c69 c70 c71 c72 c73 c74 c75 c76 c77 c78 c79 c80 c81 c82 c83 c84 c85 c86 c87 c88 c89 c90 c91 c92 c93 c94 c95 c96 c97 c98 c99 c100 c101 c102 c103 c104 c105 c106 c107 c108 c109 c110 c111 c112 c113 c114 c115 c116 c117 c118 c119 c120 c121 c122 c123 c124 c125 c126 c127 c128 c129 c130 c131 c132 c133 c134 c135 c136 c137 c138 c139 c140 c141 c142 c143 c144 c145 c146 c147 c148 c149 c150 c172 c173 c174 c175 a' w' → Q0 (.exit 4) a' w') :
    Code.wp Try.prog (.loop ((Try.f23.body.bind (nthLoop 3)).getD .skip)) Q0 ⟨(c0 :: c1 :: c2 :: c3 :: c4 :: c5 :: (.slice (some ⟨B0 + 4, 0, none⟩) n n) :: (.pointer (some ⟨B0 + 6, 0, none⟩)) :: (.pointer (some ⟨B0 + 7, 0, none⟩)) :: c9 :: c10 :: (.int .i64 (cnt : Int)) :: c12 :: c13 :: c14 :: (.int .i64 (v : Int)) :: c16 :: c17 :: u18 :: c19 :: c20 :: c21 :: c22 :: c23 :: c24 :: c25 :: c26 :: c27 :: c28 :: c29 :: c30 :: c31 :: c32 :: c33 :: c34 :: c35 :: c36 :: c37 :: c38 :: c39 :: c40 :: c41 :: c42 :: c43 :: c44 :: c45 :: c46 :: c47 :: c48 :: c49 :: c50 :: c51 :: c52 :: c53 :: c54 :: c55 :: c56 :: c57 :: c58 :: c59 :: c60 :: c61 :: c62 :: c63 :: c64 :: c65 :: c66 :: c67 :: c68 :: c69 :: c70 :: c71 :: c72 :: c73 :: c74 :: c75 :: c76 :: c77 :: c78 :: c79 :: c80 :: c81 :: c82 :: c83 :: c84 :: c85 :: c86 :: c87 :: c88 :: c89 :: c90 :: c91 :: c92 :: c93 :: c94 :: c95 :: c96 :: c97 :: c98 :: c99 :: c100 :: c101 :: c102 :: c103 :: c104 :: c105 :: c106 :: c107 :: c108 :: c109 :: c110 :: c111 :: c112 :: c113 :: c114 :: c115 :: c116 :: c117 :: c118 :: c119 :: c120 :: c121 :: c122 :: c123 :: c124 :: c125 :: c126 :: c127 :: c128 :: c129 :: c130 :: c131 :: c132 :: c133 :: c134 :: c135 :: c136 :: c137 :: c138 :: c139 :: c140 :: c141 :: c142 :: c143 :: c144 :: c145 :: c146 :: c147 :: c148 :: c149 :: c150 :: u151 :: u152 :: u153 :: u154 :: u155 :: u156 :: u157 :: u158 :: u159 :: u160 :: u161 :: u162 :: u163 :: u164 :: u165 :: u166 :: u167 :: u168 :: u169 :: u170 :: u171 :: c172 :: c173 :: c174 :: c175 :: []).toArray, []⟩ w := by
  have HPV : Hid (∀ y ∈ pre, y ≠ v) := hpv
  have HPN : Hid (∀ y ∈ pre, y < n) := hpn
  have hM0 : Mem w0 B0 gIdx gLow bIdx bLow n { S with on := clr [] S.on, comp := put [] cnt S.comp, stk := pre ++ v :: rest } sv cv w := by rw [clr_nil, put_nil, ← hs]; exact hM
  clear hpv hpn hM hs
  conv => arg 2; whnf
  conv => arg 2; arg 1; whnf
  go_loopg [18] pre.length (fun gp s18 wq => ∃ (P1 P2 : List Nat) (svq : Value), Hid (pre = P1 ++ P2) ∧ Hid (gp = P2.length) ∧ Mem w0 B0 gIdx gLow bIdx bLow n { S with on := clr P1 S.on, comp := put P1 cnt S.comp, stk := P2 ++ v :: rest } svq cv wq)
  case atStart => exact ⟨[], pre, sv, rfl, rfl, hM0⟩
  case round =>
    clear hM0
    obtain ⟨P1, P2, svq, HP, HG, hMq⟩ := hrel
    cases P2 with
    | nil =>
      obtain ⟨gS, capS, rfl, hcy, hcapS⟩ := topS_of hMq (y := v) (r := rest) rfl
      have hbS := hMq.hbS.cell (i := 0) (by omega)
      have hbSf := hMq.hbS.frozen 0
      have hr1 : rest.length < 1048576 := by omega
      have hcap1 : ¬ capS = 0 := by omega
      obtain ⟨k1, k2, k3, k4, k5⟩ := popFacts hMq hvn
      go_wp2_with fail
      have hfin := ((hMq.popS d hBB rfl).setOn d hBB v false).setComp d hBB v cnt
      simp only [clr_snoc, put_snoc] at hfin
      have hp := HP.out
      rw [List.append_nil] at hp
      rw [← hp] at hfin
      unfold X3
      exact ⟨_, _, _, _, _, _, _, _, _, _, _, _, _, _, _, _, _, _, _, _, _, _, _, hfin, rfl⟩
    | cons y P2 =>
      have hym : y ∈ pre := by rw [HP.out]; simp
      have hyv : ((y : Int) == (v : Int)) = false := by have := HPV.out y hym; simp; omega
      have hyn : y < n := HPN.out y hym
      obtain ⟨r, hr⟩ : ∃ r, r = P2 ++ v :: rest := ⟨_, rfl⟩
      have hMr : Mem w0 B0 gIdx gLow bIdx bLow n { S with on := clr P1 S.on, comp := put P1 cnt S.comp, stk := y :: r } svq cv wr := by rw [hr]; exact hMq
      have HR : Hid (r = P2 ++ v :: rest) := hr
      have hr1 : r.length < 1048576 := by have h2 := congrArg List.length HP.out; rw [hr]; simp at h2 ⊢; omega
      clear hMq hr hym
      obtain ⟨gS, capS, rfl, hcy, hcapS⟩ := topS_of hMr (y := y) (r := r) rfl
      have hbS := hMr.hbS.cell (i := 0) (by omega)
      have hbSf := hMr.hbS.frozen 0
      have hcap1 : ¬ capS = 0 := by omega
      obtain ⟨k1, k2, k3, k4, k5⟩ := popFacts hMr hyn
      go_wp2_with fail
      go_roundg P2.length
      case measure => have := HG.out; simp at this; omega
      case rel =>
        have hfin := ((hMr.popS d hBB rfl).setOn d hBB y false).setComp d hBB y cnt
        simp only [clr_snoc, put_snoc] at hfin
        have hr := HR.out
        subst hr
        exact ⟨P1 ++ [y], P2, _, by show pre = P1 ++ [y] ++ P2; rw [HP.out]; simp, rfl, hfin⟩
end Go.Proofs.Qxb6603123a
