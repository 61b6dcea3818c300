/-
  SEAT b6603123a: A ROUND OF THE SEARCH LOOP OF '(*graph).components': brNil.
-/
import Derived.Test.Qxb6603123aDef2
namespace Go.Proofs.Qxb6603123a
open Go.ChangeShapes Go.WideShapes Go.ChangeAt Go.RowKit
set_option linter.unusedVariables false

set_option maxHeartbeats 1600000 in
set_option maxRecDepth 1000000 in
theorem brNil (w0 : World) (bg bo : Nat) (be : Nat → Nat) (B0 gIdx gLow bIdx bLow n : Nat) (adj : Nat → List Nat) (k : Nat) (hG : Gr w0 bg bo be n adj) (hn : n ≤ 1048576) (hadj : ∀ v, v < n → ∀ x ∈ adj v, x < n) (hdeg : ∀ v, v < n → (adj v).length ≤ 1048576) (d : Dist B0 gIdx gLow bIdx bLow) (hBB : w0.heap.size ≤ B0)
    (S1 : TS) (sv1 cv1 : Value) (wr : World) (hM : Mem w0 B0 gIdx gLow bIdx bLow n S1 sv1 cv1 wr) (HI1 : Hid (Inv n adj S1 ∧ ∀ v, v ≤ k → 0 < S1.idx v)) (HC : Hid (S1.calls = []))
    (c1 c2 c3 c13 c19 c20 c21 c22 c23 c24 c25 c26 c27 c28 c29 c30 c31 c32 c33 c34 c35 c36 c37 c38 c39 c40 c41 c42 c43 c44 c174 c175 u14 u15 u16 u17 u18 u45 u46 u47 u48 u49 u50 u51 u52 u53 u54 u55 u56 u57 u58 u59 u60 u61 u62 u63 u64 u65 u66 u67 u68 u69 u70 u71 u72 u73 u74 u75 u76 u77 u78 u79 u80 u81 u82 u83 u84 u85 u86 u87 u88 u89 u90 u91 u92 u93 u94 u95 u96 u97 u98 u99 u100 u101 u102 u103 u104 u105 u106 u107 u108 u109 u110 u111 u112 u113 u114 u115 u116 u117 u118 u119 u120 u121 u122 u123 u124 u125 u126 u127 u128 u129 u130 u131 u132 u133 u134 u135 u136 u137 u138 u139 u140 u141 u142 u143 u144 u145 u146 u147 u148 u149 u150 u151 u152 u153 u154 u155 u156 u157 u158 u159 u160 u161 u162 u163 u164 u165 u166 u167 u168 u169 u170 u171 u172 u173 : Value) (KR : Act → World → Prop)
    (hK : ∀ a' w', Y2 w0 bg B0 gIdx gLow bIdx bLow n adj k c1 c2 c3 c13 c19 c20 c21 c22 c23 c24 c25 c26 c27 c28 c29 c30 c31 c32 c33 c34 c35 c36 c37 c38 c39 c40 c41 c42 c43 c44 c174 c175 (meas n adj S1) a' w' → KR a' w') :
    Code.wp Try.prog ((Try.f23.body.bind (nthLoop 2)).getD .skip) (Exit.then KR (Qx 2 (X2 w0 bg B0 gIdx gLow bIdx bLow n adj k c1 c2 c3 c13 c19 c20 c21 c22 c23 c24 c25 c26 c27 c28 c29 c30 c31 c32 c33 c34 c35 c36 c37 c38 c39 c40 c41 c42 c43 c44 c174 c175))) ⟨((.pointer (some ⟨bg, 0, none⟩)) :: c1 :: c2 :: c3 :: (.pointer (some ⟨bIdx, 0, none⟩)) :: (.pointer (some ⟨bLow, 0, none⟩)) :: (.slice (some ⟨B0 + 4, 0, none⟩) n n) :: (.pointer (some ⟨B0 + 6, 0, none⟩)) :: (.pointer (some ⟨B0 + 7, 0, none⟩)) :: (.pointer (some ⟨B0 + 8, 0, none⟩)) :: (.pointer (some ⟨B0 + 9, 0, none⟩)) :: (.int .i64 (S1.cnt : Int)) :: (.func (.func 25) #[] #[.pointer (some ⟨B0 + 9, 0, none⟩), .pointer (some ⟨bIdx, 0, none⟩), .pointer (some ⟨bLow, 0, none⟩), .pointer (some ⟨B0 + 7, 0, none⟩), .pointer (some ⟨B0 + 6, 0, none⟩), .pointer (some ⟨B0 + 8, 0, none⟩)]) :: c13 :: u14 :: u15 :: u16 :: u17 :: u18 :: c19 :: c20 :: c21 :: c22 :: c23 :: c24 :: c25 :: c26 :: c27 :: c28 :: c29 :: c30 :: c31 :: c32 :: c33 :: c34 :: c35 :: c36 :: c37 :: c38 :: c39 :: c40 :: c41 :: c42 :: c43 :: c44 :: u45 :: u46 :: u47 :: u48 :: u49 :: u50 :: u51 :: u52 :: u53 :: u54 :: u55 :: u56 :: u57 :: u58 :: u59 :: u60 :: u61 :: u62 :: u63 :: u64 :: u65 :: u66 :: u67 :: u68 :: u69 :: u70 :: u71 :: u72 :: u73 :: u74 :: u75 :: u76 :: u77 :: u78 :: u79 :: u80 :: u81 :: u82 :: u83 :: u84 :: u85 :: u86 :: u87 :: u88 :: u89 :: u90 :: u91 :: u92 :: u93 :: u94 :: u95 :: u96 :: u97 :: u98 :: u99 :: u100 :: u101 :: u102 :: u103 :: u104 :: u105 :: u106 :: u107 :: u108 :: u109 :: u110 :: u111 :: u112 :: u113 :: u114 :: u115 :: u116 :: u117 :: u118 :: u119 :: u120 :: u121 :: u122 :: u123 :: u124 :: u125 :: u126 :: u127 :: u128 :: u129 :: u130 :: u131 :: u132 :: u133 :: u134 :: u135 :: u136 :: u137 :: u138 :: u139 :: u140 :: u141 :: u142 :: u143 :: u144 :: u145 :: u146 :: u147 :: u148 :: u149 :: u150 :: u151 :: u152 :: u153 :: u154 :: u155 :: u156 :: u157 :: u158 :: u159 :: u160 :: u161 :: u162 :: u163 :: u164 :: u165 :: u166 :: u167 :: u168 :: u169 :: u170 :: u171 :: u172 :: u173 :: c174 :: c175 :: []).toArray, []⟩ wr := by
  have hc0 := hM.cal
  rw [HC.out] at hc0
  obtain ⟨ac, kc, rfl⟩ := own_any hc0
  have hbC := hM.hbC.cell (i := 0) (by omega)
  simp only [List.length_nil] at hbC
  clear hc0
  conv => arg 2; whnf
  go_wp2_with fail
  refine ⟨rfl, ?_⟩
  unfold X2
  exact ⟨_, _, _, _, _, _, _, _, _, _, _, _, _, _, _, _, _, _, _, _, _, _, _, _, _, _, _, _, _, _, _, _, _, _, _, _, _, _, _, _, _, _, _, _, _, _, _, _, _, _, _, _, _, _, _, _, _, _, _, _, _, _, _, _, _, _, _, _, _, _, _, _, _, _, _, _, _, _, _, _, _, _, _, _, _, _, _, _, _, _, _, _, _, _, _, _, _, _, _, _, _, _, _, _, _, _, _, _, _, _, _, _, _, _, _, _, _, _, _, _, _, _, _, _, _, _, _, _, _, _, _, _, _, _, S1, sv1, _, hM, HI1.out.1, HC.out, HI1.out.2, rfl⟩
end Go.Proofs.Qxb6603123a
