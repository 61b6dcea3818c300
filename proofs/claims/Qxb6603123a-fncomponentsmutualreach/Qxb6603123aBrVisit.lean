/-
  SEAT b6603123a: A ROUND OF THE SEARCH LOOP OF '(*graph).components': brVisit.
-/
import Derived.Test.Qxb6603123aDef2
namespace Go.Proofs.Qxb6603123a
open Go.ChangeShapes Go.WideShapes Go.ChangeAt Go.RowKit
set_option linter.unusedVariables false

set_option maxHeartbeats 1600000 in
set_option maxRecDepth 1000000 in
theorem brVisit (w0 : World) (bg bo : Nat) (be : Nat → Nat) (B0 gIdx gLow bIdx bLow n : Nat) (adj : Nat → List Nat) (k : Nat) (hG : Gr w0 bg bo be n adj) (hn : n ≤ 1048576) (hadj : ∀ v, v < n → ∀ x ∈ adj v, x < n) (hdeg : ∀ v, v < n → (adj v).length ≤ 1048576) (d : Dist B0 gIdx gLow bIdx bLow) (hBB : w0.heap.size ≤ B0)
    (S1 : TS) (sv1 cv1 : Value) (wr : World) (hM : Mem w0 B0 gIdx gLow bIdx bLow n S1 sv1 cv1 wr) (HI1 : Hid (Inv n adj S1 ∧ ∀ v, v ≤ k → 0 < S1.idx v)) {v nx x : Nat} {cs : List (Nat × Nat)} (HC : Hid (S1.calls = (v, nx) :: cs)) (hlt : nx < (adj v).length) (HX : Hid ((adj v).getD nx 0 = x)) (hix1 : S1.idx x = 0)
    (c1 c2 c3 c13 c19 c20 c21 c22 c23 c24 c25 c26 c27 c28 c29 c30 c31 c32 c33 c34 c35 c36 c37 c38 c39 c40 c41 c42 c43 c44 c174 c175 u14 u15 u16 u17 u18 u45 u46 u47 u48 u49 u50 u51 u52 u53 u54 u55 u56 u57 u58 u59 u60 u61 u62 u63 u64 u65 u66 u67 u68 u69 u70 u71 u72 u73 u74 u75 u76 u77 u78 u79 u80 u81 u82 u83 u84 u85 u86 u87 u88 u89 u90 u91 u92 u93 u94 u95 u96 u97 u98 u99 u100 u101 u102 u103 u104 u105 u106 u107 u108 u109 u110 u111 u112 u113 u114 u115 u116 u117 u118 u119 u120 u121 u122 u123 u124 u125 u126 u127 u128 u129 u130 u131 u132 u133 u134 u135 u136 u137 u138 u139 u140 u141 u142 u143 u144 u145 u146 u147 u148 u149 u150 u151 u152 u153 u154 u155 u156 u157 u158 u159 u160 u161 u162 u163 u164 u165 u166 u167 u168 u169 u170 u171 u172 u173 : Value) (KR : Act → World → Prop)
    (hK : ∀ a' w', Y2 w0 bg B0 gIdx gLow bIdx bLow n adj k c1 c2 c3 c13 c19 c20 c21 c22 c23 c24 c25 c26 c27 c28 c29 c30 c31 c32 c33 c34 c35 c36 c37 c38 c39 c40 c41 c42 c43 c44 c174 c175 (meas n adj S1) a' w' → KR a' w') :
    Code.wp Try.prog ((Try.f23.body.bind (nthLoop 2)).getD .skip) (Exit.then KR (Qx 2 (X2 w0 bg B0 gIdx gLow bIdx bLow n adj k c1 c2 c3 c13 c19 c20 c21 c22 c23 c24 c25 c26 c27 c28 c29 c30 c31 c32 c33 c34 c35 c36 c37 c38 c39 c40 c41 c42 c43 c44 c174 c175))) ⟨((.pointer (some ⟨bg, 0, none⟩)) :: c1 :: c2 :: c3 :: (.pointer (some ⟨bIdx, 0, none⟩)) :: (.pointer (some ⟨bLow, 0, none⟩)) :: (.slice (some ⟨B0 + 4, 0, none⟩) n n) :: (.pointer (some ⟨B0 + 6, 0, none⟩)) :: (.pointer (some ⟨B0 + 7, 0, none⟩)) :: (.pointer (some ⟨B0 + 8, 0, none⟩)) :: (.pointer (some ⟨B0 + 9, 0, none⟩)) :: (.int .i64 (S1.cnt : Int)) :: (.func (.func 25) #[] #[.pointer (some ⟨B0 + 9, 0, none⟩), .pointer (some ⟨bIdx, 0, none⟩), .pointer (some ⟨bLow, 0, none⟩), .pointer (some ⟨B0 + 7, 0, none⟩), .pointer (some ⟨B0 + 6, 0, none⟩), .pointer (some ⟨B0 + 8, 0, none⟩)]) :: c13 :: u14 :: u15 :: u16 :: u17 :: u18 :: c19 :: c20 :: c21 :: c22 :: c23 :: c24 :: c25 :: c26 :: c27 :: c28 :: c29 :: c30 :: c31 :: c32 :: c33 :: c34 :: c35 :: c36 :: c37 :: c38 :: c39 :: c40 :: c41 :: c42 :: c43 :: c44 :: u45 :: u46 :: u47 :: u48 :: u49 :: u50 :: u51 :: u52 :: u53 :: u54 :: u55 :: u56 :: u57 :: u58 :: u59 :: u60 :: u61 :: u62 :: u63 :: u64 :: u65 :: u66 :: u67 :: u68 :: u69 :: u70 :: u71 :: u72 :: u73 :: u74 :: u75 :: u76 :: u77 :: u78 :: u79 :: u80 :: u81 :: u82 :: u83 :: u84 :: u85 :: u86 :: u87 :: u88 :: u89 :: u90 :: u91 :: u92 :: u93 :: u94 :: u95 :: u96 :: u97 :: u98 :: u99 :: u100 :: u101 :: u102 :: u103 :: u104 :: u105 :: u106 :: u107 :: u108 :: u109 :: u110 :: u111 :: u112 :: u113 :: u114 :: u115 :: u116 :: u117 :: u118 :: u119 :: u120 :: u121 :: u122 :: u123 :: u124 :: u125 :: u126 :: u127 :: u128 :: u129 :: u130 :: u131 :: u132 :: u133 :: u134 :: u135 :: u136 :: u137 :: u138 :: u139 :: u140 :: u141 :: u142 :: u143 :: u144 :: u145 :: u146 :: u147 :: u148 :: u149 :: u150 :: u151 :: u152 :: u153 :: u154 :: u155 :: u156 :: u157 :: u158 :: u159 :: u160 :: u161 :: u162 :: u163 :: u164 :: u165 :: u166 :: u167 :: u168 :: u169 :: u170 :: u171 :: u172 :: u173 :: c174 :: c175 :: []).toArray, []⟩ wr := by
  obtain ⟨gC, capC, rfl, hcv, hcn, hcf, hgC, hcapC⟩ := top_of hM HC.out
  have hbC := hM.hbC.cell (i := 0) (by omega)
  have hcsl : cs.length < 1048576 := by have h1 := HI1.out.1.calLe; have h2 := HI1.out.1.visLe; rw [HC.out] at h1; simp at h1; omega
  have hvn : v < n := HI1.out.1.stkLt v (HI1.out.1.grayIn (v, nx) (by rw [HC.out]; simp))
  have hGr := hG.below hM.below
  have hg1 := hGr.hg
  have hg2 := hGr.ho v hvn
  have hdv := hdeg v hvn
  have hg3 := hGr.he v hvn nx hlt
  rw [HX.out] at hg3
  have hxn : x < n := by rw [← HX.out]; exact hadj v hvn _ (by simp [List.getD, hlt])
  conv => arg 2; whnf
  go_upto_region 17 with fail
  go_quiet (fail)
  go_upto_region 18 with fail
  go_quiet (fail)
  go_upto_region 19 with fail
  go_cut [14, 15, 16] from 45 to 173 (fun s14 s15 s16 wx => s15 = .int .i64 v ∧ s16 = .int .i64 x ∧ Mem w0 B0 gIdx gLow bIdx bLow n { S1 with calls := (v, nx + 1) :: cs } sv1 (.slice (some ⟨gC, 0, none⟩) (cs.length + 1) capC) wx)
  case first =>
    go_wp2_with fail
    go_meet
    case rel => exact ⟨rfl, rfl, (hM.drewN _).nextC d hBB HC.out (nx + 1)⟩
  clear hM hcv hcn hcf hbC hGr hg1 hg2 hg3
  obtain ⟨rfl, rfl, hM2⟩ := hcut
  have hbI := hM2.hbI.cell (i := 0) (by omega)
  have hIx := hM2.hIdx.cell hxn
  have hIx' : wc.cell? ⟨gIdx, x, none⟩ = some (.int .i64 0) := by rw [hIx]; show some (Value.int .i64 ((S1.idx x : Nat) : Int)) = _; rw [hix1]; rfl
  clear hIx
  have hvl := HI1.out.1.visLe
  have hcl := HI1.out.1.cntLe
  have hx0 := hix1
  clear hix1
  go_wp2_with (go_at_call 25; refine (visit_any w0 _ B0 gIdx gLow bIdx bLow n _ _ _ x hM2 d hBB hxn hn hvl (by show S1.stk.length ≤ n; omega) (by show cs.length + 1 ≤ n; have := HI1.out.1.calLe; rw [HC.out] at this; simp at this; omega)).mono ?_; rintro e w2 ⟨rfl, sv2, cv2, hM3⟩)
  have hidx : ∀ u, u ≤ k → 0 < (S1.visit x ((v, nx + 1) :: cs)).idx u := by
    intro u hu
    show 0 < upd S1.idx x (S1.vis + 1) u
    by_cases e : u = x
    · rw [e, upd_same]; omega
    · rw [upd_other _ _ _ _ e]; exact HI1.out.2 u hu
  unfold Y2 I2
  exact ⟨meas n adj (S1.visit x ((v, nx + 1) :: cs)), meas_visitChild HC.out hlt hxn hx0, _, _, _, _, _, _, _, _, _, _, _, _, _, _, _, _, _, _, _, _, _, _, _, _, _, _, _, _, _, _, _, _, _, _, _, _, _, _, _, _, _, _, _, _, _, _, _, _, _, _, _, _, _, _, _, _, _, _, _, _, _, _, _, _, _, _, _, _, _, _, _, _, _, _, _, _, _, _, _, _, _, _, _, _, _, _, _, _, _, _, _, _, _, _, _, _, _, _, _, _, _, _, _, _, _, _, _, _, _, _, _, _, _, _, _, _, _, _, _, _, _, _, _, _, _, _, _, _, _, _, _, _, _, _, S1.visit x ((v, nx + 1) :: cs), sv2, cv2, rfl, hM3, HI1.out.1.visitChild HC.out hlt HX.out hxn hx0, hidx, rfl⟩
end Go.Proofs.Qxb6603123a
