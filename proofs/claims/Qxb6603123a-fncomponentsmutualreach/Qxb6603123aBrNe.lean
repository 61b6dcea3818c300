/-
  SEAT b6603123a: A ROUND OF THE SEARCH LOOP OF '(*graph).components': brNe.
-/
import Derived.Test.Qxb6603123aDef2
namespace Go.Proofs.Qxb6603123a
open Go.ChangeShapes Go.WideShapes Go.ChangeAt Go.RowKit
set_option linter.unusedVariables false

set_option maxHeartbeats 1600000 in
set_option maxRecDepth 1000000 in
theorem brNe (w0 : World) (bg bo : Nat) (be : Nat → Nat) (B0 gIdx gLow bIdx bLow n : Nat) (adj : Nat → List Nat) (k : Nat) (hG : Gr w0 bg bo be n adj) (hn : n ≤ 1048576) (hadj : ∀ v, v < n → ∀ x ∈ adj v, x < n) (hdeg : ∀ v, v < n → (adj v).length ≤ 1048576) (d : Dist B0 gIdx gLow bIdx bLow) (hBB : w0.heap.size ≤ B0)
    (S1 : TS) (sv1 cv1 : Value) (wr : World) (hM : Mem w0 B0 gIdx gLow bIdx bLow n S1 sv1 cv1 wr) (HI1 : Hid (Inv n adj S1 ∧ ∀ v, v ≤ k → 0 < S1.idx v)) {v nx : Nat} {cs : List (Nat × Nat)} (HC : Hid (S1.calls = (v, nx) :: cs)) (hlt : ¬ nx < (adj v).length) (HLL : Hid (S1.low v ≠ S1.idx v))
    (c1 c2 c3 c13 c19 c20 c21 c22 c23 c24 c25 c26 c27 c28 c29 c30 c31 c32 c33 c34 c35 c36 c37 c38 c39 c40 c41 c42 c43 c44 c174 c175 u14 u15 u16 u17 u18 u45 u46 u47 u48 u49 u50 u51 u52 u53 u54 u55 u56 u57 u58 u59 u60 u61 u62 u63 u64 u65 u66 u67 u68 u69 u70 u71 u72 u73 u74 u75 u76 u77 u78 u79 u80 u81 u82 u83 u84 u85 u86 u87 u88 u89 u90 u91 u92 u93 u94 u95 u96 u97 u98 u99 u100 u101 u102 u103 u104 u105 u106 u107 u108 u109 u110 u111 u112 u113 u114 u115 u116 u117 u118 u119 u120 u121 u122 u123 u124 u125 u126 u127 u128 u129 u130 u131 u132 u133 u134 u135 u136 u137 u138 u139 u140 u141 u142 u143 u144 u145 u146 u147 u148 u149 u150 u151 u152 u153 u154 u155 u156 u157 u158 u159 u160 u161 u162 u163 u164 u165 u166 u167 u168 u169 u170 u171 u172 u173 : Value) (KR : Act → World → Prop)
    (hK : ∀ a' w', Y2 w0 bg B0 gIdx gLow bIdx bLow n adj k c1 c2 c3 c13 c19 c20 c21 c22 c23 c24 c25 c26 c27 c28 c29 c30 c31 c32 c33 c34 c35 c36 c37 c38 c39 c40 c41 c42 c43 c44 c174 c175 (meas n adj S1) a' w' → KR a' w') :
    Code.wp Try.prog ((Try.f23.body.bind (nthLoop 2)).getD .skip) (Exit.then KR (Qx 2 (X2 w0 bg B0 gIdx gLow bIdx bLow n adj k c1 c2 c3 c13 c19 c20 c21 c22 c23 c24 c25 c26 c27 c28 c29 c30 c31 c32 c33 c34 c35 c36 c37 c38 c39 c40 c41 c42 c43 c44 c174 c175))) ⟨((.pointer (some ⟨bg, 0, none⟩)) :: c1 :: c2 :: c3 :: (.pointer (some ⟨bIdx, 0, none⟩)) :: (.pointer (some ⟨bLow, 0, none⟩)) :: (.slice (some ⟨B0 + 4, 0, none⟩) n n) :: (.pointer (some ⟨B0 + 6, 0, none⟩)) :: (.pointer (some ⟨B0 + 7, 0, none⟩)) :: (.pointer (some ⟨B0 + 8, 0, none⟩)) :: (.pointer (some ⟨B0 + 9, 0, none⟩)) :: (.int .i64 (S1.cnt : Int)) :: (.func (.func 25) #[] #[.pointer (some ⟨B0 + 9, 0, none⟩), .pointer (some ⟨bIdx, 0, none⟩), .pointer (some ⟨bLow, 0, none⟩), .pointer (some ⟨B0 + 7, 0, none⟩), .pointer (some ⟨B0 + 6, 0, none⟩), .pointer (some ⟨B0 + 8, 0, none⟩)]) :: c13 :: u14 :: u15 :: u16 :: u17 :: u18 :: c19 :: c20 :: c21 :: c22 :: c23 :: c24 :: c25 :: c26 :: c27 :: c28 :: c29 :: c30 :: c31 :: c32 :: c33 :: c34 :: c35 :: c36 :: c37 :: c38 :: c39 :: c40 :: c41 :: c42 :: c43 :: c44 :: u45 :: u46 :: u47 :: u48 :: u49 :: u50 :: u51 :: u52 :: u53 :: u54 :: u55 :: u56 :: u57 :: u58 :: u59 :: u60 :: u61 :: u62 :: u63 :: u64 :: u65 :: u66 :: u67 :: u68 :: u69 :: u70 :: u71 :: u72 :: u73 :: u74 :: u75 :: u76 :: u77 :: u78 :: u79 :: u80 :: u81 :: u82 :: u83 :: u84 :: u85 :: u86 :: u87 :: u88 :: u89 :: u90 :: u91 :: u92 :: u93 :: u94 :: u95 :: u96 :: u97 :: u98 :: u99 :: u100 :: u101 :: u102 :: u103 :: u104 :: u105 :: u106 :: u107 :: u108 :: u109 :: u110 :: u111 :: u112 :: u113 :: u114 :: u115 :: u116 :: u117 :: u118 :: u119 :: u120 :: u121 :: u122 :: u123 :: u124 :: u125 :: u126 :: u127 :: u128 :: u129 :: u130 :: u131 :: u132 :: u133 :: u134 :: u135 :: u136 :: u137 :: u138 :: u139 :: u140 :: u141 :: u142 :: u143 :: u144 :: u145 :: u146 :: u147 :: u148 :: u149 :: u150 :: u151 :: u152 :: u153 :: u154 :: u155 :: u156 :: u157 :: u158 :: u159 :: u160 :: u161 :: u162 :: u163 :: u164 :: u165 :: u166 :: u167 :: u168 :: u169 :: u170 :: u171 :: u172 :: u173 :: c174 :: c175 :: []).toArray, []⟩ wr := by
  obtain ⟨gC, capC, rfl, hcv, hcn, hcf, hgC, hcapC⟩ := top_of hM HC.out
  have hbC := hM.hbC.cell (i := 0) (by omega)
  have hcsl : cs.length < 1048576 := by have h1 := HI1.out.1.calLe; have h2 := HI1.out.1.visLe; rw [HC.out] at h1; simp at h1; omega
  have hvn : v < n := HI1.out.1.stkLt v (HI1.out.1.grayIn (v, nx) (by rw [HC.out]; simp))
  have hGr := hG.below hM.below
  have hg1 := hGr.hg
  have hg2 := hGr.ho v hvn
  have hdv := hdeg v hvn
  have hbCf := hM.hbC.frozen 0
  have hcap0 : ¬ capC = 0 := by omega
  conv => arg 2; whnf
  go_upto_region 17 with fail
  go_quiet (fail)
  go_upto_region 24 with fail
  go_cut [14, 15] from 45 to 173 (fun s14 s15 wx => s15 = .int .i64 v ∧ Mem w0 B0 gIdx gLow bIdx bLow n { S1 with calls := cs } sv1 (.slice (some ⟨gC, 0, none⟩) cs.length capC) wx)
  case first =>
    go_wp2_with fail
    go_meet
    case rel => exact ⟨rfl, (hM.drewN _).popC d hBB HC.out⟩
  clear hM hcv hcn hcf hbC hGr hg1 hg2 hbCf
  obtain ⟨rfl, hM2⟩ := hcut
  have hbC := hM2.hbC.cell (i := 0) (by omega)
  go_upto_if 122 with fail
  go_cut [15] from 45 to 173 (fun s15 wx => s15 = .int .i64 v ∧ Mem w0 B0 gIdx gLow bIdx bLow n { S1 with calls := cs, low := lowN S1 v cs } sv1 (.slice (some ⟨gC, 0, none⟩) cs.length capC) wx)
  case first =>
    cases cs with
    | nil =>
      simp only [List.length_nil] at hbC
      go_wp2_with fail
      go_meet
      case rel => exact ⟨rfl, hM2⟩
    | cons g cs' =>
      obtain ⟨p, np⟩ := g
      have hpn : p < n := HI1.out.1.stkLt p (HI1.out.1.grayIn (p, np) (by rw [HC.out]; simp))
      obtain ⟨gC', cap', heq, hcp, _, _, _, _⟩ := top_of hM2 (v := p) (nx := np) (cs := cs') rfl
      simp only [List.length_cons, Value.slice.injEq, Option.some.injEq, Addr.mk.injEq, and_true, true_and] at heq
      obtain ⟨rfl, rfl⟩ := heq
      simp only [List.length_cons] at hbC hcsl
      have hpos : 0 < ((p, np) :: cs').length := by simp
      have hbL := hM2.hbL.cell (i := 0) (by omega)
      have hLp := hM2.hLow.cell hpn
      have hLv := hM2.hLow.cell hvn
      have hLf := hM2.hLow.frozen p
      by_cases hml : S1.low v < S1.low p
      · go_upto_region 27 with fail
        go_big_region
        go_wp2_with fail
        go_meet
        case rel =>
          refine ⟨rfl, ?_⟩
          have e : min (S1.low p) (S1.low v) = S1.low v := Nat.min_eq_right (by omega)
          show Mem w0 B0 gIdx gLow bIdx bLow n { S1 with calls := (p, np) :: cs', low := upd S1.low p (min (S1.low p) (S1.low v)) } _ _ _
          rw [e]
          exact (hM2.setLow d hBB p (S1.low v)).drew
      · go_upto_region 27 with fail
        go_big_region
        go_wp2_with fail
        go_meet
        case rel =>
          refine ⟨rfl, ?_⟩
          have e : min (S1.low p) (S1.low v) = S1.low p := Nat.min_eq_left (by omega)
          show Mem w0 B0 gIdx gLow bIdx bLow n { S1 with calls := (p, np) :: cs', low := upd S1.low p (min (S1.low p) (S1.low v)) } _ _ _
          rw [e]
          exact (hM2.setLow d hBB p (S1.low p)).drew
  clear hM2 hbC
  obtain ⟨rfl, hM3⟩ := hcut
  have hlv : lowN S1 v cs v = S1.low v := by
    cases cs with
    | nil => rfl
    | cons g cs' =>
      refine upd_other _ _ _ _ (fun e => ?_)
      have ho := HI1.out.1.grayOrd
      rw [HC.out, List.pairwise_cons] at ho
      have := ho.1 g (by simp)
      rw [← e] at this
      exact absurd this (Nat.lt_irrefl _)
  have hbL := hM3.hbL.cell (i := 0) (by omega)
  have hbI := hM3.hbI.cell (i := 0) (by omega)
  have hLv : wc.cell? ⟨gLow, v, none⟩ = some (.int .i64 (S1.low v : Int)) := by rw [← hlv]; exact hM3.hLow.cell hvn
  have hIv := hM3.hIdx.cell hvn
  clear hlv
  have hne : ((S1.low v : Int) == (S1.idx v : Int)) = false := by have := HLL.out; simp; omega
  have hcs : ∃ p np cs', cs = (p, np) :: cs' := by
    cases cs with
    | nil => exact absurd (HI1.out.1.last HC.out) HLL.out
    | cons g cs' => exact ⟨g.1, g.2, cs', rfl⟩
  obtain ⟨p, np, cs', rfl⟩ := hcs
  go_upto_region 28 with fail
  go_quiet (fail)
  go_wp2_with fail
  unfold Y2 I2
  exact ⟨meas n adj (S1.back v p np cs'), meas_back HC.out, _, _, _, _, _, _, _, _, _, _, _, _, _, _, _, _, _, _, _, _, _, _, _, _, _, _, _, _, _, _, _, _, _, _, _, _, _, _, _, _, _, _, _, _, _, _, _, _, _, _, _, _, _, _, _, _, _, _, _, _, _, _, _, _, _, _, _, _, _, _, _, _, _, _, _, _, _, _, _, _, _, _, _, _, _, _, _, _, _, _, _, _, _, _, _, _, _, _, _, _, _, _, _, _, _, _, _, _, _, _, _, _, _, _, _, _, _, _, _, _, _, _, _, _, _, _, _, _, _, _, _, _, _, _, S1.back v p np cs', sv1, .slice (some ⟨gC, 0, none⟩) ((p, np) :: cs').length capC, rfl, hM3.drewN nq, HI1.out.1.back HC.out hlt HLL.out, HI1.out.2, rfl⟩
end Go.Proofs.Qxb6603123a
