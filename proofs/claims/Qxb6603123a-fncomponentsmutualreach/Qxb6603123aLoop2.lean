/-
  SEAT b6603123a: THE SEARCH LOOP OF '(*graph).components', WHOLE.
-/
import Derived.Test.Qxb6603123aBrNil
import Derived.Test.Qxb6603123aBrVisit
import Derived.Test.Qxb6603123aBrDone
import Derived.Test.Qxb6603123aBrOnA
import Derived.Test.Qxb6603123aBrOnB
import Derived.Test.Qxb6603123aBrNe
import Derived.Test.Qxb6603123aBrEq
namespace Go.Proofs.Qxb6603123a
open Go.ChangeShapes Go.WideShapes Go.ChangeAt Go.RowKit
set_option linter.unusedVariables false

set_option maxHeartbeats 1600000 in
set_option maxRecDepth 1000000 in
theorem round2 (w0 : World) (bg bo : Nat) (be : Nat → Nat) (B0 gIdx gLow bIdx bLow n : Nat) (adj : Nat → List Nat) (k : Nat) (hG : Gr w0 bg bo be n adj) (hn : n ≤ 1048576) (hadj : ∀ v, v < n → ∀ x ∈ adj v, x < n) (hdeg : ∀ v, v < n → (adj v).length ≤ 1048576) (d : Dist B0 gIdx gLow bIdx bLow) (hBB : w0.heap.size ≤ B0)
    (S1 : TS) (sv1 cv1 : Value) (wr : World) (hM : Mem w0 B0 gIdx gLow bIdx bLow n S1 sv1 cv1 wr) (HI1 : Hid (Inv n adj S1 ∧ ∀ v, v ≤ k → 0 < S1.idx v))
    (c1 c2 c3 c13 c19 c20 c21 c22 c23 c24 c25 c26 c27 c28 c29 c30 c31 c32 c33 c34 c35 c36 c37 c38 c39 c40 c41 c42 c43 c44 c174 c175 u14 u15 u16 u17 u18 u45 u46 u47 u48 u49 u50 u51 u52 u53 u54 u55 u56 u57 u58 u59 u60 u61 u62 u63 u64 u65 u66 u67 u68 u69 u70 u71 u72 u73 u74 u75 u76 u77 u78 u79 u80 u81 u82 u83 u84 u85 u86 u87 u88 u89 u90 u91 u92 u93 u94 u95 u96 u97 u98 u99 u100 u101 u102 u103 u104 u105 u106 u107 u108 u109 u110 u111 u112 u113 u114 u115 u116 u117 u118 u119 u120 u121 u122 u123 u124 u125 u126 u127 u128 u129 u130 u131 u132 u133 u134 u135 u136 u137 u138 u139 u140 u141 u142 u143 u144 u145 u146 u147 u148 u149 u150 u151 u152 u153 u154 u155 u156 u157 u158 u159 u160 u161 u162 u163 u164 u165 u166 u167 u168 u169 u170 u171 u172 u173 : Value) (KR : Act → World → Prop) (hK : ∀ a' w', Y2 w0 bg B0 gIdx gLow bIdx bLow n adj k c1 c2 c3 c13 c19 c20 c21 c22 c23 c24 c25 c26 c27 c28 c29 c30 c31 c32 c33 c34 c35 c36 c37 c38 c39 c40 c41 c42 c43 c44 c174 c175 (meas n adj S1) a' w' → KR a' w') :
    Code.wp Try.prog ((Try.f23.body.bind (nthLoop 2)).getD .skip) (Exit.then KR (Qx 2 (X2 w0 bg B0 gIdx gLow bIdx bLow n adj k c1 c2 c3 c13 c19 c20 c21 c22 c23 c24 c25 c26 c27 c28 c29 c30 c31 c32 c33 c34 c35 c36 c37 c38 c39 c40 c41 c42 c43 c44 c174 c175))) ⟨((.pointer (some ⟨bg, 0, none⟩)) :: c1 :: c2 :: c3 :: (.pointer (some ⟨bIdx, 0, none⟩)) :: (.pointer (some ⟨bLow, 0, none⟩)) :: (.slice (some ⟨B0 + 4, 0, none⟩) n n) :: (.pointer (some ⟨B0 + 6, 0, none⟩)) :: (.pointer (some ⟨B0 + 7, 0, none⟩)) :: (.pointer (some ⟨B0 + 8, 0, none⟩)) :: (.pointer (some ⟨B0 + 9, 0, none⟩)) :: (.int .i64 (S1.cnt : Int)) :: (.func (.func 25) #[] #[.pointer (some ⟨B0 + 9, 0, none⟩), .pointer (some ⟨bIdx, 0, none⟩), .pointer (some ⟨bLow, 0, none⟩), .pointer (some ⟨B0 + 7, 0, none⟩), .pointer (some ⟨B0 + 6, 0, none⟩), .pointer (some ⟨B0 + 8, 0, none⟩)]) :: c13 :: u14 :: u15 :: u16 :: u17 :: u18 :: c19 :: c20 :: c21 :: c22 :: c23 :: c24 :: c25 :: c26 :: c27 :: c28 :: c29 :: c30 :: c31 :: c32 :: c33 :: c34 :: c35 :: c36 :: c37 :: c38 :: c39 :: c40 :: c41 :: c42 :: c43 :: c44 :: u45 :: u46 :: u47 :: u48 :: u49 :: u50 :: u51 :: u52 :: u53 :: u54 :: u55 :: u56 :: u57 :: u58 :: u59 :: u60 :: u61 :: u62 :: u63 :: u64 :: u65 :: u66 :: u67 :: u68 :: u69 :: u70 :: u71 :: u72 :: u73 :: u74 :: u75 :: u76 :: u77 :: u78 :: u79 :: u80 :: u81 :: u82 :: u83 :: u84 :: u85 :: u86 :: u87 :: u88 :: u89 :: u90 :: u91 :: u92 :: u93 :: u94 :: u95 :: u96 :: u97 :: u98 :: u99 :: u100 :: u101 :: u102 :: u103 :: u104 :: u105 :: u106 :: u107 :: u108 :: u109 :: u110 :: u111 :: u112 :: u113 :: u114 :: u115 :: u116 :: u117 :: u118 :: u119 :: u120 :: u121 :: u122 :: u123 :: u124 :: u125 :: u126 :: u127 :: u128 :: u129 :: u130 :: u131 :: u132 :: u133 :: u134 :: u135 :: u136 :: u137 :: u138 :: u139 :: u140 :: u141 :: u142 :: u143 :: u144 :: u145 :: u146 :: u147 :: u148 :: u149 :: u150 :: u151 :: u152 :: u153 :: u154 :: u155 :: u156 :: u157 :: u158 :: u159 :: u160 :: u161 :: u162 :: u163 :: u164 :: u165 :: u166 :: u167 :: u168 :: u169 :: u170 :: u171 :: u172 :: u173 :: c174 :: c175 :: []).toArray, []⟩ wr := by
  cases hc : S1.calls with
  | nil => exact brNil w0 bg bo be B0 gIdx gLow bIdx bLow n adj k hG hn hadj hdeg d hBB S1 sv1 cv1 wr hM HI1 hc c1 c2 c3 c13 c19 c20 c21 c22 c23 c24 c25 c26 c27 c28 c29 c30 c31 c32 c33 c34 c35 c36 c37 c38 c39 c40 c41 c42 c43 c44 c174 c175 u14 u15 u16 u17 u18 u45 u46 u47 u48 u49 u50 u51 u52 u53 u54 u55 u56 u57 u58 u59 u60 u61 u62 u63 u64 u65 u66 u67 u68 u69 u70 u71 u72 u73 u74 u75 u76 u77 u78 u79 u80 u81 u82 u83 u84 u85 u86 u87 u88 u89 u90 u91 u92 u93 u94 u95 u96 u97 u98 u99 u100 u101 u102 u103 u104 u105 u106 u107 u108 u109 u110 u111 u112 u113 u114 u115 u116 u117 u118 u119 u120 u121 u122 u123 u124 u125 u126 u127 u128 u129 u130 u131 u132 u133 u134 u135 u136 u137 u138 u139 u140 u141 u142 u143 u144 u145 u146 u147 u148 u149 u150 u151 u152 u153 u154 u155 u156 u157 u158 u159 u160 u161 u162 u163 u164 u165 u166 u167 u168 u169 u170 u171 u172 u173 KR hK
  | cons f cs =>
    obtain ⟨v, nx⟩ := f
    by_cases hlt : nx < (adj v).length
    · by_cases hix : S1.idx ((adj v).getD nx 0) = 0
      · exact brVisit w0 bg bo be B0 gIdx gLow bIdx bLow n adj k hG hn hadj hdeg d hBB S1 sv1 cv1 wr hM HI1 hc hlt rfl hix c1 c2 c3 c13 c19 c20 c21 c22 c23 c24 c25 c26 c27 c28 c29 c30 c31 c32 c33 c34 c35 c36 c37 c38 c39 c40 c41 c42 c43 c44 c174 c175 u14 u15 u16 u17 u18 u45 u46 u47 u48 u49 u50 u51 u52 u53 u54 u55 u56 u57 u58 u59 u60 u61 u62 u63 u64 u65 u66 u67 u68 u69 u70 u71 u72 u73 u74 u75 u76 u77 u78 u79 u80 u81 u82 u83 u84 u85 u86 u87 u88 u89 u90 u91 u92 u93 u94 u95 u96 u97 u98 u99 u100 u101 u102 u103 u104 u105 u106 u107 u108 u109 u110 u111 u112 u113 u114 u115 u116 u117 u118 u119 u120 u121 u122 u123 u124 u125 u126 u127 u128 u129 u130 u131 u132 u133 u134 u135 u136 u137 u138 u139 u140 u141 u142 u143 u144 u145 u146 u147 u148 u149 u150 u151 u152 u153 u154 u155 u156 u157 u158 u159 u160 u161 u162 u163 u164 u165 u166 u167 u168 u169 u170 u171 u172 u173 KR hK
      · cases ho : S1.on ((adj v).getD nx 0) with
        | false => exact brDone w0 bg bo be B0 gIdx gLow bIdx bLow n adj k hG hn hadj hdeg d hBB S1 sv1 cv1 wr hM HI1 hc hlt rfl hix ho c1 c2 c3 c13 c19 c20 c21 c22 c23 c24 c25 c26 c27 c28 c29 c30 c31 c32 c33 c34 c35 c36 c37 c38 c39 c40 c41 c42 c43 c44 c174 c175 u14 u15 u16 u17 u18 u45 u46 u47 u48 u49 u50 u51 u52 u53 u54 u55 u56 u57 u58 u59 u60 u61 u62 u63 u64 u65 u66 u67 u68 u69 u70 u71 u72 u73 u74 u75 u76 u77 u78 u79 u80 u81 u82 u83 u84 u85 u86 u87 u88 u89 u90 u91 u92 u93 u94 u95 u96 u97 u98 u99 u100 u101 u102 u103 u104 u105 u106 u107 u108 u109 u110 u111 u112 u113 u114 u115 u116 u117 u118 u119 u120 u121 u122 u123 u124 u125 u126 u127 u128 u129 u130 u131 u132 u133 u134 u135 u136 u137 u138 u139 u140 u141 u142 u143 u144 u145 u146 u147 u148 u149 u150 u151 u152 u153 u154 u155 u156 u157 u158 u159 u160 u161 u162 u163 u164 u165 u166 u167 u168 u169 u170 u171 u172 u173 KR hK
        | true =>
          by_cases hml : S1.idx ((adj v).getD nx 0) < S1.low v
          · exact brOnA w0 bg bo be B0 gIdx gLow bIdx bLow n adj k hG hn hadj hdeg d hBB S1 sv1 cv1 wr hM HI1 hc hlt rfl hix ho hml c1 c2 c3 c13 c19 c20 c21 c22 c23 c24 c25 c26 c27 c28 c29 c30 c31 c32 c33 c34 c35 c36 c37 c38 c39 c40 c41 c42 c43 c44 c174 c175 u14 u15 u16 u17 u18 u45 u46 u47 u48 u49 u50 u51 u52 u53 u54 u55 u56 u57 u58 u59 u60 u61 u62 u63 u64 u65 u66 u67 u68 u69 u70 u71 u72 u73 u74 u75 u76 u77 u78 u79 u80 u81 u82 u83 u84 u85 u86 u87 u88 u89 u90 u91 u92 u93 u94 u95 u96 u97 u98 u99 u100 u101 u102 u103 u104 u105 u106 u107 u108 u109 u110 u111 u112 u113 u114 u115 u116 u117 u118 u119 u120 u121 u122 u123 u124 u125 u126 u127 u128 u129 u130 u131 u132 u133 u134 u135 u136 u137 u138 u139 u140 u141 u142 u143 u144 u145 u146 u147 u148 u149 u150 u151 u152 u153 u154 u155 u156 u157 u158 u159 u160 u161 u162 u163 u164 u165 u166 u167 u168 u169 u170 u171 u172 u173 KR hK
          · exact brOnB w0 bg bo be B0 gIdx gLow bIdx bLow n adj k hG hn hadj hdeg d hBB S1 sv1 cv1 wr hM HI1 hc hlt rfl hix ho hml c1 c2 c3 c13 c19 c20 c21 c22 c23 c24 c25 c26 c27 c28 c29 c30 c31 c32 c33 c34 c35 c36 c37 c38 c39 c40 c41 c42 c43 c44 c174 c175 u14 u15 u16 u17 u18 u45 u46 u47 u48 u49 u50 u51 u52 u53 u54 u55 u56 u57 u58 u59 u60 u61 u62 u63 u64 u65 u66 u67 u68 u69 u70 u71 u72 u73 u74 u75 u76 u77 u78 u79 u80 u81 u82 u83 u84 u85 u86 u87 u88 u89 u90 u91 u92 u93 u94 u95 u96 u97 u98 u99 u100 u101 u102 u103 u104 u105 u106 u107 u108 u109 u110 u111 u112 u113 u114 u115 u116 u117 u118 u119 u120 u121 u122 u123 u124 u125 u126 u127 u128 u129 u130 u131 u132 u133 u134 u135 u136 u137 u138 u139 u140 u141 u142 u143 u144 u145 u146 u147 u148 u149 u150 u151 u152 u153 u154 u155 u156 u157 u158 u159 u160 u161 u162 u163 u164 u165 u166 u167 u168 u169 u170 u171 u172 u173 KR hK
    · by_cases hl : S1.low v = S1.idx v
      · exact brEq w0 bg bo be B0 gIdx gLow bIdx bLow n adj k hG hn hadj hdeg d hBB S1 sv1 cv1 wr hM HI1 hc hlt hl c1 c2 c3 c13 c19 c20 c21 c22 c23 c24 c25 c26 c27 c28 c29 c30 c31 c32 c33 c34 c35 c36 c37 c38 c39 c40 c41 c42 c43 c44 c174 c175 u14 u15 u16 u17 u18 u45 u46 u47 u48 u49 u50 u51 u52 u53 u54 u55 u56 u57 u58 u59 u60 u61 u62 u63 u64 u65 u66 u67 u68 u69 u70 u71 u72 u73 u74 u75 u76 u77 u78 u79 u80 u81 u82 u83 u84 u85 u86 u87 u88 u89 u90 u91 u92 u93 u94 u95 u96 u97 u98 u99 u100 u101 u102 u103 u104 u105 u106 u107 u108 u109 u110 u111 u112 u113 u114 u115 u116 u117 u118 u119 u120 u121 u122 u123 u124 u125 u126 u127 u128 u129 u130 u131 u132 u133 u134 u135 u136 u137 u138 u139 u140 u141 u142 u143 u144 u145 u146 u147 u148 u149 u150 u151 u152 u153 u154 u155 u156 u157 u158 u159 u160 u161 u162 u163 u164 u165 u166 u167 u168 u169 u170 u171 u172 u173 KR hK
      · exact brNe w0 bg bo be B0 gIdx gLow bIdx bLow n adj k hG hn hadj hdeg d hBB S1 sv1 cv1 wr hM HI1 hc hlt hl c1 c2 c3 c13 c19 c20 c21 c22 c23 c24 c25 c26 c27 c28 c29 c30 c31 c32 c33 c34 c35 c36 c37 c38 c39 c40 c41 c42 c43 c44 c174 c175 u14 u15 u16 u17 u18 u45 u46 u47 u48 u49 u50 u51 u52 u53 u54 u55 u56 u57 u58 u59 u60 u61 u62 u63 u64 u65 u66 u67 u68 u69 u70 u71 u72 u73 u74 u75 u76 u77 u78 u79 u80 u81 u82 u83 u84 u85 u86 u87 u88 u89 u90 u91 u92 u93 u94 u95 u96 u97 u98 u99 u100 u101 u102 u103 u104 u105 u106 u107 u108 u109 u110 u111 u112 u113 u114 u115 u116 u117 u118 u119 u120 u121 u122 u123 u124 u125 u126 u127 u128 u129 u130 u131 u132 u133 u134 u135 u136 u137 u138 u139 u140 u141 u142 u143 u144 u145 u146 u147 u148 u149 u150 u151 u152 u153 u154 u155 u156 u157 u158 u159 u160 u161 u162 u163 u164 u165 u166 u167 u168 u169 u170 u171 u172 u173 KR hK

set_option maxHeartbeats 1600000 in
set_option maxRecDepth 1000000 in
theorem loop2 (w0 : World) (bg bo : Nat) (be : Nat → Nat) (B0 gIdx gLow bIdx bLow n : Nat) (adj : Nat → List Nat) (k : Nat) (hG : Gr w0 bg bo be n adj) (hn : n ≤ 1048576) (hadj : ∀ v, v < n → ∀ x ∈ adj v, x < n) (hdeg : ∀ v, v < n → (adj v).length ≤ 1048576) (d : Dist B0 gIdx gLow bIdx bLow) (hBB : w0.heap.size ≤ B0)
    (S1 : TS) (sv1 cv1 : Value) (wr : World) (hM : Mem w0 B0 gIdx gLow bIdx bLow n S1 sv1 cv1 wr) (HI1 : Hid (Inv n adj S1 ∧ ∀ v, v ≤ k → 0 < S1.idx v)) (c1 c2 c3 c13 c19 c20 c21 c22 c23 c24 c25 c26 c27 c28 c29 c30 c31 c32 c33 c34 c35 c36 c37 c38 c39 c40 c41 c42 c43 c44 c174 c175 u14 u15 u16 u17 u18 u45 u46 u47 u48 u49 u50 u51 u52 u53 u54 u55 u56 u57 u58 u59 u60 u61 u62 u63 u64 u65 u66 u67 u68 u69 u70 u71 u72 u73 u74 u75 u76 u77 u78 u79 u80 u81 u82 u83 u84 u85 u86 u87 u88 u89 u90 u91 u92 u93 u94 u95 u96 u97 u98 u99 u100 u101 u102 u103 u104 u105 u106 u107 u108 u109 u110 u111 u112 u113 u114 u115 u116 u117 u118 u119 u120 u121 u122 u123 u124 u125 u126 u127 u128 u129 u130 u131 u132 u133 u134 u135 u136 u137 u138 u139 u140 u141 u142 u143 u144 u145 u146 u147 u148 u149 u150 u151 u152 u153 u154 u155 u156 u157 u158 u159 u160 u161 u162 u163 u164 u165 u166 u167 u168 u169 u170 u171 u172 u173 : Value) :
    Code.wp Try.prog (.loop ((Try.f23.body.bind (nthLoop 2)).getD .skip)) (Qx 2 (X2 w0 bg B0 gIdx gLow bIdx bLow n adj k c1 c2 c3 c13 c19 c20 c21 c22 c23 c24 c25 c26 c27 c28 c29 c30 c31 c32 c33 c34 c35 c36 c37 c38 c39 c40 c41 c42 c43 c44 c174 c175)) ⟨((.pointer (some ⟨bg, 0, none⟩)) :: c1 :: c2 :: c3 :: (.pointer (some ⟨bIdx, 0, none⟩)) :: (.pointer (some ⟨bLow, 0, none⟩)) :: (.slice (some ⟨B0 + 4, 0, none⟩) n n) :: (.pointer (some ⟨B0 + 6, 0, none⟩)) :: (.pointer (some ⟨B0 + 7, 0, none⟩)) :: (.pointer (some ⟨B0 + 8, 0, none⟩)) :: (.pointer (some ⟨B0 + 9, 0, none⟩)) :: (.int .i64 (S1.cnt : Int)) :: (.func (.func 25) #[] #[.pointer (some ⟨B0 + 9, 0, none⟩), .pointer (some ⟨bIdx, 0, none⟩), .pointer (some ⟨bLow, 0, none⟩), .pointer (some ⟨B0 + 7, 0, none⟩), .pointer (some ⟨B0 + 6, 0, none⟩), .pointer (some ⟨B0 + 8, 0, none⟩)]) :: c13 :: u14 :: u15 :: u16 :: u17 :: u18 :: c19 :: c20 :: c21 :: c22 :: c23 :: c24 :: c25 :: c26 :: c27 :: c28 :: c29 :: c30 :: c31 :: c32 :: c33 :: c34 :: c35 :: c36 :: c37 :: c38 :: c39 :: c40 :: c41 :: c42 :: c43 :: c44 :: u45 :: u46 :: u47 :: u48 :: u49 :: u50 :: u51 :: u52 :: u53 :: u54 :: u55 :: u56 :: u57 :: u58 :: u59 :: u60 :: u61 :: u62 :: u63 :: u64 :: u65 :: u66 :: u67 :: u68 :: u69 :: u70 :: u71 :: u72 :: u73 :: u74 :: u75 :: u76 :: u77 :: u78 :: u79 :: u80 :: u81 :: u82 :: u83 :: u84 :: u85 :: u86 :: u87 :: u88 :: u89 :: u90 :: u91 :: u92 :: u93 :: u94 :: u95 :: u96 :: u97 :: u98 :: u99 :: u100 :: u101 :: u102 :: u103 :: u104 :: u105 :: u106 :: u107 :: u108 :: u109 :: u110 :: u111 :: u112 :: u113 :: u114 :: u115 :: u116 :: u117 :: u118 :: u119 :: u120 :: u121 :: u122 :: u123 :: u124 :: u125 :: u126 :: u127 :: u128 :: u129 :: u130 :: u131 :: u132 :: u133 :: u134 :: u135 :: u136 :: u137 :: u138 :: u139 :: u140 :: u141 :: u142 :: u143 :: u144 :: u145 :: u146 :: u147 :: u148 :: u149 :: u150 :: u151 :: u152 :: u153 :: u154 :: u155 :: u156 :: u157 :: u158 :: u159 :: u160 :: u161 :: u162 :: u163 :: u164 :: u165 :: u166 :: u167 :: u168 :: u169 :: u170 :: u171 :: u172 :: u173 :: c174 :: c175 :: []).toArray, []⟩ wr := by
  refine wp_loop_ghost (I2 w0 bg B0 gIdx gLow bIdx bLow n adj k c1 c2 c3 c13 c19 c20 c21 c22 c23 c24 c25 c26 c27 c28 c29 c30 c31 c32 c33 c34 c35 c36 c37 c38 c39 c40 c41 c42 c43 c44 c174 c175) (meas n adj S1) ?_ ?_
  · unfold I2
    exact ⟨u14, u15, u16, u17, u18, u45, u46, u47, u48, u49, u50, u51, u52, u53, u54, u55, u56, u57, u58, u59, u60, u61, u62, u63, u64, u65, u66, u67, u68, u69, u70, u71, u72, u73, u74, u75, u76, u77, u78, u79, u80, u81, u82, u83, u84, u85, u86, u87, u88, u89, u90, u91, u92, u93, u94, u95, u96, u97, u98, u99, u100, u101, u102, u103, u104, u105, u106, u107, u108, u109, u110, u111, u112, u113, u114, u115, u116, u117, u118, u119, u120, u121, u122, u123, u124, u125, u126, u127, u128, u129, u130, u131, u132, u133, u134, u135, u136, u137, u138, u139, u140, u141, u142, u143, u144, u145, u146, u147, u148, u149, u150, u151, u152, u153, u154, u155, u156, u157, u158, u159, u160, u161, u162, u163, u164, u165, u166, u167, u168, u169, u170, u171, u172, u173, S1, sv1, cv1, rfl, hM, HI1.out.1, HI1.out.2, rfl⟩
  · clear hM HI1
    intro m a wx hI
    unfold I2 at hI
    obtain ⟨x14, hI⟩ := hI
    obtain ⟨x15, hI⟩ := hI
    obtain ⟨x16, hI⟩ := hI
    obtain ⟨x17, hI⟩ := hI
    obtain ⟨x18, hI⟩ := hI
    obtain ⟨x45, hI⟩ := hI
    obtain ⟨x46, hI⟩ := hI
    obtain ⟨x47, hI⟩ := hI
    obtain ⟨x48, hI⟩ := hI
    obtain ⟨x49, hI⟩ := hI
    obtain ⟨x50, hI⟩ := hI
    obtain ⟨x51, hI⟩ := hI
    obtain ⟨x52, hI⟩ := hI
    obtain ⟨x53, hI⟩ := hI
    obtain ⟨x54, hI⟩ := hI
    obtain ⟨x55, hI⟩ := hI
    obtain ⟨x56, hI⟩ := hI
    obtain ⟨x57, hI⟩ := hI
    obtain ⟨x58, hI⟩ := hI
    obtain ⟨x59, hI⟩ := hI
    obtain ⟨x60, hI⟩ := hI
    obtain ⟨x61, hI⟩ := hI
    obtain ⟨x62, hI⟩ := hI
    obtain ⟨x63, hI⟩ := hI
    obtain ⟨x64, hI⟩ := hI
    obtain ⟨x65, hI⟩ := hI
    obtain ⟨x66, hI⟩ := hI
    obtain ⟨x67, hI⟩ := hI
    obtain ⟨x68, hI⟩ := hI
    obtain ⟨x69, hI⟩ := hI
    obtain ⟨x70, hI⟩ := hI
    obtain ⟨x71, hI⟩ := hI
    obtain ⟨x72, hI⟩ := hI
    obtain ⟨x73, hI⟩ := hI
    obtain ⟨x74, hI⟩ := hI
    obtain ⟨x75, hI⟩ := hI
    obtain ⟨x76, hI⟩ := hI
    obtain ⟨x77, hI⟩ := hI
    obtain ⟨x78, hI⟩ := hI
    obtain ⟨x79, hI⟩ := hI
    obtain ⟨x80, hI⟩ := hI
    obtain ⟨x81, hI⟩ := hI
    obtain ⟨x82, hI⟩ := hI
    obtain ⟨x83, hI⟩ := hI
    obtain ⟨x84, hI⟩ := hI
    obtain ⟨x85, hI⟩ := hI
    obtain ⟨x86, hI⟩ := hI
    obtain ⟨x87, hI⟩ := hI
    obtain ⟨x88, hI⟩ := hI
    obtain ⟨x89, hI⟩ := hI
    obtain ⟨x90, hI⟩ := hI
    obtain ⟨x91, hI⟩ := hI
    obtain ⟨x92, hI⟩ := hI
    obtain ⟨x93, hI⟩ := hI
    obtain ⟨x94, hI⟩ := hI
    obtain ⟨x95, hI⟩ := hI
    obtain ⟨x96, hI⟩ := hI
    obtain ⟨x97, hI⟩ := hI
    obtain ⟨x98, hI⟩ := hI
    obtain ⟨x99, hI⟩ := hI
    obtain ⟨x100, hI⟩ := hI
    obtain ⟨x101, hI⟩ := hI
    obtain ⟨x102, hI⟩ := hI
    obtain ⟨x103, hI⟩ := hI
    obtain ⟨x104, hI⟩ := hI
    obtain ⟨x105, hI⟩ := hI
    obtain ⟨x106, hI⟩ := hI
    obtain ⟨x107, hI⟩ := hI
    obtain ⟨x108, hI⟩ := hI
    obtain ⟨x109, hI⟩ := hI
    obtain ⟨x110, hI⟩ := hI
    obtain ⟨x111, hI⟩ := hI
    obtain ⟨x112, hI⟩ := hI
    obtain ⟨x113, hI⟩ := hI
    obtain ⟨x114, hI⟩ := hI
    obtain ⟨x115, hI⟩ := hI
    obtain ⟨x116, hI⟩ := hI
    obtain ⟨x117, hI⟩ := hI
    obtain ⟨x118, hI⟩ := hI
    obtain ⟨x119, hI⟩ := hI
    obtain ⟨x120, hI⟩ := hI
    obtain ⟨x121, hI⟩ := hI
    obtain ⟨x122, hI⟩ := hI
    obtain ⟨x123, hI⟩ := hI
    obtain ⟨x124, hI⟩ := hI
    obtain ⟨x125, hI⟩ := hI
    obtain ⟨x126, hI⟩ := hI
    obtain ⟨x127, hI⟩ := hI
    obtain ⟨x128, hI⟩ := hI
    obtain ⟨x129, hI⟩ := hI
    obtain ⟨x130, hI⟩ := hI
    obtain ⟨x131, hI⟩ := hI
    obtain ⟨x132, hI⟩ := hI
    obtain ⟨x133, hI⟩ := hI
    obtain ⟨x134, hI⟩ := hI
    obtain ⟨x135, hI⟩ := hI
    obtain ⟨x136, hI⟩ := hI
    obtain ⟨x137, hI⟩ := hI
    obtain ⟨x138, hI⟩ := hI
    obtain ⟨x139, hI⟩ := hI
    obtain ⟨x140, hI⟩ := hI
    obtain ⟨x141, hI⟩ := hI
    obtain ⟨x142, hI⟩ := hI
    obtain ⟨x143, hI⟩ := hI
    obtain ⟨x144, hI⟩ := hI
    obtain ⟨x145, hI⟩ := hI
    obtain ⟨x146, hI⟩ := hI
    obtain ⟨x147, hI⟩ := hI
    obtain ⟨x148, hI⟩ := hI
    obtain ⟨x149, hI⟩ := hI
    obtain ⟨x150, hI⟩ := hI
    obtain ⟨x151, hI⟩ := hI
    obtain ⟨x152, hI⟩ := hI
    obtain ⟨x153, hI⟩ := hI
    obtain ⟨x154, hI⟩ := hI
    obtain ⟨x155, hI⟩ := hI
    obtain ⟨x156, hI⟩ := hI
    obtain ⟨x157, hI⟩ := hI
    obtain ⟨x158, hI⟩ := hI
    obtain ⟨x159, hI⟩ := hI
    obtain ⟨x160, hI⟩ := hI
    obtain ⟨x161, hI⟩ := hI
    obtain ⟨x162, hI⟩ := hI
    obtain ⟨x163, hI⟩ := hI
    obtain ⟨x164, hI⟩ := hI
    obtain ⟨x165, hI⟩ := hI
    obtain ⟨x166, hI⟩ := hI
    obtain ⟨x167, hI⟩ := hI
    obtain ⟨x168, hI⟩ := hI
    obtain ⟨x169, hI⟩ := hI
    obtain ⟨x170, hI⟩ := hI
    obtain ⟨x171, hI⟩ := hI
    obtain ⟨x172, hI⟩ := hI
    obtain ⟨x173, hI⟩ := hI
    obtain ⟨S2, sv2, cv2, rfl, hM2, hI2, hx2, rfl⟩ := hI
    exact round2 w0 bg bo be B0 gIdx gLow bIdx bLow n adj k hG hn hadj hdeg d hBB S2 sv2 cv2 wx hM2 ⟨hI2, hx2⟩ c1 c2 c3 c13 c19 c20 c21 c22 c23 c24 c25 c26 c27 c28 c29 c30 c31 c32 c33 c34 c35 c36 c37 c38 c39 c40 c41 c42 c43 c44 c174 c175 x14 x15 x16 x17 x18 x45 x46 x47 x48 x49 x50 x51 x52 x53 x54 x55 x56 x57 x58 x59 x60 x61 x62 x63 x64 x65 x66 x67 x68 x69 x70 x71 x72 x73 x74 x75 x76 x77 x78 x79 x80 x81 x82 x83 x84 x85 x86 x87 x88 x89 x90 x91 x92 x93 x94 x95 x96 x97 x98 x99 x100 x101 x102 x103 x104 x105 x106 x107 x108 x109 x110 x111 x112 x113 x114 x115 x116 x117 x118 x119 x120 x121 x122 x123 x124 x125 x126 x127 x128 x129 x130 x131 x132 x133 x134 x135 x136 x137 x138 x139 x140 x141 x142 x143 x144 x145 x146 x147 x148 x149 x150 x151 x152 x153 x154 x155 x156 x157 x158 x159 x160 x161 x162 x163 x164 x165 x166 x167 x168 x169 x170 x171 x172 x173 _ (fun a' w' h => h)
end Go.Proofs.Qxb6603123a
