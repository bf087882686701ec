/-
  PARTS: T1 T2.
-/
import Derived.Test.YtmmpogfbhelioaaGreatFoa
/-
  The readable texts of the program's functions, printed by gen.py, and their links with the program.
  Conditions: none.
-/
namespace Go.Proofs.YtmmpogfbhelioaaGreat
set_option maxRecDepth 10000
set_option linter.unusedVariables false
set_option linter.unusedSimpArgs false
def t42 (a0 a1 : Value) (K : Value → World → Prop) (w : World) : Prop :=
 Qu Pr (Is w) (Instr.loadAt 64 a1) fun v1 =>
 Cl Pr (callV (fn 44) #[v1]) w fun v3 w2 =>
 Cl Pr (callV (fn 43) #[a0, v3]) w2 fun _ w4 =>
 K (Value.bool false) w4
theorem c42 {a0 a1 : Value} {K : Value → World → Prop} {w : World} (h : t42 a0 a1 K w) : CK Pr 42 #[a0, a1] w K := by
  refine calls_of_RF [] Tryz.func42 rfl ?_ ?_ ?_
  · kernel_rfl
  · exact Nat.le_of_ble_eq_true rfl
  · exact cast (by kernel_rfl) h

def t43 (a0 a1 : Value) (K : Value → World → Prop) (w : World) : Prop :=
 Cl Pr (callV (fn 63) #[a0, a1]) w fun _ w1 =>
 K (.tuple #[]) w1
theorem c43 {a0 a1 : Value} {K : Value → World → Prop} {w : World} (h : t43 a0 a1 K w) : CK Pr 43 #[a0, a1] w K := by
  refine calls_of_RF [] Tryz.func43 rfl ?_ ?_ ?_
  · kernel_rfl
  · exact Nat.le_of_ble_eq_true rfl
  · exact cast (by kernel_rfl) h

@[irreducible] def t44_1 (w59 : World) (v2 : Value) (v52 : Value) (K : Value → World → Prop) : Prop :=
   Qu Pr (Is w59) (Instr.fieldAt 64 v2 10) fun v61 =>
   Qu Pr (Is w59) (Instr.loadAt 27 v61) fun v62 =>
   Ef Pr (Instr.alloc 27 true (.tuple #[])) w59 fun v64 w63 =>
   Eu Pr (Instr.storeAt 27 v64 v62) w63 fun w65 =>
   Qu Pr (Is w65) (Instr.fieldAt 27 v64 1) fun v66 =>
   Qu Pr (Is w65) (Instr.loadAt 22 v66) fun v67 =>
   Qu Pr (Is w65) (binS .neq 22 (.tmp 52) (.const (Value.int .u64 0)) v67 (Value.int .u64 0)) fun v68 =>
   Gd v68 false (fun k69 => Qu Pr (Is w65) (Instr.fieldAt 27 v64 2) fun v72 => k69 v72 w65) w65 fun v70 w71 =>
   Gd v68 false (fun k73 => Qu Pr (Is w71) (Instr.loadAt 22 v70) fun v76 => k73 v76 w71) w71 fun v74 w75 =>
   Gd v68 false (fun k77 => Qu Pr (Is w75) (binS .neq 22 (.tmp 56) (.const (Value.int .u64 0)) v74 (Value.int .u64 0)) fun v80 => k77 v80 w75) w75 fun v78 w79 =>
   Qu Pr (Is w79) (pickS v68 (Value.bool true) v78) fun v81 =>
   Gd v81 false (fun k82 => Qu Pr (Is w79) (Instr.fieldAt 27 v64 0) fun v85 => k82 v85 w79) w79 fun v83 w84 =>
   Gd v81 false (fun k86 => Qu Pr (Is w84) (Instr.loadAt 9 v83) fun v89 => k86 v89 w84) w84 fun v87 w88 =>
   Gd v81 false (fun k90 => Qu Pr (Is w88) (binS .neq 9 (.tmp 61) (.const (Value.string (ByteArray.mk #[]))) v87 (Value.string (ByteArray.mk #[]))) fun v93 => k90 v93 w88) w88 fun v91 w92 =>
   Qu Pr (Is w92) (pickS v81 (Value.bool true) v91) fun v94 =>
   Gd v94 false (fun k95 => Qu Pr (Is w92) (Instr.fieldAt 27 v64 3) fun v98 => k95 v98 w92) w92 fun v96 w97 =>
   Gd v94 false (fun k99 => Qu Pr (Is w97) (Instr.fieldAt 25 v96 0) fun v102 => k99 v102 w97) w97 fun v100 w101 =>
   Gd v94 false (fun k103 => Qu Pr (Is w101) (Instr.loadAt 23 v100) fun v106 => k103 v106 w101) w101 fun v104 w105 =>
   Gd v94 false (fun k107 => Qu Pr (Is w105) (Builtin.len_ #[23] 3 #[v104]) fun v110 => k107 v110 w105) w105 fun v108 w109 =>
   Gd v94 false (fun k111 => Qu Pr (Is w109) (Instr.fieldAt 27 v64 3) fun v114 => k111 v114 w109) w109 fun v112 w113 =>
   Gd v94 false (fun k115 => Qu Pr (Is w113) (Instr.fieldAt 25 v112 1) fun v118 => k115 v118 w113) w113 fun v116 w117 =>
   Gd v94 false (fun k119 => Qu Pr (Is w117) (Instr.loadAt 23 v116) fun v122 => k119 v122 w117) w117 fun v120 w121 =>
   Gd v94 false (fun k123 => Qu Pr (Is w121) (Builtin.len_ #[23] 3 #[v120]) fun v126 => k123 v126 w121) w121 fun v124 w125 =>
   Gd v94 false (fun k127 => Qu Pr (Is w125) (binS .add 3 (.tmp 68) (.tmp 72) v108 v124) fun v130 => k127 v130 w125) w125 fun v128 w129 =>
   Gd v94 false (fun k131 => Qu Pr (Is w129) (Instr.fieldAt 27 v64 3) fun v134 => k131 v134 w129) w129 fun v132 w133 =>
   Gd v94 false (fun k135 => Qu Pr (Is w133) (Instr.fieldAt 25 v132 2) fun v138 => k135 v138 w133) w133 fun v136 w137 =>
   Gd v94 false (fun k139 => Qu Pr (Is w137) (Instr.loadAt 23 v136) fun v142 => k139 v142 w137) w137 fun v140 w141 =>
   Gd v94 false (fun k143 => Qu Pr (Is w141) (Builtin.len_ #[23] 3 #[v140]) fun v146 => k143 v146 w141) w141 fun v144 w145 =>
   Gd v94 false (fun k147 => Qu Pr (Is w145) (binS .add 3 (.tmp 73) (.tmp 77) v128 v144) fun v150 => k147 v150 w145) w145 fun v148 w149 =>
   Gd v94 false (fun k151 => Qu Pr (Is w149) (Instr.fieldAt 27 v64 3) fun v154 => k151 v154 w149) w149 fun v152 w153 =>
   Gd v94 false (fun k155 => Qu Pr (Is w153) (Instr.fieldAt 25 v152 3) fun v158 => k155 v158 w153) w153 fun v156 w157 =>
   Gd v94 false (fun k159 => Qu Pr (Is w157) (Instr.loadAt 23 v156) fun v162 => k159 v162 w157) w157 fun v160 w161 =>
   Gd v94 false (fun k163 => Qu Pr (Is w161) (Builtin.len_ #[23] 3 #[v160]) fun v166 => k163 v166 w161) w161 fun v164 w165 =>
   Gd v94 false (fun k167 => Qu Pr (Is w165) (binS .add 3 (.tmp 78) (.tmp 82) v148 v164) fun v170 => k167 v170 w165) w165 fun v168 w169 =>
   Gd v94 false (fun k171 => Qu Pr (Is w169) (binS .gtr 3 (.tmp 83) (.const (Value.int .i64 0)) v168 (Value.int .i64 0)) fun v174 => k171 v174 w169) w169 fun v172 w173 =>
   Qu Pr (Is w173) (pickS v94 (Value.bool true) v172) fun v175 =>
   Gd v175 false (fun k176 => Qu Pr (Is w173) (Instr.fieldAt 27 v64 3) fun v179 => k176 v179 w173) w173 fun v177 w178 =>
   Gd v175 false (fun k180 => Qu Pr (Is w178) (Instr.fieldAt 25 v177 4) fun v183 => k180 v183 w178) w178 fun v181 w182 =>
   Gd v175 false (fun k184 => Qu Pr (Is w182) (Instr.loadAt 4 v181) fun v187 => k184 v187 w182) w182 fun v185 w186 =>
   Qu Pr (Is w186) (pickS v175 (Value.bool true) v185) fun v188 =>
   Jo (fun  (w194 : World) => (
     Qu Pr (Is w194) (Instr.fieldAt 64 v2 13) fun v196 =>
     Qu Pr (Is w194) (Instr.loadAt 36 v196) fun v197 =>
     Qu Pr (Is w194) (Builtin.len_ #[36] 3 #[v197]) fun v198 =>
     LoopW [undef, (Value.int .i64 0), undef, undef, undef, undef, undef, undef, undef, undef, undef, undef, undef, undef, undef, undef, undef] (fun r199 τ200 w201 =>
      Qu Pr (Is w201) (binS .lss 3 (.tmp 99) (.tmp 98) (g τ200 1) v198) fun v202 =>
      If v202 (
       Qu Pr (Is w201) (Instr.indexAt 36 v197 (g τ200 1)) fun v203 =>
       Qu Pr (Is w201) (Instr.loadAt 64 v203) fun v204 =>
       Ef Pr (Instr.alloc 64 true (.tuple #[])) w201 fun v206 w205 =>
       Eu Pr (Instr.storeAt 64 v206 v204) w205 fun w207 =>
       Dr2 w207 fun S210 S208 w209 =>
       Qu Pr (S210) (nilS v52) fun v211 =>
       Qu Pr (S210) (Instr.fieldAt 119 v211 13) fun v212 =>
       Qu Pr (S210) (Instr.loadAt 94 v212) fun v213 =>
       Qu Pr (S210) (Instr.loadAt 64 v206) fun v214 =>
       Cl Pr (callV (fn 44) #[v214]) w209 fun v216 w215 => (S210 w215 ∧ S208 w215) ∧
       Ef Pr (Instr.buildSlice 94 1 #[(0, v216)]) w215 fun v218 w217 => (S210 w217 ∧ S208 w217) ∧
       Ef Pr (Builtin.append_ #[94, 94] 94 #[v213, v218]) w217 fun v220 w219 => (S210 w219 ∧ S208 w219) ∧
       Qu Pr (S210) (nilS v52) fun v221 =>
       Qu Pr (S210) (Instr.fieldAt 119 v221 13) fun v222 =>
       Eu Pr (Instr.storeAt 94 v222 v220) w219 fun w223 => S208 w223 ∧
       Qu Pr (Is w223) (binS .add 3 (.tmp 99) (.const (Value.int .i64 1)) (g τ200 1) (Value.int .i64 1)) fun v224 =>
       r199 [v206, v224, v202, v203, v204, v52, v52, v211, v212, v213, v214, v216, v218, v220, v221, v222, v224] w223) (
       K v52 w201)) w194 : Prop)) fun J195 =>
   If v188 (
    Qu Pr (Is w186) (Instr.loadAt 27 v64) fun v225 =>
    Cl Pr (callV (fn 32) #[v225]) w186 fun v227 w226 =>
    Qu Pr (Is w226) (nilS v52) fun v228 =>
    Qu Pr (Is w226) (Instr.fieldAt 119 v228 9) fun v229 =>
    Eu Pr (Instr.storeAt 75 v229 v227) w226 fun w230 =>
    J195 w230) (
    J195 w186)
def t44 (a0 : Value) (K : Value → World → Prop) (w : World) : Prop :=
 Ef Pr (Instr.box 64 a0) w fun v2 w1 =>
 Dr w1 fun S3 w4 =>
 Qu Pr (S3) (Instr.fieldAt 64 v2 0) fun v5 =>
 Qu Pr (S3) (Instr.loadAt 3 v5) fun v6 =>
 Qu Pr (S3) (convert 3 113 v6) fun v7 =>
 Ef Pr (Instr.box 113 v7) w4 fun v9 w8 => S3 w8 ∧
 Qu Pr (S3) (Instr.fieldAt 64 v2 1) fun v10 =>
 Qu Pr (S3) (Instr.loadAt 22 v10) fun v11 =>
 Cl Pr (callV (fn 64) #[v11]) w8 fun v13 w12 => S3 w12 ∧
 Qu Pr (S3) (Instr.fieldAt 64 v2 2) fun v14 =>
 Qu Pr (S3) (Instr.loadAt 22 v14) fun v15 =>
 Cl Pr (callV (fn 64) #[v15]) w12 fun v17 w16 => S3 w16 ∧
 Qu Pr (S3) (Instr.fieldAt 64 v2 3) fun v18 =>
 Qu Pr (S3) (Instr.loadAt 22 v18) fun v19 =>
 Cl Pr (callV (fn 64) #[v19]) w16 fun v21 w20 => S3 w20 ∧
 Qu Pr (S3) (Instr.fieldAt 64 v2 4) fun v22 =>
 Qu Pr (S3) (Instr.loadAt 22 v22) fun v23 =>
 Cl Pr (callV (fn 64) #[v23]) w20 fun v25 w24 => S3 w24 ∧
 Qu Pr (S3) (Instr.fieldAt 64 v2 5) fun v26 =>
 Qu Pr (S3) (Instr.loadAt 22 v26) fun v27 =>
 Cl Pr (callV (fn 64) #[v27]) w24 fun v29 w28 => S3 w28 ∧
 Qu Pr (S3) (Instr.fieldAt 64 v2 6) fun v30 =>
 Qu Pr (S3) (Instr.loadAt 22 v30) fun v31 =>
 Cl Pr (callV (fn 64) #[v31]) w28 fun v33 w32 => S3 w32 ∧
 Qu Pr (S3) (Instr.fieldAt 64 v2 7) fun v34 =>
 Qu Pr (S3) (Instr.loadAt 22 v34) fun v35 =>
 Cl Pr (callV (fn 64) #[v35]) w32 fun v37 w36 => S3 w36 ∧
 Qu Pr (S3) (Instr.fieldAt 64 v2 8) fun v38 =>
 Qu Pr (S3) (Instr.loadAt 22 v38) fun v39 =>
 Cl Pr (callV (fn 64) #[v39]) w36 fun v41 w40 => S3 w40 ∧
 Qu Pr (S3) (Instr.fieldAt 64 v2 9) fun v42 =>
 Qu Pr (S3) (Instr.loadAt 28 v42) fun v43 =>
 Cl Pr (callV (fn 65) #[v43]) w40 fun v45 w44 => S3 w44 ∧
 Qu Pr (S3) (Instr.fieldAt 64 v2 12) fun v46 =>
 Qu Pr (S3) (Instr.loadAt 9 v46) fun v47 =>
 Cl Pr (callV (fn 55) #[v47]) w44 fun v49 w48 => S3 w48 ∧
 Qu Pr (S3) (Instr.build 119 #[(0, v9), (1, v13), (2, v17), (3, v21), (4, v25), (5, v29), (7, v33), (8, v37), (11, v41), (6, v45), (12, v49)]) fun v50 =>
 Ef Pr (Instr.box 119 v50) w48 fun v52 w51 => S3 w51 ∧
 Qu Pr (Is w51) (Instr.fieldAt 64 v2 11) fun v53 =>
 Qu Pr (Is w51) (Instr.loadAt 4 v53) fun v54 =>
 Jo (fun  (w59 : World) => (t44_1 w59 v2 v52 K : Prop)) fun J60 =>
 If v54 (
  Ef Pr (Instr.box 4 (Value.bool true)) w51 fun v232 w231 =>
  Qu Pr (Is w231) (nilS v52) fun v233 =>
  Qu Pr (Is w231) (Instr.fieldAt 119 v233 10) fun v234 =>
  Eu Pr (Instr.storeAt 117 v234 v232) w231 fun w235 =>
  J60 w235) (
  J60 w51)
theorem c44 {a0 : Value} {K : Value → World → Prop} {w : World} (h : t44 a0 K w) : CK Pr 44 #[a0] w K := by
  refine calls_of_RF [(8, [6, 99, 100, 101, 102, 103, 104, 105, 106, 107, 108, 109, 110, 111, 112, 113, 114])] Tryz.func44 rfl ?_ ?_ ?_
  · kernel_rfl
  · exact Nat.le_of_ble_eq_true rfl
  · exact cast (by kernel_rfl) h

def t45 (a0 : Value) (K : Value → World → Prop) (w : World) : Prop :=
 Ef Pr (Instr.box 56 a0) w fun v2 w1 =>
 Qu Pr (Is w1) (Instr.fieldAt 56 v2 3) fun v3 =>
 Qu Pr (Is w1) (Instr.loadAt 9 v3) fun v4 =>
 Qu Pr (Is w1) (Builtin.len_ #[9] 3 #[v4]) fun v5 =>
 Qu Pr (Is w1) (binS .gtr 3 (.tmp 5) (.const (Value.int .i64 2147483647)) v5 (Value.int .i64 2147483647)) fun v6 =>
 If v6 (
  K (Value.bool false) w1) (
  K (Value.bool true) w1)
theorem c45 {a0 : Value} {K : Value → World → Prop} {w : World} (h : t45 a0 K w) : CK Pr 45 #[a0] w K := by
  refine calls_of_RF [] Tryz.func45 rfl ?_ ?_ ?_
  · kernel_rfl
  · exact Nat.le_of_ble_eq_true rfl
  · exact cast (by kernel_rfl) h

def t46 (a0 : Value) (K : Value → World → Prop) (w : World) : Prop :=
 Ef Pr (Instr.box 60 a0) w fun v2 w1 =>
 Qu Pr (Is w1) (Instr.fieldAt 60 v2 1) fun v3 =>
 Qu Pr (Is w1) (Instr.loadAt 58 v3) fun v4 =>
 Cl Pr (callV (fn 66) #[v4]) w1 fun v6 w5 =>
 Qu Pr (Is w5) (Op.unary .not v6) fun v7 =>
 If v7 (
  K (Value.bool false) w5) (
  K (Value.bool true) w5)
theorem c46 {a0 : Value} {K : Value → World → Prop} {w : World} (h : t46 a0 K w) : CK Pr 46 #[a0] w K := by
  refine calls_of_RF [] Tryz.func46 rfl ?_ ?_ ?_
  · kernel_rfl
  · exact Nat.le_of_ble_eq_true rfl
  · exact cast (by kernel_rfl) h

def t47 (a0 : Value) (K : Value → World → Prop) (w : World) : Prop :=
 Qu Pr (Is w) (Builtin.len_ #[23] 3 #[a0]) fun v1 =>
 LoopW [(Value.bool false), undef, undef, (Value.int .i64 0), undef, undef, undef, undef, undef, undef, undef, undef, undef, undef] (fun r2 τ3 w4 =>
  Qu Pr (Is w4) (binS .lss 3 (.tmp 7) (.tmp 6) (g τ3 3) v1) fun v5 =>
  If v5 (
   Qu Pr (Is w4) (Instr.indexAt 23 a0 (g τ3 3)) fun v6 =>
   Qu Pr (Is w4) (Instr.loadAt 22 v6) fun v7 =>
   Qu Pr (Is w4) (Instr.sliceAt 23 a0 none (some (g τ3 3)) none) fun v8 =>
   Cl Pr (callV (fn 18) #[v8, v7]) w4 fun v10 w9 =>
   If v10 (
    K (Value.bool false) w9) (
    Qu Pr (Is w9) (binS .add 3 (.tmp 7) (.const (Value.int .i64 1)) (g τ3 3) (Value.int .i64 1)) fun v11 =>
    r2 [(g τ3 0), (g τ3 3), v7, v11, v5, (g τ3 3), v6, v7, a0, (g τ3 3), v8, v7, v10, v11] w9)) (
   K (Value.bool true) w4)) w
theorem c47 {a0 : Value} {K : Value → World → Prop} {w : World} (h : t47 a0 K w) : CK Pr 47 #[a0] w K := by
  refine calls_of_RF [(2, [2, 3, 4, 7, 8, 9, 10, 11, 12, 13, 14, 15, 16, 17])] Tryz.func47 rfl ?_ ?_ ?_
  · kernel_rfl
  · exact Nat.le_of_ble_eq_true rfl
  · exact cast (by kernel_rfl) h

def t49 (a0 a1 a2 : Value) (K : Value → World → Prop) (w : World) : Prop :=
 Qu Pr (Is w) (Instr.loadAt 32 a0) fun v1 =>
 Cl Pr (callV (fn 50) #[v1]) w fun v3 w2 =>
 Qu Pr (Is w2) (Instr.loadAt 77 a1) fun v4 =>
 Cl Pr (callV v4 #[v3]) w2 fun v6 w5 =>
 Qu Pr (Is w5) (Instr.fieldAt 38 a2 3) fun v7 =>
 Eu Pr (Instr.storeAt 4 v7 v6) w5 fun w8 =>
 Qu Pr (Is w8) (Instr.loadAt 32 a0) fun v9 =>
 Cl Pr (callV (fn 51) #[v9, v3]) w8 fun v11 w10 =>
 Qu Pr (Is w10) (Instr.fieldAt 38 a2 0) fun v12 =>
 Eu Pr (Instr.storeAt 32 v12 v11) w10 fun w13 =>
 Cl Pr (callV (fn 52) #[v3]) w13 fun v15 w14 =>
 Qu Pr (Is w14) (Instr.extract v15 0) fun v16 =>
 Qu Pr (Is w14) (Instr.extract v15 1) fun v17 =>
 Cl Pr (callV (fn 53) #[v16]) w14 fun v19 w18 =>
 Cl Pr (callV (fn 53) #[v17]) w18 fun v21 w20 =>
 Qu Pr (Is w20) (Instr.fieldAt 38 a2 1) fun v22 =>
 Eu Pr (Instr.storeAt 36 v22 v19) w20 fun w23 =>
 Qu Pr (Is w23) (Instr.fieldAt 38 a2 2) fun v24 =>
 Eu Pr (Instr.storeAt 36 v24 v21) w23 fun w25 =>
 K (.tuple #[]) w25
theorem c49 {a0 a1 a2 : Value} {K : Value → World → Prop} {w : World} (h : t49 a0 a1 a2 K w) : CK Pr 49 #[a0, a1, a2] w K := by
  refine calls_of_RF [] Tryz.func49 rfl ?_ ?_ ?_
  · kernel_rfl
  · exact Nat.le_of_ble_eq_true rfl
  · exact cast (by kernel_rfl) h

@[irreducible] def t50_1 (w140 : World) (v56 : Value) (v2 : Value) (v23 : Value) (K : Value → World → Prop) : Prop :=
         Qu Pr (Is w140) (Instr.fieldAt 141 v56 0) fun v155 =>
         Qu Pr (Is w140) (Instr.fieldAt 136 v155 2) fun v156 =>
         Qu Pr (Is w140) (Instr.loadAt 131 v156) fun v157 =>
         Qu Pr (Is w140) (Instr.fieldAt 32 v2 0) fun v158 =>
         Qu Pr (Is w140) (Instr.loadAt 22 v158) fun v159 =>
         Qu Pr (Is w140) (Instr.lookup 131 v157 v159 true) fun v160 =>
         Qu Pr (Is w140) (Instr.extract v160 0) fun v161 =>
         Qu Pr (Is w140) (Instr.extract v160 1) fun v162 =>
         Ef Pr (Instr.alloc 156 true (.tuple #[])) w140 fun v164 w163 =>
         Eu Pr (Instr.storeAt 156 v164 v161) w163 fun w165 =>
         Qu Pr (Is w165) (Instr.fieldAt 32 v2 0) fun v166 =>
         Qu Pr (Is w165) (Instr.loadAt 22 v166) fun v167 =>
         Qu Pr (Is w165) (Instr.fieldAt 32 v2 1) fun v168 =>
         Qu Pr (Is w165) (Instr.loadAt 22 v168) fun v169 =>
         Qu Pr (Is w165) (Instr.fieldAt 32 v2 2) fun v170 =>
         Qu Pr (Is w165) (Instr.loadAt 22 v170) fun v171 =>
         Qu Pr (Is w165) (Instr.fieldAt 32 v2 3) fun v172 =>
         Qu Pr (Is w165) (Instr.loadAt 22 v172) fun v173 =>
         Qu Pr (Is w165) (Instr.fieldAt 32 v2 24) fun v174 =>
         Qu Pr (Is w165) (Instr.loadAt 22 v174) fun v175 =>
         Qu Pr (Is w165) (Instr.fieldAt 32 v2 4) fun v176 =>
         Qu Pr (Is w165) (Instr.loadAt 3 v176) fun v177 =>
         Qu Pr (Is w165) (convert 3 159 v177) fun v178 =>
         Qu Pr (Is w165) (Instr.fieldAt 32 v2 14) fun v179 =>
         Qu Pr (Is w165) (Instr.loadAt 4 v179) fun v180 =>
         Qu Pr (Is w165) (Instr.fieldAt 32 v2 15) fun v181 =>
         Qu Pr (Is w165) (Instr.loadAt 4 v181) fun v182 =>
         Qu Pr (Is w165) (Instr.fieldAt 32 v2 16) fun v183 =>
         Qu Pr (Is w165) (Instr.loadAt 3 v183) fun v184 =>
         Qu Pr (Is w165) (Instr.fieldAt 32 v2 17) fun v185 =>
         Qu Pr (Is w165) (Instr.loadAt 3 v185) fun v186 =>
         Qu Pr (Is w165) (Instr.fieldAt 32 v2 18) fun v187 =>
         Qu Pr (Is w165) (Instr.loadAt 3 v187) fun v188 =>
         Qu Pr (Is w165) (Instr.fieldAt 32 v2 19) fun v189 =>
         Qu Pr (Is w165) (Instr.loadAt 3 v189) fun v190 =>
         Qu Pr (Is w165) (Instr.fieldAt 32 v2 20) fun v191 =>
         Qu Pr (Is w165) (Instr.loadAt 3 v191) fun v192 =>
         Qu Pr (Is w165) (Instr.fieldAt 32 v2 21) fun v193 =>
         Qu Pr (Is w165) (Instr.loadAt 22 v193) fun v194 =>
         Qu Pr (Is w165) (Instr.fieldAt 32 v2 22) fun v195 =>
         Qu Pr (Is w165) (Instr.loadAt 22 v195) fun v196 =>
         Qu Pr (Is w165) (Instr.fieldAt 32 v2 23) fun v197 =>
         Qu Pr (Is w165) (Instr.loadAt 22 v197) fun v198 =>
         Qu Pr (Is w165) (Instr.build 161 #[(0, v167), (1, v169), (2, v171), (3, v173), (4, v175), (5, v178), (6, v162), (7, v180), (8, v182), (9, v184), (10, v186), (11, v188), (12, v190), (13, v192), (14, v194), (15, v196), (16, v198)]) fun v199 =>
         Qu Pr (Is w165) (Instr.loadAt 141 v56) fun v200 =>
         Cl Pr (callV (fn 80) #[v199, v23, v200]) w165 fun v202 w201 =>
         K v202 w201
@[irreducible] def t50_2 (w116 : World) (v2 : Value) (v56 : Value) (v23 : Value) (K : Value → World → Prop) : Prop :=
       Qu Pr (Is w116) (Instr.fieldAt 32 v2 13) fun v135 =>
       Qu Pr (Is w116) (Instr.loadAt 30 v135) fun v136 =>
       Qu Pr (Is w116) (Builtin.len_ #[30] 3 #[v136]) fun v137 =>
       LoopW [undef, (Value.int .i64 0), undef, undef, undef, undef, undef, undef, undef, undef, undef, undef] (fun r138 τ139 w140 =>
        Qu Pr (Is w140) (binS .lss 3 (.tmp 119) (.tmp 118) (g τ139 1) v137) fun v141 =>
        If v141 (
         Qu Pr (Is w140) (Instr.indexAt 30 v136 (g τ139 1)) fun v142 =>
         Qu Pr (Is w140) (Instr.loadAt 155 v142) fun v143 =>
         Ef Pr (Instr.alloc 155 true (.tuple #[])) w140 fun v145 w144 =>
         Eu Pr (Instr.storeAt 155 v145 v143) w144 fun w146 =>
         Qu Pr (Is w146) (Instr.fieldAt 141 v56 2) fun v147 =>
         Qu Pr (Is w146) (Instr.loadAt 139 v147) fun v148 =>
         Qu Pr (Is w146) (Instr.fieldAt 155 v145 0) fun v149 =>
         Qu Pr (Is w146) (Instr.loadAt 22 v149) fun v150 =>
         Qu Pr (Is w146) (Instr.fieldAt 155 v145 1) fun v151 =>
         Qu Pr (Is w146) (Instr.loadAt 4 v151) fun v152 =>
         Eu Pr (Instr.mapUpdate 139 v148 v150 v152) w146 fun w153 =>
         Qu Pr (Is w153) (binS .add 3 (.tmp 119) (.const (Value.int .i64 1)) (g τ139 1) (Value.int .i64 1)) fun v154 =>
         r138 [v145, v154, v141, v142, v143, v147, v148, v149, v150, v151, v152, v154] w153) (t50_1 w140 v56 v2 v23 K)) w116
@[irreducible] def t50_3 (w84 : World) (v2 : Value) (v56 : Value) (v23 : Value) (K : Value → World → Prop) : Prop :=
     Qu Pr (Is w84) (Instr.fieldAt 32 v2 12) fun v111 =>
     Qu Pr (Is w84) (Instr.loadAt 29 v111) fun v112 =>
     Qu Pr (Is w84) (Builtin.len_ #[29] 3 #[v112]) fun v113 =>
     LoopW [undef, (Value.int .i64 0), undef, undef, undef, undef, undef, undef, undef, undef, undef, undef, undef] (fun r114 τ115 w116 =>
      Qu Pr (Is w116) (binS .lss 3 (.tmp 104) (.tmp 103) (g τ115 1) v113) fun v117 =>
      If v117 (
       Qu Pr (Is w116) (Instr.indexAt 29 v112 (g τ115 1)) fun v118 =>
       Qu Pr (Is w116) (Instr.loadAt 60 v118) fun v119 =>
       Ef Pr (Instr.alloc 60 true (.tuple #[])) w116 fun v121 w120 =>
       Eu Pr (Instr.storeAt 60 v121 v119) w120 fun w122 =>
       Dr w122 fun S123 w124 =>
       Qu Pr (S123) (Instr.fieldAt 141 v56 1) fun v125 =>
       Qu Pr (S123) (Instr.loadAt 138 v125) fun v126 =>
       Qu Pr (S123) (Instr.fieldAt 60 v121 0) fun v127 =>
       Qu Pr (S123) (Instr.loadAt 22 v127) fun v128 =>
       Qu Pr (S123) (Instr.fieldAt 60 v121 1) fun v129 =>
       Qu Pr (S123) (Instr.loadAt 58 v129) fun v130 =>
       Cl Pr (callV (fn 79) #[v130]) w124 fun v132 w131 => S123 w131 ∧
       Eu Pr (Instr.mapUpdate 138 v126 v128 v132) w131 fun w133 => S123 w133 ∧
       Qu Pr (Is w133) (binS .add 3 (.tmp 104) (.const (Value.int .i64 1)) (g τ115 1) (Value.int .i64 1)) fun v134 =>
       r114 [v121, v134, v117, v118, v119, v125, v126, v127, v128, v129, v130, v132, v134] w133) (t50_2 w116 v2 v56 v23 K)) w84
@[irreducible] def t50_4 (τ40 : List Value) (w41 : World) (v2 : Value) (v23 : Value) (K : Value → World → Prop) : Prop :=
   Cl Pr (callV (fn 74) #[(g τ40 0), (Value.int .u64 0)]) w41 fun v54 w53 =>
   Ef Pr (Instr.alloc 141 true (.tuple #[])) w53 fun v56 w55 =>
   Eu Pr (Instr.storeAt 141 v56 v54) w55 fun w57 =>
   Dr w57 fun S58 w59 =>
   Qu Pr (S58) (Instr.fieldAt 32 v2 10) fun v60 =>
   Qu Pr (S58) (Instr.loadAt 23 v60) fun v61 =>
   Cl Pr (callV (fn 75) #[v61]) w59 fun v63 w62 => S58 w62 ∧
   Qu Pr (S58) (Instr.fieldAt 32 v2 11) fun v64 =>
   Qu Pr (S58) (Instr.loadAt 23 v64) fun v65 =>
   Cl Pr (callV (fn 76) #[v65]) w62 fun v67 w66 => S58 w66 ∧
   Qu Pr (S58) (Instr.fieldAt 141 v56 0) fun v68 =>
   Qu Pr (S58) (Instr.fieldAt 136 v68 0) fun v69 =>
   Qu Pr (S58) (Instr.indexAt 134 v69 (Value.int .i64 0)) fun v70 =>
   Eu Pr (Instr.storeAt 132 v70 v63) w66 fun w71 => S58 w71 ∧
   Qu Pr (S58) (Instr.fieldAt 141 v56 0) fun v72 =>
   Qu Pr (S58) (Instr.fieldAt 136 v72 2) fun v73 =>
   Eu Pr (Instr.storeAt 131 v73 v67) w71 fun w74 => S58 w74 ∧
   Qu Pr (Is w74) (Instr.fieldAt 32 v2 10) fun v75 =>
   Qu Pr (Is w74) (Instr.loadAt 23 v75) fun v76 =>
   Qu Pr (Is w74) (Instr.fieldAt 32 v2 11) fun v77 =>
   Qu Pr (Is w74) (Instr.loadAt 23 v77) fun v78 =>
   Ef Pr (Instr.buildSlice 145 2 #[(0, v76), (1, v78)]) w74 fun v80 w79 =>
   Qu Pr (Is w79) (Builtin.len_ #[145] 3 #[v80]) fun v81 =>
   LoopW [undef, undef, undef, (Value.int .i64 0), undef, undef, undef, undef, undef, undef, undef, undef, undef, undef, undef, undef, undef, undef, undef, undef, undef, undef, undef, undef, undef, undef, undef, undef] (fun r82 τ83 w84 =>
    Qu Pr (Is w84) (binS .lss 3 (.tmp 76) (.tmp 75) (g τ83 3) v81) fun v85 =>
    If v85 (
     Qu Pr (Is w84) (Instr.indexAt 145 v80 (g τ83 3)) fun v86 =>
     Qu Pr (Is w84) (Instr.loadAt 23 v86) fun v87 =>
     Qu Pr (Is w84) (Builtin.len_ #[23] 3 #[v87]) fun v88 =>
     LoopW [(g τ83 2), (Value.int .i64 0), (g τ83 11), (g τ83 12), (g τ83 13), (g τ83 14), (g τ83 15), (g τ83 16), (g τ83 17), (g τ83 18), (g τ83 19), (g τ83 20), (g τ83 21), (g τ83 22), (g τ83 23), (g τ83 24), (g τ83 25), (g τ83 26)] (fun r89 τ90 w91 =>
      Qu Pr (Is w91) (binS .lss 3 (.tmp 83) (.tmp 82) (g τ90 1) v88) fun v92 =>
      If v92 (
       Qu Pr (Is w91) (Instr.indexAt 23 v87 (g τ90 1)) fun v93 =>
       Qu Pr (Is w91) (Instr.loadAt 22 v93) fun v94 =>
       Dr w91 fun S95 w96 =>
       Qu Pr (S95) (Instr.fieldAt 141 v56 1) fun v97 =>
       Qu Pr (S95) (Instr.loadAt 138 v97) fun v98 =>
       Cl Pr (callV (fn 77) #[v23]) w96 fun v100 w99 => S95 w99 ∧
       Qu Pr (S95) (binS .add 22 (.tmp 91) (.const (Value.int .u64 1)) v100 (Value.int .u64 1)) fun v101 =>
       Qu Pr (S95) (binS .eql 3 (.tmp 93) (.const (Value.int .i64 1)) (g τ83 3) (Value.int .i64 1)) fun v102 =>
       Cl Pr (callV (fn 78) #[(g τ40 0), (Value.int .u64 0)]) w99 fun v104 w103 => S95 w103 ∧
       Qu Pr (S95) (Instr.build 152 #[(1, v101), (8, v102), (7, v104)]) fun v105 =>
       Ef Pr (Instr.box 152 v105) w103 fun v107 w106 => S95 w106 ∧
       Eu Pr (Instr.mapUpdate 138 v98 v94 v107) w106 fun w108 => S95 w108 ∧
       Qu Pr (Is w108) (binS .add 3 (.tmp 83) (.const (Value.int .i64 1)) (g τ90 1) (Value.int .i64 1)) fun v109 =>
       r89 [v94, v109, v92, v93, v94, v97, v98, v94, v23, v100, v101, (g τ83 3), v102, (g τ40 0), v104, v105, v107, v109] w108) (
       Qu Pr (Is w91) (binS .add 3 (.tmp 76) (.const (Value.int .i64 1)) (g τ83 3) (Value.int .i64 1)) fun v110 =>
       r82 [(g τ83 3), v87, (g τ90 0), v110, v85, (g τ83 3), v86, v87, v87, v88, (g τ90 1), v92, (g τ90 3), (g τ90 4), (g τ90 5), (g τ90 6), (g τ90 7), (g τ90 8), (g τ90 9), (g τ90 10), (g τ90 11), (g τ90 12), (g τ90 13), (g τ90 14), (g τ90 15), (g τ90 16), (g τ90 17), v110] w91)) w84) (t50_3 w84 v2 v56 v23 K)) w79
def t50 (a0 : Value) (K : Value → World → Prop) (w : World) : Prop :=
 Ef Pr (Instr.box 32 a0) w fun v2 w1 =>
 Cl Pr (callV (fn 68) #[]) w1 fun v4 w3 =>
 Qu Pr (Is w3) (Instr.fieldAt 32 v2 5) fun v5 =>
 Qu Pr (Is w3) (Instr.loadAt 27 v5) fun v6 =>
 Cl Pr (callV (fn 32) #[v6]) w3 fun v8 w7 =>
 Cl Pr (callV (fn 70) #[v4, v8]) w7 fun v10 w9 =>
 Cl Pr (callV (fn 69) #[v10]) w9 fun _ w11 =>
 Qu Pr (Is w11) (Instr.fieldAt 32 v2 6) fun v13 =>
 Qu Pr (Is w11) (Instr.loadAt 28 v13) fun v14 =>
 Cl Pr (callV (fn 65) #[v14]) w11 fun v16 w15 =>
 Cl Pr (callV (fn 71) #[v4, v16]) w15 fun v18 w17 =>
 Cl Pr (callV (fn 69) #[v18]) w17 fun _ w19 =>
 Qu Pr (Is w19) (Instr.makeInterface 121 v4) fun v21 =>
 Cl Pr (callV (fn 72) #[v21, (Value.int .u64 18446744073709551615)]) w19 fun v23 w22 =>
 Dr w22 fun S24 w25 =>
 Qu Pr (S24) (Instr.fieldAt 32 v2 7) fun v26 =>
 Qu Pr (S24) (Instr.loadAt 28 v26) fun v27 =>
 Cl Pr (callV (fn 65) #[v27]) w25 fun v29 w28 => S24 w28 ∧
 Qu Pr (S24) (Instr.fieldAt 32 v2 8) fun v30 =>
 Qu Pr (S24) (Instr.loadAt 22 v30) fun v31 =>
 Qu Pr (S24) (Instr.fieldAt 32 v2 9) fun v32 =>
 Qu Pr (S24) (Instr.loadAt 22 v32) fun v33 =>
 Cl Pr (callV (fn 73) #[v23, v29, v31, v33]) w28 fun _ w34 => S24 w34 ∧
 Qu Pr (Is w34) (Instr.fieldAt 32 v2 12) fun v36 =>
 Qu Pr (Is w34) (Instr.loadAt 29 v36) fun v37 =>
 Qu Pr (Is w34) (Builtin.len_ #[29] 3 #[v37]) fun v38 =>
 LoopW [(Value.int .i64 1), undef, (Value.int .i64 0), undef, undef, undef, undef, undef, undef, undef, undef, undef] (fun r39 τ40 w41 =>
  Qu Pr (Is w41) (binS .lss 3 (.tmp 47) (.tmp 46) (g τ40 2) v38) fun v42 =>
  If v42 (
   Qu Pr (Is w41) (Instr.indexAt 29 v37 (g τ40 2)) fun v43 =>
   Qu Pr (Is w41) (Instr.loadAt 60 v43) fun v44 =>
   Ef Pr (Instr.alloc 60 true (.tuple #[])) w41 fun v46 w45 =>
   Eu Pr (Instr.storeAt 60 v46 v44) w45 fun w47 =>
   Qu Pr (Is w47) (Instr.fieldAt 60 v46 1) fun v48 =>
   Qu Pr (Is w47) (Instr.fieldAt 58 v48 7) fun v49 =>
   Qu Pr (Is w47) (Instr.loadAt 3 v49) fun v50 =>
   Qu Pr (Is w47) (Builtin.max_ #[3, 3] 3 #[(g τ40 0), v50]) fun v51 =>
   Qu Pr (Is w47) (binS .add 3 (.tmp 47) (.const (Value.int .i64 1)) (g τ40 2) (Value.int .i64 1)) fun v52 =>
   r39 [v51, v46, v52, v42, v43, v44, (g τ40 0), v48, v49, v50, v51, v52] w47) (t50_4 τ40 w41 v2 v23 K)) w34
theorem c50 {a0 : Value} {K : Value → World → Prop} {w : World} (h : t50 a0 K w) : CK Pr 50 #[a0] w K := by
  refine calls_of_RF [(8, [5, 7, 47, 48, 49, 50, 51, 52, 53, 54, 55, 56]), (15, [9, 10, 12, 76, 77, 78, 79, 80, 81, 82, 83, 84, 85, 86, 87, 88, 89, 90, 91, 92, 93, 94, 95, 96, 97, 98, 99, 100]), (18, [12, 83, 84, 85, 86, 87, 88, 89, 90, 91, 92, 93, 94, 95, 96, 97, 98, 99]), (24, [14, 104, 105, 106, 107, 108, 109, 110, 111, 112, 113, 114, 115]), (29, [16, 119, 120, 121, 122, 123, 124, 125, 126, 127, 128, 129])] Tryz.func50 rfl ?_ ?_ ?_
  · kernel_rfl
  · exact Nat.le_of_ble_eq_true rfl
  · exact cast (by kernel_rfl) h

@[irreducible] def t51_1 (w140 : World) (p76 : Value) (v13 : Value) (v4 : Value) (K : Value → World → Prop) : Prop :=
       Qu Pr (Is w140) (Instr.makeFunc (Fn.func 92) #[] #[p76]) fun v142 =>
       Cl Pr (callV (fn 91) #[v13, v142]) w140 fun _ w143 =>
       Ef Pr (Instr.makeMap 131 none) w143 fun v146 w145 =>
       Qu Pr (Is w145) (nilS v13) fun v147 =>
       Qu Pr (Is w145) (Instr.fieldAt 141 v147 2) fun v148 =>
       Qu Pr (Is w145) (Instr.loadAt 139 v148) fun v149 =>
       Ef Pr (Instr.range 139 v149) w145 fun v151 w150 =>
       LoopW [undef, undef, undef, undef, undef, undef, undef, undef] (fun r152 _ w154 =>
        Ef Pr (Instr.next v151 false 0) w154 fun v156 w155 =>
        Qu Pr (Is w155) (Instr.extract v156 0) fun v157 =>
        If v157 (
         Qu Pr (Is w155) (Instr.entry v151) fun v158 =>
         Qu Pr (Is w155) (Instr.extract v158 0) fun v159 =>
         Qu Pr (Is w155) (Instr.build 156 #[]) fun v160 =>
         Eu Pr (Instr.mapUpdate 131 v146 v159 v160) w155 fun w161 =>
         r152 [v159, v156, v157, v158, v159, v146, v159, v160] w161) (
         Cl Pr (callV (fn 88) #[v146]) w155 fun v163 w162 =>
         Qu Pr (Is w162) (Builtin.len_ #[23] 3 #[v163]) fun v164 =>
         LoopW [undef, (Value.int .i64 0), undef, undef, undef, undef, undef, undef, undef, undef, undef, undef, undef, undef, undef, undef, undef, undef, undef] (fun r165 τ166 w167 =>
          Qu Pr (Is w167) (binS .lss 3 (.tmp 141) (.tmp 140) (g τ166 1) v164) fun v168 =>
          If v168 (
           Qu Pr (Is w167) (Instr.indexAt 23 v163 (g τ166 1)) fun v169 =>
           Qu Pr (Is w167) (Instr.loadAt 22 v169) fun v170 =>
           Dr2 w167 fun S173 S171 w172 =>
           Qu Pr (S173) (Instr.fieldAt 32 p76 13) fun v174 =>
           Qu Pr (S173) (Instr.loadAt 30 v174) fun v175 =>
           Qu Pr (S173) (nilS v13) fun v176 =>
           Qu Pr (S173) (Instr.fieldAt 141 v176 2) fun v177 =>
           Qu Pr (S173) (Instr.loadAt 139 v177) fun v178 =>
           Qu Pr (S173) (Instr.lookup 139 v178 v170 false) fun v179 =>
           Qu Pr (S173) (Instr.build 155 #[(0, v170), (1, v179)]) fun v180 =>
           Ef Pr (Instr.buildSlice 30 1 #[(0, v180)]) w172 fun v182 w181 => (S173 w181 ∧ S171 w181) ∧
           Ef Pr (Builtin.append_ #[30, 30] 30 #[v175, v182]) w181 fun v184 w183 => (S173 w183 ∧ S171 w183) ∧
           Qu Pr (S173) (Instr.fieldAt 32 p76 13) fun v185 =>
           Eu Pr (Instr.storeAt 30 v185 v184) w183 fun w186 => S171 w186 ∧
           Qu Pr (Is w186) (binS .add 3 (.tmp 141) (.const (Value.int .i64 1)) (g τ166 1) (Value.int .i64 1)) fun v187 =>
           r165 [v170, v187, v168, v169, v170, v174, v175, v170, v13, v176, v177, v178, v170, v179, v180, v182, v184, v185, v187] w186) (
           Qu Pr (Is w167) (Instr.loadAt 32 p76) fun v188 =>
           Eu Pr (Instr.storeAt 32 v4 v188) w167 fun w189 =>
           Qu Pr (Is w189) (Instr.loadAt 32 v4) fun v190 =>
           K v190 w189)) w162)) w150
@[irreducible] def t51_2 (w94 : World) (v18 : Value) (p76 : Value) (v13 : Value) (v4 : Value) (K : Value → World → Prop) : Prop :=
     Qu Pr (Is w94) (binS .neq 75 (.tmp 117) (.const (Value.pointer none)) v18 (Value.pointer none)) fun v136 =>
     Jo (fun  (w140 : World) => (t51_1 w140 p76 v13 v4 K : Prop)) fun J141 =>
     If v136 (
      Cl Pr (callV (fn 90) #[v18]) w94 fun v192 w191 =>
      Qu Pr (Is w191) (Instr.fieldAt 32 p76 5) fun v193 =>
      Eu Pr (Instr.storeAt 27 v193 v192) w191 fun w194 =>
      J141 w194) (
      J141 w94)
@[irreducible] def t51_3 (v11 : Value) (w77 : World) (p76 : Value) (v2 : Value) (v18 : Value) (v20 : Value) (v13 : Value) (v4 : Value) (K : Value → World → Prop) : Prop :=
   Cl Pr (callV (fn 89) #[v11]) w77 fun v80 w79 =>
   Qu Pr (Is w79) (Instr.extract v80 0) fun v81 =>
   Qu Pr (Is w79) (Instr.extract v80 1) fun _ =>
   Qu Pr (Is w79) (Instr.extract v80 2) fun v83 =>
   Qu Pr (Is w79) (Instr.extract v80 3) fun _ =>
   Qu Pr (Is w79) (Instr.fieldAt 32 p76 8) fun v85 =>
   Eu Pr (Instr.storeAt 22 v85 v81) w79 fun w86 =>
   Qu Pr (Is w86) (Instr.fieldAt 32 p76 9) fun v87 =>
   Eu Pr (Instr.storeAt 22 v87 v83) w86 fun w88 =>
   Qu Pr (Is w88) (Instr.fieldAt 32 v2 6) fun v89 =>
   Qu Pr (Is w88) (Instr.loadAt 28 v89) fun v90 =>
   Qu Pr (Is w88) (Builtin.len_ #[28] 3 #[v90]) fun v91 =>
   LoopW [undef, (Value.int .i64 0), undef, undef, undef, undef, undef, undef, undef, undef, undef, undef, undef, undef, undef, undef, undef, undef, undef, undef] (fun r92 τ93 w94 =>
    Qu Pr (Is w94) (binS .lss 3 (.tmp 98) (.tmp 97) (g τ93 1) v91) fun v95 =>
    If v95 (
     Qu Pr (Is w94) (Instr.indexAt 28 v90 (g τ93 1)) fun v96 =>
     Qu Pr (Is w94) (Instr.loadAt 56 v96) fun v97 =>
     Ef Pr (Instr.alloc 56 true (.tuple #[])) w94 fun v99 w98 =>
     Eu Pr (Instr.storeAt 56 v99 v97) w98 fun w100 =>
     Qu Pr (Is w100) (binS .eql 75 (.tmp 102) (.const (Value.pointer none)) v18 (Value.pointer none)) fun v101 =>
     Gd v101 true (fun k102 => Qu Pr (Is w100) (Instr.fieldAt 56 v99 1) fun v105 => k102 v105 w100) w100 fun v103 w104 =>
     Gd v101 true (fun k106 => Qu Pr (Is w104) (Instr.loadAt 22 v103) fun v109 => k106 v109 w104) w104 fun v107 w108 =>
     Gd v101 true (fun k110 => k110 v20 w108) w108 fun v111 w112 =>
     Gd v101 true (fun k113 => Qu Pr (Is w112) (binS .lss 22 (.tmp 106) (.tmp 107) v107 v111) fun v116 => k113 v116 w112) w112 fun v114 w115 =>
     Qu Pr (Is w115) (pickS v101 v114 (Value.bool false)) fun v117 =>
     Jo (fun (p118 : Value) (p119 : Value) (p120 : Value) (p121 : Value) (p122 : Value) (p123 : Value) (w124 : World) => (
       Qu Pr (Is w124) (binS .add 3 (.tmp 98) (.const (Value.int .i64 1)) (g τ93 1) (Value.int .i64 1)) fun v126 =>
       r92 [v99, v126, v95, v96, v97, v18, v101, v101, v103, v107, v111, v114, v117, p118, p119, p120, p121, p122, p123, v126] w124 : Prop)) fun J125 =>
     If v117 (
      Qu Pr (Is w115) (Instr.fieldAt 32 p76 6) fun v127 =>
      Qu Pr (Is w115) (Instr.loadAt 28 v127) fun v128 =>
      Qu Pr (Is w115) (Instr.loadAt 56 v99) fun v129 =>
      Ef Pr (Instr.buildSlice 28 1 #[(0, v129)]) w115 fun v131 w130 =>
      Ef Pr (Builtin.append_ #[28, 28] 28 #[v128, v131]) w130 fun v133 w132 =>
      Qu Pr (Is w132) (Instr.fieldAt 32 p76 6) fun v134 =>
      Eu Pr (Instr.storeAt 28 v134 v133) w132 fun w135 =>
      J125 v127 v128 v129 v131 v133 v134 w135) (
      J125 (g τ93 13) (g τ93 14) (g τ93 15) (g τ93 16) (g τ93 17) (g τ93 18) w115)) (t51_2 w94 v18 p76 v13 v4 K)) w88
def t51 (a0 a1 : Value) (K : Value → World → Prop) (w : World) : Prop :=
 Ef Pr (Instr.box 32 a0) w fun v2 w1 =>
 Ef Pr (Instr.alloc 32 true (.tuple #[])) w1 fun v4 w3 =>
 Cl Pr (callV (fn 81) #[a1]) w3 fun v6 w5 =>
 Ef Pr (Instr.alloc 161 true (.tuple #[])) w5 fun v8 w7 =>
 Eu Pr (Instr.storeAt 161 v8 v6) w7 fun w9 =>
 Cl Pr (callV (fn 82) #[a1]) w9 fun v11 w10 =>
 Cl Pr (callV (fn 83) #[a1]) w10 fun v13 w12 =>
 Cl Pr (callV (fn 85) #[v11]) w12 fun v15 w14 =>
 Cl Pr (callV (fn 84) #[v15]) w14 fun v17 w16 =>
 Qu Pr (Is w16) (Instr.extract v17 0) fun v18 =>
 Qu Pr (Is w16) (Instr.extract v17 1) fun v19 =>
 Qu Pr (Is w16) (Instr.extract v17 2) fun v20 =>
 Qu Pr (Is w16) (Instr.extract v17 3) fun _ =>
 Qu Pr (Is w16) (Instr.extract v17 4) fun _ =>
 Jo (fun (p76 : Value) (w77 : World) => (t51_3 v11 w77 p76 v2 v18 v20 v13 v4 K : Prop)) fun J78 =>
 Dr w16 fun S23 w24 =>
 Qu Pr (S23) (Instr.fieldAt 161 v8 0) fun v195 =>
 Qu Pr (S23) (Instr.loadAt 22 v195) fun v196 =>
 Qu Pr (S23) (Instr.fieldAt 161 v8 1) fun v197 =>
 Qu Pr (S23) (Instr.loadAt 22 v197) fun v198 =>
 Qu Pr (S23) (Instr.fieldAt 161 v8 2) fun v199 =>
 Qu Pr (S23) (Instr.loadAt 22 v199) fun v200 =>
 Qu Pr (S23) (Instr.fieldAt 161 v8 3) fun v201 =>
 Qu Pr (S23) (Instr.loadAt 22 v201) fun v202 =>
 Qu Pr (S23) (Instr.fieldAt 161 v8 5) fun v203 =>
 Qu Pr (S23) (Instr.loadAt 159 v203) fun v204 =>
 Qu Pr (S23) (convert 159 3 v204) fun v205 =>
 Qu Pr (S23) (Instr.fieldAt 32 v2 5) fun v206 =>
 Qu Pr (S23) (Instr.loadAt 27 v206) fun v207 =>
 Qu Pr (S23) (nilS v13) fun v208 =>
 Qu Pr (S23) (Instr.fieldAt 141 v208 0) fun v209 =>
 Qu Pr (S23) (Instr.fieldAt 136 v209 0) fun v210 =>
 Qu Pr (S23) (Instr.indexAt 134 v210 (Value.int .i64 0)) fun v211 =>
 Qu Pr (S23) (Instr.loadAt 132 v211) fun v212 =>
 Qu Pr (S23) (nilS v13) fun v213 =>
 Qu Pr (S23) (Instr.fieldAt 141 v213 0) fun v214 =>
 Qu Pr (S23) (Instr.fieldAt 136 v214 2) fun v215 =>
 Qu Pr (S23) (Instr.loadAt 131 v215) fun v216 =>
 Qu Pr (S23) (Instr.fieldAt 161 v8 7) fun v217 =>
 Qu Pr (S23) (Instr.loadAt 4 v217) fun v218 =>
 Qu Pr (S23) (Instr.fieldAt 161 v8 8) fun v219 =>
 Qu Pr (S23) (Instr.loadAt 4 v219) fun v220 =>
 Qu Pr (S23) (Instr.fieldAt 161 v8 9) fun v221 =>
 Qu Pr (S23) (Instr.loadAt 3 v221) fun v222 =>
 Qu Pr (S23) (Instr.fieldAt 161 v8 10) fun v223 =>
 Qu Pr (S23) (Instr.loadAt 3 v223) fun v224 =>
 Qu Pr (S23) (Instr.fieldAt 161 v8 11) fun v225 =>
 Qu Pr (S23) (Instr.loadAt 3 v225) fun v226 =>
 Qu Pr (S23) (Instr.fieldAt 161 v8 12) fun v227 =>
 Qu Pr (S23) (Instr.loadAt 3 v227) fun v228 =>
 Qu Pr (S23) (Instr.fieldAt 161 v8 13) fun v229 =>
 Qu Pr (S23) (Instr.loadAt 3 v229) fun v230 =>
 Qu Pr (S23) (Instr.fieldAt 161 v8 14) fun v231 =>
 Qu Pr (S23) (Instr.loadAt 22 v231) fun v232 =>
 Qu Pr (S23) (Instr.fieldAt 161 v8 15) fun v233 =>
 Qu Pr (S23) (Instr.loadAt 22 v233) fun v234 =>
 Qu Pr (S23) (Instr.fieldAt 161 v8 16) fun v235 =>
 Qu Pr (S23) (Instr.loadAt 22 v235) fun v236 =>
 Qu Pr (S23) (Instr.fieldAt 161 v8 4) fun v237 =>
 Qu Pr (S23) (Instr.loadAt 22 v237) fun v238 =>
 (
  Cl Pr (callV (fn 86) #[v19]) w24 fun v240 w239 => S23 w239 ∧
  (
   Cl Pr (callV (fn 87) #[v212]) w239 fun v242 w241 => S23 w241 ∧
   (
    Cl Pr (callV (fn 88) #[v216]) w241 fun v244 w243 => S23 w243 ∧
    Qu Pr (S23) (Instr.build 32 #[(0, v196), (1, v198), (2, v200), (3, v202), (4, v205), (5, v207), (7, v240), (10, v242), (11, v244), (14, v218), (15, v220), (16, v222), (17, v224), (18, v226), (19, v228), (20, v230), (21, v232), (22, v234), (23, v236), (24, v238)]) fun v245 =>
    Ef Pr (Instr.alloc 32 true (.tuple #[])) w243 fun v247 w246 => S23 w246 ∧
    Eu Pr (Instr.storeAt 32 v247 v245) w246 fun w248 => S23 w248 ∧
    J78 v247 w248) ∧
   (
    Ef Pr (Instr.alloc 32 true (.tuple #[])) w241 fun v250 w249 => S23 w249 ∧
    Cl Pr (callV (fn 88) #[v216]) w249 fun v252 w251 => S23 w251 ∧
    Qu Pr (S23) (Instr.build 32 #[(0, v196), (1, v198), (2, v200), (3, v202), (4, v205), (5, v207), (7, v240), (10, v242), (11, v252), (14, v218), (15, v220), (16, v222), (17, v224), (18, v226), (19, v228), (20, v230), (21, v232), (22, v234), (23, v236), (24, v238)]) fun v253 =>
    Eu Pr (Instr.storeAt 32 v250 v253) w251 fun w254 => S23 w254 ∧
    J78 v250 w254)) ∧
  (
   Ef Pr (Instr.alloc 32 true (.tuple #[])) w239 fun v256 w255 => S23 w255 ∧
   Cl Pr (callV (fn 87) #[v212]) w255 fun v258 w257 => S23 w257 ∧
   Cl Pr (callV (fn 88) #[v216]) w257 fun v260 w259 => S23 w259 ∧
   Qu Pr (S23) (Instr.build 32 #[(0, v196), (1, v198), (2, v200), (3, v202), (4, v205), (5, v207), (7, v240), (10, v258), (11, v260), (14, v218), (15, v220), (16, v222), (17, v224), (18, v226), (19, v228), (20, v230), (21, v232), (22, v234), (23, v236), (24, v238)]) fun v261 =>
   Eu Pr (Instr.storeAt 32 v256 v261) w259 fun w262 => S23 w262 ∧
   J78 v256 w262)) ∧
 (
  Ef Pr (Instr.alloc 32 true (.tuple #[])) w24 fun v264 w263 => S23 w263 ∧
  Cl Pr (callV (fn 86) #[v19]) w263 fun v266 w265 => S23 w265 ∧
  Cl Pr (callV (fn 87) #[v212]) w265 fun v268 w267 => S23 w267 ∧
  Cl Pr (callV (fn 88) #[v216]) w267 fun v270 w269 => S23 w269 ∧
  Qu Pr (S23) (Instr.build 32 #[(0, v196), (1, v198), (2, v200), (3, v202), (4, v205), (5, v207), (7, v266), (10, v268), (11, v270), (14, v218), (15, v220), (16, v222), (17, v224), (18, v226), (19, v228), (20, v230), (21, v232), (22, v234), (23, v236), (24, v238)]) fun v271 =>
  Eu Pr (Instr.storeAt 32 v264 v271) w269 fun w272 => S23 w272 ∧
  J78 v264 w272)
theorem c51 {a0 a1 : Value} {K : Value → World → Prop} {w : World} (h : t51 a0 a1 K w) : CK Pr 51 #[a0, a1] w K := by
  refine calls_of_RF [(7, [15, 98, 99, 100, 101, 102, 103, 104, 105, 106, 107, 108, 109, 110, 111, 112, 113, 114, 115, 116]), (17, [17, 131, 132, 133, 134, 135, 136, 137]), (21, [19, 141, 142, 143, 144, 145, 146, 147, 148, 149, 150, 151, 152, 153, 154, 155, 156, 157, 158])] Tryz.func51 rfl ?_ ?_ ?_
  · kernel_rfl
  · exact Nat.le_of_ble_eq_true rfl
  · exact cast (by kernel_rfl) h

def t52 (a0 : Value) (K : Value → World → Prop) (w : World) : Prop :=
 Dr w fun S1 w2 =>
 Qu Pr (S1) (nilS a0) fun v3 =>
 Qu Pr (S1) (Instr.fieldAt 187 v3 10) fun v4 =>
 Qu Pr (S1) (Instr.loadAt 94 v4) fun v5 =>
 Qu Pr (S1) (nilS a0) fun v6 =>
 Qu Pr (S1) (Instr.fieldAt 187 v6 11) fun v7 =>
 Qu Pr (S1) (Instr.loadAt 94 v7) fun v8 =>
 K (.tuple #[v5, v8]) w2
theorem c52 {a0 : Value} {K : Value → World → Prop} {w : World} (h : t52 a0 K w) : CK Pr 52 #[a0] w K := by
  refine calls_of_RF [] Tryz.func52 rfl ?_ ?_ ?_
  · kernel_rfl
  · exact Nat.le_of_ble_eq_true rfl
  · exact cast (by kernel_rfl) h

def t53 (a0 : Value) (K : Value → World → Prop) (w : World) : Prop :=
 Qu Pr (Is w) (Builtin.len_ #[94] 3 #[a0]) fun v1 =>
 LoopW [(Value.slice none 0 0), undef, (Value.int .i64 0), undef, undef, undef, undef, undef, undef, undef, undef, undef] (fun r2 τ3 w4 =>
  Qu Pr (Is w4) (binS .lss 3 (.tmp 8) (.tmp 7) (g τ3 2) v1) fun v5 =>
  If v5 (
   Qu Pr (Is w4) (Instr.indexAt 94 a0 (g τ3 2)) fun v6 =>
   Qu Pr (Is w4) (Instr.loadAt 86 v6) fun v7 =>
   Cl Pr (callV (fn 94) #[v7]) w4 fun v9 w8 =>
   Ef Pr (Instr.buildSlice 36 1 #[(0, v9)]) w8 fun v11 w10 =>
   Ef Pr (Builtin.append_ #[36, 36] 36 #[(g τ3 0), v11]) w10 fun v13 w12 =>
   Qu Pr (Is w12) (binS .add 3 (.tmp 8) (.const (Value.int .i64 1)) (g τ3 2) (Value.int .i64 1)) fun v14 =>
   r2 [v13, v7, v14, v5, v6, v7, (g τ3 0), v7, v9, v11, v13, v14] w12) (
   K (g τ3 0) w4)) w
theorem c53 {a0 : Value} {K : Value → World → Prop} {w : World} (h : t53 a0 K w) : CK Pr 53 #[a0] w K := by
  refine calls_of_RF [(3, [3, 5, 8, 9, 10, 11, 12, 13, 14, 15, 16, 17])] Tryz.func53 rfl ?_ ?_ ?_
  · kernel_rfl
  · exact Nat.le_of_ble_eq_true rfl
  · exact cast (by kernel_rfl) h

@[irreducible] def t54_1 (w87 : World) (a0 : Value) (a1 : Value) (v29 : Value) (K : Value → World → Prop) : Prop :=
       Qu Pr (Is w87) (nilS a0) fun v100 =>
       Qu Pr (Is w87) (Instr.fieldAt 187 v100 4) fun v101 =>
       Qu Pr (Is w87) (Instr.loadAt 128 v101) fun v102 =>
       Cl Pr (callV (fn 102) #[v102, a1]) w87 fun _ w103 =>
       Dr w103 fun S105 w106 =>
       Qu Pr (S105) (nilS a0) fun v107 =>
       Qu Pr (S105) (Instr.fieldAt 187 v107 7) fun v108 =>
       Qu Pr (S105) (Instr.fieldAt 141 v108 3) fun v109 =>
       Qu Pr (S105) (Instr.loadAt 3 v109) fun v110 =>
       Qu Pr (S105) (nilS a0) fun v111 =>
       Qu Pr (S105) (Instr.fieldAt 187 v111 7) fun v112 =>
       Qu Pr (S105) (Instr.fieldAt 141 v112 4) fun v113 =>
       Qu Pr (S105) (Instr.loadAt 22 v113) fun v114 =>
       Cl Pr (callV (fn 74) #[v110, v114]) w106 fun v116 w115 => S105 w115 ∧
       Qu Pr (S105) (nilS a0) fun v117 =>
       Qu Pr (S105) (Instr.fieldAt 187 v117 7) fun v118 =>
       Eu Pr (Instr.storeAt 141 v118 v116) w115 fun w119 => S105 w119 ∧
       Jo (fun (p138 : Value) (p139 : Value) (p140 : Value) (w141 : World) => (
         Qu Pr (Is w141) (binS .neq 125 (.tmp 135) (.const Value.nilIface) p140 Value.nilIface) fun v143 =>
         If v143 (
          Qu Pr (Is w141) (Instr.makeInterface 9 (Value.string (ByteArray.mk #[117, 110, 97, 98, 108, 101, 32, 116, 111, 32, 114, 101, 115, 116, 111, 114, 101, 32, 99, 111, 110, 102, 105, 103]))) fun _ =>
          False) (
          Qu Pr (Is w141) (Instr.loadAt 136 p138) fun v145 =>
          Cl Pr (callV (fn 106) #[a0, v145, p139]) w141 fun v147 w146 =>
          Cl Pr (callV (fn 105) #[v29, v147]) w146 fun _ w148 =>
          K (Value.bool true) w148) : Prop)) fun J142 =>
       Dr w119 fun S120 w121 =>
       Qu Pr (S120) (nilS a0) fun v150 =>
       Qu Pr (S120) (Instr.fieldAt 187 v150 7) fun v151 =>
       Qu Pr (S120) (Instr.loadAt 141 v151) fun v152 =>
       Qu Pr (S120) (nilS a0) fun v153 =>
       Qu Pr (S120) (Instr.fieldAt 187 v153 4) fun v154 =>
       Qu Pr (S120) (Instr.loadAt 128 v154) fun v155 =>
       (
        Cl Pr (callV (fn 104) #[v155]) w121 fun v157 w156 => S120 w156 ∧
        Qu Pr (S120) (Instr.build 209 #[(0, v152), (1, v157)]) fun v158 =>
        (
         Cl Pr (callV (fn 103) #[v158, v29]) w156 fun v160 w159 => S120 w159 ∧
         Qu Pr (S120) (Instr.extract v160 0) fun v161 =>
         Qu Pr (S120) (Instr.extract v160 1) fun v162 =>
         Qu Pr (S120) (Instr.extract v160 2) fun v163 =>
         Ef Pr (Instr.alloc 136 true (.tuple #[])) w159 fun v165 w164 => S120 w164 ∧
         Eu Pr (Instr.storeAt 136 v165 v161) w164 fun w166 => S120 w166 ∧
         J142 v165 v162 v163 w166) ∧
        (
         Ef Pr (Instr.alloc 136 true (.tuple #[])) w156 fun v168 w167 => S120 w167 ∧
         Cl Pr (callV (fn 103) #[v158, v29]) w167 fun v170 w169 => S120 w169 ∧
         Qu Pr (S120) (Instr.extract v170 0) fun v171 =>
         Qu Pr (S120) (Instr.extract v170 1) fun v172 =>
         Qu Pr (S120) (Instr.extract v170 2) fun v173 =>
         Eu Pr (Instr.storeAt 136 v168 v171) w169 fun w174 => S120 w174 ∧
         J142 v168 v172 v173 w174)) ∧
       (
        Ef Pr (Instr.alloc 136 true (.tuple #[])) w121 fun v176 w175 => S120 w175 ∧
        Cl Pr (callV (fn 104) #[v155]) w175 fun v178 w177 => S120 w177 ∧
        Qu Pr (S120) (Instr.build 209 #[(0, v152), (1, v178)]) fun v179 =>
        Cl Pr (callV (fn 103) #[v179, v29]) w177 fun v181 w180 => S120 w180 ∧
        Qu Pr (S120) (Instr.extract v181 0) fun v182 =>
        Qu Pr (S120) (Instr.extract v181 1) fun v183 =>
        Qu Pr (S120) (Instr.extract v181 2) fun v184 =>
        Eu Pr (Instr.storeAt 136 v176 v182) w180 fun w185 => S120 w185 ∧
        J142 v176 v183 v184 w185)
@[irreducible] def t54_2 (a1 : Value) (w66 : World) (a0 : Value) (K : Value → World → Prop) (v29 : Value) : Prop :=
      Cl Pr (callV (fn 95) #[a1]) w66 fun v70 w69 =>
      Cl Pr (callV (fn 99) #[v70]) w69 fun v72 w71 =>
      Cl Pr (callV (fn 95) #[a1]) w71 fun v74 w73 =>
      Cl Pr (callV (fn 96) #[v74]) w73 fun v76 w75 =>
      Qu Pr (Is w75) (Instr.build 202 #[(0, v72), (1, v76)]) fun v77 =>
      Ef Pr (Instr.alloc 202 true (.tuple #[])) w75 fun v79 w78 =>
      Eu Pr (Instr.storeAt 202 v79 v77) w78 fun w80 =>
      Dr w80 fun S81 w82 =>
      Qu Pr (S81) (nilS a0) fun v83 =>
      Qu Pr (S81) (Instr.fieldAt 187 v83 4) fun v84 =>
      Qu Pr (S81) (Instr.loadAt 128 v84) fun v85 =>
      Qu Pr (S81) (Instr.loadAt 202 v79) fun v86 =>
      Cl Pr (callV (fn 100) #[v85, v86]) w82 fun v88 w87 => S81 w87 ∧
      If v88 (
       Dr w87 fun S89 w90 =>
       Qu Pr (S89) (nilS a0) fun v91 =>
       Qu Pr (S89) (Instr.fieldAt 187 v91 4) fun v92 =>
       Qu Pr (S89) (Instr.loadAt 128 v92) fun v93 =>
       Cl Pr (callV (fn 95) #[a1]) w90 fun v95 w94 => S89 w94 ∧
       Cl Pr (callV (fn 96) #[v95]) w94 fun v97 w96 => S89 w96 ∧
       Cl Pr (callV (fn 101) #[v93, v97]) w96 fun _ w98 => S89 w98 ∧
       K (Value.bool false) w98) (t54_1 w87 a0 a1 v29 K)
@[irreducible] def t54_3 (w66 : World) (p60 : Value) (K : Value → World → Prop) (a1 : Value) (a0 : Value) (v29 : Value) : Prop :=
     Qu Pr (Is w66) (Op.unary .not p60) fun v68 =>
     If v68 (
      K (Value.bool false) w66) (t54_2 a1 w66 a0 K v29)
@[irreducible] def t54_4 (a1 : Value) (w5 : World) (K : Value → World → Prop) (a0 : Value) : Prop :=
   Cl Pr (callV (fn 95) #[a1]) w5 fun v25 w24 =>
   Cl Pr (callV (fn 97) #[v25]) w24 fun v27 w26 =>
   Cl Pr (callV (fn 98) #[v27]) w26 fun v29 w28 =>
   Dr w28 fun S30 w31 =>
   Qu Pr (S30) (nilS v29) fun v32 =>
   Qu Pr (S30) (Instr.fieldAt 200 v32 0) fun v33 =>
   Qu Pr (S30) (Instr.loadAt 23 v33) fun v34 =>
   Qu Pr (S30) (nilS v29) fun v35 =>
   Qu Pr (S30) (Instr.fieldAt 200 v35 1) fun v36 =>
   Qu Pr (S30) (Instr.loadAt 23 v36) fun v37 =>
   Qu Pr (S30) (nilS v29) fun v38 =>
   Qu Pr (S30) (Instr.fieldAt 200 v38 2) fun v39 =>
   Qu Pr (S30) (Instr.loadAt 23 v39) fun v40 =>
   Ef Pr (Instr.buildSlice 145 3 #[(0, v34), (1, v37), (2, v40)]) w31 fun v42 w41 => S30 w41 ∧
   Qu Pr (S30) (Builtin.len_ #[145] 3 #[v42]) fun v43 =>
   Jo (fun (p60 : Value) (w66 : World) => (t54_3 w66 p60 K a1 a0 v29 : Prop)) fun J67 =>
   LoopW [(Value.bool false), undef, undef, (Value.int .i64 0), undef, undef, undef, undef, undef, undef, undef, undef, undef, undef, undef, undef, undef, undef, undef, undef, undef, undef] (fun r186 τ187 w188 =>
    Qu Pr (Is w188) (binS .lss 3 (.tmp 57) (.tmp 56) (g τ187 3) v43) fun v189 =>
    If v189 (
     Qu Pr (Is w188) (Instr.indexAt 145 v42 (g τ187 3)) fun v190 =>
     Qu Pr (Is w188) (Instr.loadAt 23 v190) fun v191 =>
     Qu Pr (Is w188) (Builtin.len_ #[23] 3 #[v191]) fun v192 =>
     Jo (fun (p193 : Value) (p194 : Value) (p195 : Value) (p196 : Value) (p197 : Value) (p198 : Value) (p199 : Value) (p200 : Value) (p201 : Value) (p202 : Value) (p203 : Value) (p204 : Value) (p205 : Value) (w206 : World) => (
       If p203 (
        J67 p203 w206) (
        Qu Pr (Is w206) (binS .add 3 (.tmp 57) (.const (Value.int .i64 1)) (g τ187 3) (Value.int .i64 1)) fun v208 =>
        r186 [p203, v191, p196, v208, v189, v190, v191, v191, v192, p205, p193, p194, p195, p197, p198, p199, p200, p201, p202, p204, p203, v208] w206) : Prop)) fun J207 =>
     LoopW [(g τ187 0), (g τ187 2), (Value.int .i64 0), (g τ187 10), (g τ187 11), (g τ187 12), (g τ187 13), (g τ187 14), (g τ187 15), (g τ187 16), (g τ187 17), (g τ187 18), (g τ187 19)] (fun r209 τ210 w211 =>
      Qu Pr (Is w211) (binS .lss 3 (.tmp 63) (.tmp 62) (g τ210 2) v192) fun v212 =>
      If v212 (
       Qu Pr (Is w211) (Instr.indexAt 23 v191 (g τ210 2)) fun v213 =>
       Qu Pr (Is w211) (Instr.loadAt 22 v213) fun v214 =>
       Qu Pr (Is w211) (nilS a0) fun v215 =>
       Qu Pr (Is w211) (Instr.fieldAt 187 v215 0) fun v216 =>
       Qu Pr (Is w211) (Instr.loadAt 22 v216) fun v217 =>
       Qu Pr (Is w211) (binS .eql 22 (.tmp 67) (.tmp 71) v214 v217) fun v218 =>
       If v218 (
        J207 v212 v213 v214 v214 v214 a0 v215 v216 v217 v218 (Value.bool true) (g τ210 12) (g τ210 2) w211) (
        Qu Pr (Is w211) (binS .add 3 (.tmp 63) (.const (Value.int .i64 1)) (g τ210 2) (Value.int .i64 1)) fun v219 =>
        r209 [(g τ210 0), v214, v219, v212, v213, v214, v214, a0, v215, v216, v217, v218, v219] w211)) (
       J207 v212 (g τ210 4) (g τ210 5) (g τ210 1) (g τ210 6) (g τ210 7) (g τ210 8) (g τ210 9) (g τ210 10) (g τ210 11) (g τ210 0) (g τ210 12) (g τ210 2) w211)) w188) (
     J67 (g τ187 0) w188)) w41
@[irreducible] def t54_5 (w5 : World) (a0 : Value) (K : Value → World → Prop) (a1 : Value) : Prop :=
  Qu Pr (Is w5) (nilS a0) fun v14 =>
  Qu Pr (Is w5) (Instr.fieldAt 187 v14 8) fun v15 =>
  Qu Pr (Is w5) (Instr.loadAt 159 v15) fun v16 =>
  Qu Pr (Is w5) (binS .neq 159 (.tmp 29) (.const (Value.int .u64 0)) v16 (Value.int .u64 0)) fun v17 =>
  If v17 (
   Qu Pr (Is w5) (nilS a0) fun v18 =>
   Qu Pr (Is w5) (Instr.fieldAt 187 v18 1) fun v19 =>
   Qu Pr (Is w5) (Instr.loadAt 22 v19) fun v20 =>
   Qu Pr (Is w5) (binS .add 22 (.tmp 35) (.const (Value.int .u64 1)) v20 (Value.int .u64 1)) fun v21 =>
   Cl Pr (callV (fn 59) #[a0, v21, (Value.int .u64 0)]) w5 fun _ w22 =>
   K (Value.bool false) w22) (t54_4 a1 w5 K a0)
def t54 (a0 a1 : Value) (K : Value → World → Prop) (w : World) : Prop :=
 Dr w fun S1 w2 =>
 Cl Pr (callV (fn 95) #[a1]) w2 fun v4 w3 => S1 w3 ∧
 Cl Pr (callV (fn 96) #[v4]) w3 fun v6 w5 => S1 w5 ∧
 Qu Pr (S1) (nilS a0) fun v7 =>
 Qu Pr (S1) (Instr.fieldAt 187 v7 4) fun v8 =>
 Qu Pr (S1) (Instr.loadAt 128 v8) fun v9 =>
 Qu Pr (S1) (nilS v9) fun v10 =>
 Qu Pr (S1) (Instr.fieldAt 196 v10 2) fun v11 =>
 Qu Pr (S1) (Instr.loadAt 22 v11) fun v12 =>
 Qu Pr (S1) (binS .leq 22 (.tmp 17) (.tmp 24) v6 v12) fun v13 =>
 If v13 (
  K (Value.bool false) w5) (t54_5 w5 a0 K a1)
theorem c54 {a0 a1 : Value} {K : Value → World → Prop} {w : World} (h : t54 a0 a1 K w) : CK Pr 54 #[a0, a1] w K := by
  refine calls_of_RF [(10, [5, 8, 10, 57, 58, 59, 60, 61, 62, 63, 64, 65, 66, 67, 68, 69, 70, 71, 72, 73, 74, 75]), (13, [5, 10, 63, 64, 65, 66, 67, 68, 69, 70, 71, 72, 73])] Tryz.func54 rfl ?_ ?_ ?_
  · kernel_rfl
  · exact Nat.le_of_ble_eq_true rfl
  · exact cast (by kernel_rfl) h

def t55 (a0 : Value) (K : Value → World → Prop) (w : World) : Prop :=
 Qu Pr (Is w) (binS .eql 9 (.tmp 3) (.const (Value.string (ByteArray.mk #[]))) a0 (Value.string (ByteArray.mk #[]))) fun v1 =>
 If v1 (
  K (Value.slice none 0 0) w) (
  Ef Pr (convert 9 99 a0) w fun v3 w2 =>
  K v3 w2)
theorem c55 {a0 : Value} {K : Value → World → Prop} {w : World} (h : t55 a0 K w) : CK Pr 55 #[a0] w K := by
  refine calls_of_RF [] Tryz.func55 rfl ?_ ?_ ?_
  · kernel_rfl
  · exact Nat.le_of_ble_eq_true rfl
  · exact cast (by kernel_rfl) h

def t56 (a0 : Value) (K : Value → World → Prop) (w : World) : Prop :=
 Ef Pr (Instr.box 25 a0) w fun v2 w1 =>
 Dr w1 fun S3 w4 =>
 Qu Pr (S3) (Instr.fieldAt 25 v2 0) fun v5 =>
 Qu Pr (S3) (Instr.loadAt 23 v5) fun v6 =>
 Cl Pr (callV (fn 107) #[v6]) w4 fun v8 w7 => S3 w7 ∧
 Qu Pr (S3) (Instr.fieldAt 25 v2 1) fun v9 =>
 Qu Pr (S3) (Instr.loadAt 23 v9) fun v10 =>
 Cl Pr (callV (fn 107) #[v10]) w7 fun v12 w11 => S3 w11 ∧
 Qu Pr (S3) (Instr.fieldAt 25 v2 2) fun v13 =>
 Qu Pr (S3) (Instr.loadAt 23 v13) fun v14 =>
 Cl Pr (callV (fn 107) #[v14]) w11 fun v16 w15 => S3 w15 ∧
 Qu Pr (S3) (Instr.fieldAt 25 v2 3) fun v17 =>
 Qu Pr (S3) (Instr.loadAt 23 v17) fun v18 =>
 Cl Pr (callV (fn 107) #[v18]) w15 fun v20 w19 => S3 w19 ∧
 Qu Pr (S3) (Instr.fieldAt 25 v2 4) fun v21 =>
 Qu Pr (S3) (Instr.loadAt 4 v21) fun v22 =>
 Ef Pr (Instr.box 4 v22) w19 fun v24 w23 => S3 w23 ∧
 Qu Pr (S3) (Instr.build 200 #[(0, v8), (1, v12), (2, v16), (3, v20), (4, v24)]) fun v25 =>
 Ef Pr (Instr.box 200 v25) w23 fun v27 w26 => S3 w26 ∧
 K v27 w26
theorem c56 {a0 : Value} {K : Value → World → Prop} {w : World} (h : t56 a0 K w) : CK Pr 56 #[a0] w K := by
  refine calls_of_RF [] Tryz.func56 rfl ?_ ?_ ?_
  · kernel_rfl
  · exact Nat.le_of_ble_eq_true rfl
  · exact cast (by kernel_rfl) h

def t57 (a0 a1 : Value) (K : Value → World → Prop) (w : World) : Prop :=
 Qu Pr (Is w) (Builtin.len_ #[23] 3 #[a0]) fun v1 =>
 Qu Pr (Is w) (Builtin.len_ #[23] 3 #[a1]) fun v2 =>
 Qu Pr (Is w) (binS .neq 3 (.tmp 7) (.tmp 9) v1 v2) fun v3 =>
 If v3 (
  K (Value.bool false) w) (
  Qu Pr (Is w) (Builtin.len_ #[23] 3 #[a0]) fun v4 =>
  LoopW [(Value.bool false), undef, (Value.int .i64 0), undef, undef, undef, undef, undef, undef, undef, undef, undef, undef, undef, undef] (fun r5 τ6 w7 =>
   Qu Pr (Is w7) (binS .lss 3 (.tmp 13) (.tmp 12) (g τ6 2) v4) fun v8 =>
   If v8 (
    Dr w7 fun S9 w10 =>
    Qu Pr (S9) (Instr.indexAt 23 a0 (g τ6 2)) fun v11 =>
    Qu Pr (S9) (Instr.loadAt 22 v11) fun v12 =>
    Qu Pr (S9) (Instr.indexAt 23 a1 (g τ6 2)) fun v13 =>
    Qu Pr (S9) (Instr.loadAt 22 v13) fun v14 =>
    Qu Pr (S9) (binS .neq 22 (.tmp 19) (.tmp 23) v12 v14) fun v15 =>
    If v15 (
     K (Value.bool false) w10) (
     Qu Pr (Is w10) (binS .add 3 (.tmp 13) (.const (Value.int .i64 1)) (g τ6 2) (Value.int .i64 1)) fun v16 =>
     r5 [(g τ6 0), (g τ6 2), v16, v8, (g τ6 2), a0, (g τ6 2), v11, v12, a1, (g τ6 2), v13, v14, v15, v16] w10)) (
    K (Value.bool true) w7)) w)
theorem c57 {a0 a1 : Value} {K : Value → World → Prop} {w : World} (h : t57 a0 a1 K w) : CK Pr 57 #[a0, a1] w K := by
  refine calls_of_RF [(4, [4, 5, 13, 14, 15, 16, 17, 18, 19, 20, 21, 22, 23, 24, 25])] Tryz.func57 rfl ?_ ?_ ?_
  · kernel_rfl
  · exact Nat.le_of_ble_eq_true rfl
  · exact cast (by kernel_rfl) h

@[irreducible] def t58_1 (w50 : World) (a0 : Value) (τ49 : List Value) (J47 : Value → World → Prop) (r48 : List Value → World → Prop) (v51 : Value) (v52 : Value) (v53 : Value) : Prop :=
   Qu Pr (Is w50) (Builtin.len_ #[23] 3 #[a0]) fun v54 =>
   LoopW [(Value.bool false), (Value.int .u64 0), (g τ49 3), (Value.int .i64 0), (g τ49 12), (g τ49 13), (g τ49 14), (g τ49 15), (g τ49 16), (g τ49 17), (g τ49 18), (g τ49 19), (g τ49 20), (g τ49 21), (g τ49 22), (g τ49 23), (g τ49 24), (g τ49 25), (g τ49 26), (g τ49 27), (g τ49 28), (g τ49 29), (g τ49 30), (g τ49 31), (g τ49 32), (g τ49 33), (g τ49 34), (g τ49 35), (g τ49 36), (g τ49 37), (g τ49 38)] (fun r55 τ56 w57 =>
    Qu Pr (Is w57) (binS .lss 3 (.tmp 15) (.tmp 14) (g τ56 3) v54) fun v58 =>
    If v58 (
     Qu Pr (Is w57) (Instr.indexAt 23 a0 (g τ56 3)) fun v59 =>
     Qu Pr (Is w57) (Instr.loadAt 22 v59) fun v60 =>
     Qu Pr (Is w57) (Builtin.len_ #[23] 3 #[(g τ49 0)]) fun v61 =>
     Qu Pr (Is w57) (binS .eql 3 (.tmp 20) (.const (Value.int .i64 0)) v61 (Value.int .i64 0)) fun v62 =>
     Gd v62 false (fun k63 => k63 v60 w57) w57 fun v64 w65 =>
     Gd v62 false (fun k66 => k66 (g τ49 0) w65) w65 fun v67 w68 =>
     Gd v62 false (fun k69 => k69 (g τ49 0) w68) w68 fun v70 w71 =>
     Gd v62 false (fun k72 => Qu Pr (Is w71) (Builtin.len_ #[23] 3 #[v70]) fun v75 => k72 v75 w71) w71 fun v73 w74 =>
     Gd v62 false (fun k76 => Qu Pr (Is w74) (binS .sub 3 (.tmp 26) (.const (Value.int .i64 1)) v73 (Value.int .i64 1)) fun v79 => k76 v79 w74) w74 fun v77 w78 =>
     Gd v62 false (fun k80 => Qu Pr (Is w78) (Instr.indexAt 23 v67 v77) fun v83 => k80 v83 w78) w78 fun v81 w82 =>
     Gd v62 false (fun k84 => Qu Pr (Is w82) (Instr.loadAt 22 v81) fun v87 => k84 v87 w82) w82 fun v85 w86 =>
     Gd v62 false (fun k88 => Qu Pr (Is w86) (binS .gtr 22 (.tmp 23) (.tmp 29) v64 v85) fun v91 => k88 v91 w86) w86 fun v89 w90 =>
     Qu Pr (Is w90) (pickS v62 (Value.bool true) v89) fun v92 =>
     Gd v92 true (fun k93 => k93 (g τ56 0) w90) w90 fun v94 w95 =>
     Gd v92 true (fun k96 => Qu Pr (Is w95) (Op.unary .not v94) fun v99 => k96 v99 w95) w95 fun v97 w98 =>
     Gd v92 true (fun k100 => k100 v97 w98) w98 fun v101 w102 =>
     Gd v101 false (fun k103 => k103 v60 w102) w102 fun v104 w105 =>
     Gd v101 false (fun k106 => k106 (g τ56 1) w105) w105 fun v107 w108 =>
     Gd v101 false (fun k109 => Qu Pr (Is w108) (binS .lss 22 (.tmp 36) (.tmp 37) v104 v107) fun v112 => k109 v112 w108) w108 fun v110 w111 =>
     Gd v92 true (fun k113 => Qu Pr (Is w111) (pickS v101 (Value.bool true) v110) fun v116 => k113 v116 w111) w111 fun v114 w115 =>
     Qu Pr (Is w115) (pickS v92 v114 (Value.bool false)) fun v117 =>
     Jo (fun (p118 : Value) (p119 : Value) (p120 : Value) (w121 : World) => (
       Qu Pr (Is w121) (binS .add 3 (.tmp 15) (.const (Value.int .i64 1)) (g τ56 3) (Value.int .i64 1)) fun v123 =>
       r55 [p119, p120, v60, v123, v58, v59, v60, (g τ49 0), v61, v62, v62, v64, v67, v70, v73, v77, v81, v85, v89, v92, v92, v94, v97, v101, v104, v107, v110, v114, v117, p118, v123] w121 : Prop)) fun J122 =>
     If v117 (
      J122 v60 (Value.bool true) v60 w115) (
      J122 (g τ56 29) (g τ56 0) (g τ56 1) w115)) (
     Qu Pr (Is w57) (Op.unary .not (g τ56 0)) fun v124 =>
     If v124 (
      J47 (g τ49 0) w57) (
      Ef Pr (Instr.buildSlice 23 1 #[(0, (g τ56 1))]) w57 fun v126 w125 =>
      Ef Pr (Builtin.append_ #[23, 23] 23 #[(g τ49 0), v126]) w125 fun v128 w127 =>
      r48 [v128, (g τ56 0), (g τ56 1), (g τ56 2), (g τ49 0), v51, a0, v52, v53, a0, v54, (g τ56 3), v58, (g τ56 5), (g τ56 6), (g τ56 7), (g τ56 8), (g τ56 9), (g τ56 10), (g τ56 11), (g τ56 12), (g τ56 13), (g τ56 14), (g τ56 15), (g τ56 16), (g τ56 17), (g τ56 18), (g τ56 19), (g τ56 20), (g τ56 21), (g τ56 22), (g τ56 23), (g τ56 24), (g τ56 25), (g τ56 26), (g τ56 27), (g τ56 28), (g τ56 29), (g τ56 30), (g τ56 0), v124, (g τ49 0), (g τ56 1), v126, v128] w127))) w50
def t58 (a0 : Value) (K : Value → World → Prop) (w : World) : Prop :=
 Jo (fun (p45 : Value) (w46 : World) => (
   K p45 w46 : Prop)) fun J47 =>
 LoopW [(Value.slice none 0 0), undef, undef, undef, undef, undef, undef, undef, undef, undef, undef, undef, undef, undef, undef, undef, undef, undef, undef, undef, undef, undef, undef, undef, undef, undef, undef, undef, undef, undef, undef, undef, undef, undef, undef, undef, undef, undef, undef, undef, undef, undef, undef, undef, undef] (fun r48 τ49 w50 =>
  Qu Pr (Is w50) (Builtin.len_ #[23] 3 #[(g τ49 0)]) fun v51 =>
  Qu Pr (Is w50) (Builtin.len_ #[23] 3 #[a0]) fun v52 =>
  Qu Pr (Is w50) (binS .lss 3 (.tmp 9) (.tmp 11) v51 v52) fun v53 =>
  If v53 (t58_1 w50 a0 τ49 J47 r48 v51 v52 v53) (
   J47 (g τ49 0) w50)) w
theorem c58 {a0 : Value} {K : Value → World → Prop} {w : World} (h : t58 a0 K w) : CK Pr 58 #[a0] w K := by
  refine calls_of_RF [(2, [3, 4, 5, 7, 8, 9, 10, 11, 12, 13, 14, 15, 16, 17, 18, 19, 20, 21, 22, 23, 24, 25, 26, 27, 28, 29, 30, 31, 32, 33, 34, 35, 36, 37, 38, 39, 40, 41, 42, 43, 44, 45, 46, 47, 48]), (6, [4, 5, 7, 15, 16, 17, 18, 19, 20, 21, 22, 23, 24, 25, 26, 27, 28, 29, 30, 31, 32, 33, 34, 35, 36, 37, 38, 39, 40, 41, 42])] Tryz.func58 rfl ?_ ?_ ?_
  · kernel_rfl
  · exact Nat.le_of_ble_eq_true rfl
  · exact cast (by kernel_rfl) h

def t63 (a0 a1 : Value) (K : Value → World → Prop) (w : World) : Prop :=
 Cl Pr (callV (fn 117) #[a1]) w fun v2 w1 =>
 Cl Pr (callV (fn 118) #[v2]) w1 fun v4 w3 =>
 Cl Pr (callV (fn 54) #[a0, v4]) w3 fun v6 w5 =>
 Jo (fun  (w39 : World) => (
   K (.tuple #[]) w39 : Prop)) fun J40 =>
 If v6 (
  Dr w5 fun S41 w42 =>
  Qu Pr (S41) (nilS a1) fun v43 =>
  Qu Pr (S41) (Instr.fieldAt 119 v43 2) fun v44 =>
  Qu Pr (S41) (Instr.loadAt 104 v44) fun v45 =>
  Cl Pr (callV (fn 120) #[(Value.int .i32 4)]) w42 fun v47 w46 => S41 w46 ∧
  Qu Pr (S41) (nilS a0) fun v48 =>
  Qu Pr (S41) (Instr.fieldAt 187 v48 4) fun v49 =>
  Qu Pr (S41) (Instr.loadAt 128 v49) fun v50 =>
  Cl Pr (callV (fn 104) #[v50]) w46 fun v52 w51 => S41 w51 ∧
  Ef Pr (Instr.box 22 v52) w51 fun v54 w53 => S41 w53 ∧
  Qu Pr (S41) (Instr.build 119 #[(1, v45), (0, v47), (5, v54)]) fun v55 =>
  Ef Pr (Instr.box 119 v55) w53 fun v57 w56 => S41 w56 ∧
  Cl Pr (callV (fn 119) #[a0, v57]) w56 fun _ w58 => S41 w58 ∧
  J40 w58) (
  Dr w5 fun S60 w61 =>
  Qu Pr (S60) (nilS a1) fun v62 =>
  Qu Pr (S60) (Instr.fieldAt 119 v62 2) fun v63 =>
  Qu Pr (S60) (Instr.loadAt 104 v63) fun v64 =>
  Cl Pr (callV (fn 120) #[(Value.int .i32 4)]) w61 fun v66 w65 => S60 w65 ∧
  Qu Pr (S60) (nilS a0) fun v67 =>
  Qu Pr (S60) (Instr.fieldAt 187 v67 4) fun v68 =>
  Qu Pr (S60) (Instr.loadAt 128 v68) fun v69 =>
  Qu Pr (S60) (nilS v69) fun v70 =>
  Qu Pr (S60) (Instr.fieldAt 196 v70 2) fun v71 =>
  Qu Pr (S60) (Instr.loadAt 22 v71) fun v72 =>
  Ef Pr (Instr.box 22 v72) w65 fun v74 w73 => S60 w73 ∧
  Qu Pr (S60) (Instr.build 119 #[(1, v64), (0, v66), (5, v74)]) fun v75 =>
  Ef Pr (Instr.box 119 v75) w73 fun v77 w76 => S60 w76 ∧
  Cl Pr (callV (fn 119) #[a0, v77]) w76 fun _ w78 => S60 w78 ∧
  J40 w78)
theorem c63 {a0 a1 : Value} {K : Value → World → Prop} {w : World} (h : t63 a0 a1 K w) : CK Pr 63 #[a0, a1] w K := by
  refine calls_of_RF [] Tryz.func63 rfl ?_ ?_ ?_
  · kernel_rfl
  · exact Nat.le_of_ble_eq_true rfl
  · exact cast (by kernel_rfl) h

def t64 (a0 : Value) (K : Value → World → Prop) (w : World) : Prop :=
 Qu Pr (Is w) (binS .eql 22 (.tmp 3) (.const (Value.int .u64 0)) a0 (Value.int .u64 0)) fun v1 =>
 If v1 (
  K (Value.pointer none) w) (
  Ef Pr (Instr.box 22 a0) w fun v3 w2 =>
  K v3 w2)
theorem c64 {a0 : Value} {K : Value → World → Prop} {w : World} (h : t64 a0 K w) : CK Pr 64 #[a0] w K := by
  refine calls_of_RF [] Tryz.func64 rfl ?_ ?_ ?_
  · kernel_rfl
  · exact Nat.le_of_ble_eq_true rfl
  · exact cast (by kernel_rfl) h

def t65 (a0 : Value) (K : Value → World → Prop) (w : World) : Prop :=
 Qu Pr (Is w) (Builtin.len_ #[28] 3 #[a0]) fun v1 =>
 LoopW [(Value.slice none 0 0), undef, (Value.int .i64 0), undef, undef, undef, undef, undef, undef, undef, undef, undef] (fun r2 τ3 w4 =>
  Qu Pr (Is w4) (binS .lss 3 (.tmp 8) (.tmp 7) (g τ3 2) v1) fun v5 =>
  If v5 (
   Qu Pr (Is w4) (Instr.indexAt 28 a0 (g τ3 2)) fun v6 =>
   Qu Pr (Is w4) (Instr.loadAt 56 v6) fun v7 =>
   Ef Pr (Instr.alloc 56 true (.tuple #[])) w4 fun v9 w8 =>
   Eu Pr (Instr.storeAt 56 v9 v7) w8 fun w10 =>
   Qu Pr (Is w10) (Instr.loadAt 56 v9) fun v11 =>
   Cl Pr (callV (fn 121) #[v11]) w10 fun v13 w12 =>
   Ef Pr (Instr.buildSlice 115 1 #[(0, v13)]) w12 fun v15 w14 =>
   Ef Pr (Builtin.append_ #[115, 115] 115 #[(g τ3 0), v15]) w14 fun v17 w16 =>
   Qu Pr (Is w16) (binS .add 3 (.tmp 8) (.const (Value.int .i64 1)) (g τ3 2) (Value.int .i64 1)) fun v18 =>
   r2 [v17, v9, v18, v5, v6, v7, (g τ3 0), v11, v13, v15, v17, v18] w16) (
   K (g τ3 0) w4)) w
theorem c65 {a0 : Value} {K : Value → World → Prop} {w : World} (h : t65 a0 K w) : CK Pr 65 #[a0] w K := by
  refine calls_of_RF [(3, [3, 5, 8, 9, 10, 11, 12, 13, 14, 15, 16, 17])] Tryz.func65 rfl ?_ ?_ ?_
  · kernel_rfl
  · exact Nat.le_of_ble_eq_true rfl
  · exact cast (by kernel_rfl) h

def t66 (a0 : Value) (K : Value → World → Prop) (w : World) : Prop :=
 Ef Pr (Instr.box 58 a0) w fun v2 w1 =>
 Qu Pr (Is w1) (Instr.fieldAt 58 v2 9) fun v3 =>
 Qu Pr (Is w1) (Instr.loadAt 23 v3) fun v4 =>
 Qu Pr (Is w1) (Builtin.len_ #[23] 3 #[v4]) fun v5 =>
 Qu Pr (Is w1) (binS .gtr 3 (.tmp 5) (.const (Value.int .i64 2147483647)) v5 (Value.int .i64 2147483647)) fun v6 =>
 If v6 (
  K (Value.bool false) w1) (
  Qu Pr (Is w1) (Instr.fieldAt 58 v2 10) fun v7 =>
  Qu Pr (Is w1) (Instr.loadAt 23 v7) fun v8 =>
  Qu Pr (Is w1) (Builtin.len_ #[23] 3 #[v8]) fun v9 =>
  Qu Pr (Is w1) (binS .gtr 3 (.tmp 9) (.const (Value.int .i64 2147483647)) v9 (Value.int .i64 2147483647)) fun v10 =>
  If v10 (
   K (Value.bool false) w1) (
   K (Value.bool true) w1))
theorem c66 {a0 : Value} {K : Value → World → Prop} {w : World} (h : t66 a0 K w) : CK Pr 66 #[a0] w K := by
  refine calls_of_RF [] Tryz.func66 rfl ?_ ?_ ?_
  · kernel_rfl
  · exact Nat.le_of_ble_eq_true rfl
  · exact cast (by kernel_rfl) h

def t68 (K : Value → World → Prop) (w : World) : Prop :=
 Qu Pr (Is w) (Instr.build 215 #[]) fun v1 =>
 Ef Pr (Instr.box 215 v1) w fun v3 w2 =>
 Ef Pr (Instr.buildSlice 115 1 #[(0, v3)]) w2 fun v5 w4 =>
 Qu Pr (Is w4) (Instr.build 225 #[(2, v5)]) fun v6 =>
 Ef Pr (Instr.box 225 v6) w4 fun v8 w7 =>
 Qu Pr (Is w7) (nilS v8) fun v9 =>
 Qu Pr (Is w7) (Instr.fieldAt 225 v9 1) fun v10 =>
 Qu Pr (Is w7) (Instr.loadAt 75 v10) fun v11 =>
 Cl Pr (callV (fn 118) #[v11]) w7 fun v13 w12 =>
 Qu Pr (Is w12) (nilS v8) fun v14 =>
 Qu Pr (Is w12) (Instr.fieldAt 225 v14 1) fun v15 =>
 Eu Pr (Instr.storeAt 75 v15 v13) w12 fun w16 =>
 K v8 w16
theorem c68 {K : Value → World → Prop} {w : World} (h : t68  K w) : CK Pr 68 #[] w K := by
  refine calls_of_RF [] Tryz.func68 rfl ?_ ?_ ?_
  · kernel_rfl
  · exact Nat.le_of_ble_eq_true rfl
  · exact cast (by kernel_rfl) h

def t69 (a0 : Value) (K : Value → World → Prop) (w : World) : Prop :=
 Qu Pr (Is w) (binS .neq 125 (.tmp 2) (.const Value.nilIface) a0 Value.nilIface) fun v1 =>
 If v1 (
  False) (
  K (.tuple #[]) w)
theorem c69 {a0 : Value} {K : Value → World → Prop} {w : World} (h : t69 a0 K w) : CK Pr 69 #[a0] w K := by
  refine calls_of_RF [] Tryz.func69 rfl ?_ ?_ ?_
  · kernel_rfl
  · exact Nat.le_of_ble_eq_true rfl
  · exact cast (by kernel_rfl) h

def t70 (a0 a1 : Value) (K : Value → World → Prop) (w : World) : Prop :=
 Cl Pr (callV (fn 118) #[a1]) w fun v2 w1 =>
 Qu Pr (Is w1) (nilS a0) fun v3 =>
 Qu Pr (Is w1) (Instr.fieldAt 225 v3 1) fun v4 =>
 Qu Pr (Is w1) (Instr.loadAt 75 v4) fun v5 =>
 Cl Pr (callV (fn 95) #[v5]) w1 fun v7 w6 =>
 Cl Pr (callV (fn 96) #[v7]) w6 fun v9 w8 =>
 Cl Pr (callV (fn 95) #[v2]) w8 fun v11 w10 =>
 Cl Pr (callV (fn 96) #[v11]) w10 fun v13 w12 =>
 Qu Pr (Is w12) (binS .neq 22 (.tmp 18) (.const (Value.int .u64 0)) v9 (Value.int .u64 0)) fun v14 =>
 Gd v14 true (fun k15 => k15 v9 w12) w12 fun v16 w17 =>
 Gd v14 true (fun k18 => k18 v13 w17) w17 fun v19 w20 =>
 Gd v14 true (fun k21 => Qu Pr (Is w20) (binS .geq 22 (.tmp 21) (.tmp 22) v16 v19) fun v24 => k21 v24 w20) w20 fun v22 w23 =>
 Qu Pr (Is w23) (pickS v14 v22 (Value.bool false)) fun v25 =>
 If v25 (
  Qu Pr (Is w23) (Instr.makeInterface 226 (Value.string (ByteArray.mk #[114, 101, 113, 117, 101, 115, 116, 101, 100, 32, 105, 110, 100, 101, 120, 32, 105, 115, 32, 111, 108, 100, 101, 114, 32, 116, 104, 97, 110, 32, 116, 104, 101, 32, 101, 120, 105, 115, 116, 105, 110, 103, 32, 115, 110, 97, 112, 115, 104, 111, 116]))) fun v26 =>
  K v26 w23) (
  Cl Pr (callV (fn 122) #[v2]) w23 fun v28 w27 =>
  Qu Pr (Is w27) (nilS a0) fun v29 =>
  Qu Pr (Is w27) (Instr.fieldAt 225 v29 1) fun v30 =>
  Eu Pr (Instr.storeAt 75 v30 v28) w27 fun w31 =>
  Cl Pr (callV (fn 95) #[v2]) w31 fun v33 w32 =>
  Cl Pr (callV (fn 99) #[v33]) w32 fun v35 w34 =>
  Ef Pr (Instr.box 22 v35) w34 fun v37 w36 =>
  Cl Pr (callV (fn 95) #[v2]) w36 fun v39 w38 =>
  Cl Pr (callV (fn 96) #[v39]) w38 fun v41 w40 =>
  Ef Pr (Instr.box 22 v41) w40 fun v43 w42 =>
  Qu Pr (Is w42) (Instr.build 215 #[(0, v37), (1, v43)]) fun v44 =>
  Ef Pr (Instr.box 215 v44) w42 fun v46 w45 =>
  Ef Pr (Instr.buildSlice 115 1 #[(0, v46)]) w45 fun v48 w47 =>
  Qu Pr (Is w47) (nilS a0) fun v49 =>
  Qu Pr (Is w47) (Instr.fieldAt 225 v49 2) fun v50 =>
  Eu Pr (Instr.storeAt 115 v50 v48) w47 fun w51 =>
  K Value.nilIface w51)
theorem c70 {a0 a1 : Value} {K : Value → World → Prop} {w : World} (h : t70 a0 a1 K w) : CK Pr 70 #[a0, a1] w K := by
  refine calls_of_RF [] Tryz.func70 rfl ?_ ?_ ?_
  · kernel_rfl
  · exact Nat.le_of_ble_eq_true rfl
  · exact cast (by kernel_rfl) h

@[irreducible] def t71_1 (w28 : World) (p27 : Value) (a0 : Value) (K : Value → World → Prop) : Prop :=
     Dr w28 fun S30 w31 =>
     Qu Pr (S30) (Instr.indexAt 115 p27 (Value.int .i64 0)) fun v32 =>
     Qu Pr (S30) (Instr.loadAt 212 v32) fun v33 =>
     Cl Pr (callV (fn 124) #[v33]) w31 fun v35 w34 => S30 w34 ∧
     Qu Pr (S30) (nilS a0) fun v36 =>
     Qu Pr (S30) (Instr.fieldAt 225 v36 2) fun v37 =>
     Qu Pr (S30) (Instr.loadAt 115 v37) fun v38 =>
     Qu Pr (S30) (Instr.indexAt 115 v38 (Value.int .i64 0)) fun v39 =>
     Qu Pr (S30) (Instr.loadAt 212 v39) fun v40 =>
     Cl Pr (callV (fn 124) #[v40]) w34 fun v42 w41 => S30 w41 ∧
     Qu Pr (S30) (binS .sub 22 (.tmp 42) (.tmp 49) v35 v42) fun v43 =>
     Qu Pr (Is w41) (nilS a0) fun v44 =>
     Qu Pr (Is w41) (Instr.fieldAt 225 v44 2) fun v45 =>
     Qu Pr (Is w41) (Instr.loadAt 115 v45) fun v46 =>
     Qu Pr (Is w41) (Builtin.len_ #[115] 3 #[v46]) fun v47 =>
     Qu Pr (Is w41) (convert 3 22 v47) fun v48 =>
     Qu Pr (Is w41) (binS .gtr 22 (.tmp 58) (.tmp 59) v48 v43) fun v49 =>
     Jo (fun  (w81 : World) => (
       K Value.nilIface w81 : Prop)) fun J82 =>
     If v49 (
      Qu Pr (Is w41) (nilS a0) fun v83 =>
      Qu Pr (Is w41) (Instr.fieldAt 225 v83 2) fun v84 =>
      Qu Pr (Is w41) (Instr.loadAt 115 v84) fun v85 =>
      Qu Pr (Is w41) (Instr.sliceAt 115 v85 none (some v43) (some v43)) fun v86 =>
      Ef Pr (Builtin.append_ #[115, 115] 115 #[v86, p27]) w41 fun v88 w87 =>
      Qu Pr (Is w87) (nilS a0) fun v89 =>
      Qu Pr (Is w87) (Instr.fieldAt 225 v89 2) fun v90 =>
      Eu Pr (Instr.storeAt 115 v90 v88) w87 fun w91 =>
      J82 w91) (
      Qu Pr (Is w41) (nilS a0) fun v92 =>
      Qu Pr (Is w41) (Instr.fieldAt 225 v92 2) fun v93 =>
      Qu Pr (Is w41) (Instr.loadAt 115 v93) fun v94 =>
      Qu Pr (Is w41) (Builtin.len_ #[115] 3 #[v94]) fun v95 =>
      Qu Pr (Is w41) (convert 3 22 v95) fun v96 =>
      Qu Pr (Is w41) (binS .eql 22 (.tmp 79) (.tmp 80) v96 v43) fun v97 =>
      If v97 (
       Qu Pr (Is w41) (nilS a0) fun v98 =>
       Qu Pr (Is w41) (Instr.fieldAt 225 v98 2) fun v99 =>
       Qu Pr (Is w41) (Instr.loadAt 115 v99) fun v100 =>
       Ef Pr (Builtin.append_ #[115, 115] 115 #[v100, p27]) w41 fun v102 w101 =>
       Qu Pr (Is w101) (nilS a0) fun v103 =>
       Qu Pr (Is w101) (Instr.fieldAt 225 v103 2) fun v104 =>
       Eu Pr (Instr.storeAt 115 v104 v102) w101 fun w105 =>
       J82 w105) (
       Qu Pr (Is w41) (Instr.makeInterface 9 (Value.string (ByteArray.mk #[109, 105, 115, 115, 105, 110, 103, 32, 108, 111, 103, 32, 101, 110, 116, 114, 121, 32, 91, 108, 97, 115, 116, 58, 44, 32, 97, 112, 112, 101, 110, 100, 32, 97, 116]))) fun _ =>
       False))
@[irreducible] def t71_2 (w7 : World) (a1 : Value) (v4 : Value) (a0 : Value) (K : Value → World → Prop) : Prop :=
   Qu Pr (Is w7) (Instr.indexAt 115 a1 (Value.int .i64 0)) fun v14 =>
   Qu Pr (Is w7) (Instr.loadAt 212 v14) fun v15 =>
   Cl Pr (callV (fn 124) #[v15]) w7 fun v17 w16 =>
   Qu Pr (Is w16) (binS .gtr 22 (.tmp 25) (.tmp 29) v4 v17) fun v18 =>
   Jo (fun (p27 : Value) (w28 : World) => (t71_1 w28 p27 a0 K : Prop)) fun J29 =>
   If v18 (
    Qu Pr (Is w16) (Instr.indexAt 115 a1 (Value.int .i64 0)) fun v107 =>
    Qu Pr (Is w16) (Instr.loadAt 212 v107) fun v108 =>
    Cl Pr (callV (fn 124) #[v108]) w16 fun v110 w109 =>
    Qu Pr (Is w109) (binS .sub 22 (.tmp 32) (.tmp 36) v4 v110) fun v111 =>
    Qu Pr (Is w109) (Instr.sliceAt 115 a1 (some v111) none none) fun v112 =>
    J29 v112 w109) (
    J29 a1 w16)
@[irreducible] def t71_3 (a0 : Value) (w : World) (a1 : Value) (K : Value → World → Prop) : Prop :=
  Cl Pr (callV (fn 123) #[a0]) w fun v4 w3 =>
  Qu Pr (Is w3) (Instr.indexAt 115 a1 (Value.int .i64 0)) fun v5 =>
  Qu Pr (Is w3) (Instr.loadAt 212 v5) fun v6 =>
  Cl Pr (callV (fn 124) #[v6]) w3 fun v8 w7 =>
  Qu Pr (Is w7) (Builtin.len_ #[115] 3 #[a1]) fun v9 =>
  Qu Pr (Is w7) (convert 3 22 v9) fun v10 =>
  Qu Pr (Is w7) (binS .add 22 (.tmp 16) (.tmp 19) v8 v10) fun v11 =>
  Qu Pr (Is w7) (binS .sub 22 (.tmp 20) (.const (Value.int .u64 1)) v11 (Value.int .u64 1)) fun v12 =>
  Qu Pr (Is w7) (binS .lss 22 (.tmp 22) (.tmp 23) v12 v4) fun v13 =>
  If v13 (
   K Value.nilIface w7) (t71_2 w7 a1 v4 a0 K)
def t71 (a0 a1 : Value) (K : Value → World → Prop) (w : World) : Prop :=
 Qu Pr (Is w) (Builtin.len_ #[115] 3 #[a1]) fun v1 =>
 Qu Pr (Is w) (binS .eql 3 (.tmp 9) (.const (Value.int .i64 0)) v1 (Value.int .i64 0)) fun v2 =>
 If v2 (
  K Value.nilIface w) (t71_3 a0 w a1 K)
theorem c71 {a0 a1 : Value} {K : Value → World → Prop} {w : World} (h : t71 a0 a1 K w) : CK Pr 71 #[a0, a1] w K := by
  refine calls_of_RF [] Tryz.func71 rfl ?_ ?_ ?_
  · kernel_rfl
  · exact Nat.le_of_ble_eq_true rfl
  · exact cast (by kernel_rfl) h

def t72 (a0 a1 : Value) (K : Value → World → Prop) (w : World) : Prop :=
 Cl Pr (callV (fn 125) #[a0, a1]) w fun v2 w1 =>
 K v2 w1
theorem c72 {a0 a1 : Value} {K : Value → World → Prop} {w : World} (h : t72 a0 a1 K w) : CK Pr 72 #[a0, a1] w K := by
  refine calls_of_RF [] Tryz.func72 rfl ?_ ?_ ?_
  · kernel_rfl
  · exact Nat.le_of_ble_eq_true rfl
  · exact cast (by kernel_rfl) h

def t73 (a0 a1 a2 a3 : Value) (K : Value → World → Prop) (w : World) : Prop :=
 Qu Pr (Is w) (nilS a0) fun v1 =>
 Qu Pr (Is w) (Instr.fieldAt 196 v1 1) fun v2 =>
 Qu Pr (Is w) (Instr.fieldAt 194 v2 1) fun v3 =>
 Eu Pr (Instr.storeAt 115 v3 a1) w fun w4 =>
 Qu Pr (Is w4) (nilS a0) fun v5 =>
 Qu Pr (Is w4) (Instr.fieldAt 196 v5 2) fun v6 =>
 Eu Pr (Instr.storeAt 22 v6 a2) w4 fun w7 =>
 Qu Pr (Is w7) (nilS a0) fun v8 =>
 Qu Pr (Is w7) (Instr.fieldAt 196 v8 3) fun v9 =>
 Eu Pr (Instr.storeAt 22 v9 a3) w7 fun w10 =>
 Qu Pr (Is w10) (nilS a0) fun v11 =>
 Qu Pr (Is w10) (Instr.fieldAt 196 v11 4) fun v12 =>
 Eu Pr (Instr.storeAt 22 v12 a3) w10 fun w13 =>
 K (.tuple #[]) w13
theorem c73 {a0 a1 a2 a3 : Value} {K : Value → World → Prop} {w : World} (h : t73 a0 a1 a2 a3 K w) : CK Pr 73 #[a0, a1, a2, a3] w K := by
  refine calls_of_RF [] Tryz.func73 rfl ?_ ?_ ?_
  · kernel_rfl
  · exact Nat.le_of_ble_eq_true rfl
  · exact cast (by kernel_rfl) h

def t74 (a0 a1 : Value) (K : Value → World → Prop) (w : World) : Prop :=
 Ef Pr (Instr.alloc 141 true (.tuple #[])) w fun v2 w1 =>
 Ef Pr (Instr.makeMap 132 none) w1 fun v4 w3 =>
 Qu Pr (Is w3) (Instr.build 134 #[(0, v4), (1, (Value.map none))]) fun v5 =>
 Qu Pr (Is w3) (Instr.build 136 #[(0, v5), (2, (Value.map none)), (3, (Value.map none))]) fun v6 =>
 Ef Pr (Instr.makeMap 139 none) w3 fun v8 w7 =>
 Ef Pr (Instr.makeMap 137 none) w7 fun v10 w9 =>
 Qu Pr (Is w9) (Instr.build 141 #[(3, a0), (4, a1), (0, v6), (2, v8), (1, v10)]) fun v11 =>
 Ef Pr (Instr.alloc 141 true (.tuple #[])) w9 fun v13 w12 =>
 Eu Pr (Instr.storeAt 141 v13 v11) w12 fun w14 =>
 Qu Pr (Is w14) (Instr.loadAt 141 v13) fun v15 =>
 Eu Pr (Instr.storeAt 141 v2 v15) w14 fun w16 =>
 Qu Pr (Is w16) (Instr.loadAt 141 v2) fun v17 =>
 K v17 w16
theorem c74 {a0 a1 : Value} {K : Value → World → Prop} {w : World} (h : t74 a0 a1 K w) : CK Pr 74 #[a0, a1] w K := by
  refine calls_of_RF [] Tryz.func74 rfl ?_ ?_ ?_
  · kernel_rfl
  · exact Nat.le_of_ble_eq_true rfl
  · exact cast (by kernel_rfl) h

end Go.Proofs.YtmmpogfbhelioaaGreat
/-
  The readable texts of the program's functions, printed by gen.py, and their links with the program.
  Conditions: none.
-/
namespace Go.Proofs.YtmmpogfbhelioaaGreat
set_option maxRecDepth 10000
set_option linter.unusedVariables false
set_option linter.unusedSimpArgs false
def t75 (a0 : Value) (K : Value → World → Prop) (w : World) : Prop :=
 Ef Pr (Instr.makeMap 132 none) w fun v2 w1 =>
 Qu Pr (Is w1) (Builtin.len_ #[23] 3 #[a0]) fun v3 =>
 LoopW [undef, (Value.int .i64 0), undef, undef, undef, undef, undef, undef, undef] (fun r4 τ5 w6 =>
  Qu Pr (Is w6) (binS .lss 3 (.tmp 9) (.tmp 8) (g τ5 1) v3) fun v7 =>
  If v7 (
   Qu Pr (Is w6) (Instr.indexAt 23 a0 (g τ5 1)) fun v8 =>
   Qu Pr (Is w6) (Instr.loadAt 22 v8) fun v9 =>
   Qu Pr (Is w6) (Instr.build 156 #[]) fun v10 =>
   Eu Pr (Instr.mapUpdate 132 v2 v9 v10) w6 fun w11 =>
   Qu Pr (Is w11) (binS .add 3 (.tmp 9) (.const (Value.int .i64 1)) (g τ5 1) (Value.int .i64 1)) fun v12 =>
   r4 [v9, v12, v7, v8, v9, v2, v9, v10, v12] w11) (
   K v2 w6)) w1
theorem c75 {a0 : Value} {K : Value → World → Prop} {w : World} (h : t75 a0 K w) : CK Pr 75 #[a0] w K := by
  refine calls_of_RF [(3, [5, 9, 10, 11, 12, 13, 14, 15, 16])] Tryz.func75 rfl ?_ ?_ ?_
  · kernel_rfl
  · exact Nat.le_of_ble_eq_true rfl
  · exact cast (by kernel_rfl) h

def t76 (a0 : Value) (K : Value → World → Prop) (w : World) : Prop :=
 Qu Pr (Is w) (Builtin.len_ #[23] 3 #[a0]) fun v1 =>
 Qu Pr (Is w) (binS .eql 3 (.tmp 7) (.const (Value.int .i64 0)) v1 (Value.int .i64 0)) fun v2 =>
 If v2 (
  K (Value.map none) w) (
  Ef Pr (Instr.makeMap 131 none) w fun v4 w3 =>
  Qu Pr (Is w3) (Builtin.len_ #[23] 3 #[a0]) fun v5 =>
  LoopW [undef, (Value.int .i64 0), undef, undef, undef, undef, undef, undef, undef] (fun r6 τ7 w8 =>
   Qu Pr (Is w8) (binS .lss 3 (.tmp 12) (.tmp 11) (g τ7 1) v5) fun v9 =>
   If v9 (
    Qu Pr (Is w8) (Instr.indexAt 23 a0 (g τ7 1)) fun v10 =>
    Qu Pr (Is w8) (Instr.loadAt 22 v10) fun v11 =>
    Qu Pr (Is w8) (Instr.build 156 #[]) fun v12 =>
    Eu Pr (Instr.mapUpdate 131 v4 v11 v12) w8 fun w13 =>
    Qu Pr (Is w13) (binS .add 3 (.tmp 12) (.const (Value.int .i64 1)) (g τ7 1) (Value.int .i64 1)) fun v14 =>
    r6 [v11, v14, v9, v10, v11, v4, v11, v12, v14] w13) (
    K v4 w8)) w3)
theorem c76 {a0 : Value} {K : Value → World → Prop} {w : World} (h : t76 a0 K w) : CK Pr 76 #[a0] w K := by
  refine calls_of_RF [(5, [5, 12, 13, 14, 15, 16, 17, 18, 19])] Tryz.func76 rfl ?_ ?_ ?_
  · kernel_rfl
  · exact Nat.le_of_ble_eq_true rfl
  · exact cast (by kernel_rfl) h

def t77 (a0 : Value) (K : Value → World → Prop) (w : World) : Prop :=
 Cl Pr (callV (fn 104) #[a0]) w fun v2 w1 =>
 K v2 w1
theorem c77 {a0 : Value} {K : Value → World → Prop} {w : World} (h : t77 a0 K w) : CK Pr 77 #[a0] w K := by
  refine calls_of_RF [] Tryz.func77 rfl ?_ ?_ ?_
  · kernel_rfl
  · exact Nat.le_of_ble_eq_true rfl
  · exact cast (by kernel_rfl) h

def t78 (a0 a1 : Value) (K : Value → World → Prop) (w : World) : Prop :=
 Qu Pr (Is w) (Instr.build 230 #[(3, a0), (4, a1)]) fun v1 =>
 Ef Pr (Instr.box 230 v1) w fun v3 w2 =>
 K v3 w2
theorem c78 {a0 a1 : Value} {K : Value → World → Prop} {w : World} (h : t78 a0 a1 K w) : CK Pr 78 #[a0, a1] w K := by
  refine calls_of_RF [] Tryz.func78 rfl ?_ ?_ ?_
  · kernel_rfl
  · exact Nat.le_of_ble_eq_true rfl
  · exact cast (by kernel_rfl) h

def t79 (a0 : Value) (K : Value → World → Prop) (w : World) : Prop :=
 Ef Pr (Instr.box 58 a0) w fun v2 w1 =>
 Qu Pr (Is w1) (Instr.fieldAt 58 v2 7) fun v3 =>
 Qu Pr (Is w1) (Instr.loadAt 3 v3) fun v4 =>
 Qu Pr (Is w1) (Instr.fieldAt 58 v2 8) fun v5 =>
 Qu Pr (Is w1) (Instr.loadAt 22 v5) fun v6 =>
 Cl Pr (callV (fn 78) #[v4, v6]) w1 fun v8 w7 =>
 LoopW [(Value.int .i64 0), undef, undef, undef, undef, undef, undef, undef, undef, undef, undef, undef, undef, undef, undef, undef, undef, undef, undef, undef, undef, undef, undef, undef, undef, undef, undef] (fun r9 τ10 w11 =>
  Qu Pr (Is w11) (Instr.fieldAt 58 v2 9) fun v12 =>
  Qu Pr (Is w11) (Instr.loadAt 23 v12) fun v13 =>
  Qu Pr (Is w11) (Builtin.len_ #[23] 3 #[v13]) fun v14 =>
  Qu Pr (Is w11) (binS .lss 3 (.tmp 10) (.tmp 13) (g τ10 0) v14) fun v15 =>
  Gd v15 true (fun k16 => k16 (g τ10 0) w11) w11 fun v17 w18 =>
  Gd v15 true (fun k19 => Qu Pr (Is w18) (Instr.fieldAt 58 v2 10) fun v22 => k19 v22 w18) w18 fun v20 w21 =>
  Gd v15 true (fun k23 => Qu Pr (Is w21) (Instr.loadAt 23 v20) fun v26 => k23 v26 w21) w21 fun v24 w25 =>
  Gd v15 true (fun k27 => Qu Pr (Is w25) (Builtin.len_ #[23] 3 #[v24]) fun v30 => k27 v30 w25) w25 fun v28 w29 =>
  Gd v15 true (fun k31 => Qu Pr (Is w29) (binS .lss 3 (.tmp 16) (.tmp 19) v17 v28) fun v34 => k31 v34 w29) w29 fun v32 w33 =>
  Qu Pr (Is w33) (pickS v15 v32 (Value.bool false)) fun v35 =>
  If v35 (
   Dr w33 fun S36 w37 =>
   Qu Pr (S36) (Instr.fieldAt 58 v2 9) fun v38 =>
   Qu Pr (S36) (Instr.loadAt 23 v38) fun v39 =>
   Qu Pr (S36) (Instr.indexAt 23 v39 (g τ10 0)) fun v40 =>
   Qu Pr (S36) (Instr.loadAt 22 v40) fun v41 =>
   Qu Pr (S36) (Instr.fieldAt 58 v2 10) fun v42 =>
   Qu Pr (S36) (Instr.loadAt 23 v42) fun v43 =>
   Qu Pr (S36) (Instr.indexAt 23 v43 (g τ10 0)) fun v44 =>
   Qu Pr (S36) (Instr.loadAt 22 v44) fun v45 =>
   Cl Pr (callV (fn 126) #[v8, v41, v45]) w37 fun v47 w46 => S36 w46 ∧
   Qu Pr (Is w46) (binS .add 3 (.tmp 22) (.const (Value.int .i64 1)) (g τ10 0) (Value.int .i64 1)) fun v48 =>
   r9 [v48, (g τ10 0), v12, v13, v14, v15, v15, v17, v20, v24, v28, v32, v35, (g τ10 0), v48, v8, v38, v39, (g τ10 0), v40, v41, v42, v43, (g τ10 0), v44, v45, v47] w46) (
   Qu Pr (Is w33) (Instr.fieldAt 58 v2 0) fun v49 =>
   Qu Pr (Is w33) (Instr.loadAt 22 v49) fun v50 =>
   Qu Pr (Is w33) (Instr.fieldAt 58 v2 1) fun v51 =>
   Qu Pr (Is w33) (Instr.loadAt 22 v51) fun v52 =>
   Qu Pr (Is w33) (Instr.fieldAt 58 v2 2) fun v53 =>
   Qu Pr (Is w33) (Instr.loadAt 3 v53) fun v54 =>
   Qu Pr (Is w33) (convert 3 150 v54) fun v55 =>
   Qu Pr (Is w33) (Instr.fieldAt 58 v2 3) fun v56 =>
   Qu Pr (Is w33) (Instr.loadAt 22 v56) fun v57 =>
   Qu Pr (Is w33) (Instr.fieldAt 58 v2 4) fun v58 =>
   Qu Pr (Is w33) (Instr.loadAt 4 v58) fun v59 =>
   Qu Pr (Is w33) (Instr.fieldAt 58 v2 5) fun v60 =>
   Qu Pr (Is w33) (Instr.loadAt 4 v60) fun v61 =>
   Qu Pr (Is w33) (Instr.fieldAt 58 v2 6) fun v62 =>
   Qu Pr (Is w33) (Instr.loadAt 4 v62) fun v63 =>
   Qu Pr (Is w33) (Instr.build 152 #[(0, v50), (1, v52), (3, v55), (4, v57), (5, v59), (6, v61), (8, v63), (7, v8)]) fun v64 =>
   Ef Pr (Instr.box 152 v64) w33 fun v66 w65 =>
   K v66 w65)) w7
theorem c79 {a0 : Value} {K : Value → World → Prop} {w : World} (h : t79 a0 K w) : CK Pr 79 #[a0] w K := by
  refine calls_of_RF [(3, [4, 10, 11, 12, 13, 14, 15, 16, 17, 18, 19, 20, 21, 22, 23, 24, 25, 26, 27, 28, 29, 30, 31, 32, 33, 34, 35])] Tryz.func79 rfl ?_ ?_ ?_
  · kernel_rfl
  · exact Nat.le_of_ble_eq_true rfl
  · exact cast (by kernel_rfl) h

def t80 (a0 a1 a2 : Value) (K : Value → World → Prop) (w : World) : Prop :=
 Ef Pr (Instr.box 161 a0) w fun v2 w1 =>
 Ef Pr (Instr.box 141 a2) w1 fun v4 w3 =>
 Dr w3 fun S5 w6 =>
 Qu Pr (S5) (Instr.fieldAt 161 v2 0) fun v7 =>
 Qu Pr (S5) (Instr.loadAt 22 v7) fun v8 =>
 Qu Pr (S5) (Instr.fieldAt 161 v2 1) fun v9 =>
 Qu Pr (S5) (Instr.loadAt 22 v9) fun v10 =>
 Qu Pr (S5) (Instr.fieldAt 161 v2 2) fun v11 =>
 Qu Pr (S5) (Instr.loadAt 22 v11) fun v12 =>
 Qu Pr (S5) (Instr.fieldAt 161 v2 3) fun v13 =>
 Qu Pr (S5) (Instr.loadAt 22 v13) fun v14 =>
 Qu Pr (S5) (Instr.fieldAt 161 v2 4) fun v15 =>
 Qu Pr (S5) (Instr.loadAt 22 v15) fun v16 =>
 Qu Pr (S5) (Instr.fieldAt 161 v2 5) fun v17 =>
 Qu Pr (S5) (Instr.loadAt 159 v17) fun v18 =>
 Qu Pr (S5) (Instr.fieldAt 161 v2 6) fun v19 =>
 Qu Pr (S5) (Instr.loadAt 4 v19) fun v20 =>
 Qu Pr (S5) (Instr.fieldAt 161 v2 7) fun v21 =>
 Qu Pr (S5) (Instr.loadAt 4 v21) fun v22 =>
 Qu Pr (S5) (Instr.fieldAt 161 v2 8) fun v23 =>
 Qu Pr (S5) (Instr.loadAt 4 v23) fun v24 =>
 Qu Pr (S5) (Instr.fieldAt 161 v2 9) fun v25 =>
 Qu Pr (S5) (Instr.loadAt 3 v25) fun v26 =>
 Qu Pr (S5) (Instr.fieldAt 161 v2 10) fun v27 =>
 Qu Pr (S5) (Instr.loadAt 3 v27) fun v28 =>
 Qu Pr (S5) (Instr.fieldAt 161 v2 11) fun v29 =>
 Qu Pr (S5) (Instr.loadAt 3 v29) fun v30 =>
 Qu Pr (S5) (Instr.fieldAt 161 v2 12) fun v31 =>
 Qu Pr (S5) (Instr.loadAt 3 v31) fun v32 =>
 Qu Pr (S5) (Instr.fieldAt 161 v2 13) fun v33 =>
 Qu Pr (S5) (Instr.loadAt 3 v33) fun v34 =>
 Qu Pr (S5) (Instr.fieldAt 161 v2 14) fun v35 =>
 Qu Pr (S5) (Instr.loadAt 22 v35) fun v36 =>
 Qu Pr (S5) (Instr.fieldAt 161 v2 15) fun v37 =>
 Qu Pr (S5) (Instr.loadAt 22 v37) fun v38 =>
 Qu Pr (S5) (Instr.fieldAt 161 v2 16) fun v39 =>
 Qu Pr (S5) (Instr.loadAt 22 v39) fun v40 =>
 Qu Pr (S5) (Instr.loadAt 141 v4) fun v41 =>
 Cl Pr (callV (fn 127) #[(Value.int .i64 0)]) w6 fun v43 w42 => S5 w42 ∧
 Qu Pr (S5) (Instr.build 187 #[(0, v8), (1, v10), (2, v12), (12, v14), (13, v16), (8, v18), (9, v20), (21, v22), (20, v24), (23, v26), (22, v28), (24, v30), (18, v32), (19, v34), (5, v36), (6, v38), (16, v40), (4, a1), (7, v41), (17, v43)]) fun v44 =>
 Ef Pr (Instr.box 187 v44) w42 fun v46 w45 => S5 w45 ∧
 K v46 w45
theorem c80 {a0 a1 a2 : Value} {K : Value → World → Prop} {w : World} (h : t80 a0 a1 a2 K w) : CK Pr 80 #[a0, a1, a2] w K := by
  refine calls_of_RF [] Tryz.func80 rfl ?_ ?_ ?_
  · kernel_rfl
  · exact Nat.le_of_ble_eq_true rfl
  · exact cast (by kernel_rfl) h

def t81 (a0 : Value) (K : Value → World → Prop) (w : World) : Prop :=
 Ef Pr (Instr.alloc 161 true (.tuple #[])) w fun v2 w1 =>
 Dr w1 fun S3 w4 =>
 Qu Pr (S3) (nilS a0) fun v5 =>
 Qu Pr (S3) (Instr.fieldAt 187 v5 0) fun v6 =>
 Qu Pr (S3) (Instr.loadAt 22 v6) fun v7 =>
 Qu Pr (S3) (nilS a0) fun v8 =>
 Qu Pr (S3) (Instr.fieldAt 187 v8 1) fun v9 =>
 Qu Pr (S3) (Instr.loadAt 22 v9) fun v10 =>
 Qu Pr (S3) (nilS a0) fun v11 =>
 Qu Pr (S3) (Instr.fieldAt 187 v11 2) fun v12 =>
 Qu Pr (S3) (Instr.loadAt 22 v12) fun v13 =>
 Qu Pr (S3) (nilS a0) fun v14 =>
 Qu Pr (S3) (Instr.fieldAt 187 v14 12) fun v15 =>
 Qu Pr (S3) (Instr.loadAt 22 v15) fun v16 =>
 Qu Pr (S3) (nilS a0) fun v17 =>
 Qu Pr (S3) (Instr.fieldAt 187 v17 13) fun v18 =>
 Qu Pr (S3) (Instr.loadAt 22 v18) fun v19 =>
 Qu Pr (S3) (nilS a0) fun v20 =>
 Qu Pr (S3) (Instr.fieldAt 187 v20 8) fun v21 =>
 Qu Pr (S3) (Instr.loadAt 159 v21) fun v22 =>
 Qu Pr (S3) (nilS a0) fun v23 =>
 Qu Pr (S3) (Instr.fieldAt 187 v23 9) fun v24 =>
 Qu Pr (S3) (Instr.loadAt 4 v24) fun v25 =>
 Qu Pr (S3) (nilS a0) fun v26 =>
 Qu Pr (S3) (Instr.fieldAt 187 v26 21) fun v27 =>
 Qu Pr (S3) (Instr.loadAt 4 v27) fun v28 =>
 Qu Pr (S3) (nilS a0) fun v29 =>
 Qu Pr (S3) (Instr.fieldAt 187 v29 20) fun v30 =>
 Qu Pr (S3) (Instr.loadAt 4 v30) fun v31 =>
 Qu Pr (S3) (nilS a0) fun v32 =>
 Qu Pr (S3) (Instr.fieldAt 187 v32 23) fun v33 =>
 Qu Pr (S3) (Instr.loadAt 3 v33) fun v34 =>
 Qu Pr (S3) (nilS a0) fun v35 =>
 Qu Pr (S3) (Instr.fieldAt 187 v35 22) fun v36 =>
 Qu Pr (S3) (Instr.loadAt 3 v36) fun v37 =>
 Qu Pr (S3) (nilS a0) fun v38 =>
 Qu Pr (S3) (Instr.fieldAt 187 v38 24) fun v39 =>
 Qu Pr (S3) (Instr.loadAt 3 v39) fun v40 =>
 Qu Pr (S3) (nilS a0) fun v41 =>
 Qu Pr (S3) (Instr.fieldAt 187 v41 18) fun v42 =>
 Qu Pr (S3) (Instr.loadAt 3 v42) fun v43 =>
 Qu Pr (S3) (nilS a0) fun v44 =>
 Qu Pr (S3) (Instr.fieldAt 187 v44 19) fun v45 =>
 Qu Pr (S3) (Instr.loadAt 3 v45) fun v46 =>
 Qu Pr (S3) (nilS a0) fun v47 =>
 Qu Pr (S3) (Instr.fieldAt 187 v47 5) fun v48 =>
 Qu Pr (S3) (Instr.loadAt 180 v48) fun v49 =>
 Qu Pr (S3) (nilS a0) fun v50 =>
 Qu Pr (S3) (Instr.fieldAt 187 v50 6) fun v51 =>
 Qu Pr (S3) (Instr.loadAt 181 v51) fun v52 =>
 Qu Pr (S3) (nilS a0) fun v53 =>
 Qu Pr (S3) (Instr.fieldAt 187 v53 16) fun v54 =>
 Qu Pr (S3) (Instr.loadAt 181 v54) fun v55 =>
 Qu Pr (S3) (Instr.build 161 #[(0, v7), (1, v10), (2, v13), (3, v16), (4, v19), (5, v22), (6, v25), (7, v28), (8, v31), (9, v34), (10, v37), (11, v40), (12, v43), (13, v46), (14, v49), (15, v52), (16, v55)]) fun v56 =>
 Eu Pr (Instr.storeAt 161 v2 v56) w4 fun w57 => S3 w57 ∧
 Qu Pr (Is w57) (Instr.loadAt 161 v2) fun v58 =>
 K v58 w57
theorem c81 {a0 : Value} {K : Value → World → Prop} {w : World} (h : t81 a0 K w) : CK Pr 81 #[a0] w K := by
  refine calls_of_RF [] Tryz.func81 rfl ?_ ?_ ?_
  · kernel_rfl
  · exact Nat.le_of_ble_eq_true rfl
  · exact cast (by kernel_rfl) h

def t82 (a0 : Value) (K : Value → World → Prop) (w : World) : Prop :=
 Qu Pr (Is w) (nilS a0) fun v1 =>
 Qu Pr (Is w) (Instr.fieldAt 187 v1 4) fun v2 =>
 Qu Pr (Is w) (Instr.loadAt 128 v2) fun v3 =>
 K v3 w
theorem c82 {a0 : Value} {K : Value → World → Prop} {w : World} (h : t82 a0 K w) : CK Pr 82 #[a0] w K := by
  refine calls_of_RF [] Tryz.func82 rfl ?_ ?_ ?_
  · kernel_rfl
  · exact Nat.le_of_ble_eq_true rfl
  · exact cast (by kernel_rfl) h

def t83 (a0 : Value) (K : Value → World → Prop) (w : World) : Prop :=
 Qu Pr (Is w) (nilS a0) fun v1 =>
 Qu Pr (Is w) (Instr.fieldAt 187 v1 7) fun v2 =>
 K v2 w
theorem c83 {a0 : Value} {K : Value → World → Prop} {w : World} (h : t83 a0 K w) : CK Pr 83 #[a0] w K := by
  refine calls_of_RF [] Tryz.func83 rfl ?_ ?_ ?_
  · kernel_rfl
  · exact Nat.le_of_ble_eq_true rfl
  · exact cast (by kernel_rfl) h

def t84 (a0 : Value) (K : Value → World → Prop) (w : World) : Prop :=
 Dr w fun S1 w2 =>
 Qu Pr (S1) (nilS a0) fun v3 =>
 Qu Pr (S1) (Instr.fieldAt 194 v3 0) fun v4 =>
 Qu Pr (S1) (Instr.loadAt 75 v4) fun v5 =>
 Qu Pr (S1) (nilS a0) fun v6 =>
 Qu Pr (S1) (Instr.fieldAt 194 v6 1) fun v7 =>
 Qu Pr (S1) (Instr.loadAt 115 v7) fun v8 =>
 Qu Pr (S1) (nilS a0) fun v9 =>
 Qu Pr (S1) (Instr.fieldAt 194 v9 2) fun v10 =>
 Qu Pr (S1) (Instr.loadAt 22 v10) fun v11 =>
 Qu Pr (S1) (nilS a0) fun v12 =>
 Qu Pr (S1) (Instr.fieldAt 194 v12 3) fun v13 =>
 Qu Pr (S1) (Instr.loadAt 4 v13) fun v14 =>
 Qu Pr (S1) (nilS a0) fun v15 =>
 Qu Pr (S1) (Instr.fieldAt 194 v15 4) fun v16 =>
 Qu Pr (S1) (Instr.loadAt 22 v16) fun v17 =>
 K (.tuple #[v5, v8, v11, v14, v17]) w2
theorem c84 {a0 : Value} {K : Value → World → Prop} {w : World} (h : t84 a0 K w) : CK Pr 84 #[a0] w K := by
  refine calls_of_RF [] Tryz.func84 rfl ?_ ?_ ?_
  · kernel_rfl
  · exact Nat.le_of_ble_eq_true rfl
  · exact cast (by kernel_rfl) h

def t85 (a0 : Value) (K : Value → World → Prop) (w : World) : Prop :=
 Qu Pr (Is w) (nilS a0) fun v1 =>
 Qu Pr (Is w) (Instr.fieldAt 196 v1 1) fun v2 =>
 K v2 w
theorem c85 {a0 : Value} {K : Value → World → Prop} {w : World} (h : t85 a0 K w) : CK Pr 85 #[a0] w K := by
  refine calls_of_RF [] Tryz.func85 rfl ?_ ?_ ?_
  · kernel_rfl
  · exact Nat.le_of_ble_eq_true rfl
  · exact cast (by kernel_rfl) h

def t86 (a0 : Value) (K : Value → World → Prop) (w : World) : Prop :=
 Qu Pr (Is w) (Builtin.len_ #[115] 3 #[a0]) fun v1 =>
 LoopW [(Value.slice none 0 0), undef, (Value.int .i64 0), undef, undef, undef, undef, undef, undef, undef, undef, undef, undef, undef, undef, undef, undef, undef, undef, undef, undef] (fun r2 τ3 w4 =>
  Qu Pr (Is w4) (binS .lss 3 (.tmp 8) (.tmp 7) (g τ3 2) v1) fun v5 =>
  If v5 (
   Qu Pr (Is w4) (Instr.indexAt 115 a0 (g τ3 2)) fun v6 =>
   Qu Pr (Is w4) (Instr.loadAt 212 v6) fun v7 =>
   Cl Pr (callV (fn 128) #[v7]) w4 fun v9 w8 =>
   Cl Pr (callV (fn 124) #[v7]) w8 fun v11 w10 =>
   Cl Pr (callV (fn 129) #[v7]) w10 fun v13 w12 =>
   Qu Pr (Is w12) (convert 233 3 v13) fun v14 =>
   Cl Pr (callV (fn 130) #[v7]) w12 fun v16 w15 =>
   Qu Pr (Is w15) (convert 99 9 v16) fun v17 =>
   Qu Pr (Is w15) (Instr.build 56 #[(0, v9), (1, v11), (2, v14), (3, v17)]) fun v18 =>
   Ef Pr (Instr.buildSlice 28 1 #[(0, v18)]) w15 fun v20 w19 =>
   Ef Pr (Builtin.append_ #[28, 28] 28 #[(g τ3 0), v20]) w19 fun v22 w21 =>
   Qu Pr (Is w21) (binS .add 3 (.tmp 8) (.const (Value.int .i64 1)) (g τ3 2) (Value.int .i64 1)) fun v23 =>
   r2 [v22, v7, v23, v5, v6, v7, (g τ3 0), v7, v9, v7, v11, v7, v13, v14, v7, v16, v17, v18, v20, v22, v23] w21) (
   K (g τ3 0) w4)) w
theorem c86 {a0 : Value} {K : Value → World → Prop} {w : World} (h : t86 a0 K w) : CK Pr 86 #[a0] w K := by
  refine calls_of_RF [(3, [3, 5, 8, 9, 10, 11, 12, 13, 14, 15, 16, 17, 18, 19, 20, 21, 22, 23, 24, 25, 26])] Tryz.func86 rfl ?_ ?_ ?_
  · kernel_rfl
  · exact Nat.le_of_ble_eq_true rfl
  · exact cast (by kernel_rfl) h

def t87 (a0 : Value) (K : Value → World → Prop) (w : World) : Prop :=
 Ef Pr (Instr.range 132 a0) w fun v2 w1 =>
 LoopW [(Value.slice none 0 0), undef, undef, undef, undef, undef, undef, undef, undef, undef] (fun r3 τ4 w5 =>
  Ef Pr (Instr.next v2 false 0) w5 fun v7 w6 =>
  Qu Pr (Is w6) (Instr.extract v7 0) fun v8 =>
  If v8 (
   Qu Pr (Is w6) (Instr.entry v2) fun v9 =>
   Qu Pr (Is w6) (Instr.extract v9 0) fun v10 =>
   Ef Pr (Instr.buildSlice 23 1 #[(0, v10)]) w6 fun v12 w11 =>
   Ef Pr (Builtin.append_ #[23, 23] 23 #[(g τ4 0), v12]) w11 fun v14 w13 =>
   r3 [v14, v10, v7, v8, v9, v10, (g τ4 0), v10, v12, v14] w13) (
   Cl Pr (callV (fn 131) #[(g τ4 0)]) w6 fun _ w15 =>
   K (g τ4 0) w15)) w1
theorem c87 {a0 : Value} {K : Value → World → Prop} {w : World} (h : t87 a0 K w) : CK Pr 87 #[a0] w K := by
  refine calls_of_RF [(3, [3, 4, 7, 8, 9, 10, 11, 12, 13, 14])] Tryz.func87 rfl ?_ ?_ ?_
  · kernel_rfl
  · exact Nat.le_of_ble_eq_true rfl
  · exact cast (by kernel_rfl) h

def t88 (a0 : Value) (K : Value → World → Prop) (w : World) : Prop :=
 Cl Pr (callV (fn 87) #[a0]) w fun v2 w1 =>
 K v2 w1
theorem c88 {a0 : Value} {K : Value → World → Prop} {w : World} (h : t88 a0 K w) : CK Pr 88 #[a0] w K := by
  refine calls_of_RF [] Tryz.func88 rfl ?_ ?_ ?_
  · kernel_rfl
  · exact Nat.le_of_ble_eq_true rfl
  · exact cast (by kernel_rfl) h

def t89 (a0 : Value) (K : Value → World → Prop) (w : World) : Prop :=
 Dr w fun S1 w2 =>
 Qu Pr (S1) (nilS a0) fun v3 =>
 Qu Pr (S1) (Instr.fieldAt 196 v3 2) fun v4 =>
 Qu Pr (S1) (Instr.loadAt 22 v4) fun v5 =>
 Qu Pr (S1) (nilS a0) fun v6 =>
 Qu Pr (S1) (Instr.fieldAt 196 v6 3) fun v7 =>
 Qu Pr (S1) (Instr.loadAt 22 v7) fun v8 =>
 Qu Pr (S1) (nilS a0) fun v9 =>
 Qu Pr (S1) (Instr.fieldAt 196 v9 4) fun v10 =>
 Qu Pr (S1) (Instr.loadAt 22 v10) fun v11 =>
 Qu Pr (S1) (nilS a0) fun v12 =>
 Qu Pr (S1) (Instr.fieldAt 196 v12 7) fun v13 =>
 Qu Pr (S1) (Instr.loadAt 4 v13) fun v14 =>
 K (.tuple #[v5, v8, v11, v14]) w2
theorem c89 {a0 : Value} {K : Value → World → Prop} {w : World} (h : t89 a0 K w) : CK Pr 89 #[a0] w K := by
  refine calls_of_RF [] Tryz.func89 rfl ?_ ?_ ?_
  · kernel_rfl
  · exact Nat.le_of_ble_eq_true rfl
  · exact cast (by kernel_rfl) h

def t90 (a0 : Value) (K : Value → World → Prop) (w : World) : Prop :=
 Ef Pr (Instr.alloc 27 true (.tuple #[])) w fun v2 w1 =>
 Cl Pr (callV (fn 95) #[a0]) w1 fun v4 w3 =>
 Dr w3 fun S5 w6 =>
 Cl Pr (callV (fn 132) #[a0]) w6 fun v8 w7 => S5 w7 ∧
 Qu Pr (S5) (convert 99 9 v8) fun v9 =>
 Cl Pr (callV (fn 96) #[v4]) w7 fun v11 w10 => S5 w10 ∧
 Cl Pr (callV (fn 99) #[v4]) w10 fun v13 w12 => S5 w12 ∧
 Cl Pr (callV (fn 97) #[v4]) w12 fun v15 w14 => S5 w14 ∧
 Cl Pr (callV (fn 133) #[v15]) w14 fun v17 w16 => S5 w16 ∧
 Qu Pr (S5) (Instr.build 27 #[(0, v9), (1, v11), (2, v13), (3, v17)]) fun v18 =>
 Eu Pr (Instr.storeAt 27 v2 v18) w16 fun w19 => S5 w19 ∧
 Qu Pr (Is w19) (Instr.loadAt 27 v2) fun v20 =>
 K v20 w19
theorem c90 {a0 : Value} {K : Value → World → Prop} {w : World} (h : t90 a0 K w) : CK Pr 90 #[a0] w K := by
  refine calls_of_RF [] Tryz.func90 rfl ?_ ?_ ?_
  · kernel_rfl
  · exact Nat.le_of_ble_eq_true rfl
  · exact cast (by kernel_rfl) h

def t91 (a0 a1 : Value) (K : Value → World → Prop) (w : World) : Prop :=
 Qu Pr (Is w) (nilS a0) fun v1 =>
 Qu Pr (Is w) (Instr.fieldAt 141 v1 1) fun v2 =>
 Qu Pr (Is w) (Instr.loadAt 138 v2) fun v3 =>
 Qu Pr (Is w) (Builtin.len_ #[138] 3 #[v3]) fun v4 =>
 Ef Pr (Instr.alloc 238 true (.tuple #[])) w fun v6 w5 =>
 Qu Pr (Is w5) (binS .geq 3 (.const (Value.int .i64 7)) (.tmp 15) (Value.int .i64 7) v4) fun v7 =>
 Jo (fun (p12 : Value) (w13 : World) => (
   Qu Pr (Is w13) (nilS a0) fun v15 =>
   Qu Pr (Is w13) (Instr.fieldAt 141 v15 1) fun v16 =>
   Qu Pr (Is w13) (Instr.loadAt 138 v16) fun v17 =>
   Ef Pr (Instr.range 138 v17) w13 fun v19 w18 =>
   LoopW [v4, undef, undef, undef, undef, undef, undef, undef, undef, undef, undef, undef] (fun r20 τ21 w22 =>
    Ef Pr (Instr.next v19 false 0) w22 fun v24 w23 =>
    Qu Pr (Is w23) (Instr.extract v24 0) fun v25 =>
    If v25 (
     Qu Pr (Is w23) (Instr.entry v19) fun v26 =>
     Qu Pr (Is w23) (Instr.extract v26 0) fun v27 =>
     Qu Pr (Is w23) (binS .sub 3 (.tmp 30) (.const (Value.int .i64 1)) (g τ21 0) (Value.int .i64 1)) fun v28 =>
     Qu Pr (Is w23) (Instr.indexAt 23 p12 v28) fun v29 =>
     Eu Pr (Instr.storeAt 22 v29 v27) w23 fun w30 =>
     r20 [v28, v27, v24, v25, v26, v27, (g τ21 0), v28, p12, v28, v27, v29] w30) (
     Cl Pr (callV (fn 131) #[p12]) w23 fun _ w31 =>
     Qu Pr (Is w31) (Builtin.len_ #[23] 3 #[p12]) fun v33 =>
     LoopW [undef, (Value.int .i64 0), undef, undef, undef, undef, undef, undef, undef, undef, undef, undef, undef, undef, undef] (fun r34 τ35 w36 =>
      Qu Pr (Is w36) (binS .lss 3 (.tmp 40) (.tmp 39) (g τ35 1) v33) fun v37 =>
      If v37 (
       Qu Pr (Is w36) (Instr.indexAt 23 p12 (g τ35 1)) fun v38 =>
       Qu Pr (Is w36) (Instr.loadAt 22 v38) fun v39 =>
       Qu Pr (Is w36) (nilS a0) fun v40 =>
       Qu Pr (Is w36) (Instr.fieldAt 141 v40 1) fun v41 =>
       Qu Pr (Is w36) (Instr.loadAt 138 v41) fun v42 =>
       Qu Pr (Is w36) (Instr.lookup 138 v42 v39 false) fun v43 =>
       Cl Pr (callV a1 #[v39, v43]) w36 fun v45 w44 =>
       Qu Pr (Is w44) (binS .add 3 (.tmp 40) (.const (Value.int .i64 1)) (g τ35 1) (Value.int .i64 1)) fun v46 =>
       r34 [v39, v46, v37, v38, v39, a1, v39, a0, v40, v41, v42, v39, v43, v45, v46] w44) (
       K (.tuple #[]) w36)) w31)) w18 : Prop)) fun J14 =>
 If v7 (
  Qu Pr (Is w5) (Instr.sliceAt 238 v6 none (some v4) none) fun v47 =>
  J14 v47 w5) (
  Ef Pr (Instr.makeSlice 23 v4 v4) w5 fun v49 w48 =>
  J14 v49 w48)
theorem c91 {a0 a1 : Value} {K : Value → World → Prop} {w : World} (h : t91 a0 a1 K w) : CK Pr 91 #[a0, a1] w K := by
  refine calls_of_RF [(7, [4, 7, 26, 27, 28, 29, 30, 31, 32, 33, 34, 35]), (13, [9, 40, 41, 42, 43, 44, 45, 46, 47, 48, 49, 50, 51, 52, 53])] Tryz.func91 rfl ?_ ?_ ?_
  · kernel_rfl
  · exact Nat.le_of_ble_eq_true rfl
  · exact cast (by kernel_rfl) h

def t92 (a0 a1 a2 : Value) (K : Value → World → Prop) (w : World) : Prop :=
 Dr2 w fun S3 S1 w2 =>
 Qu Pr (S3) (Instr.fieldAt 32 a2 12) fun v4 =>
 Qu Pr (S3) (Instr.loadAt 29 v4) fun v5 =>
 Cl Pr (callV (fn 93) #[a1]) w2 fun v7 w6 => (S3 w6 ∧ S1 w6) ∧
 Qu Pr (S3) (Instr.build 60 #[(0, a0), (1, v7)]) fun v8 =>
 Ef Pr (Instr.buildSlice 29 1 #[(0, v8)]) w6 fun v10 w9 => (S3 w9 ∧ S1 w9) ∧
 Ef Pr (Builtin.append_ #[29, 29] 29 #[v5, v10]) w9 fun v12 w11 => (S3 w11 ∧ S1 w11) ∧
 Qu Pr (S3) (Instr.fieldAt 32 a2 12) fun v13 =>
 Eu Pr (Instr.storeAt 29 v13 v12) w11 fun w14 => S1 w14 ∧
 K (.tuple #[]) w14
theorem c92 {a0 a1 a2 : Value} {K : Value → World → Prop} {w : World} (h : t92 a0 a1 a2 K w) : CK Pr 92 #[a0, a1, a2] w K := by
  refine calls_of_RF [] Tryz.func92 rfl ?_ ?_ ?_
  · kernel_rfl
  · exact Nat.le_of_ble_eq_true rfl
  · exact cast (by kernel_rfl) h

def t93 (a0 : Value) (K : Value → World → Prop) (w : World) : Prop :=
 Ef Pr (Instr.alloc 58 true (.tuple #[])) w fun v2 w1 =>
 Dr w1 fun S3 w4 =>
 Qu Pr (S3) (nilS a0) fun v5 =>
 Qu Pr (S3) (Instr.fieldAt 152 v5 0) fun v6 =>
 Qu Pr (S3) (Instr.loadAt 22 v6) fun v7 =>
 Qu Pr (S3) (nilS a0) fun v8 =>
 Qu Pr (S3) (Instr.fieldAt 152 v8 1) fun v9 =>
 Qu Pr (S3) (Instr.loadAt 22 v9) fun v10 =>
 Qu Pr (S3) (nilS a0) fun v11 =>
 Qu Pr (S3) (Instr.fieldAt 152 v11 3) fun v12 =>
 Qu Pr (S3) (Instr.loadAt 150 v12) fun v13 =>
 Qu Pr (S3) (convert 150 3 v13) fun v14 =>
 Qu Pr (S3) (nilS a0) fun v15 =>
 Qu Pr (S3) (Instr.fieldAt 152 v15 4) fun v16 =>
 Qu Pr (S3) (Instr.loadAt 22 v16) fun v17 =>
 Qu Pr (S3) (nilS a0) fun v18 =>
 Qu Pr (S3) (Instr.fieldAt 152 v18 5) fun v19 =>
 Qu Pr (S3) (Instr.loadAt 4 v19) fun v20 =>
 Qu Pr (S3) (nilS a0) fun v21 =>
 Qu Pr (S3) (Instr.fieldAt 152 v21 6) fun v22 =>
 Qu Pr (S3) (Instr.loadAt 4 v22) fun v23 =>
 Qu Pr (S3) (nilS a0) fun v24 =>
 Qu Pr (S3) (Instr.fieldAt 152 v24 8) fun v25 =>
 Qu Pr (S3) (Instr.loadAt 4 v25) fun v26 =>
 Qu Pr (S3) (Instr.build 58 #[(0, v7), (1, v10), (2, v14), (3, v17), (4, v20), (5, v23), (6, v26)]) fun v27 =>
 Ef Pr (Instr.alloc 58 true (.tuple #[])) w4 fun v29 w28 => S3 w28 ∧
 Eu Pr (Instr.storeAt 58 v29 v27) w28 fun w30 => S3 w30 ∧
 Qu Pr (Is w30) (nilS a0) fun v31 =>
 Qu Pr (Is w30) (Instr.fieldAt 152 v31 7) fun v32 =>
 Qu Pr (Is w30) (Instr.loadAt 148 v32) fun v33 =>
 Cl Pr (callV (fn 134) #[v33]) w30 fun v35 w34 =>
 Qu Pr (Is w34) (Instr.extract v35 0) fun v36 =>
 Qu Pr (Is w34) (Instr.extract v35 1) fun v37 =>
 Qu Pr (Is w34) (Instr.extract v35 2) fun v38 =>
 Qu Pr (Is w34) (Instr.extract v35 3) fun v39 =>
 Qu Pr (Is w34) (Instr.fieldAt 58 v29 7) fun v40 =>
 Eu Pr (Instr.storeAt 3 v40 v36) w34 fun w41 =>
 Qu Pr (Is w41) (Instr.fieldAt 58 v29 8) fun v42 =>
 Eu Pr (Instr.storeAt 22 v42 v37) w41 fun w43 =>
 Qu Pr (Is w43) (Instr.fieldAt 58 v29 9) fun v44 =>
 Eu Pr (Instr.storeAt 23 v44 v38) w43 fun w45 =>
 Qu Pr (Is w45) (Instr.fieldAt 58 v29 10) fun v46 =>
 Eu Pr (Instr.storeAt 23 v46 v39) w45 fun w47 =>
 Qu Pr (Is w47) (Instr.loadAt 58 v29) fun v48 =>
 Eu Pr (Instr.storeAt 58 v2 v48) w47 fun w49 =>
 Qu Pr (Is w49) (Instr.loadAt 58 v2) fun v50 =>
 K v50 w49
theorem c93 {a0 : Value} {K : Value → World → Prop} {w : World} (h : t93 a0 K w) : CK Pr 93 #[a0] w K := by
  refine calls_of_RF [] Tryz.func93 rfl ?_ ?_ ?_
  · kernel_rfl
  · exact Nat.le_of_ble_eq_true rfl
  · exact cast (by kernel_rfl) h

def t94 (a0 : Value) (K : Value → World → Prop) (w : World) : Prop :=
 Ef Pr (Instr.alloc 64 true (.tuple #[])) w fun v2 w1 =>
 Cl Pr (callV (fn 135) #[a0]) w1 fun v4 w3 =>
 Qu Pr (Is w3) (convert 113 3 v4) fun v5 =>
 Cl Pr (callV (fn 136) #[a0]) w3 fun v7 w6 =>
 Cl Pr (callV (fn 137) #[a0]) w6 fun v9 w8 =>
 Cl Pr (callV (fn 138) #[a0]) w8 fun v11 w10 =>
 Cl Pr (callV (fn 139) #[a0]) w10 fun v13 w12 =>
 Cl Pr (callV (fn 140) #[a0]) w12 fun v15 w14 =>
 Cl Pr (callV (fn 141) #[a0]) w14 fun v17 w16 =>
 Cl Pr (callV (fn 142) #[a0]) w16 fun v19 w18 =>
 Cl Pr (callV (fn 143) #[a0]) w18 fun v21 w20 =>
 Cl Pr (callV (fn 144) #[a0]) w20 fun v23 w22 =>
 Cl Pr (callV (fn 86) #[v23]) w22 fun v25 w24 =>
 Cl Pr (callV (fn 117) #[a0]) w24 fun v27 w26 =>
 Cl Pr (callV (fn 90) #[v27]) w26 fun v29 w28 =>
 Cl Pr (callV (fn 145) #[a0]) w28 fun v31 w30 =>
 Cl Pr (callV (fn 146) #[a0]) w30 fun v33 w32 =>
 Qu Pr (Is w32) (convert 99 9 v33) fun v34 =>
 Qu Pr (Is w32) (Instr.build 64 #[(0, v5), (1, v7), (2, v9), (3, v11), (4, v13), (5, v15), (6, v17), (7, v19), (8, v21), (9, v25), (10, v29), (11, v31), (12, v34)]) fun v35 =>
 Ef Pr (Instr.alloc 64 true (.tuple #[])) w32 fun v37 w36 =>
 Eu Pr (Instr.storeAt 64 v37 v35) w36 fun w38 =>
 Cl Pr (callV (fn 147) #[a0]) w38 fun v40 w39 =>
 Qu Pr (Is w39) (Builtin.len_ #[94] 3 #[v40]) fun v41 =>
 LoopW [undef, (Value.int .i64 0), undef, undef, undef, undef, undef, undef, undef, undef, undef, undef, undef] (fun r42 τ43 w44 =>
  Qu Pr (Is w44) (binS .lss 3 (.tmp 40) (.tmp 39) (g τ43 1) v41) fun v45 =>
  If v45 (
   Qu Pr (Is w44) (Instr.indexAt 94 v40 (g τ43 1)) fun v46 =>
   Qu Pr (Is w44) (Instr.loadAt 86 v46) fun v47 =>
   Dr2 w44 fun S50 S48 w49 =>
   Qu Pr (S50) (Instr.fieldAt 64 v37 13) fun v51 =>
   Qu Pr (S50) (Instr.loadAt 36 v51) fun v52 =>
   Cl Pr (callV (fn 94) #[v47]) w49 fun v54 w53 => (S50 w53 ∧ S48 w53) ∧
   Ef Pr (Instr.buildSlice 36 1 #[(0, v54)]) w53 fun v56 w55 => (S50 w55 ∧ S48 w55) ∧
   Ef Pr (Builtin.append_ #[36, 36] 36 #[v52, v56]) w55 fun v58 w57 => (S50 w57 ∧ S48 w57) ∧
   Qu Pr (S50) (Instr.fieldAt 64 v37 13) fun v59 =>
   Eu Pr (Instr.storeAt 36 v59 v58) w57 fun w60 => S48 w60 ∧
   Qu Pr (Is w60) (binS .add 3 (.tmp 40) (.const (Value.int .i64 1)) (g τ43 1) (Value.int .i64 1)) fun v61 =>
   r42 [v47, v61, v45, v46, v47, v51, v52, v47, v54, v56, v58, v59, v61] w60) (
   Qu Pr (Is w44) (Instr.loadAt 64 v37) fun v62 =>
   Eu Pr (Instr.storeAt 64 v2 v62) w44 fun w63 =>
   Qu Pr (Is w63) (Instr.loadAt 64 v2) fun v64 =>
   K v64 w63)) w39
theorem c94 {a0 : Value} {K : Value → World → Prop} {w : World} (h : t94 a0 K w) : CK Pr 94 #[a0] w K := by
  refine calls_of_RF [(3, [5, 40, 41, 42, 43, 44, 45, 46, 47, 48, 49, 50, 51])] Tryz.func94 rfl ?_ ?_ ?_
  · kernel_rfl
  · exact Nat.le_of_ble_eq_true rfl
  · exact cast (by kernel_rfl) h

def t95 (a0 : Value) (K : Value → World → Prop) (w : World) : Prop :=
 Qu Pr (Is w) (binS .neq 75 (.tmp 3) (.const (Value.pointer none)) a0 (Value.pointer none)) fun v1 =>
 If v1 (
  Qu Pr (Is w) (nilS a0) fun v2 =>
  Qu Pr (Is w) (Instr.fieldAt 108 v2 1) fun v3 =>
  Qu Pr (Is w) (Instr.loadAt 101 v3) fun v4 =>
  K v4 w) (
  K (Value.pointer none) w)
theorem c95 {a0 : Value} {K : Value → World → Prop} {w : World} (h : t95 a0 K w) : CK Pr 95 #[a0] w K := by
  refine calls_of_RF [] Tryz.func95 rfl ?_ ?_ ?_
  · kernel_rfl
  · exact Nat.le_of_ble_eq_true rfl
  · exact cast (by kernel_rfl) h

def t96 (a0 : Value) (K : Value → World → Prop) (w : World) : Prop :=
 Qu Pr (Is w) (binS .neq 101 (.tmp 3) (.const (Value.pointer none)) a0 (Value.pointer none)) fun v1 =>
 Gd v1 true (fun k2 => k2 a0 w) w fun v3 w4 =>
 Gd v1 true (fun k5 => Qu Pr (Is w4) (nilS v3) fun v8 => k5 v8 w4) w4 fun v6 w7 =>
 Gd v1 true (fun k9 => Qu Pr (Is w7) (Instr.fieldAt 106 v6 1) fun v12 => k9 v12 w7) w7 fun v10 w11 =>
 Gd v1 true (fun k13 => Qu Pr (Is w11) (Instr.loadAt 104 v10) fun v16 => k13 v16 w11) w11 fun v14 w15 =>
 Gd v1 true (fun k17 => Qu Pr (Is w15) (binS .neq 104 (.tmp 9) (.const (Value.pointer none)) v14 (Value.pointer none)) fun v20 => k17 v20 w15) w15 fun v18 w19 =>
 Qu Pr (Is w19) (pickS v1 v18 (Value.bool false)) fun v21 =>
 If v21 (
  Qu Pr (Is w19) (nilS a0) fun v22 =>
  Qu Pr (Is w19) (Instr.fieldAt 106 v22 1) fun v23 =>
  Qu Pr (Is w19) (Instr.loadAt 104 v23) fun v24 =>
  Qu Pr (Is w19) (nilS v24) fun v25 =>
  Qu Pr (Is w19) (Instr.loadAt 22 v25) fun v26 =>
  K v26 w19) (
  K (Value.int .u64 0) w19)
theorem c96 {a0 : Value} {K : Value → World → Prop} {w : World} (h : t96 a0 K w) : CK Pr 96 #[a0] w K := by
  refine calls_of_RF [] Tryz.func96 rfl ?_ ?_ ?_
  · kernel_rfl
  · exact Nat.le_of_ble_eq_true rfl
  · exact cast (by kernel_rfl) h

def t97 (a0 : Value) (K : Value → World → Prop) (w : World) : Prop :=
 Qu Pr (Is w) (binS .neq 101 (.tmp 3) (.const (Value.pointer none)) a0 (Value.pointer none)) fun v1 =>
 If v1 (
  Qu Pr (Is w) (nilS a0) fun v2 =>
  Qu Pr (Is w) (Instr.fieldAt 106 v2 0) fun v3 =>
  Qu Pr (Is w) (Instr.loadAt 102 v3) fun v4 =>
  K v4 w) (
  K (Value.pointer none) w)
theorem c97 {a0 : Value} {K : Value → World → Prop} {w : World} (h : t97 a0 K w) : CK Pr 97 #[a0] w K := by
  refine calls_of_RF [] Tryz.func97 rfl ?_ ?_ ?_
  · kernel_rfl
  · exact Nat.le_of_ble_eq_true rfl
  · exact cast (by kernel_rfl) h

def t98 (a0 : Value) (K : Value → World → Prop) (w : World) : Prop :=
 Qu Pr (Is w) (binS .eql 102 (.tmp 3) (.const (Value.pointer none)) a0 (Value.pointer none)) fun v1 =>
 Jo (fun (p3 : Value) (w4 : World) => (
   Qu Pr (Is w4) (nilS p3) fun v6 =>
   Qu Pr (Is w4) (Instr.fieldAt 200 v6 4) fun v7 =>
   Qu Pr (Is w4) (Instr.loadAt 117 v7) fun v8 =>
   Qu Pr (Is w4) (binS .eql 117 (.tmp 9) (.const (Value.pointer none)) v8 (Value.pointer none)) fun v9 =>
   Jo (fun  (w14 : World) => (
     K p3 w14 : Prop)) fun J15 =>
   If v9 (
    Ef Pr (Instr.box 4 (Value.bool false)) w4 fun v17 w16 =>
    Qu Pr (Is w16) (nilS p3) fun v18 =>
    Qu Pr (Is w16) (Instr.fieldAt 200 v18 4) fun v19 =>
    Eu Pr (Instr.storeAt 117 v19 v17) w16 fun w20 =>
    J15 w20) (
    J15 w4) : Prop)) fun J5 =>
 If v1 (
  Ef Pr (Instr.alloc 200 true (.tuple #[])) w fun v22 w21 =>
  J5 v22 w21) (
  J5 a0 w)
theorem c98 {a0 : Value} {K : Value → World → Prop} {w : World} (h : t98 a0 K w) : CK Pr 98 #[a0] w K := by
  refine calls_of_RF [] Tryz.func98 rfl ?_ ?_ ?_
  · kernel_rfl
  · exact Nat.le_of_ble_eq_true rfl
  · exact cast (by kernel_rfl) h

def t99 (a0 : Value) (K : Value → World → Prop) (w : World) : Prop :=
 Qu Pr (Is w) (binS .neq 101 (.tmp 3) (.const (Value.pointer none)) a0 (Value.pointer none)) fun v1 =>
 Gd v1 true (fun k2 => k2 a0 w) w fun v3 w4 =>
 Gd v1 true (fun k5 => Qu Pr (Is w4) (nilS v3) fun v8 => k5 v8 w4) w4 fun v6 w7 =>
 Gd v1 true (fun k9 => Qu Pr (Is w7) (Instr.fieldAt 106 v6 2) fun v12 => k9 v12 w7) w7 fun v10 w11 =>
 Gd v1 true (fun k13 => Qu Pr (Is w11) (Instr.loadAt 104 v10) fun v16 => k13 v16 w11) w11 fun v14 w15 =>
 Gd v1 true (fun k17 => Qu Pr (Is w15) (binS .neq 104 (.tmp 9) (.const (Value.pointer none)) v14 (Value.pointer none)) fun v20 => k17 v20 w15) w15 fun v18 w19 =>
 Qu Pr (Is w19) (pickS v1 v18 (Value.bool false)) fun v21 =>
 If v21 (
  Qu Pr (Is w19) (nilS a0) fun v22 =>
  Qu Pr (Is w19) (Instr.fieldAt 106 v22 2) fun v23 =>
  Qu Pr (Is w19) (Instr.loadAt 104 v23) fun v24 =>
  Qu Pr (Is w19) (nilS v24) fun v25 =>
  Qu Pr (Is w19) (Instr.loadAt 22 v25) fun v26 =>
  K v26 w19) (
  K (Value.int .u64 0) w19)
theorem c99 {a0 : Value} {K : Value → World → Prop} {w : World} (h : t99 a0 K w) : CK Pr 99 #[a0] w K := by
  refine calls_of_RF [] Tryz.func99 rfl ?_ ?_ ?_
  · kernel_rfl
  · exact Nat.le_of_ble_eq_true rfl
  · exact cast (by kernel_rfl) h

def t100 (a0 a1 : Value) (K : Value → World → Prop) (w : World) : Prop :=
 Ef Pr (Instr.box 202 a1) w fun v2 w1 =>
 Qu Pr (Is w1) (Instr.fieldAt 202 v2 1) fun v3 =>
 Qu Pr (Is w1) (Instr.loadAt 22 v3) fun v4 =>
 Cl Pr (callV (fn 148) #[a0, v4]) w1 fun v6 w5 =>
 Qu Pr (Is w5) (Instr.extract v6 0) fun v7 =>
 Qu Pr (Is w5) (Instr.extract v6 1) fun v8 =>
 Qu Pr (Is w5) (binS .neq 125 (.tmp 14) (.const Value.nilIface) v8 Value.nilIface) fun v9 =>
 If v9 (
  K (Value.bool false) w5) (
  Qu Pr (Is w5) (Instr.fieldAt 202 v2 0) fun v10 =>
  Qu Pr (Is w5) (Instr.loadAt 22 v10) fun v11 =>
  Qu Pr (Is w5) (binS .eql 22 (.tmp 16) (.tmp 18) v7 v11) fun v12 =>
  K v12 w5)
theorem c100 {a0 a1 : Value} {K : Value → World → Prop} {w : World} (h : t100 a0 a1 K w) : CK Pr 100 #[a0, a1] w K := by
  refine calls_of_RF [] Tryz.func100 rfl ?_ ?_ ?_
  · kernel_rfl
  · exact Nat.le_of_ble_eq_true rfl
  · exact cast (by kernel_rfl) h

def t101 (a0 a1 : Value) (K : Value → World → Prop) (w : World) : Prop :=
 Qu Pr (Is w) (nilS a0) fun v1 =>
 Qu Pr (Is w) (Instr.fieldAt 196 v1 2) fun v2 =>
 Qu Pr (Is w) (Instr.loadAt 22 v2) fun v3 =>
 Qu Pr (Is w) (binS .lss 22 (.tmp 7) (.tmp 8) v3 a1) fun v4 =>
 Jo (fun  (w14 : World) => (
   K (.tuple #[]) w14 : Prop)) fun J15 =>
 If v4 (
  Cl Pr (callV (fn 104) #[a0]) w fun v17 w16 =>
  Qu Pr (Is w16) (binS .lss 22 (.tmp 11) (.tmp 12) v17 a1) fun v18 =>
  If v18 (
   Qu Pr (Is w16) (Instr.makeInterface 9 (Value.string (ByteArray.mk #[116, 111, 99, 111, 109, 109, 105, 116, 32, 105, 115, 32, 111, 117, 116, 32, 111, 102, 32, 114, 97, 110, 103, 101, 32, 91, 108, 97, 115, 116, 73, 110, 100, 101, 120, 93, 46, 32, 87, 97, 115, 32, 116, 104, 101, 32, 114, 97, 102, 116, 32, 108, 111, 103, 32, 99, 111, 114, 114, 117, 112, 116, 101, 100, 44, 32, 116, 114, 117, 110, 99, 97, 116, 101, 100, 44, 32, 111, 114, 32, 108, 111, 115, 116, 63]))) fun _ =>
   False) (
   Qu Pr (Is w16) (nilS a0) fun v20 =>
   Qu Pr (Is w16) (Instr.fieldAt 196 v20 2) fun v21 =>
   Eu Pr (Instr.storeAt 22 v21 a1) w16 fun w22 =>
   J15 w22)) (
  J15 w)
theorem c101 {a0 a1 : Value} {K : Value → World → Prop} {w : World} (h : t101 a0 a1 K w) : CK Pr 101 #[a0, a1] w K := by
  refine calls_of_RF [] Tryz.func101 rfl ?_ ?_ ?_
  · kernel_rfl
  · exact Nat.le_of_ble_eq_true rfl
  · exact cast (by kernel_rfl) h

def t102 (a0 a1 : Value) (K : Value → World → Prop) (w : World) : Prop :=
 Cl Pr (callV (fn 95) #[a1]) w fun v2 w1 =>
 Cl Pr (callV (fn 96) #[v2]) w1 fun v4 w3 =>
 Qu Pr (Is w3) (nilS a0) fun v5 =>
 Qu Pr (Is w3) (Instr.fieldAt 196 v5 2) fun v6 =>
 Eu Pr (Instr.storeAt 22 v6 v4) w3 fun w7 =>
 Qu Pr (Is w7) (nilS a0) fun v8 =>
 Qu Pr (Is w7) (Instr.fieldAt 196 v8 1) fun v9 =>
 Cl Pr (callV (fn 149) #[v9, a1]) w7 fun _ w10 =>
 K (.tuple #[]) w10
theorem c102 {a0 a1 : Value} {K : Value → World → Prop} {w : World} (h : t102 a0 a1 K w) : CK Pr 102 #[a0, a1] w K := by
  refine calls_of_RF [] Tryz.func102 rfl ?_ ?_ ?_
  · kernel_rfl
  · exact Nat.le_of_ble_eq_true rfl
  · exact cast (by kernel_rfl) h

def t103 (a0 a1 : Value) (K : Value → World → Prop) (w : World) : Prop :=
 Ef Pr (Instr.box 209 a0) w fun v2 w1 =>
 Ef Pr (Instr.box 102 a1) w1 fun v4 w3 =>
 Ef Pr (Instr.alloc 136 true (.tuple #[])) w3 fun v6 w5 =>
 Qu Pr (Is w5) (Instr.loadAt 102 v4) fun v7 =>
 Cl Pr (callV (fn 150) #[v7]) w5 fun v9 w8 =>
 Qu Pr (Is w8) (Instr.extract v9 0) fun v10 =>
 Qu Pr (Is w8) (Instr.extract v9 1) fun v11 =>
 Ef Pr (Instr.alloc 247 true (.tuple #[])) w8 fun v13 w12 =>
 Eu Pr (Instr.storeAt 247 v13 v11) w12 fun w14 =>
 Qu Pr (Is w14) (Builtin.len_ #[247] 3 #[v10]) fun v15 =>
 Qu Pr (Is w14) (binS .eql 3 (.tmp 22) (.const (Value.int .i64 0)) v15 (Value.int .i64 0)) fun v16 =>
 Jo (fun (p49 : Value) (w50 : World) => (
   Qu Pr (Is w50) (Instr.loadAt 209 v2) fun v52 =>
   Cl Pr (callV (fn 157) #[v52, p49]) w50 fun v54 w53 =>
   Qu Pr (Is w53) (Instr.extract v54 0) fun v55 =>
   Qu Pr (Is w53) (Instr.extract v54 1) fun v56 =>
   Qu Pr (Is w53) (Instr.extract v54 2) fun v57 =>
   Eu Pr (Instr.storeAt 136 v6 v55) w53 fun w58 =>
   Qu Pr (Is w58) (Instr.loadAt 136 v6) fun v59 =>
   K (.tuple #[v59, v56, v57]) w58 : Prop)) fun J51 =>
 If v16 (
  Qu Pr (Is w14) (Instr.loadAt 247 v13) fun v60 =>
  Qu Pr (Is w14) (Builtin.len_ #[247] 3 #[v60]) fun v61 =>
  LoopW [(Value.slice none 0 0), undef, undef, (Value.int .i64 0), undef, undef, undef, undef, undef, undef, undef, undef, undef] (fun r62 τ63 w64 =>
   Qu Pr (Is w64) (binS .lss 3 (.tmp 26) (.tmp 25) (g τ63 3) v61) fun v65 =>
   If v65 (
    Qu Pr (Is w64) (Instr.indexAt 247 v60 (g τ63 3)) fun v66 =>
    Qu Pr (Is w64) (Instr.loadAt 251 v66) fun v67 =>
    Ef Pr (Instr.alloc 251 true (.tuple #[])) w64 fun v69 w68 =>
    Eu Pr (Instr.storeAt 251 v69 v67) w68 fun w70 =>
    Qu Pr (Is w70) (Instr.makeFunc (Fn.func 151) #[] #[v69]) fun v71 =>
    Ef Pr (Instr.buildSlice 250 1 #[(0, v71)]) w70 fun v73 w72 =>
    Ef Pr (Builtin.append_ #[250, 250] 250 #[(g τ63 0), v73]) w72 fun v75 w74 =>
    Qu Pr (Is w74) (binS .add 3 (.tmp 26) (.const (Value.int .i64 1)) (g τ63 3) (Value.int .i64 1)) fun v76 =>
    r62 [v75, v67, v69, v76, v65, v66, v67, v67, (g τ63 0), v71, v73, v75, v76] w74) (
    J51 (g τ63 0) w64)) w14) (
  Qu Pr (Is w14) (Builtin.len_ #[247] 3 #[v10]) fun v77 =>
  LoopW [(Value.slice none 0 0), undef, undef, (Value.int .i64 0), undef, undef, undef, undef, undef, undef, undef, undef, undef] (fun r78 τ79 w80 =>
   Qu Pr (Is w80) (binS .lss 3 (.tmp 38) (.tmp 37) (g τ79 3) v77) fun v81 =>
   If v81 (
    Qu Pr (Is w80) (Instr.indexAt 247 v10 (g τ79 3)) fun v82 =>
    Qu Pr (Is w80) (Instr.loadAt 251 v82) fun v83 =>
    Ef Pr (Instr.alloc 251 true (.tuple #[])) w80 fun v85 w84 =>
    Eu Pr (Instr.storeAt 251 v85 v83) w84 fun w86 =>
    Qu Pr (Is w86) (Instr.makeFunc (Fn.func 153) #[] #[v85]) fun v87 =>
    Ef Pr (Instr.buildSlice 250 1 #[(0, v87)]) w86 fun v89 w88 =>
    Ef Pr (Builtin.append_ #[250, 250] 250 #[(g τ79 0), v89]) w88 fun v91 w90 =>
    Qu Pr (Is w90) (binS .add 3 (.tmp 38) (.const (Value.int .i64 1)) (g τ79 3) (Value.int .i64 1)) fun v92 =>
    r78 [v91, v83, v85, v92, v81, v82, v83, v83, (g τ79 0), v87, v89, v91, v92] w90) (
    Qu Pr (Is w80) (Instr.makeFunc (Fn.func 154) #[] #[v4, v13]) fun v93 =>
    Ef Pr (Instr.buildSlice 250 1 #[(0, v93)]) w80 fun v95 w94 =>
    Ef Pr (Builtin.append_ #[250, 250] 250 #[(g τ79 0), v95]) w94 fun v97 w96 =>
    J51 v97 w96)) w14)
theorem c103 {a0 a1 : Value} {K : Value → World → Prop} {w : World} (h : t103 a0 a1 K w) : CK Pr 103 #[a0, a1] w K := by
  refine calls_of_RF [(5, [9, 11, 12, 26, 27, 28, 29, 30, 31, 32, 33, 34, 35]), (11, [9, 14, 15, 38, 39, 40, 41, 42, 43, 44, 45, 46, 47])] Tryz.func103 rfl ?_ ?_ ?_
  · kernel_rfl
  · exact Nat.le_of_ble_eq_true rfl
  · exact cast (by kernel_rfl) h

def t104 (a0 : Value) (K : Value → World → Prop) (w : World) : Prop :=
 Qu Pr (Is w) (nilS a0) fun v1 =>
 Qu Pr (Is w) (Instr.fieldAt 196 v1 1) fun v2 =>
 Cl Pr (callV (fn 158) #[v2]) w fun v4 w3 =>
 Qu Pr (Is w3) (Instr.extract v4 0) fun v5 =>
 Qu Pr (Is w3) (Instr.extract v4 1) fun v6 =>
 If v6 (
  K v5 w3) (
  Qu Pr (Is w3) (nilS a0) fun v7 =>
  Qu Pr (Is w3) (Instr.fieldAt 196 v7 0) fun v8 =>
  Qu Pr (Is w3) (Instr.loadAt 192 v8) fun v9 =>
  Cl Pr (callM v9 "LastIndex" #[]) w3 fun v11 w10 =>
  Qu Pr (Is w10) (Instr.extract v11 0) fun v12 =>
  Qu Pr (Is w10) (Instr.extract v11 1) fun v13 =>
  Qu Pr (Is w10) (binS .neq 125 (.tmp 24) (.const Value.nilIface) v13 Value.nilIface) fun v14 =>
  If v14 (
   False) (
   K v12 w10))
theorem c104 {a0 : Value} {K : Value → World → Prop} {w : World} (h : t104 a0 K w) : CK Pr 104 #[a0] w K := by
  refine calls_of_RF [] Tryz.func104 rfl ?_ ?_ ?_
  · kernel_rfl
  · exact Nat.le_of_ble_eq_true rfl
  · exact cast (by kernel_rfl) h

def t105 (a0 a1 : Value) (K : Value → World → Prop) (w : World) : Prop :=
 Cl Pr (callV (fn 159) #[a0, a1]) w fun v2 w1 =>
 Qu Pr (Is w1) (binS .eql 125 (.tmp 8) (.const Value.nilIface) v2 Value.nilIface) fun v3 =>
 If v3 (
  K (.tuple #[]) w1) (
  False)
theorem c105 {a0 a1 : Value} {K : Value → World → Prop} {w : World} (h : t105 a0 a1 K w) : CK Pr 105 #[a0, a1] w K := by
  refine calls_of_RF [] Tryz.func105 rfl ?_ ?_ ?_
  · kernel_rfl
  · exact Nat.le_of_ble_eq_true rfl
  · exact cast (by kernel_rfl) h

@[irreducible] def t106_1 (v2 : Value) (K : Value → World → Prop) (v20 : Value) (w156 : World) : Prop :=
     Jo (fun (p176 : Value) (w177 : World) => (
       Qu Pr (Is w177) (Op.unary .not p176) fun v179 =>
       Gd v179 true (fun k180 => Qu Pr (Is w177) (Instr.loadAt 73 v2) fun v183 => k180 v183 w177) w177 fun v181 w182 =>
       Gd v179 true (fun k184 => Qu Pr (Is w182) (nilS v181) fun v187 => k184 v187 w182) w182 fun v185 w186 =>
       Gd v179 true (fun k188 => Qu Pr (Is w186) (Instr.fieldAt 187 v185 13) fun v191 => k188 v191 w186) w186 fun v189 w190 =>
       Gd v179 true (fun k192 => Qu Pr (Is w190) (Instr.loadAt 22 v189) fun v195 => k192 v195 w190) w190 fun v193 w194 =>
       Gd v179 true (fun k196 => Qu Pr (Is w194) (binS .neq 22 (.tmp 119) (.const (Value.int .u64 0)) v193 (Value.int .u64 0)) fun v199 => k196 v199 w194) w194 fun v197 w198 =>
       Qu Pr (Is w198) (pickS v179 v197 (Value.bool false)) fun v200 =>
       Jo (fun  (w203 : World) => (
         K v20 w203 : Prop)) fun J204 =>
       If v200 (
        Qu Pr (Is w198) (Instr.loadAt 73 v2) fun v205 =>
        Cl Pr (callV (fn 166) #[v205]) w198 fun _ w206 =>
        J204 w206) (
        J204 w198) : Prop)) fun J178 =>
     Dr w156 fun S158 w159 =>
     Qu Pr (S158) (Instr.loadAt 73 v2) fun v208 =>
     Qu Pr (S158) (nilS v208) fun v209 =>
     Qu Pr (S158) (Instr.fieldAt 187 v209 7) fun v210 =>
     Qu Pr (S158) (Instr.fieldAt 141 v210 0) fun v211 =>
     Qu Pr (S158) (Instr.fieldAt 136 v211 0) fun v212 =>
     Qu Pr (S158) (Instr.loadAt 134 v212) fun v213 =>
     Qu Pr (S158) (Instr.loadAt 73 v2) fun v214 =>
     Qu Pr (S158) (nilS v214) fun v215 =>
     Qu Pr (S158) (Instr.fieldAt 187 v215 13) fun v216 =>
     Qu Pr (S158) (Instr.loadAt 22 v216) fun v217 =>
     (
      Cl Pr (callV (fn 165) #[v213]) w159 fun v219 w218 => S158 w218 ∧
      Qu Pr (S158) (Instr.lookup 131 v219 v217 true) fun v220 =>
      Qu Pr (S158) (Instr.extract v220 0) fun v221 =>
      Qu Pr (S158) (Instr.extract v220 1) fun v222 =>
      Ef Pr (Instr.alloc 156 true (.tuple #[])) w218 fun v224 w223 => S158 w223 ∧
      Eu Pr (Instr.storeAt 156 v224 v221) w223 fun w225 => S158 w225 ∧
      J178 v222 w225) ∧
     (
      Ef Pr (Instr.alloc 156 true (.tuple #[])) w159 fun v227 w226 => S158 w226 ∧
      Cl Pr (callV (fn 165) #[v213]) w226 fun v229 w228 => S158 w228 ∧
      Qu Pr (S158) (Instr.lookup 131 v229 v217 true) fun v230 =>
      Qu Pr (S158) (Instr.extract v230 0) fun v231 =>
      Qu Pr (S158) (Instr.extract v230 1) fun v232 =>
      Eu Pr (Instr.storeAt 156 v227 v231) w228 fun w233 => S158 w233 ∧
      J178 v232 w233)
@[irreducible] def t106_2 (w143 : World) (v2 : Value) (K : Value → World → Prop) (v20 : Value) : Prop :=
   Qu Pr (Is w143) (Instr.loadAt 73 v2) fun v146 =>
   Cl Pr (callV (fn 161) #[v146]) w143 fun v148 w147 =>
   Jo (fun  (w156 : World) => (t106_1 v2 K v20 w156 : Prop)) fun J157 =>
   If v148 (
    Qu Pr (Is w147) (Instr.loadAt 73 v2) fun v234 =>
    Cl Pr (callV (fn 162) #[v234]) w147 fun _ w235 =>
    J157 w235) (
    Qu Pr (Is w147) (Instr.loadAt 73 v2) fun v237 =>
    Qu Pr (Is w147) (nilS v237) fun v238 =>
    Qu Pr (Is w147) (Instr.fieldAt 187 v238 7) fun v239 =>
    Qu Pr (Is w147) (Instr.makeFunc (Fn.func 163) #[] #[v2]) fun v240 =>
    Cl Pr (callV (fn 91) #[v239, v240]) w147 fun _ w241 =>
    J157 w241)
@[irreducible] def t106_3 (w93 : World) (v2 : Value) (v20 : Value) (K : Value → World → Prop) : Prop :=
  Qu Pr (Is w93) (Instr.loadAt 73 v2) fun v117 =>
  Qu Pr (Is w93) (nilS v117) fun v118 =>
  Qu Pr (Is w93) (Instr.fieldAt 187 v118 8) fun v119 =>
  Qu Pr (Is w93) (Instr.loadAt 159 v119) fun v120 =>
  Qu Pr (Is w93) (binS .neq 159 (.tmp 78) (.const (Value.int .u64 2)) v120 (Value.int .u64 2)) fun v121 =>
  Gd v121 false (fun k122 => k122 v20 w93) w93 fun v123 w124 =>
  Gd v121 false (fun k125 => Qu Pr (Is w124) (nilS v123) fun v128 => k125 v128 w124) w124 fun v126 w127 =>
  Gd v121 false (fun k129 => Qu Pr (Is w127) (Instr.fieldAt 200 v126 0) fun v132 => k129 v132 w127) w127 fun v130 w131 =>
  Gd v121 false (fun k133 => Qu Pr (Is w131) (Instr.loadAt 23 v130) fun v136 => k133 v136 w131) w131 fun v134 w135 =>
  Gd v121 false (fun k137 => Qu Pr (Is w135) (Builtin.len_ #[23] 3 #[v134]) fun v140 => k137 v140 w135) w135 fun v138 w139 =>
  Gd v121 false (fun k141 => Qu Pr (Is w139) (binS .eql 3 (.tmp 85) (.const (Value.int .i64 0)) v138 (Value.int .i64 0)) fun v144 => k141 v144 w139) w139 fun v142 w143 =>
  Qu Pr (Is w143) (pickS v121 (Value.bool true) v142) fun v145 =>
  If v145 (
   K v20 w143) (t106_2 w143 v2 K v20)
def t106 (a0 a1 a2 : Value) (K : Value → World → Prop) (w : World) : Prop :=
 Ef Pr (Instr.box 73 a0) w fun v2 w1 =>
 Ef Pr (Instr.box 136 a1) w1 fun v4 w3 =>
 Qu Pr (Is w3) (Instr.loadAt 73 v2) fun v5 =>
 Qu Pr (Is w3) (Instr.loadAt 136 v4) fun v6 =>
 Qu Pr (Is w3) (nilS v5) fun v7 =>
 Qu Pr (Is w3) (Instr.fieldAt 187 v7 7) fun v8 =>
 Qu Pr (Is w3) (Instr.fieldAt 141 v8 0) fun v9 =>
 Eu Pr (Instr.storeAt 136 v9 v6) w3 fun w10 =>
 Qu Pr (Is w10) (Instr.loadAt 73 v2) fun v11 =>
 Qu Pr (Is w10) (nilS v11) fun v12 =>
 Qu Pr (Is w10) (Instr.fieldAt 187 v12 7) fun v13 =>
 Qu Pr (Is w10) (Instr.fieldAt 141 v13 1) fun v14 =>
 Eu Pr (Instr.storeAt 138 v14 a2) w10 fun w15 =>
 Qu Pr (Is w15) (Instr.loadAt 73 v2) fun v16 =>
 Qu Pr (Is w15) (nilS v16) fun v17 =>
 Qu Pr (Is w15) (Instr.fieldAt 187 v17 7) fun v18 =>
 Cl Pr (callV (fn 160) #[v18]) w15 fun v20 w19 =>
 Dr w19 fun S21 w22 =>
 Qu Pr (S21) (Instr.loadAt 73 v2) fun v23 =>
 Qu Pr (S21) (nilS v23) fun v24 =>
 Qu Pr (S21) (Instr.fieldAt 187 v24 7) fun v25 =>
 Qu Pr (S21) (Instr.fieldAt 141 v25 1) fun v26 =>
 Qu Pr (S21) (Instr.loadAt 138 v26) fun v27 =>
 Qu Pr (S21) (Instr.loadAt 73 v2) fun v28 =>
 Qu Pr (S21) (nilS v28) fun v29 =>
 Qu Pr (S21) (Instr.fieldAt 187 v29 0) fun v30 =>
 Qu Pr (S21) (Instr.loadAt 22 v30) fun v31 =>
 Qu Pr (S21) (Instr.lookup 138 v27 v31 true) fun v32 =>
 Qu Pr (S21) (Instr.extract v32 0) fun v33 =>
 Qu Pr (S21) (Instr.extract v32 1) fun v34 =>
 Dr w22 fun S35 w36 =>
 Qu Pr (S35) (Instr.loadAt 73 v2) fun v37 =>
 Gd v34 true (fun k38 => k38 v33 w36) w36 fun v39 w40 =>
 Gd v34 true (fun k41 => Qu Pr (S35) (nilS v39) fun v44 => k41 v44 w40) w40 fun v42 w43 =>
 Gd v34 true (fun k45 => Qu Pr (S35) (Instr.fieldAt 152 v42 8) fun v48 => k45 v48 w43) w43 fun v46 w47 =>
 Gd v34 true (fun k49 => Qu Pr (S35) (Instr.loadAt 4 v46) fun v52 => k49 v52 w47) w47 fun v50 w51 =>
 Qu Pr (S35) (pickS v34 v50 (Value.bool false)) fun v53 =>
 Qu Pr (S35) (nilS v37) fun v54 =>
 Qu Pr (S35) (Instr.fieldAt 187 v54 9) fun v55 =>
 Eu Pr (Instr.storeAt 4 v55 v53) w51 fun w56 => S35 w56 ∧
 Qu Pr (Is w56) (Op.unary .not v34) fun v57 =>
 Gd v57 false (fun k58 => Qu Pr (Is w56) (Instr.loadAt 73 v2) fun v61 => k58 v61 w56) w56 fun v59 w60 =>
 Gd v57 false (fun k62 => Qu Pr (Is w60) (nilS v59) fun v65 => k62 v65 w60) w60 fun v63 w64 =>
 Gd v57 false (fun k66 => Qu Pr (Is w64) (Instr.fieldAt 187 v63 9) fun v69 => k66 v69 w64) w64 fun v67 w68 =>
 Gd v57 false (fun k70 => Qu Pr (Is w68) (Instr.loadAt 4 v67) fun v73 => k70 v73 w68) w68 fun v71 w72 =>
 Qu Pr (Is w72) (pickS v57 (Value.bool true) v71) fun v74 =>
 Gd v74 true (fun k75 => Qu Pr (Is w72) (Instr.loadAt 73 v2) fun v78 => k75 v78 w72) w72 fun v76 w77 =>
 Gd v74 true (fun k79 => Qu Pr (Is w77) (nilS v76) fun v82 => k79 v82 w77) w77 fun v80 w81 =>
 Gd v74 true (fun k83 => Qu Pr (Is w81) (Instr.fieldAt 187 v80 8) fun v86 => k83 v86 w81) w81 fun v84 w85 =>
 Gd v74 true (fun k87 => Qu Pr (Is w85) (Instr.loadAt 159 v84) fun v90 => k87 v90 w85) w85 fun v88 w89 =>
 Gd v74 true (fun k91 => Qu Pr (Is w89) (binS .eql 159 (.tmp 61) (.const (Value.int .u64 2)) v88 (Value.int .u64 2)) fun v94 => k91 v94 w89) w89 fun v92 w93 =>
 Qu Pr (Is w93) (pickS v74 v92 (Value.bool false)) fun v95 =>
 If v95 (
  Qu Pr (Is w93) (Instr.loadAt 73 v2) fun v96 =>
  Qu Pr (Is w93) (nilS v96) fun v97 =>
  Qu Pr (Is w93) (Instr.fieldAt 187 v97 26) fun v98 =>
  Qu Pr (Is w93) (Instr.loadAt 4 v98) fun v99 =>
  Jo (fun  (w106 : World) => (
    K v20 w106 : Prop)) fun J107 =>
  If v99 (
   Dr w93 fun S108 w109 =>
   Qu Pr (S108) (Instr.loadAt 73 v2) fun v110 =>
   Qu Pr (S108) (Instr.loadAt 73 v2) fun v111 =>
   Qu Pr (S108) (nilS v111) fun v112 =>
   Qu Pr (S108) (Instr.fieldAt 187 v112 1) fun v113 =>
   Qu Pr (S108) (Instr.loadAt 22 v113) fun v114 =>
   Cl Pr (callV (fn 59) #[v110, v114, (Value.int .u64 0)]) w109 fun _ w115 => S108 w115 ∧
   J107 w115) (
   J107 w93)) (t106_3 w93 v2 v20 K)
theorem c106 {a0 a1 a2 : Value} {K : Value → World → Prop} {w : World} (h : t106 a0 a1 a2 K w) : CK Pr 106 #[a0, a1, a2] w K := by
  refine calls_of_RF [] Tryz.func106 rfl ?_ ?_ ?_
  · kernel_rfl
  · exact Nat.le_of_ble_eq_true rfl
  · exact cast (by kernel_rfl) h

def t107 (a0 : Value) (K : Value → World → Prop) (w : World) : Prop :=
 Ef Pr (Builtin.append_ #[23, 23] 23 #[(Value.slice none 0 0), a0]) w fun v2 w1 =>
 K v2 w1
theorem c107 {a0 : Value} {K : Value → World → Prop} {w : World} (h : t107 a0 K w) : CK Pr 107 #[a0] w K := by
  refine calls_of_RF [] Tryz.func107 rfl ?_ ?_ ?_
  · kernel_rfl
  · exact Nat.le_of_ble_eq_true rfl
  · exact cast (by kernel_rfl) h

end Go.Proofs.YtmmpogfbhelioaaGreat
