/-
  PARTS: T0.
-/
import Derived.Test.YtmmpogfbhelioaaGreatFoa
/-
  The readable texts of the program's functions, printed by gen.py, and their links with the program.
  Conditions: none.
-/
namespace Go.Proofs.YtmmpogfbhelioaaGreat
set_option maxRecDepth 10000
set_option linter.unusedVariables false
set_option linter.unusedSimpArgs false
@[irreducible] def t3_1 (w150 : World) (v2 : Value) (v59 : Value) (K : Value → World → Prop) (p71 : Value) (v4 : Value) : Prop :=
      Qu Pr (Is w150) (Instr.fieldAt 32 v2 10) fun v153 =>
      Qu Pr (Is w150) (Instr.loadAt 23 v153) fun v154 =>
      Qu Pr (Is w150) (Instr.fieldAt 32 v2 11) fun v155 =>
      Qu Pr (Is w150) (Instr.loadAt 23 v155) fun v156 =>
      Qu Pr (Is w150) (Instr.build 25 #[(0, v154), (1, v156)]) fun v157 =>
      Ef Pr (Instr.alloc 25 true (.tuple #[])) w150 fun v159 w158 =>
      Eu Pr (Instr.storeAt 25 v159 v157) w158 fun w160 =>
      Jo (fun  (w163 : World) => (
        Qu Pr (Is w163) (Instr.loadAt 25 v159) fun v165 =>
        Qu Pr (Is w163) (Instr.fieldAt 38 v59 0) fun v166 =>
        Qu Pr (Is w163) (Instr.fieldAt 32 v166 10) fun v167 =>
        Qu Pr (Is w163) (Instr.loadAt 23 v167) fun v168 =>
        Qu Pr (Is w163) (Instr.fieldAt 38 v59 0) fun v169 =>
        Qu Pr (Is w163) (Instr.fieldAt 32 v169 11) fun v170 =>
        Qu Pr (Is w163) (Instr.loadAt 23 v170) fun v171 =>
        Qu Pr (Is w163) (Instr.build 25 #[(0, v168), (1, v171)]) fun v172 =>
        Cl Pr (callV (fn 15) #[v165, v172]) w163 fun v174 w173 =>
        Gd v174 true (fun k175 => Qu Pr (Is w173) (Instr.fieldAt 38 v59 0) fun v178 => k175 v178 w173) w173 fun v176 w177 =>
        Gd v174 true (fun k179 => Qu Pr (Is w177) (Instr.fieldAt 32 v176 12) fun v182 => k179 v182 w177) w177 fun v180 w181 =>
        Gd v174 true (fun k183 => Qu Pr (Is w181) (Instr.loadAt 29 v180) fun v186 => k183 v186 w181) w181 fun v184 w185 =>
        Gd v174 true (fun k187 => Qu Pr (Is w185) (Builtin.len_ #[29] 3 #[v184]) fun v190 => k187 v190 w185) w185 fun v188 w189 =>
        Gd v174 true (fun k191 => Qu Pr (Is w189) (Instr.fieldAt 25 v159 0) fun v194 => k191 v194 w189) w189 fun v192 w193 =>
        Gd v174 true (fun k195 => Qu Pr (Is w193) (Instr.loadAt 23 v192) fun v198 => k195 v198 w193) w193 fun v196 w197 =>
        Gd v174 true (fun k199 => Qu Pr (Is w197) (Builtin.len_ #[23] 3 #[v196]) fun v202 => k199 v202 w197) w197 fun v200 w201 =>
        Gd v174 true (fun k203 => Qu Pr (Is w201) (Instr.fieldAt 25 v159 1) fun v206 => k203 v206 w201) w201 fun v204 w205 =>
        Gd v174 true (fun k207 => Qu Pr (Is w205) (Instr.loadAt 23 v204) fun v210 => k207 v210 w205) w205 fun v208 w209 =>
        Gd v174 true (fun k211 => Qu Pr (Is w209) (Builtin.len_ #[23] 3 #[v208]) fun v214 => k211 v214 w209) w209 fun v212 w213 =>
        Gd v174 true (fun k215 => Qu Pr (Is w213) (binS .add 3 (.tmp 92) (.tmp 95) v200 v212) fun v218 => k215 v218 w213) w213 fun v216 w217 =>
        Gd v174 true (fun k219 => Qu Pr (Is w217) (binS .eql 3 (.tmp 89) (.tmp 96) v188 v216) fun v222 => k219 v222 w217) w217 fun v220 w221 =>
        Qu Pr (Is w221) (pickS v174 v220 (Value.bool false)) fun v223 =>
        K v223 w221 : Prop)) fun J164 =>
      If p71 (
       Qu Pr (Is w160) (Instr.fieldAt 27 v4 3) fun v224 =>
       Qu Pr (Is w160) (Instr.loadAt 25 v224) fun v225 =>
       Eu Pr (Instr.storeAt 25 v159 v225) w160 fun w226 =>
       J164 w226) (
       J164 w160)
@[irreducible] def t3_2 (w72 : World) (v59 : Value) (p71 : Value) (v2 : Value) (p70 : Value) (K : Value → World → Prop) (v4 : Value) : Prop :=
     Qu Pr (Is w72) (Instr.fieldAt 38 v59 4) fun v74 =>
     Qu Pr (Is w72) (Instr.loadAt 4 v74) fun v75 =>
     Gd v75 false (fun k76 => Qu Pr (Is w72) (Instr.fieldAt 38 v59 3) fun v79 => k76 v79 w72) w72 fun v77 w78 =>
     Gd v75 false (fun k80 => Qu Pr (Is w78) (Instr.loadAt 4 v77) fun v83 => k80 v83 w78) w78 fun v81 w82 =>
     Gd v75 false (fun k84 => k84 p71 w82) w82 fun v85 w86 =>
     Gd v75 false (fun k87 => Qu Pr (Is w86) (binS .neq 4 (.tmp 45) (.tmp 46) v81 v85) fun v90 => k87 v90 w86) w86 fun v88 w89 =>
     Qu Pr (Is w89) (pickS v75 (Value.bool true) v88) fun v91 =>
     Gd v91 false (fun k92 => Qu Pr (Is w89) (Instr.fieldAt 38 v59 0) fun v95 => k92 v95 w89) w89 fun v93 w94 =>
     Gd v91 false (fun k96 => Qu Pr (Is w94) (Instr.loadAt 32 v93) fun v99 => k96 v99 w94) w94 fun v97 w98 =>
     Gd v91 false (fun k100 => Qu Pr (Is w98) (Instr.fieldAt 32 v2 4) fun v103 => k100 v103 w98) w98 fun v101 w102 =>
     Gd v91 false (fun k104 => Qu Pr (Is w102) (Instr.loadAt 3 v101) fun v107 => k104 v107 w102) w102 fun v105 w106 =>
     Gd v91 false (fun k108 => Qu Pr (Is w106) (Instr.loadAt 43 p70) fun v111 => k108 v111 w106) w106 fun v109 w110 =>
     Gd v91 false (fun k112 => Cl Pr (callV (fn 14) #[v97, v105, v109]) w110 fun v113x w114x => k112 v113x w114x) w110 fun v113 w114 =>
     Gd v91 false (fun k115 => Qu Pr (Is w114) (Op.unary .not v113) fun v118 => k115 v118 w114) w114 fun v116 w117 =>
     Qu Pr (Is w117) (pickS v91 (Value.bool true) v116) fun v119 =>
     Gd v119 false (fun k120 => Qu Pr (Is w117) (Instr.fieldAt 38 v59 1) fun v123 => k120 v123 w117) w117 fun v121 w122 =>
     Gd v119 false (fun k124 => Qu Pr (Is w122) (Instr.loadAt 36 v121) fun v127 => k124 v127 w122) w122 fun v125 w126 =>
     Gd v119 false (fun k128 => Qu Pr (Is w126) (Builtin.len_ #[36] 3 #[v125]) fun v131 => k128 v131 w126) w126 fun v129 w130 =>
     Gd v119 false (fun k132 => Qu Pr (Is w130) (Instr.fieldAt 38 v59 2) fun v135 => k132 v135 w130) w130 fun v133 w134 =>
     Gd v119 false (fun k136 => Qu Pr (Is w134) (Instr.loadAt 36 v133) fun v139 => k136 v139 w134) w134 fun v137 w138 =>
     Gd v119 false (fun k140 => Qu Pr (Is w138) (Builtin.len_ #[36] 3 #[v137]) fun v143 => k140 v143 w138) w138 fun v141 w142 =>
     Gd v119 false (fun k144 => Qu Pr (Is w142) (binS .add 3 (.tmp 61) (.tmp 64) v129 v141) fun v147 => k144 v147 w142) w142 fun v145 w146 =>
     Gd v119 false (fun k148 => Qu Pr (Is w146) (binS .gtr 3 (.tmp 65) (.const (Value.int .i64 0)) v145 (Value.int .i64 0)) fun v151 => k148 v151 w146) w146 fun v149 w150 =>
     Qu Pr (Is w150) (pickS v119 (Value.bool true) v149) fun v152 =>
     If v152 (
      K (Value.bool false) w150) (t3_1 w150 v2 v59 K p71 v4)
@[irreducible] def t3_3 (w51 : World) (v2 : Value) (v4 : Value) (K : Value → World → Prop) : Prop :=
   Qu Pr (Is w51) (Instr.loadAt 32 v2) fun v54 =>
   Qu Pr (Is w51) (Instr.loadAt 27 v4) fun v55 =>
   Cl Pr (callV (fn 11) #[v54, v55]) w51 fun v57 w56 =>
   Ef Pr (Instr.alloc 38 true (.tuple #[])) w56 fun v59 w58 =>
   Eu Pr (Instr.storeAt 38 v59 v57) w58 fun w60 =>
   Jo (fun (p70 : Value) (p71 : Value) (w72 : World) => (t3_2 w72 v59 p71 v2 p70 K v4 : Prop)) fun J73 =>
   Dr w60 fun S61 w62 =>
   Qu Pr (S61) (Instr.loadAt 32 v2) fun v227 =>
   Qu Pr (S61) (Instr.loadAt 27 v4) fun v228 =>
   (
    Cl Pr (callV (fn 12) #[v227]) w62 fun v230 w229 => S61 w229 ∧
    (
     Cl Pr (callV (fn 13) #[v230, v228]) w229 fun v232 w231 => S61 w231 ∧
     Qu Pr (S61) (Instr.extract v232 0) fun v233 =>
     Qu Pr (S61) (Instr.extract v232 1) fun v234 =>
     Ef Pr (Instr.alloc 43 true (.tuple #[])) w231 fun v236 w235 => S61 w235 ∧
     Eu Pr (Instr.storeAt 43 v236 v233) w235 fun w237 => S61 w237 ∧
     J73 v236 v234 w237) ∧
    (
     Ef Pr (Instr.alloc 43 true (.tuple #[])) w229 fun v239 w238 => S61 w238 ∧
     Cl Pr (callV (fn 13) #[v230, v228]) w238 fun v241 w240 => S61 w240 ∧
     Qu Pr (S61) (Instr.extract v241 0) fun v242 =>
     Qu Pr (S61) (Instr.extract v241 1) fun v243 =>
     Eu Pr (Instr.storeAt 43 v239 v242) w240 fun w244 => S61 w244 ∧
     J73 v239 v243 w244)) ∧
   (
    Ef Pr (Instr.alloc 43 true (.tuple #[])) w62 fun v246 w245 => S61 w245 ∧
    Cl Pr (callV (fn 12) #[v227]) w245 fun v248 w247 => S61 w247 ∧
    Cl Pr (callV (fn 13) #[v248, v228]) w247 fun v250 w249 => S61 w249 ∧
    Qu Pr (S61) (Instr.extract v250 0) fun v251 =>
    Qu Pr (S61) (Instr.extract v250 1) fun v252 =>
    Eu Pr (Instr.storeAt 43 v246 v251) w249 fun w253 => S61 w253 ∧
    J73 v246 v252 w253)
@[irreducible] def t3_4 (w18 : World) (v2 : Value) (v4 : Value) (K : Value → World → Prop) : Prop :=
  Qu Pr (Is w18) (Instr.loadAt 32 v2) fun v21 =>
  Cl Pr (callV (fn 9) #[v21]) w18 fun v23 w22 =>
  Qu Pr (Is w22) (Op.unary .not v23) fun v24 =>
  Gd v24 false (fun k25 => Qu Pr (Is w22) (Instr.fieldAt 32 v2 4) fun v28 => k25 v28 w22) w22 fun v26 w27 =>
  Gd v24 false (fun k29 => Qu Pr (Is w27) (Instr.loadAt 3 v26) fun v32 => k29 v32 w27) w27 fun v30 w31 =>
  Gd v24 false (fun k33 => Qu Pr (Is w31) (binS .neq 3 (.tmp 22) (.const (Value.int .i64 0)) v30 (Value.int .i64 0)) fun v36 => k33 v36 w31) w31 fun v34 w35 =>
  Qu Pr (Is w35) (pickS v24 (Value.bool true) v34) fun v37 =>
  Gd v37 false (fun k38 => Qu Pr (Is w35) (Instr.loadAt 32 v2) fun v41 => k38 v41 w35) w35 fun v39 w40 =>
  Gd v37 false (fun k42 => Qu Pr (Is w40) (Instr.loadAt 27 v4) fun v45 => k42 v45 w40) w40 fun v43 w44 =>
  Gd v37 false (fun k46 => Cl Pr (callV (fn 10) #[v39, v43]) w44 fun v47x w48x => k46 v47x w48x) w44 fun v47 w48 =>
  Gd v37 false (fun k49 => Qu Pr (Is w48) (Op.unary .not v47) fun v52 => k49 v52 w48) w48 fun v50 w51 =>
  Qu Pr (Is w51) (pickS v37 (Value.bool true) v50) fun v53 =>
  If v53 (
   K (Value.bool true) w51) (t3_3 w51 v2 v4 K)
def t3 (a0 a1 : Value) (K : Value → World → Prop) (w : World) : Prop :=
 Ef Pr (Instr.box 32 a0) w fun v2 w1 =>
 Ef Pr (Instr.box 27 a1) w1 fun v4 w3 =>
 Qu Pr (Is w3) (Instr.loadAt 32 v2) fun v5 =>
 Cl Pr (callV (fn 7) #[v5]) w3 fun v7 w6 =>
 Qu Pr (Is w6) (Op.unary .not v7) fun v8 =>
 Gd v8 false (fun k9 => Qu Pr (Is w6) (Instr.loadAt 27 v4) fun v12 => k9 v12 w6) w6 fun v10 w11 =>
 Gd v8 false (fun k13 => Cl Pr (callV (fn 8) #[v10]) w11 fun v14x w15x => k13 v14x w15x) w11 fun v14 w15 =>
 Gd v8 false (fun k16 => Qu Pr (Is w15) (Op.unary .not v14) fun v19 => k16 v19 w15) w15 fun v17 w18 =>
 Qu Pr (Is w18) (pickS v8 (Value.bool true) v17) fun v20 =>
 If v20 (
  K (Value.bool true) w18) (t3_4 w18 v2 v4 K)
theorem c3 {a0 a1 : Value} {K : Value → World → Prop} {w : World} (h : t3 a0 a1 K w) : CK Pr 3 #[a0, a1] w K := by
  refine calls_of_RF [] Tryz.func3 rfl ?_ ?_ ?_
  · kernel_rfl
  · exact Nat.le_of_ble_eq_true rfl
  · exact cast (by kernel_rfl) h

@[irreducible] def t4_1 (w105 : World) (a1 : Value) (p103 : Value) (p104 : Value) (K : Value → World → Prop) (a2 : Value) (a3 : Value) (v2 : Value) : Prop :=
     Qu Pr (Is w105) (binS .eql 3 (.tmp 59) (.const (Value.int .i64 0)) a1 (Value.int .i64 0)) fun v107 =>
     Jo (fun  (w125 : World) => (
       Qu Pr (Is w125) (Instr.fieldAt 38 p103 4) fun v127 =>
       Qu Pr (Is w125) (Instr.loadAt 4 v127) fun v128 =>
       Qu Pr (Is w125) (Op.unary .not v128) fun v129 =>
       Gd v129 true (fun k130 => Qu Pr (Is w125) (Instr.fieldAt 38 p103 0) fun v133 => k130 v133 w125) w125 fun v131 w132 =>
       Gd v129 true (fun k134 => Qu Pr (Is w132) (Instr.loadAt 32 v131) fun v137 => k134 v137 w132) w132 fun v135 w136 =>
       Gd v129 true (fun k138 => k138 a1 w136) w136 fun v139 w140 =>
       Gd v129 true (fun k141 => Qu Pr (Is w140) (Instr.loadAt 43 p104) fun v144 => k141 v144 w140) w140 fun v142 w143 =>
       Gd v129 true (fun k145 => Cl Pr (callV (fn 14) #[v135, v139, v142]) w143 fun v146x w147x => k145 v146x w147x) w143 fun v146 w147 =>
       Qu Pr (Is w147) (pickS v129 v146 (Value.bool false)) fun v148 =>
       Gd v148 true (fun k149 => Qu Pr (Is w147) (Instr.fieldAt 38 p103 1) fun v152 => k149 v152 w147) w147 fun v150 w151 =>
       Gd v148 true (fun k153 => Qu Pr (Is w151) (Instr.loadAt 36 v150) fun v156 => k153 v156 w151) w151 fun v154 w155 =>
       Gd v148 true (fun k157 => Qu Pr (Is w155) (Builtin.len_ #[36] 3 #[v154]) fun v160 => k157 v160 w155) w155 fun v158 w159 =>
       Gd v148 true (fun k161 => Qu Pr (Is w159) (Instr.fieldAt 38 p103 2) fun v164 => k161 v164 w159) w159 fun v162 w163 =>
       Gd v148 true (fun k165 => Qu Pr (Is w163) (Instr.loadAt 36 v162) fun v168 => k165 v168 w163) w163 fun v166 w167 =>
       Gd v148 true (fun k169 => Qu Pr (Is w167) (Builtin.len_ #[36] 3 #[v166]) fun v172 => k169 v172 w167) w167 fun v170 w171 =>
       Gd v148 true (fun k173 => Qu Pr (Is w171) (binS .add 3 (.tmp 92) (.tmp 95) v158 v170) fun v176 => k173 v176 w171) w171 fun v174 w175 =>
       Gd v148 true (fun k177 => Qu Pr (Is w175) (binS .eql 3 (.tmp 96) (.const (Value.int .i64 0)) v174 (Value.int .i64 0)) fun v180 => k177 v180 w175) w175 fun v178 w179 =>
       Qu Pr (Is w179) (pickS v148 v178 (Value.bool false)) fun v181 =>
       Gd v181 true (fun k182 => Qu Pr (Is w179) (Instr.fieldAt 38 p103 0) fun v185 => k182 v185 w179) w179 fun v183 w184 =>
       Gd v181 true (fun k186 => Qu Pr (Is w184) (Instr.fieldAt 32 v183 13) fun v189 => k186 v189 w184) w184 fun v187 w188 =>
       Gd v181 true (fun k190 => Qu Pr (Is w188) (Instr.loadAt 30 v187) fun v193 => k190 v193 w188) w188 fun v191 w192 =>
       Gd v181 true (fun k194 => Qu Pr (Is w192) (Builtin.len_ #[30] 3 #[v191]) fun v197 => k194 v197 w192) w192 fun v195 w196 =>
       Gd v181 true (fun k198 => Qu Pr (Is w196) (binS .eql 3 (.tmp 103) (.const (Value.int .i64 0)) v195 (Value.int .i64 0)) fun v201 => k198 v201 w196) w196 fun v199 w200 =>
       Qu Pr (Is w200) (pickS v181 v199 (Value.bool false)) fun v202 =>
       K v202 w200 : Prop)) fun J126 =>
     If v107 (
      Qu Pr (Is w105) (Instr.loadAt 43 p104) fun v203 =>
      Cl Pr (callV (fn 17) #[v203, a2, a3]) w105 fun v205 w204 =>
      Eu Pr (Instr.storeAt 43 p104 v205) w204 fun w206 =>
      J126 w206) (
      Qu Pr (Is w105) (binS .eql 3 (.tmp 59) (.const (Value.int .i64 1)) a1 (Value.int .i64 1)) fun v207 =>
      Jo (fun  (w219 : World) => (
        J126 w219 : Prop)) fun J220 =>
      If v207 (
       Dr w105 fun S221 w222 =>
       Qu Pr (Is w222) (Instr.fieldAt 32 v2 1) fun v223 =>
       Qu Pr (Is w222) (Instr.loadAt 22 v223) fun v224 =>
       Qu Pr (Is w222) (binS .add 22 (.tmp 70) (.const (Value.int .u64 1)) v224 (Value.int .u64 1)) fun v225 =>
       Qu Pr (S221) (Instr.fieldAt 32 v2 0) fun v226 =>
       Qu Pr (S221) (Instr.loadAt 22 v226) fun v227 =>
       Qu Pr (Is w222) (Instr.fieldAt 43 p104 2) fun v228 =>
       Qu Pr (Is w222) (Instr.fieldAt 41 v228 0) fun v229 =>
       Eu Pr (Instr.storeAt 22 v229 v225) w222 fun w230 => S221 w230 ∧
       Qu Pr (S221) (Instr.fieldAt 43 p104 2) fun v231 =>
       Qu Pr (S221) (Instr.fieldAt 41 v231 1) fun v232 =>
       Eu Pr (Instr.storeAt 22 v232 v227) w230 fun w233 => S221 w233 ∧
       Qu Pr (S221) (Instr.fieldAt 43 p104 1) fun v234 =>
       Eu Pr (Instr.storeAt 22 v234 (Value.int .u64 0)) w233 fun w235 => S221 w235 ∧
       J220 w235) (
       Qu Pr (Is w105) (Instr.fieldAt 43 p104 1) fun v236 =>
       Eu Pr (Instr.storeAt 22 v236 (Value.int .u64 0)) w105 fun w237 =>
       J220 w237))
@[irreducible] def t4_2 (v238 : Value) (a1 : Value) (a2 : Value) (a3 : Value) (w95 : World) (S94 : World → Prop) (v239 : Value) (J106 : Value → Value → World → Prop) : Prop :=
    Cl Pr (callV (fn 16) #[v238, a1, a2, a3]) w95 fun v241 w240 => S94 w240 ∧
    (
     Cl Pr (callV (fn 12) #[v239]) w240 fun v243 w242 => S94 w242 ∧
     (
      Ef Pr (Instr.alloc 38 true (.tuple #[])) w242 fun v245 w244 => S94 w244 ∧
      Ef Pr (Instr.alloc 43 true (.tuple #[])) w244 fun v247 w246 => S94 w246 ∧
      Eu Pr (Instr.storeAt 38 v245 v241) w246 fun w248 => S94 w248 ∧
      Eu Pr (Instr.storeAt 43 v247 v243) w248 fun w249 => S94 w249 ∧
      J106 v245 v247 w249) ∧
     (
      Ef Pr (Instr.alloc 43 true (.tuple #[])) w242 fun v251 w250 => S94 w250 ∧
      Ef Pr (Instr.alloc 38 true (.tuple #[])) w250 fun v253 w252 => S94 w252 ∧
      Eu Pr (Instr.storeAt 38 v253 v241) w252 fun w254 => S94 w254 ∧
      Eu Pr (Instr.storeAt 43 v251 v243) w254 fun w255 => S94 w255 ∧
      J106 v253 v251 w255)) ∧
    (
     Ef Pr (Instr.alloc 38 true (.tuple #[])) w240 fun v257 w256 => S94 w256 ∧
     (
      Cl Pr (callV (fn 12) #[v239]) w256 fun v259 w258 => S94 w258 ∧
      Ef Pr (Instr.alloc 43 true (.tuple #[])) w258 fun v261 w260 => S94 w260 ∧
      Eu Pr (Instr.storeAt 38 v257 v241) w260 fun w262 => S94 w262 ∧
      Eu Pr (Instr.storeAt 43 v261 v259) w262 fun w263 => S94 w263 ∧
      J106 v257 v261 w263) ∧
     (
      Ef Pr (Instr.alloc 43 true (.tuple #[])) w256 fun v265 w264 => S94 w264 ∧
      Cl Pr (callV (fn 12) #[v239]) w264 fun v267 w266 => S94 w266 ∧
      Eu Pr (Instr.storeAt 38 v257 v241) w266 fun w268 => S94 w268 ∧
      Eu Pr (Instr.storeAt 43 v265 v267) w268 fun w269 => S94 w269 ∧
      J106 v257 v265 w269)) ∧
    (
     Ef Pr (Instr.alloc 43 true (.tuple #[])) w240 fun v271 w270 => S94 w270 ∧
     (
      Cl Pr (callV (fn 12) #[v239]) w270 fun v273 w272 => S94 w272 ∧
      Ef Pr (Instr.alloc 38 true (.tuple #[])) w272 fun v275 w274 => S94 w274 ∧
      Eu Pr (Instr.storeAt 38 v275 v241) w274 fun w276 => S94 w276 ∧
      Eu Pr (Instr.storeAt 43 v271 v273) w276 fun w277 => S94 w277 ∧
      J106 v275 v271 w277) ∧
     (
      Ef Pr (Instr.alloc 38 true (.tuple #[])) w270 fun v279 w278 => S94 w278 ∧
      Cl Pr (callV (fn 12) #[v239]) w278 fun v281 w280 => S94 w280 ∧
      Eu Pr (Instr.storeAt 38 v279 v241) w280 fun w282 => S94 w282 ∧
      Eu Pr (Instr.storeAt 43 v271 v281) w282 fun w283 => S94 w283 ∧
      J106 v279 v271 w283))
@[irreducible] def t4_3 (a1 : Value) (K : Value → World → Prop) (a2 : Value) (a3 : Value) (v2 : Value) (w91 : World) : Prop :=
   Jo (fun (p103 : Value) (p104 : Value) (w105 : World) => (t4_1 w105 a1 p103 p104 K a2 a3 v2 : Prop)) fun J106 =>
   Dr w91 fun S94 w95 =>
   Qu Pr (S94) (Instr.loadAt 32 v2) fun v238 =>
   Qu Pr (S94) (Instr.loadAt 32 v2) fun v239 =>
   (t4_2 v238 a1 a2 a3 w95 S94 v239 J106) ∧
   (
    Ef Pr (Instr.alloc 38 true (.tuple #[])) w95 fun v285 w284 => S94 w284 ∧
    (
     Cl Pr (callV (fn 16) #[v238, a1, a2, a3]) w284 fun v287 w286 => S94 w286 ∧
     (
      Cl Pr (callV (fn 12) #[v239]) w286 fun v289 w288 => S94 w288 ∧
      Ef Pr (Instr.alloc 43 true (.tuple #[])) w288 fun v291 w290 => S94 w290 ∧
      Eu Pr (Instr.storeAt 38 v285 v287) w290 fun w292 => S94 w292 ∧
      Eu Pr (Instr.storeAt 43 v291 v289) w292 fun w293 => S94 w293 ∧
      J106 v285 v291 w293) ∧
     (
      Ef Pr (Instr.alloc 43 true (.tuple #[])) w286 fun v295 w294 => S94 w294 ∧
      Cl Pr (callV (fn 12) #[v239]) w294 fun v297 w296 => S94 w296 ∧
      Eu Pr (Instr.storeAt 38 v285 v287) w296 fun w298 => S94 w298 ∧
      Eu Pr (Instr.storeAt 43 v295 v297) w298 fun w299 => S94 w299 ∧
      J106 v285 v295 w299)) ∧
    (
     Ef Pr (Instr.alloc 43 true (.tuple #[])) w284 fun v301 w300 => S94 w300 ∧
     Cl Pr (callV (fn 16) #[v238, a1, a2, a3]) w300 fun v303 w302 => S94 w302 ∧
     Cl Pr (callV (fn 12) #[v239]) w302 fun v305 w304 => S94 w304 ∧
     Eu Pr (Instr.storeAt 38 v285 v303) w304 fun w306 => S94 w306 ∧
     Eu Pr (Instr.storeAt 43 v301 v305) w306 fun w307 => S94 w307 ∧
     J106 v285 v301 w307)) ∧
   (
    Ef Pr (Instr.alloc 43 true (.tuple #[])) w95 fun v309 w308 => S94 w308 ∧
    (
     Cl Pr (callV (fn 16) #[v238, a1, a2, a3]) w308 fun v311 w310 => S94 w310 ∧
     (
      Cl Pr (callV (fn 12) #[v239]) w310 fun v313 w312 => S94 w312 ∧
      Ef Pr (Instr.alloc 38 true (.tuple #[])) w312 fun v315 w314 => S94 w314 ∧
      Eu Pr (Instr.storeAt 38 v315 v311) w314 fun w316 => S94 w316 ∧
      Eu Pr (Instr.storeAt 43 v309 v313) w316 fun w317 => S94 w317 ∧
      J106 v315 v309 w317) ∧
     (
      Ef Pr (Instr.alloc 38 true (.tuple #[])) w310 fun v319 w318 => S94 w318 ∧
      Cl Pr (callV (fn 12) #[v239]) w318 fun v321 w320 => S94 w320 ∧
      Eu Pr (Instr.storeAt 38 v319 v311) w320 fun w322 => S94 w322 ∧
      Eu Pr (Instr.storeAt 43 v309 v321) w322 fun w323 => S94 w323 ∧
      J106 v319 v309 w323)) ∧
    (
     Ef Pr (Instr.alloc 38 true (.tuple #[])) w308 fun v325 w324 => S94 w324 ∧
     Cl Pr (callV (fn 16) #[v238, a1, a2, a3]) w324 fun v327 w326 => S94 w326 ∧
     Cl Pr (callV (fn 12) #[v239]) w326 fun v329 w328 => S94 w328 ∧
     Eu Pr (Instr.storeAt 38 v325 v327) w328 fun w330 => S94 w330 ∧
     Eu Pr (Instr.storeAt 43 v309 v329) w330 fun w331 => S94 w331 ∧
     J106 v325 v309 w331))
@[irreducible] def t4_4 (w4 : World) (v2 : Value) (a1 : Value) (a2 : Value) (a3 : Value) (K : Value → World → Prop) : Prop :=
  Qu Pr (Is w4) (Instr.loadAt 32 v2) fun v7 =>
  Cl Pr (callV (fn 9) #[v7]) w4 fun v9 w8 =>
  Qu Pr (Is w8) (Op.unary .not v9) fun v10 =>
  Gd v10 false (fun k11 => k11 a1 w8) w8 fun v12 w13 =>
  Gd v10 false (fun k14 => Qu Pr (Is w13) (binS .lss 3 (.tmp 18) (.const (Value.int .i64 0)) v12 (Value.int .i64 0)) fun v17 => k14 v17 w13) w13 fun v15 w16 =>
  Qu Pr (Is w16) (pickS v10 (Value.bool true) v15) fun v18 =>
  Gd v18 false (fun k19 => k19 a1 w16) w16 fun v20 w21 =>
  Gd v18 false (fun k22 => Qu Pr (Is w21) (binS .eql 3 (.tmp 22) (.const (Value.int .i64 2)) v20 (Value.int .i64 2)) fun v25 => k22 v25 w21) w21 fun v23 w24 =>
  Qu Pr (Is w24) (pickS v18 (Value.bool true) v23) fun v26 =>
  Gd v26 false (fun k27 => k27 a1 w24) w24 fun v28 w29 =>
  Gd v26 false (fun k30 => Qu Pr (Is w29) (binS .gtr 3 (.tmp 26) (.const (Value.int .i64 3)) v28 (Value.int .i64 3)) fun v33 => k30 v33 w29) w29 fun v31 w32 =>
  Qu Pr (Is w32) (pickS v26 (Value.bool true) v31) fun v34 =>
  Gd v34 false (fun k35 => k35 a2 w32) w32 fun v36 w37 =>
  Gd v34 false (fun k38 => Qu Pr (Is w37) (Instr.fieldAt 32 v2 1) fun v41 => k38 v41 w37) w37 fun v39 w40 =>
  Gd v34 false (fun k42 => Qu Pr (Is w40) (Instr.loadAt 22 v39) fun v45 => k42 v45 w40) w40 fun v43 w44 =>
  Gd v34 false (fun k46 => Qu Pr (Is w44) (binS .lss 22 (.tmp 30) (.tmp 32) v36 v43) fun v49 => k46 v49 w44) w44 fun v47 w48 =>
  Qu Pr (Is w48) (pickS v34 (Value.bool true) v47) fun v50 =>
  Gd v50 false (fun k51 => k51 a2 w48) w48 fun v52 w53 =>
  Gd v50 false (fun k54 => Qu Pr (Is w53) (binS .gtr 22 (.tmp 36) (.const (Value.int .u64 1099511627776)) v52 (Value.int .u64 1099511627776)) fun v57 => k54 v57 w53) w53 fun v55 w56 =>
  Qu Pr (Is w56) (pickS v50 (Value.bool true) v55) fun v58 =>
  Gd v58 false (fun k59 => k59 a3 w56) w56 fun v60 w61 =>
  Gd v58 false (fun k62 => Qu Pr (Is w61) (binS .geq 22 (.tmp 40) (.const (Value.int .u64 1099511627776)) v60 (Value.int .u64 1099511627776)) fun v65 => k62 v65 w61) w61 fun v63 w64 =>
  Qu Pr (Is w64) (pickS v58 (Value.bool true) v63) fun v66 =>
  Gd v66 false (fun k67 => Qu Pr (Is w64) (Instr.fieldAt 32 v2 4) fun v70 => k67 v70 w64) w64 fun v68 w69 =>
  Gd v66 false (fun k71 => Qu Pr (Is w69) (Instr.loadAt 3 v68) fun v74 => k71 v74 w69) w69 fun v72 w73 =>
  Gd v66 false (fun k75 => Qu Pr (Is w73) (binS .eql 3 (.tmp 45) (.const (Value.int .i64 2)) v72 (Value.int .i64 2)) fun v78 => k75 v78 w73) w73 fun v76 w77 =>
  Gd v66 false (fun k79 => k79 v76 w77) w77 fun v80 w81 =>
  Gd v80 true (fun k82 => k82 a1 w81) w81 fun v83 w84 =>
  Gd v80 true (fun k85 => Qu Pr (Is w84) (binS .neq 3 (.tmp 48) (.const (Value.int .i64 0)) v83 (Value.int .i64 0)) fun v88 => k85 v88 w84) w84 fun v86 w87 =>
  Gd v66 false (fun k89 => Qu Pr (Is w87) (pickS v80 v86 (Value.bool false)) fun v92 => k89 v92 w87) w87 fun v90 w91 =>
  Qu Pr (Is w91) (pickS v66 (Value.bool true) v90) fun v93 =>
  If v93 (
   K (Value.bool true) w91) (t4_3 a1 K a2 a3 v2 w91)
def t4 (a0 a1 a2 a3 : Value) (K : Value → World → Prop) (w : World) : Prop :=
 Ef Pr (Instr.box 32 a0) w fun v2 w1 =>
 Qu Pr (Is w1) (Instr.loadAt 32 v2) fun v3 =>
 Cl Pr (callV (fn 7) #[v3]) w1 fun v5 w4 =>
 Qu Pr (Is w4) (Op.unary .not v5) fun v6 =>
 If v6 (
  K (Value.bool true) w4) (t4_4 w4 v2 a1 a2 a3 K)
theorem c4 {a0 a1 a2 a3 : Value} {K : Value → World → Prop} {w : World} (h : t4 a0 a1 a2 a3 K w) : CK Pr 4 #[a0, a1, a2, a3] w K := by
  refine calls_of_RF [] Tryz.func4 rfl ?_ ?_ ?_
  · kernel_rfl
  · exact Nat.le_of_ble_eq_true rfl
  · exact cast (by kernel_rfl) h

@[irreducible] def t5_1 (w172 : World) (v168 : Value) (τ171 : List Value) (v2 : Value) (v76 : Value) (K : Value → World → Prop) (r170 : List Value → World → Prop) (v173 : Value) : Prop :=
        Qu Pr (Is w172) (Instr.indexAt 29 v168 (g τ171 2)) fun v174 =>
        Qu Pr (Is w172) (Instr.loadAt 60 v174) fun v175 =>
        Ef Pr (Instr.alloc 60 true (.tuple #[])) w172 fun v177 w176 =>
        Eu Pr (Instr.storeAt 60 v177 v175) w176 fun w178 =>
        Qu Pr (Is w178) (Instr.fieldAt 60 v177 0) fun v179 =>
        Qu Pr (Is w178) (Instr.loadAt 22 v179) fun v180 =>
        Qu Pr (Is w178) (Instr.fieldAt 32 v2 0) fun v181 =>
        Qu Pr (Is w178) (Instr.loadAt 22 v181) fun v182 =>
        Qu Pr (Is w178) (binS .neq 22 (.tmp 90) (.tmp 92) v180 v182) fun v183 =>
        Gd v183 true (fun k184 => Qu Pr (Is w178) (Instr.fieldAt 60 v177 1) fun v187 => k184 v187 w178) w178 fun v185 w186 =>
        Gd v183 true (fun k188 => Qu Pr (Is w186) (Instr.fieldAt 58 v185 0) fun v191 => k188 v191 w186) w186 fun v189 w190 =>
        Gd v183 true (fun k192 => Qu Pr (Is w190) (Instr.loadAt 22 v189) fun v195 => k192 v195 w190) w190 fun v193 w194 =>
        Gd v183 true (fun k196 => Qu Pr (Is w194) (binS .neq 22 (.tmp 97) (.const (Value.int .u64 0)) v193 (Value.int .u64 0)) fun v199 => k196 v199 w194) w194 fun v197 w198 =>
        Gd v183 true (fun k200 => k200 v197 w198) w198 fun v201 w202 =>
        Gd v201 false (fun k203 => Qu Pr (Is w202) (Instr.fieldAt 60 v177 1) fun v206 => k203 v206 w202) w202 fun v204 w205 =>
        Gd v201 false (fun k207 => Qu Pr (Is w205) (Instr.fieldAt 58 v204 1) fun v210 => k207 v210 w205) w205 fun v208 w209 =>
        Gd v201 false (fun k211 => Qu Pr (Is w209) (Instr.loadAt 22 v208) fun v214 => k211 v214 w209) w209 fun v212 w213 =>
        Gd v201 false (fun k215 => k215 v76 w213) w213 fun v216 w217 =>
        Gd v201 false (fun k218 => Qu Pr (Is w217) (binS .add 22 (.tmp 103) (.const (Value.int .u64 1)) v216 (Value.int .u64 1)) fun v221 => k218 v221 w217) w217 fun v219 w220 =>
        Gd v201 false (fun k222 => Qu Pr (Is w220) (binS .neq 22 (.tmp 102) (.tmp 104) v212 v219) fun v225 => k222 v225 w220) w220 fun v223 w224 =>
        Gd v183 true (fun k226 => Qu Pr (Is w224) (pickS v201 (Value.bool true) v223) fun v229 => k226 v229 w224) w224 fun v227 w228 =>
        Gd v183 true (fun k230 => k230 v227 w228) w228 fun v231 w232 =>
        Gd v231 false (fun k233 => Qu Pr (Is w232) (Instr.fieldAt 60 v177 1) fun v236 => k233 v236 w232) w232 fun v234 w235 =>
        Gd v231 false (fun k237 => Qu Pr (Is w235) (Instr.fieldAt 58 v234 2) fun v240 => k237 v240 w235) w235 fun v238 w239 =>
        Gd v231 false (fun k241 => Qu Pr (Is w239) (Instr.loadAt 3 v238) fun v244 => k241 v244 w239) w239 fun v242 w243 =>
        Gd v231 false (fun k245 => Qu Pr (Is w243) (binS .neq 3 (.tmp 110) (.const (Value.int .i64 0)) v242 (Value.int .i64 0)) fun v248 => k245 v248 w243) w243 fun v246 w247 =>
        Gd v183 true (fun k249 => Qu Pr (Is w247) (pickS v231 (Value.bool true) v246) fun v252 => k249 v252 w247) w247 fun v250 w251 =>
        Gd v183 true (fun k253 => k253 v250 w251) w251 fun v254 w255 =>
        Gd v254 false (fun k256 => Qu Pr (Is w255) (Instr.fieldAt 60 v177 1) fun v259 => k256 v259 w255) w255 fun v257 w258 =>
        Gd v254 false (fun k260 => Qu Pr (Is w258) (Instr.fieldAt 58 v257 5) fun v263 => k260 v263 w258) w258 fun v261 w262 =>
        Gd v254 false (fun k264 => Qu Pr (Is w262) (Instr.loadAt 4 v261) fun v267 => k264 v267 w262) w262 fun v265 w266 =>
        Gd v183 true (fun k268 => Qu Pr (Is w266) (pickS v254 (Value.bool true) v265) fun v271 => k268 v271 w266) w266 fun v269 w270 =>
        Qu Pr (Is w270) (pickS v183 v269 (Value.bool false)) fun v272 =>
        If v272 (
         K (Value.bool false) w270) (
         Qu Pr (Is w270) (binS .add 3 (.tmp 85) (.const (Value.int .i64 1)) (g τ171 2) (Value.int .i64 1)) fun v273 =>
         r170 [(g τ171 0), v177, v273, v173, v174, v175, v179, v180, v181, v182, v183, v183, v185, v189, v193, v197, v201, v204, v208, v212, v216, v219, v223, v227, v231, v234, v238, v242, v246, v250, v254, v257, v261, v265, v269, v272, v273] w270)
@[irreducible] def t5_2 (w163 : World) (p69 : Value) (v2 : Value) (v76 : Value) (K : Value → World → Prop) : Prop :=
      Qu Pr (Is w163) (Instr.fieldAt 38 p69 0) fun v166 =>
      Qu Pr (Is w163) (Instr.fieldAt 32 v166 12) fun v167 =>
      Qu Pr (Is w163) (Instr.loadAt 29 v167) fun v168 =>
      Qu Pr (Is w163) (Builtin.len_ #[29] 3 #[v168]) fun v169 =>
      LoopW [(Value.bool false), undef, (Value.int .i64 0), undef, undef, undef, undef, undef, undef, undef, undef, undef, undef, undef, undef, undef, undef, undef, undef, undef, undef, undef, undef, undef, undef, undef, undef, undef, undef, undef, undef, undef, undef, undef, undef, undef, undef] (fun r170 τ171 w172 =>
       Qu Pr (Is w172) (binS .lss 3 (.tmp 85) (.tmp 84) (g τ171 2) v169) fun v173 =>
       If v173 (t5_1 w172 v168 τ171 v2 v76 K r170 v173) (
        K (Value.bool true) w172)) w163
@[irreducible] def t5_3 (w71 : World) (p70 : Value) (v2 : Value) (p69 : Value) (K : Value → World → Prop) : Prop :=
     Qu Pr (Is w71) (Instr.loadAt 43 p70) fun v73 =>
     Cl Pr (callV (fn 19) #[v73]) w71 fun v75 w74 =>
     Qu Pr (Is w74) (Instr.extract v75 0) fun v76 =>
     Qu Pr (Is w74) (Instr.extract v75 1) fun _ =>
     Qu Pr (Is w74) (Instr.fieldAt 32 v2 0) fun v78 =>
     Qu Pr (Is w74) (Instr.loadAt 22 v78) fun v79 =>
     Qu Pr (Is w74) (Instr.fieldAt 43 p70 1) fun v80 =>
     Eu Pr (Instr.storeAt 22 v80 v79) w74 fun w81 =>
     Qu Pr (Is w81) (Instr.fieldAt 43 p70 4) fun v82 =>
     Qu Pr (Is w81) (Instr.loadAt 28 v82) fun v83 =>
     Qu Pr (Is w81) (Instr.fieldAt 32 v2 1) fun v84 =>
     Qu Pr (Is w81) (Instr.loadAt 22 v84) fun v85 =>
     Qu Pr (Is w81) (binS .add 22 (.tmp 50) (.const (Value.int .u64 1)) v76 (Value.int .u64 1)) fun v86 =>
     Qu Pr (Is w81) (Instr.build 56 #[(0, v85), (1, v86)]) fun v87 =>
     Ef Pr (Instr.buildSlice 28 1 #[(0, v87)]) w81 fun v89 w88 =>
     Ef Pr (Builtin.append_ #[28, 28] 28 #[v83, v89]) w88 fun v91 w90 =>
     Qu Pr (Is w90) (Instr.fieldAt 43 p70 4) fun v92 =>
     Eu Pr (Instr.storeAt 28 v92 v91) w90 fun w93 =>
     Qu Pr (Is w93) (Instr.fieldAt 38 p69 4) fun v94 =>
     Qu Pr (Is w93) (Instr.loadAt 4 v94) fun v95 =>
     Gd v95 false (fun k96 => Qu Pr (Is w93) (Instr.fieldAt 38 p69 0) fun v99 => k96 v99 w93) w93 fun v97 w98 =>
     Gd v95 false (fun k100 => Qu Pr (Is w98) (Instr.loadAt 32 v97) fun v103 => k100 v103 w98) w98 fun v101 w102 =>
     Gd v95 false (fun k104 => Qu Pr (Is w102) (Instr.loadAt 43 p70) fun v107 => k104 v107 w102) w102 fun v105 w106 =>
     Gd v95 false (fun k108 => Cl Pr (callV (fn 14) #[v101, (Value.int .i64 2), v105]) w106 fun v109x w110x => k108 v109x w110x) w106 fun v109 w110 =>
     Gd v95 false (fun k111 => Qu Pr (Is w110) (Op.unary .not v109) fun v114 => k111 v114 w110) w110 fun v112 w113 =>
     Qu Pr (Is w113) (pickS v95 (Value.bool true) v112) fun v115 =>
     Gd v115 false (fun k116 => Qu Pr (Is w113) (Instr.fieldAt 38 p69 1) fun v119 => k116 v119 w113) w113 fun v117 w118 =>
     Gd v115 false (fun k120 => Qu Pr (Is w118) (Instr.loadAt 36 v117) fun v123 => k120 v123 w118) w118 fun v121 w122 =>
     Gd v115 false (fun k124 => Qu Pr (Is w122) (Builtin.len_ #[36] 3 #[v121]) fun v127 => k124 v127 w122) w122 fun v125 w126 =>
     Gd v115 false (fun k128 => Qu Pr (Is w126) (binS .gtr 3 (.tmp 68) (.const (Value.int .i64 0)) v125 (Value.int .i64 0)) fun v131 => k128 v131 w126) w126 fun v129 w130 =>
     Qu Pr (Is w130) (pickS v115 (Value.bool true) v129) fun v132 =>
     Gd v132 false (fun k133 => Qu Pr (Is w130) (Instr.fieldAt 38 p69 0) fun v136 => k133 v136 w130) w130 fun v134 w135 =>
     Gd v132 false (fun k137 => Qu Pr (Is w135) (Instr.fieldAt 32 v134 12) fun v140 => k137 v140 w135) w135 fun v138 w139 =>
     Gd v132 false (fun k141 => Qu Pr (Is w139) (Instr.loadAt 29 v138) fun v144 => k141 v144 w139) w139 fun v142 w143 =>
     Gd v132 false (fun k145 => Qu Pr (Is w143) (Builtin.len_ #[29] 3 #[v142]) fun v148 => k145 v148 w143) w143 fun v146 w147 =>
     Gd v132 false (fun k149 => Qu Pr (Is w147) (Instr.fieldAt 32 v2 12) fun v152 => k149 v152 w147) w147 fun v150 w151 =>
     Gd v132 false (fun k153 => Qu Pr (Is w151) (Instr.loadAt 29 v150) fun v156 => k153 v156 w151) w151 fun v154 w155 =>
     Gd v132 false (fun k157 => Qu Pr (Is w155) (Builtin.len_ #[29] 3 #[v154]) fun v160 => k157 v160 w155) w155 fun v158 w159 =>
     Gd v132 false (fun k161 => Qu Pr (Is w159) (binS .neq 3 (.tmp 75) (.tmp 78) v146 v158) fun v164 => k161 v164 w159) w159 fun v162 w163 =>
     Qu Pr (Is w163) (pickS v132 (Value.bool true) v162) fun v165 =>
     If v165 (
      K (Value.bool false) w163) (t5_2 w163 p69 v2 v76 K)
@[irreducible] def t5_4 (v274 : Value) (w64 : World) (S63 : World → Prop) (v275 : Value) (J72 : Value → Value → World → Prop) : Prop :=
    Cl Pr (callV (fn 16) #[v274, (Value.int .i64 2), (Value.int .u64 0), (Value.int .u64 0)]) w64 fun v277 w276 => S63 w276 ∧
    (
     Cl Pr (callV (fn 12) #[v275]) w276 fun v279 w278 => S63 w278 ∧
     (
      Ef Pr (Instr.alloc 38 true (.tuple #[])) w278 fun v281 w280 => S63 w280 ∧
      Ef Pr (Instr.alloc 43 true (.tuple #[])) w280 fun v283 w282 => S63 w282 ∧
      Eu Pr (Instr.storeAt 38 v281 v277) w282 fun w284 => S63 w284 ∧
      Eu Pr (Instr.storeAt 43 v283 v279) w284 fun w285 => S63 w285 ∧
      J72 v281 v283 w285) ∧
     (
      Ef Pr (Instr.alloc 43 true (.tuple #[])) w278 fun v287 w286 => S63 w286 ∧
      Ef Pr (Instr.alloc 38 true (.tuple #[])) w286 fun v289 w288 => S63 w288 ∧
      Eu Pr (Instr.storeAt 38 v289 v277) w288 fun w290 => S63 w290 ∧
      Eu Pr (Instr.storeAt 43 v287 v279) w290 fun w291 => S63 w291 ∧
      J72 v289 v287 w291)) ∧
    (
     Ef Pr (Instr.alloc 38 true (.tuple #[])) w276 fun v293 w292 => S63 w292 ∧
     (
      Cl Pr (callV (fn 12) #[v275]) w292 fun v295 w294 => S63 w294 ∧
      Ef Pr (Instr.alloc 43 true (.tuple #[])) w294 fun v297 w296 => S63 w296 ∧
      Eu Pr (Instr.storeAt 38 v293 v277) w296 fun w298 => S63 w298 ∧
      Eu Pr (Instr.storeAt 43 v297 v295) w298 fun w299 => S63 w299 ∧
      J72 v293 v297 w299) ∧
     (
      Ef Pr (Instr.alloc 43 true (.tuple #[])) w292 fun v301 w300 => S63 w300 ∧
      Cl Pr (callV (fn 12) #[v275]) w300 fun v303 w302 => S63 w302 ∧
      Eu Pr (Instr.storeAt 38 v293 v277) w302 fun w304 => S63 w304 ∧
      Eu Pr (Instr.storeAt 43 v301 v303) w304 fun w305 => S63 w305 ∧
      J72 v293 v301 w305)) ∧
    (
     Ef Pr (Instr.alloc 43 true (.tuple #[])) w276 fun v307 w306 => S63 w306 ∧
     (
      Cl Pr (callV (fn 12) #[v275]) w306 fun v309 w308 => S63 w308 ∧
      Ef Pr (Instr.alloc 38 true (.tuple #[])) w308 fun v311 w310 => S63 w310 ∧
      Eu Pr (Instr.storeAt 38 v311 v277) w310 fun w312 => S63 w312 ∧
      Eu Pr (Instr.storeAt 43 v307 v309) w312 fun w313 => S63 w313 ∧
      J72 v311 v307 w313) ∧
     (
      Ef Pr (Instr.alloc 38 true (.tuple #[])) w306 fun v315 w314 => S63 w314 ∧
      Cl Pr (callV (fn 12) #[v275]) w314 fun v317 w316 => S63 w316 ∧
      Eu Pr (Instr.storeAt 38 v315 v277) w316 fun w318 => S63 w318 ∧
      Eu Pr (Instr.storeAt 43 v307 v317) w318 fun w319 => S63 w319 ∧
      J72 v315 v307 w319))
@[irreducible] def t5_5 (w58 : World) (v2 : Value) (K : Value → World → Prop) : Prop :=
   Qu Pr (Is w58) (Instr.fieldAt 32 v2 23) fun v61 =>
   Eu Pr (Instr.storeAt 22 v61 (Value.int .u64 0)) w58 fun w62 =>
   Jo (fun (p69 : Value) (p70 : Value) (w71 : World) => (t5_3 w71 p70 v2 p69 K : Prop)) fun J72 =>
   Dr w62 fun S63 w64 =>
   Qu Pr (S63) (Instr.loadAt 32 v2) fun v274 =>
   Qu Pr (S63) (Instr.loadAt 32 v2) fun v275 =>
   (t5_4 v274 w64 S63 v275 J72) ∧
   (
    Ef Pr (Instr.alloc 38 true (.tuple #[])) w64 fun v321 w320 => S63 w320 ∧
    (
     Cl Pr (callV (fn 16) #[v274, (Value.int .i64 2), (Value.int .u64 0), (Value.int .u64 0)]) w320 fun v323 w322 => S63 w322 ∧
     (
      Cl Pr (callV (fn 12) #[v275]) w322 fun v325 w324 => S63 w324 ∧
      Ef Pr (Instr.alloc 43 true (.tuple #[])) w324 fun v327 w326 => S63 w326 ∧
      Eu Pr (Instr.storeAt 38 v321 v323) w326 fun w328 => S63 w328 ∧
      Eu Pr (Instr.storeAt 43 v327 v325) w328 fun w329 => S63 w329 ∧
      J72 v321 v327 w329) ∧
     (
      Ef Pr (Instr.alloc 43 true (.tuple #[])) w322 fun v331 w330 => S63 w330 ∧
      Cl Pr (callV (fn 12) #[v275]) w330 fun v333 w332 => S63 w332 ∧
      Eu Pr (Instr.storeAt 38 v321 v323) w332 fun w334 => S63 w334 ∧
      Eu Pr (Instr.storeAt 43 v331 v333) w334 fun w335 => S63 w335 ∧
      J72 v321 v331 w335)) ∧
    (
     Ef Pr (Instr.alloc 43 true (.tuple #[])) w320 fun v337 w336 => S63 w336 ∧
     Cl Pr (callV (fn 16) #[v274, (Value.int .i64 2), (Value.int .u64 0), (Value.int .u64 0)]) w336 fun v339 w338 => S63 w338 ∧
     Cl Pr (callV (fn 12) #[v275]) w338 fun v341 w340 => S63 w340 ∧
     Eu Pr (Instr.storeAt 38 v321 v339) w340 fun w342 => S63 w342 ∧
     Eu Pr (Instr.storeAt 43 v337 v341) w342 fun w343 => S63 w343 ∧
     J72 v321 v337 w343)) ∧
   (
    Ef Pr (Instr.alloc 43 true (.tuple #[])) w64 fun v345 w344 => S63 w344 ∧
    (
     Cl Pr (callV (fn 16) #[v274, (Value.int .i64 2), (Value.int .u64 0), (Value.int .u64 0)]) w344 fun v347 w346 => S63 w346 ∧
     (
      Cl Pr (callV (fn 12) #[v275]) w346 fun v349 w348 => S63 w348 ∧
      Ef Pr (Instr.alloc 38 true (.tuple #[])) w348 fun v351 w350 => S63 w350 ∧
      Eu Pr (Instr.storeAt 38 v351 v347) w350 fun w352 => S63 w352 ∧
      Eu Pr (Instr.storeAt 43 v345 v349) w352 fun w353 => S63 w353 ∧
      J72 v351 v345 w353) ∧
     (
      Ef Pr (Instr.alloc 38 true (.tuple #[])) w346 fun v355 w354 => S63 w354 ∧
      Cl Pr (callV (fn 12) #[v275]) w354 fun v357 w356 => S63 w356 ∧
      Eu Pr (Instr.storeAt 38 v355 v347) w356 fun w358 => S63 w358 ∧
      Eu Pr (Instr.storeAt 43 v345 v357) w358 fun w359 => S63 w359 ∧
      J72 v355 v345 w359)) ∧
    (
     Ef Pr (Instr.alloc 38 true (.tuple #[])) w344 fun v361 w360 => S63 w360 ∧
     Cl Pr (callV (fn 16) #[v274, (Value.int .i64 2), (Value.int .u64 0), (Value.int .u64 0)]) w360 fun v363 w362 => S63 w362 ∧
     Cl Pr (callV (fn 12) #[v275]) w362 fun v365 w364 => S63 w364 ∧
     Eu Pr (Instr.storeAt 38 v361 v363) w364 fun w366 => S63 w366 ∧
     Eu Pr (Instr.storeAt 43 v345 v365) w366 fun w367 => S63 w367 ∧
     J72 v361 v345 w367))
@[irreducible] def t5_6 (w4 : World) (v2 : Value) (K : Value → World → Prop) : Prop :=
  Qu Pr (Is w4) (Instr.loadAt 32 v2) fun v7 =>
  Cl Pr (callV (fn 9) #[v7]) w4 fun v9 w8 =>
  Qu Pr (Is w8) (Op.unary .not v9) fun v10 =>
  Gd v10 false (fun k11 => Qu Pr (Is w8) (Instr.fieldAt 32 v2 4) fun v14 => k11 v14 w8) w8 fun v12 w13 =>
  Gd v10 false (fun k15 => Qu Pr (Is w13) (Instr.loadAt 3 v12) fun v18 => k15 v18 w13) w13 fun v16 w17 =>
  Gd v10 false (fun k19 => Qu Pr (Is w17) (binS .neq 3 (.tmp 17) (.const (Value.int .i64 1)) v16 (Value.int .i64 1)) fun v22 => k19 v22 w17) w17 fun v20 w21 =>
  Qu Pr (Is w21) (pickS v10 (Value.bool true) v20) fun v23 =>
  Gd v23 false (fun k24 => Qu Pr (Is w21) (Instr.fieldAt 32 v2 10) fun v27 => k24 v27 w21) w21 fun v25 w26 =>
  Gd v23 false (fun k28 => Qu Pr (Is w26) (Instr.loadAt 23 v25) fun v31 => k28 v31 w26) w26 fun v29 w30 =>
  Gd v23 false (fun k32 => Qu Pr (Is w30) (Instr.fieldAt 32 v2 0) fun v35 => k32 v35 w30) w30 fun v33 w34 =>
  Gd v23 false (fun k36 => Qu Pr (Is w34) (Instr.loadAt 22 v33) fun v39 => k36 v39 w34) w34 fun v37 w38 =>
  Gd v23 false (fun k40 => Cl Pr (callV (fn 18) #[v29, v37]) w38 fun v41x w42x => k40 v41x w42x) w38 fun v41 w42 =>
  Gd v23 false (fun k43 => Qu Pr (Is w42) (Op.unary .not v41) fun v46 => k43 v46 w42) w42 fun v44 w45 =>
  Qu Pr (Is w45) (pickS v23 (Value.bool true) v44) fun v47 =>
  Gd v47 false (fun k48 => Qu Pr (Is w45) (Instr.fieldAt 32 v2 22) fun v51 => k48 v51 w45) w45 fun v49 w50 =>
  Gd v47 false (fun k52 => Qu Pr (Is w50) (Instr.loadAt 22 v49) fun v55 => k52 v55 w50) w50 fun v53 w54 =>
  Gd v47 false (fun k56 => Qu Pr (Is w54) (binS .gtr 22 (.tmp 30) (.const (Value.int .u64 1099511627776)) v53 (Value.int .u64 1099511627776)) fun v59 => k56 v59 w54) w54 fun v57 w58 =>
  Qu Pr (Is w58) (pickS v47 (Value.bool true) v57) fun v60 =>
  If v60 (
   K (Value.bool true) w58) (t5_5 w58 v2 K)
def t5 (a0 : Value) (K : Value → World → Prop) (w : World) : Prop :=
 Ef Pr (Instr.box 32 a0) w fun v2 w1 =>
 Qu Pr (Is w1) (Instr.loadAt 32 v2) fun v3 =>
 Cl Pr (callV (fn 7) #[v3]) w1 fun v5 w4 =>
 Qu Pr (Is w4) (Op.unary .not v5) fun v6 =>
 If v6 (
  K (Value.bool true) w4) (t5_6 w4 v2 K)
theorem c5 {a0 : Value} {K : Value → World → Prop} {w : World} (h : t5 a0 K w) : CK Pr 5 #[a0] w K := by
  refine calls_of_RF [(13, [2, 8, 85, 86, 87, 88, 89, 90, 91, 92, 93, 94, 95, 96, 97, 98, 99, 100, 101, 102, 103, 104, 105, 106, 107, 108, 109, 110, 111, 112, 113, 114, 115, 116, 117, 118, 119])] Tryz.func5 rfl ?_ ?_ ?_
  · kernel_rfl
  · exact Nat.le_of_ble_eq_true rfl
  · exact cast (by kernel_rfl) h

@[irreducible] def t6_1 (w104 : World) (v91 : Value) (v2 : Value) (a1 : Value) (p102 : Value) (K : Value → World → Prop) : Prop :=
     Dr w104 fun S106 w107 =>
     Qu Pr (S106) (Instr.fieldAt 38 v91 4) fun v108 =>
     Qu Pr (S106) (Instr.loadAt 4 v108) fun v109 =>
     Qu Pr (S106) (Op.unary .not v109) fun v110 =>
     Gd v110 true (fun k111 => Qu Pr (S106) (Instr.fieldAt 38 v91 1) fun v114 => k111 v114 w107) w107 fun v112 w113 =>
     Gd v110 true (fun k115 => Qu Pr (S106) (Instr.loadAt 36 v112) fun v118 => k115 v118 w113) w113 fun v116 w117 =>
     Gd v110 true (fun k119 => Qu Pr (S106) (Builtin.len_ #[36] 3 #[v116]) fun v122 => k119 v122 w117) w117 fun v120 w121 =>
     Gd v110 true (fun k123 => Qu Pr (S106) (binS .eql 3 (.tmp 65) (.const (Value.int .i64 0)) v120 (Value.int .i64 0)) fun v126 => k123 v126 w121) w121 fun v124 w125 =>
     Qu Pr (S106) (pickS v110 v124 (Value.bool false)) fun v127 =>
     Gd v127 true (fun k128 => Qu Pr (S106) (Instr.fieldAt 38 v91 2) fun v131 => k128 v131 w125) w125 fun v129 w130 =>
     Gd v127 true (fun k132 => Qu Pr (S106) (Instr.loadAt 36 v129) fun v135 => k132 v135 w130) w130 fun v133 w134 =>
     Gd v127 true (fun k136 => Qu Pr (S106) (Instr.loadAt 32 v2) fun v139 => k136 v139 w134) w134 fun v137 w138 =>
     Gd v127 true (fun k140 => k140 a1 w138) w138 fun v141 w142 =>
     Gd v127 true (fun k143 => Cl Pr (callV (fn 22) #[v133, v137, (Value.int .i64 4), v141]) w142 fun v144x w145x => S106 w145x ∧ k143 v144x w145x) w142 fun v144 w145 =>
     Qu Pr (S106) (pickS v127 v144 (Value.bool false)) fun v146 =>
     Gd v146 true (fun k147 => Qu Pr (S106) (Instr.fieldAt 38 v91 2) fun v150 => k147 v150 w145) w145 fun v148 w149 =>
     Gd v146 true (fun k151 => Qu Pr (S106) (Instr.loadAt 36 v148) fun v154 => k151 v154 w149) w149 fun v152 w153 =>
     Gd v146 true (fun k155 => Qu Pr (S106) (Instr.indexAt 36 v152 (Value.int .i64 0)) fun v158 => k155 v158 w153) w153 fun v156 w157 =>
     Gd v146 true (fun k159 => Qu Pr (S106) (Instr.fieldAt 64 v156 11) fun v162 => k159 v162 w157) w157 fun v160 w161 =>
     Gd v146 true (fun k163 => Qu Pr (S106) (Instr.loadAt 4 v160) fun v166 => k163 v166 w161) w161 fun v164 w165 =>
     Gd v146 true (fun k167 => Qu Pr (S106) (Op.unary .not v164) fun v170 => k167 v170 w165) w165 fun v168 w169 =>
     Qu Pr (S106) (pickS v146 v168 (Value.bool false)) fun v171 =>
     Gd v171 true (fun k172 => Qu Pr (S106) (Instr.fieldAt 38 v91 2) fun v175 => k172 v175 w169) w169 fun v173 w174 =>
     Gd v171 true (fun k176 => Qu Pr (S106) (Instr.loadAt 36 v173) fun v179 => k176 v179 w174) w174 fun v177 w178 =>
     Gd v171 true (fun k180 => Qu Pr (S106) (Instr.indexAt 36 v177 (Value.int .i64 0)) fun v183 => k180 v183 w178) w178 fun v181 w182 =>
     Gd v171 true (fun k184 => Qu Pr (S106) (Instr.fieldAt 64 v181 5) fun v187 => k184 v187 w182) w182 fun v185 w186 =>
     Gd v171 true (fun k188 => Qu Pr (S106) (Instr.loadAt 22 v185) fun v191 => k188 v191 w186) w186 fun v189 w190 =>
     Gd v171 true (fun k192 => Qu Pr (S106) (Instr.fieldAt 43 p102 2) fun v195 => k192 v195 w190) w190 fun v193 w194 =>
     Gd v171 true (fun k196 => Qu Pr (S106) (Instr.fieldAt 41 v193 2) fun v199 => k196 v199 w194) w194 fun v197 w198 =>
     Gd v171 true (fun k200 => Qu Pr (S106) (Instr.loadAt 22 v197) fun v203 => k200 v203 w198) w198 fun v201 w202 =>
     Gd v171 true (fun k204 => Qu Pr (S106) (binS .eql 22 (.tmp 88) (.tmp 91) v189 v201) fun v207 => k204 v207 w202) w202 fun v205 w206 =>
     Qu Pr (S106) (pickS v171 v205 (Value.bool false)) fun v208 =>
     Gd v208 true (fun k209 => Qu Pr (S106) (Instr.fieldAt 38 v91 0) fun v212 => k209 v212 w206) w206 fun v210 w211 =>
     Gd v208 true (fun k213 => Qu Pr (S106) (Instr.loadAt 32 v210) fun v216 => k213 v216 w211) w211 fun v214 w215 =>
     Gd v208 true (fun k217 => Qu Pr (S106) (Instr.fieldAt 32 v2 4) fun v220 => k217 v220 w215) w215 fun v218 w219 =>
     Gd v208 true (fun k221 => Qu Pr (S106) (Instr.loadAt 3 v218) fun v224 => k221 v224 w219) w219 fun v222 w223 =>
     Gd v208 true (fun k225 => Qu Pr (S106) (Instr.loadAt 43 p102) fun v228 => k225 v228 w223) w223 fun v226 w227 =>
     Gd v208 true (fun k229 => Cl Pr (callV (fn 14) #[v214, v222, v226]) w227 fun v230x w231x => S106 w231x ∧ k229 v230x w231x) w227 fun v230 w231 =>
     Qu Pr (S106) (pickS v208 v230 (Value.bool false)) fun v232 =>
     K v232 w231
@[irreducible] def t6_2 (w78 : World) (v2 : Value) (v4 : Value) (a1 : Value) (K : Value → World → Prop) : Prop :=
   Qu Pr (Is w78) (Instr.loadAt 32 v2) fun v81 =>
   Qu Pr (Is w78) (Instr.fieldAt 32 v2 0) fun v82 =>
   Qu Pr (Is w78) (Instr.loadAt 22 v82) fun v83 =>
   Qu Pr (Is w78) (Instr.fieldAt 32 v2 1) fun v84 =>
   Qu Pr (Is w78) (Instr.loadAt 22 v84) fun v85 =>
   Qu Pr (Is w78) (Instr.loadAt 27 v4) fun v86 =>
   Qu Pr (Is w78) (Instr.build 64 #[(0, (Value.int .i64 7)), (1, v83), (2, a1), (3, v85), (10, v86)]) fun v87 =>
   Cl Pr (callV (fn 21) #[v81, v87]) w78 fun v89 w88 =>
   Ef Pr (Instr.alloc 38 true (.tuple #[])) w88 fun v91 w90 =>
   Eu Pr (Instr.storeAt 38 v91 v89) w90 fun w92 =>
   Jo (fun (p102 : Value) (w104 : World) => (t6_1 w104 v91 v2 a1 p102 K : Prop)) fun J105 =>
   Dr w92 fun S93 w94 =>
   Qu Pr (S93) (Instr.loadAt 32 v2) fun v233 =>
   Qu Pr (S93) (Instr.loadAt 27 v4) fun v234 =>
   (
    Cl Pr (callV (fn 12) #[v233]) w94 fun v236 w235 => S93 w235 ∧
    (
     Cl Pr (callV (fn 13) #[v236, v234]) w235 fun v238 w237 => S93 w237 ∧
     Qu Pr (S93) (Instr.extract v238 0) fun v239 =>
     Qu Pr (S93) (Instr.extract v238 1) fun _ =>
     Ef Pr (Instr.alloc 43 true (.tuple #[])) w237 fun v242 w241 => S93 w241 ∧
     Eu Pr (Instr.storeAt 43 v242 v239) w241 fun w243 => S93 w243 ∧
     J105 v242 w243) ∧
    (
     Ef Pr (Instr.alloc 43 true (.tuple #[])) w235 fun v245 w244 => S93 w244 ∧
     Cl Pr (callV (fn 13) #[v236, v234]) w244 fun v247 w246 => S93 w246 ∧
     Qu Pr (S93) (Instr.extract v247 0) fun v248 =>
     Qu Pr (S93) (Instr.extract v247 1) fun _ =>
     Eu Pr (Instr.storeAt 43 v245 v248) w246 fun w250 => S93 w250 ∧
     J105 v245 w250)) ∧
   (
    Ef Pr (Instr.alloc 43 true (.tuple #[])) w94 fun v252 w251 => S93 w251 ∧
    Cl Pr (callV (fn 12) #[v233]) w251 fun v254 w253 => S93 w253 ∧
    Cl Pr (callV (fn 13) #[v254, v234]) w253 fun v256 w255 => S93 w255 ∧
    Qu Pr (S93) (Instr.extract v256 0) fun v257 =>
    Qu Pr (S93) (Instr.extract v256 1) fun _ =>
    Eu Pr (Instr.storeAt 43 v252 v257) w255 fun w259 => S93 w259 ∧
    J105 v252 w259)
@[irreducible] def t6_3 (w18 : World) (v2 : Value) (a1 : Value) (v4 : Value) (K : Value → World → Prop) : Prop :=
  Qu Pr (Is w18) (Instr.loadAt 32 v2) fun v21 =>
  Cl Pr (callV (fn 9) #[v21]) w18 fun v23 w22 =>
  Qu Pr (Is w22) (Op.unary .not v23) fun v24 =>
  Gd v24 false (fun k25 => Qu Pr (Is w22) (Instr.fieldAt 32 v2 4) fun v28 => k25 v28 w22) w22 fun v26 w27 =>
  Gd v24 false (fun k29 => Qu Pr (Is w27) (Instr.loadAt 3 v26) fun v32 => k29 v32 w27) w27 fun v30 w31 =>
  Gd v24 false (fun k33 => Qu Pr (Is w31) (binS .neq 3 (.tmp 23) (.const (Value.int .i64 0)) v30 (Value.int .i64 0)) fun v36 => k33 v36 w31) w31 fun v34 w35 =>
  Qu Pr (Is w35) (pickS v24 (Value.bool true) v34) fun v37 =>
  Gd v37 false (fun k38 => k38 a1 w35) w35 fun v39 w40 =>
  Gd v37 false (fun k41 => Cl Pr (callV (fn 20) #[v39]) w40 fun v42x w43x => k41 v42x w43x) w40 fun v42 w43 =>
  Gd v37 false (fun k44 => Qu Pr (Is w43) (Op.unary .not v42) fun v47 => k44 v47 w43) w43 fun v45 w46 =>
  Qu Pr (Is w46) (pickS v37 (Value.bool true) v45) fun v48 =>
  Gd v48 false (fun k49 => k49 a1 w46) w46 fun v50 w51 =>
  Gd v48 false (fun k52 => Qu Pr (Is w51) (Instr.fieldAt 32 v2 0) fun v55 => k52 v55 w51) w51 fun v53 w54 =>
  Gd v48 false (fun k56 => Qu Pr (Is w54) (Instr.loadAt 22 v53) fun v59 => k56 v59 w54) w54 fun v57 w58 =>
  Gd v48 false (fun k60 => Qu Pr (Is w58) (binS .eql 22 (.tmp 32) (.tmp 34) v50 v57) fun v63 => k60 v63 w58) w58 fun v61 w62 =>
  Qu Pr (Is w62) (pickS v48 (Value.bool true) v61) fun v64 =>
  Gd v64 false (fun k65 => Qu Pr (Is w62) (Instr.loadAt 32 v2) fun v68 => k65 v68 w62) w62 fun v66 w67 =>
  Gd v64 false (fun k69 => Qu Pr (Is w67) (Instr.loadAt 27 v4) fun v72 => k69 v72 w67) w67 fun v70 w71 =>
  Gd v64 false (fun k73 => Cl Pr (callV (fn 10) #[v66, v70]) w71 fun v74x w75x => k73 v74x w75x) w71 fun v74 w75 =>
  Gd v64 false (fun k76 => Qu Pr (Is w75) (Op.unary .not v74) fun v79 => k76 v79 w75) w75 fun v77 w78 =>
  Qu Pr (Is w78) (pickS v64 (Value.bool true) v77) fun v80 =>
  If v80 (
   K (Value.bool true) w78) (t6_2 w78 v2 v4 a1 K)
def t6 (a0 a1 a2 : Value) (K : Value → World → Prop) (w : World) : Prop :=
 Ef Pr (Instr.box 32 a0) w fun v2 w1 =>
 Ef Pr (Instr.box 27 a2) w1 fun v4 w3 =>
 Qu Pr (Is w3) (Instr.loadAt 32 v2) fun v5 =>
 Cl Pr (callV (fn 7) #[v5]) w3 fun v7 w6 =>
 Qu Pr (Is w6) (Op.unary .not v7) fun v8 =>
 Gd v8 false (fun k9 => Qu Pr (Is w6) (Instr.loadAt 27 v4) fun v12 => k9 v12 w6) w6 fun v10 w11 =>
 Gd v8 false (fun k13 => Cl Pr (callV (fn 8) #[v10]) w11 fun v14x w15x => k13 v14x w15x) w11 fun v14 w15 =>
 Gd v8 false (fun k16 => Qu Pr (Is w15) (Op.unary .not v14) fun v19 => k16 v19 w15) w15 fun v17 w18 =>
 Qu Pr (Is w18) (pickS v8 (Value.bool true) v17) fun v20 =>
 If v20 (
  K (Value.bool true) w18) (t6_3 w18 v2 a1 v4 K)
theorem c6 {a0 a1 a2 : Value} {K : Value → World → Prop} {w : World} (h : t6 a0 a1 a2 K w) : CK Pr 6 #[a0, a1, a2] w K := by
  refine calls_of_RF [] Tryz.func6 rfl ?_ ?_ ?_
  · kernel_rfl
  · exact Nat.le_of_ble_eq_true rfl
  · exact cast (by kernel_rfl) h

@[irreducible] def t7_1 (w5 : World) (v2 : Value) (K : Value → World → Prop) : Prop :=
  Qu Pr (Is w5) (Instr.fieldAt 32 v2 6) fun v8 =>
  Qu Pr (Is w5) (Instr.loadAt 28 v8) fun v9 =>
  Cl Pr (callV (fn 23) #[v9]) w5 fun v11 w10 =>
  Qu Pr (Is w10) (Op.unary .not v11) fun v12 =>
  If v12 (
   K (Value.bool false) w10) (
   Qu Pr (Is w10) (Instr.fieldAt 32 v2 7) fun v13 =>
   Qu Pr (Is w10) (Instr.loadAt 28 v13) fun v14 =>
   Cl Pr (callV (fn 23) #[v14]) w10 fun v16 w15 =>
   Qu Pr (Is w15) (Op.unary .not v16) fun v17 =>
   If v17 (
    K (Value.bool false) w15) (
    Qu Pr (Is w15) (Instr.fieldAt 32 v2 10) fun v18 =>
    Qu Pr (Is w15) (Instr.loadAt 23 v18) fun v19 =>
    Qu Pr (Is w15) (Builtin.len_ #[23] 3 #[v19]) fun v20 =>
    Qu Pr (Is w15) (binS .gtr 3 (.tmp 17) (.const (Value.int .i64 2147483647)) v20 (Value.int .i64 2147483647)) fun v21 =>
    If v21 (
     K (Value.bool false) w15) (
     Qu Pr (Is w15) (Instr.fieldAt 32 v2 11) fun v22 =>
     Qu Pr (Is w15) (Instr.loadAt 23 v22) fun v23 =>
     Qu Pr (Is w15) (Builtin.len_ #[23] 3 #[v23]) fun v24 =>
     Qu Pr (Is w15) (binS .gtr 3 (.tmp 21) (.const (Value.int .i64 2147483647)) v24 (Value.int .i64 2147483647)) fun v25 =>
     If v25 (
      K (Value.bool false) w15) (
      Qu Pr (Is w15) (Instr.fieldAt 32 v2 12) fun v26 =>
      Qu Pr (Is w15) (Instr.loadAt 29 v26) fun v27 =>
      Cl Pr (callV (fn 24) #[v27]) w15 fun v29 w28 =>
      Qu Pr (Is w28) (Op.unary .not v29) fun v30 =>
      If v30 (
       K (Value.bool false) w28) (
       Qu Pr (Is w28) (Instr.fieldAt 32 v2 13) fun v31 =>
       Qu Pr (Is w28) (Instr.loadAt 30 v31) fun v32 =>
       Qu Pr (Is w28) (Builtin.len_ #[30] 3 #[v32]) fun v33 =>
       Qu Pr (Is w28) (binS .gtr 3 (.tmp 29) (.const (Value.int .i64 2147483647)) v33 (Value.int .i64 2147483647)) fun v34 =>
       If v34 (
        K (Value.bool false) w28) (
        K (Value.bool true) w28))))))
def t7 (a0 : Value) (K : Value → World → Prop) (w : World) : Prop :=
 Ef Pr (Instr.box 32 a0) w fun v2 w1 =>
 Qu Pr (Is w1) (Instr.fieldAt 32 v2 5) fun v3 =>
 Qu Pr (Is w1) (Instr.loadAt 27 v3) fun v4 =>
 Cl Pr (callV (fn 8) #[v4]) w1 fun v6 w5 =>
 Qu Pr (Is w5) (Op.unary .not v6) fun v7 =>
 If v7 (
  K (Value.bool false) w5) (t7_1 w5 v2 K)
theorem c7 {a0 : Value} {K : Value → World → Prop} {w : World} (h : t7 a0 K w) : CK Pr 7 #[a0] w K := by
  refine calls_of_RF [] Tryz.func7 rfl ?_ ?_ ?_
  · kernel_rfl
  · exact Nat.le_of_ble_eq_true rfl
  · exact cast (by kernel_rfl) h

def t8 (a0 : Value) (K : Value → World → Prop) (w : World) : Prop :=
 Ef Pr (Instr.box 27 a0) w fun v2 w1 =>
 Qu Pr (Is w1) (Instr.fieldAt 27 v2 0) fun v3 =>
 Qu Pr (Is w1) (Instr.loadAt 9 v3) fun v4 =>
 Qu Pr (Is w1) (Builtin.len_ #[9] 3 #[v4]) fun v5 =>
 Qu Pr (Is w1) (binS .gtr 3 (.tmp 5) (.const (Value.int .i64 2147483647)) v5 (Value.int .i64 2147483647)) fun v6 =>
 If v6 (
  K (Value.bool false) w1) (
  Qu Pr (Is w1) (Instr.fieldAt 27 v2 3) fun v7 =>
  Qu Pr (Is w1) (Instr.loadAt 25 v7) fun v8 =>
  Cl Pr (callV (fn 25) #[v8]) w1 fun v10 w9 =>
  Qu Pr (Is w9) (Op.unary .not v10) fun v11 =>
  If v11 (
   K (Value.bool false) w9) (
   K (Value.bool true) w9))
theorem c8 {a0 : Value} {K : Value → World → Prop} {w : World} (h : t8 a0 K w) : CK Pr 8 #[a0] w K := by
  refine calls_of_RF [] Tryz.func8 rfl ?_ ?_ ?_
  · kernel_rfl
  · exact Nat.le_of_ble_eq_true rfl
  · exact cast (by kernel_rfl) h

@[irreducible] def t9_1 (w499 : World) (v495 : Value) (τ498 : List Value) (v2 : Value) (v263 : Value) (K : Value → World → Prop) (r497 : List Value → World → Prop) (v500 : Value) : Prop :=
       Qu Pr (Is w499) (Instr.indexAt 29 v495 (g τ498 3)) fun v501 =>
       Qu Pr (Is w499) (Instr.loadAt 60 v501) fun v502 =>
       Ef Pr (Instr.alloc 60 true (.tuple #[])) w499 fun v504 w503 =>
       Eu Pr (Instr.storeAt 60 v504 v502) w503 fun w505 =>
       Dr w505 fun S506 w507 =>
       Qu Pr (S506) (Instr.loadAt 32 v2) fun v508 =>
       Qu Pr (S506) (Instr.fieldAt 60 v504 0) fun v509 =>
       Qu Pr (S506) (Instr.loadAt 22 v509) fun v510 =>
       Cl Pr (callV (fn 27) #[v508, v510]) w507 fun v512 w511 => S506 w511 ∧
       Qu Pr (S506) (Op.unary .not v512) fun v513 =>
       Gd v513 false (fun k514 => k514 (g τ498 3) w511) w511 fun v515 w516 =>
       Gd v513 false (fun k517 => Qu Pr (S506) (binS .gtr 3 (.tmp 211) (.const (Value.int .i64 0)) v515 (Value.int .i64 0)) fun v520 => k517 v520 w516) w516 fun v518 w519 =>
       Gd v513 false (fun k521 => k521 v518 w519) w519 fun v522 w523 =>
       Gd v522 true (fun k524 => Qu Pr (S506) (Instr.fieldAt 60 v504 0) fun v527 => k524 v527 w523) w523 fun v525 w526 =>
       Gd v522 true (fun k528 => Qu Pr (S506) (Instr.loadAt 22 v525) fun v531 => k528 v531 w526) w526 fun v529 w530 =>
       Gd v522 true (fun k532 => Qu Pr (S506) (Instr.fieldAt 32 v2 12) fun v535 => k532 v535 w530) w530 fun v533 w534 =>
       Gd v522 true (fun k536 => Qu Pr (S506) (Instr.loadAt 29 v533) fun v539 => k536 v539 w534) w534 fun v537 w538 =>
       Gd v522 true (fun k540 => k540 (g τ498 3) w538) w538 fun v541 w542 =>
       Gd v522 true (fun k543 => Qu Pr (S506) (binS .sub 3 (.tmp 218) (.const (Value.int .i64 1)) v541 (Value.int .i64 1)) fun v546 => k543 v546 w542) w542 fun v544 w545 =>
       Gd v522 true (fun k547 => Qu Pr (S506) (Instr.indexAt 29 v537 v544) fun v550 => k547 v550 w545) w545 fun v548 w549 =>
       Gd v522 true (fun k551 => Qu Pr (S506) (Instr.fieldAt 60 v548 0) fun v554 => k551 v554 w549) w549 fun v552 w553 =>
       Gd v522 true (fun k555 => Qu Pr (S506) (Instr.loadAt 22 v552) fun v558 => k555 v558 w553) w553 fun v556 w557 =>
       Gd v522 true (fun k559 => Qu Pr (S506) (binS .leq 22 (.tmp 215) (.tmp 222) v529 v556) fun v562 => k559 v562 w557) w557 fun v560 w561 =>
       Gd v513 false (fun k563 => Qu Pr (S506) (pickS v522 v560 (Value.bool false)) fun v566 => k563 v566 w561) w561 fun v564 w565 =>
       Qu Pr (S506) (pickS v513 (Value.bool true) v564) fun v567 =>
       Gd v567 false (fun k568 => Qu Pr (S506) (Instr.fieldAt 60 v504 1) fun v571 => k568 v571 w565) w565 fun v569 w570 =>
       Gd v567 false (fun k572 => Qu Pr (S506) (Instr.fieldAt 58 v569 6) fun v575 => k572 v575 w570) w570 fun v573 w574 =>
       Gd v567 false (fun k576 => Qu Pr (S506) (Instr.loadAt 4 v573) fun v579 => k576 v579 w574) w574 fun v577 w578 =>
       Gd v567 false (fun k580 => Qu Pr (S506) (Instr.fieldAt 32 v2 11) fun v583 => k580 v583 w578) w578 fun v581 w582 =>
       Gd v567 false (fun k584 => Qu Pr (S506) (Instr.loadAt 23 v581) fun v587 => k584 v587 w582) w582 fun v585 w586 =>
       Gd v567 false (fun k588 => Qu Pr (S506) (Instr.fieldAt 60 v504 0) fun v591 => k588 v591 w586) w586 fun v589 w590 =>
       Gd v567 false (fun k592 => Qu Pr (S506) (Instr.loadAt 22 v589) fun v595 => k592 v595 w590) w590 fun v593 w594 =>
       Gd v567 false (fun k596 => Cl Pr (callV (fn 18) #[v585, v593]) w594 fun v597x w598x => S506 w598x ∧ k596 v597x w598x) w594 fun v597 w598 =>
       Gd v567 false (fun k599 => Qu Pr (S506) (binS .neq 4 (.tmp 229) (.tmp 234) v577 v597) fun v602 => k599 v602 w598) w598 fun v600 w601 =>
       Qu Pr (S506) (pickS v567 (Value.bool true) v600) fun v603 =>
       Gd v603 false (fun k604 => Qu Pr (S506) (Instr.fieldAt 60 v504 1) fun v607 => k604 v607 w601) w601 fun v605 w606 =>
       Gd v603 false (fun k608 => Qu Pr (S506) (Instr.fieldAt 58 v605 0) fun v611 => k608 v611 w606) w606 fun v609 w610 =>
       Gd v603 false (fun k612 => Qu Pr (S506) (Instr.loadAt 22 v609) fun v615 => k612 v615 w610) w610 fun v613 w614 =>
       Gd v603 false (fun k616 => Qu Pr (S506) (Instr.fieldAt 60 v504 1) fun v619 => k616 v619 w614) w614 fun v617 w618 =>
       Gd v603 false (fun k620 => Qu Pr (S506) (Instr.fieldAt 58 v617 1) fun v623 => k620 v623 w618) w618 fun v621 w622 =>
       Gd v603 false (fun k624 => Qu Pr (S506) (Instr.loadAt 22 v621) fun v627 => k624 v627 w622) w622 fun v625 w626 =>
       Gd v603 false (fun k628 => Qu Pr (S506) (binS .geq 22 (.tmp 240) (.tmp 243) v613 v625) fun v631 => k628 v631 w626) w626 fun v629 w630 =>
       Qu Pr (S506) (pickS v603 (Value.bool true) v629) fun v632 =>
       Gd v632 false (fun k633 => Qu Pr (S506) (Instr.fieldAt 60 v504 1) fun v636 => k633 v636 w630) w630 fun v634 w635 =>
       Gd v632 false (fun k637 => Qu Pr (S506) (Instr.fieldAt 58 v634 1) fun v640 => k637 v640 w635) w635 fun v638 w639 =>
       Gd v632 false (fun k641 => Qu Pr (S506) (Instr.loadAt 22 v638) fun v644 => k641 v644 w639) w639 fun v642 w643 =>
       Gd v632 false (fun k645 => k645 v263 w643) w643 fun v646 w647 =>
       Gd v632 false (fun k648 => Qu Pr (S506) (binS .add 22 (.tmp 250) (.const (Value.int .u64 1)) v646 (Value.int .u64 1)) fun v651 => k648 v651 w647) w647 fun v649 w650 =>
       Gd v632 false (fun k652 => Qu Pr (S506) (binS .gtr 22 (.tmp 249) (.tmp 251) v642 v649) fun v655 => k652 v655 w650) w650 fun v653 w654 =>
       Qu Pr (S506) (pickS v632 (Value.bool true) v653) fun v656 =>
       Gd v656 false (fun k657 => Qu Pr (S506) (Instr.fieldAt 60 v504 1) fun v660 => k657 v660 w654) w654 fun v658 w659 =>
       Gd v656 false (fun k661 => Qu Pr (S506) (Instr.fieldAt 58 v658 2) fun v664 => k661 v664 w659) w659 fun v662 w663 =>
       Gd v656 false (fun k665 => Qu Pr (S506) (Instr.loadAt 3 v662) fun v668 => k665 v668 w663) w663 fun v666 w667 =>
       Gd v656 false (fun k669 => Qu Pr (S506) (binS .lss 3 (.tmp 257) (.const (Value.int .i64 0)) v666 (Value.int .i64 0)) fun v672 => k669 v672 w667) w667 fun v670 w671 =>
       Qu Pr (S506) (pickS v656 (Value.bool true) v670) fun v673 =>
       Gd v673 false (fun k674 => Qu Pr (S506) (Instr.fieldAt 60 v504 1) fun v677 => k674 v677 w671) w671 fun v675 w676 =>
       Gd v673 false (fun k678 => Qu Pr (S506) (Instr.fieldAt 58 v675 2) fun v681 => k678 v681 w676) w676 fun v679 w680 =>
       Gd v673 false (fun k682 => Qu Pr (S506) (Instr.loadAt 3 v679) fun v685 => k682 v685 w680) w680 fun v683 w684 =>
       Gd v673 false (fun k686 => Qu Pr (S506) (binS .gtr 3 (.tmp 263) (.const (Value.int .i64 1)) v683 (Value.int .i64 1)) fun v689 => k686 v689 w684) w684 fun v687 w688 =>
       Qu Pr (S506) (pickS v673 (Value.bool true) v687) fun v690 =>
       Gd v690 false (fun k691 => Qu Pr (S506) (Instr.fieldAt 60 v504 1) fun v694 => k691 v694 w688) w688 fun v692 w693 =>
       Gd v690 false (fun k695 => Qu Pr (S506) (Instr.fieldAt 58 v692 3) fun v698 => k695 v698 w693) w693 fun v696 w697 =>
       Gd v690 false (fun k699 => Qu Pr (S506) (Instr.loadAt 22 v696) fun v702 => k699 v702 w697) w697 fun v700 w701 =>
       Gd v690 false (fun k703 => Qu Pr (S506) (binS .neq 22 (.tmp 269) (.const (Value.int .u64 0)) v700 (Value.int .u64 0)) fun v706 => k703 v706 w701) w701 fun v704 w705 =>
       Qu Pr (S506) (pickS v690 (Value.bool true) v704) fun v707 =>
       Gd v707 false (fun k708 => Qu Pr (S506) (Instr.fieldAt 60 v504 1) fun v711 => k708 v711 w705) w705 fun v709 w710 =>
       Gd v707 false (fun k712 => Qu Pr (S506) (Instr.fieldAt 58 v709 7) fun v715 => k712 v715 w710) w710 fun v713 w714 =>
       Gd v707 false (fun k716 => Qu Pr (S506) (Instr.loadAt 3 v713) fun v719 => k716 v719 w714) w714 fun v717 w718 =>
       Gd v707 false (fun k720 => Qu Pr (S506) (binS .lss 3 (.tmp 275) (.const (Value.int .i64 1)) v717 (Value.int .i64 1)) fun v723 => k720 v723 w718) w718 fun v721 w722 =>
       Qu Pr (S506) (pickS v707 (Value.bool true) v721) fun v724 =>
       Gd v724 false (fun k725 => Qu Pr (S506) (Instr.fieldAt 60 v504 1) fun v728 => k725 v728 w722) w722 fun v726 w727 =>
       Gd v724 false (fun k729 => Qu Pr (S506) (Instr.fieldAt 58 v726 7) fun v732 => k729 v732 w727) w727 fun v730 w731 =>
       Gd v724 false (fun k733 => Qu Pr (S506) (Instr.loadAt 3 v730) fun v736 => k733 v736 w731) w731 fun v734 w735 =>
       Gd v724 false (fun k737 => Qu Pr (S506) (binS .gtr 3 (.tmp 281) (.const (Value.int .i64 100)) v734 (Value.int .i64 100)) fun v740 => k737 v740 w735) w735 fun v738 w739 =>
       Qu Pr (S506) (pickS v724 (Value.bool true) v738) fun v741 =>
       Gd v741 false (fun k742 => Qu Pr (S506) (Instr.fieldAt 60 v504 1) fun v745 => k742 v745 w739) w739 fun v743 w744 =>
       Gd v741 false (fun k746 => Qu Pr (S506) (Instr.fieldAt 58 v743 8) fun v749 => k746 v749 w744) w744 fun v747 w748 =>
       Gd v741 false (fun k750 => Qu Pr (S506) (Instr.loadAt 22 v747) fun v753 => k750 v753 w748) w748 fun v751 w752 =>
       Gd v741 false (fun k754 => Qu Pr (S506) (binS .neq 22 (.tmp 287) (.const (Value.int .u64 0)) v751 (Value.int .u64 0)) fun v757 => k754 v757 w752) w752 fun v755 w756 =>
       Qu Pr (S506) (pickS v741 (Value.bool true) v755) fun v758 =>
       Gd v758 false (fun k759 => Qu Pr (S506) (Instr.fieldAt 60 v504 1) fun v762 => k759 v762 w756) w756 fun v760 w761 =>
       Gd v758 false (fun k763 => Qu Pr (S506) (Instr.fieldAt 58 v760 9) fun v766 => k763 v766 w761) w761 fun v764 w765 =>
       Gd v758 false (fun k767 => Qu Pr (S506) (Instr.loadAt 23 v764) fun v770 => k767 v770 w765) w765 fun v768 w769 =>
       Gd v758 false (fun k771 => Qu Pr (S506) (Builtin.len_ #[23] 3 #[v768]) fun v774 => k771 v774 w769) w769 fun v772 w773 =>
       Gd v758 false (fun k775 => Qu Pr (S506) (Instr.fieldAt 60 v504 1) fun v778 => k775 v778 w773) w773 fun v776 w777 =>
       Gd v758 false (fun k779 => Qu Pr (S506) (Instr.fieldAt 58 v776 10) fun v782 => k779 v782 w777) w777 fun v780 w781 =>
       Gd v758 false (fun k783 => Qu Pr (S506) (Instr.loadAt 23 v780) fun v786 => k783 v786 w781) w781 fun v784 w785 =>
       Gd v758 false (fun k787 => Qu Pr (S506) (Builtin.len_ #[23] 3 #[v784]) fun v790 => k787 v790 w785) w785 fun v788 w789 =>
       Gd v758 false (fun k791 => Qu Pr (S506) (binS .add 3 (.tmp 294) (.tmp 298) v772 v788) fun v794 => k791 v794 w789) w789 fun v792 w793 =>
       Gd v758 false (fun k795 => Qu Pr (S506) (binS .gtr 3 (.tmp 299) (.const (Value.int .i64 0)) v792 (Value.int .i64 0)) fun v798 => k795 v798 w793) w793 fun v796 w797 =>
       Qu Pr (S506) (pickS v758 (Value.bool true) v796) fun v799 =>
       If v799 (
        K (Value.bool false) w797) (
        Qu Pr (Is w797) (binS .add 3 (.tmp 200) (.const (Value.int .i64 1)) (g τ498 3) (Value.int .i64 1)) fun v800 =>
        r497 [(g τ498 0), (g τ498 3), v504, v800, v500, (g τ498 3), v501, v502, v508, v509, v510, v512, v513, v513, v515, v518, v522, v525, v529, v533, v537, v541, v544, v548, v552, v556, v560, v564, v567, v567, v569, v573, v577, v581, v585, v589, v593, v597, v600, v603, v603, v605, v609, v613, v617, v621, v625, v629, v632, v632, v634, v638, v642, v646, v649, v653, v656, v656, v658, v662, v666, v670, v673, v673, v675, v679, v683, v687, v690, v690, v692, v696, v700, v704, v707, v707, v709, v713, v717, v721, v724, v724, v726, v730, v734, v738, v741, v741, v743, v747, v751, v755, v758, v758, v760, v764, v768, v772, v776, v780, v784, v788, v792, v796, v799, v800] w797)
@[irreducible] def t9_2 (w491 : World) (v2 : Value) (v263 : Value) (K : Value → World → Prop) : Prop :=
     Qu Pr (Is w491) (Instr.fieldAt 32 v2 12) fun v494 =>
     Qu Pr (Is w491) (Instr.loadAt 29 v494) fun v495 =>
     Qu Pr (Is w491) (Builtin.len_ #[29] 3 #[v495]) fun v496 =>
     LoopW [(Value.bool false), undef, undef, (Value.int .i64 0), undef, undef, undef, undef, undef, undef, undef, undef, undef, undef, undef, undef, undef, undef, undef, undef, undef, undef, undef, undef, undef, undef, undef, undef, undef, undef, undef, undef, undef, undef, undef, undef, undef, undef, undef, undef, undef, undef, undef, undef, undef, undef, undef, undef, undef, undef, undef, undef, undef, undef, undef, undef, undef, undef, undef, undef, undef, undef, undef, undef, undef, undef, undef, undef, undef, undef, undef, undef, undef, undef, undef, undef, undef, undef, undef, undef, undef, undef, undef, undef, undef, undef, undef, undef, undef, undef, undef, undef, undef, undef, undef, undef, undef, undef, undef, undef, undef, undef, undef, undef, undef, undef] (fun r497 τ498 w499 =>
      Qu Pr (Is w499) (binS .lss 3 (.tmp 200) (.tmp 199) (g τ498 3) v496) fun v500 =>
      If v500 (t9_1 w499 v495 τ498 v2 v263 K r497 v500) (
       Qu Pr (Is w499) (Instr.fieldAt 32 v2 12) fun v801 =>
       Qu Pr (Is w499) (Instr.loadAt 29 v801) fun v802 =>
       Qu Pr (Is w499) (Builtin.len_ #[29] 3 #[v802]) fun v803 =>
       Qu Pr (Is w499) (Instr.fieldAt 32 v2 10) fun v804 =>
       Qu Pr (Is w499) (Instr.loadAt 23 v804) fun v805 =>
       Qu Pr (Is w499) (Builtin.len_ #[23] 3 #[v805]) fun v806 =>
       Qu Pr (Is w499) (Instr.fieldAt 32 v2 11) fun v807 =>
       Qu Pr (Is w499) (Instr.loadAt 23 v807) fun v808 =>
       Qu Pr (Is w499) (Builtin.len_ #[23] 3 #[v808]) fun v809 =>
       Qu Pr (Is w499) (binS .add 3 (.tmp 308) (.tmp 311) v806 v809) fun v810 =>
       Qu Pr (Is w499) (binS .eql 3 (.tmp 305) (.tmp 312) v803 v810) fun v811 =>
       Gd v811 true (fun k812 => Qu Pr (Is w499) (Instr.fieldAt 32 v2 13) fun v815 => k812 v815 w499) w499 fun v813 w814 =>
       Gd v811 true (fun k816 => Qu Pr (Is w814) (Instr.loadAt 30 v813) fun v819 => k816 v819 w814) w814 fun v817 w818 =>
       Gd v811 true (fun k820 => Qu Pr (Is w818) (Builtin.len_ #[30] 3 #[v817]) fun v823 => k820 v823 w818) w818 fun v821 w822 =>
       Gd v811 true (fun k824 => Qu Pr (Is w822) (binS .eql 3 (.tmp 317) (.const (Value.int .i64 0)) v821 (Value.int .i64 0)) fun v827 => k824 v827 w822) w822 fun v825 w826 =>
       Qu Pr (Is w826) (pickS v811 v825 (Value.bool false)) fun v828 =>
       K v828 w826)) w491
@[irreducible] def t9_3 (w356 : World) (v2 : Value) (K : Value → World → Prop) (v263 : Value) : Prop :=
    Qu Pr (Is w356) (Instr.fieldAt 32 v2 17) fun v359 =>
    Qu Pr (Is w356) (Instr.loadAt 3 v359) fun v360 =>
    Qu Pr (Is w356) (binS .lss 3 (.tmp 148) (.const (Value.int .i64 1)) v360 (Value.int .i64 1)) fun v361 =>
    Gd v361 false (fun k362 => Qu Pr (Is w356) (Instr.fieldAt 32 v2 16) fun v365 => k362 v365 w356) w356 fun v363 w364 =>
    Gd v361 false (fun k366 => Qu Pr (Is w364) (Instr.loadAt 3 v363) fun v369 => k366 v369 w364) w364 fun v367 w368 =>
    Gd v361 false (fun k370 => Qu Pr (Is w368) (Instr.fieldAt 32 v2 17) fun v373 => k370 v373 w368) w368 fun v371 w372 =>
    Gd v361 false (fun k374 => Qu Pr (Is w372) (Instr.loadAt 3 v371) fun v377 => k374 v377 w372) w372 fun v375 w376 =>
    Gd v361 false (fun k378 => Qu Pr (Is w376) (binS .leq 3 (.tmp 152) (.tmp 154) v367 v375) fun v381 => k378 v381 w376) w376 fun v379 w380 =>
    Qu Pr (Is w380) (pickS v361 (Value.bool true) v379) fun v382 =>
    Gd v382 false (fun k383 => Qu Pr (Is w380) (Instr.fieldAt 32 v2 16) fun v386 => k383 v386 w380) w380 fun v384 w385 =>
    Gd v382 false (fun k387 => Qu Pr (Is w385) (Instr.loadAt 3 v384) fun v390 => k387 v390 w385) w385 fun v388 w389 =>
    Gd v382 false (fun k391 => Qu Pr (Is w389) (binS .gtr 3 (.tmp 159) (.const (Value.int .i64 30)) v388 (Value.int .i64 30)) fun v394 => k391 v394 w389) w389 fun v392 w393 =>
    Qu Pr (Is w393) (pickS v382 (Value.bool true) v392) fun v395 =>
    Gd v395 false (fun k396 => Qu Pr (Is w393) (Instr.fieldAt 32 v2 18) fun v399 => k396 v399 w393) w393 fun v397 w398 =>
    Gd v395 false (fun k400 => Qu Pr (Is w398) (Instr.loadAt 3 v397) fun v403 => k400 v403 w398) w398 fun v401 w402 =>
    Gd v395 false (fun k404 => Qu Pr (Is w402) (Instr.fieldAt 32 v2 16) fun v407 => k404 v407 w402) w402 fun v405 w406 =>
    Gd v395 false (fun k408 => Qu Pr (Is w406) (Instr.loadAt 3 v405) fun v411 => k408 v411 w406) w406 fun v409 w410 =>
    Gd v395 false (fun k412 => Qu Pr (Is w410) (binS .lss 3 (.tmp 164) (.tmp 166) v401 v409) fun v415 => k412 v415 w410) w410 fun v413 w414 =>
    Qu Pr (Is w414) (pickS v395 (Value.bool true) v413) fun v416 =>
    Gd v416 false (fun k417 => Qu Pr (Is w414) (Instr.fieldAt 32 v2 18) fun v420 => k417 v420 w414) w414 fun v418 w419 =>
    Gd v416 false (fun k421 => Qu Pr (Is w419) (Instr.loadAt 3 v418) fun v424 => k421 v424 w419) w419 fun v422 w423 =>
    Gd v416 false (fun k425 => Qu Pr (Is w423) (Instr.fieldAt 32 v2 16) fun v428 => k425 v428 w423) w423 fun v426 w427 =>
    Gd v416 false (fun k429 => Qu Pr (Is w427) (Instr.loadAt 3 v426) fun v432 => k429 v432 w427) w427 fun v430 w431 =>
    Gd v416 false (fun k433 => Qu Pr (Is w431) (binS .mul 3 (.const (Value.int .i64 2)) (.tmp 173) (Value.int .i64 2) v430) fun v436 => k433 v436 w431) w431 fun v434 w435 =>
    Gd v416 false (fun k437 => Qu Pr (Is w435) (binS .geq 3 (.tmp 171) (.tmp 174) v422 v434) fun v440 => k437 v440 w435) w435 fun v438 w439 =>
    Qu Pr (Is w439) (pickS v416 (Value.bool true) v438) fun v441 =>
    Gd v441 false (fun k442 => Qu Pr (Is w439) (Instr.fieldAt 32 v2 19) fun v445 => k442 v445 w439) w439 fun v443 w444 =>
    Gd v441 false (fun k446 => Qu Pr (Is w444) (Instr.loadAt 3 v443) fun v449 => k446 v449 w444) w444 fun v447 w448 =>
    Gd v441 false (fun k450 => Qu Pr (Is w448) (binS .lss 3 (.tmp 179) (.const (Value.int .i64 0)) v447 (Value.int .i64 0)) fun v453 => k450 v453 w448) w448 fun v451 w452 =>
    Qu Pr (Is w452) (pickS v441 (Value.bool true) v451) fun v454 =>
    Gd v454 false (fun k455 => Qu Pr (Is w452) (Instr.fieldAt 32 v2 19) fun v458 => k455 v458 w452) w452 fun v456 w457 =>
    Gd v454 false (fun k459 => Qu Pr (Is w457) (Instr.loadAt 3 v456) fun v462 => k459 v462 w457) w457 fun v460 w461 =>
    Gd v454 false (fun k463 => Qu Pr (Is w461) (binS .gtr 3 (.tmp 184) (.const (Value.int .i64 60)) v460 (Value.int .i64 60)) fun v466 => k463 v466 w461) w461 fun v464 w465 =>
    Qu Pr (Is w465) (pickS v454 (Value.bool true) v464) fun v467 =>
    Gd v467 false (fun k468 => Qu Pr (Is w465) (Instr.fieldAt 32 v2 20) fun v471 => k468 v471 w465) w465 fun v469 w470 =>
    Gd v467 false (fun k472 => Qu Pr (Is w470) (Instr.loadAt 3 v469) fun v475 => k472 v475 w470) w470 fun v473 w474 =>
    Gd v467 false (fun k476 => Qu Pr (Is w474) (binS .lss 3 (.tmp 189) (.const (Value.int .i64 0)) v473 (Value.int .i64 0)) fun v479 => k476 v479 w474) w474 fun v477 w478 =>
    Qu Pr (Is w478) (pickS v467 (Value.bool true) v477) fun v480 =>
    Gd v480 false (fun k481 => Qu Pr (Is w478) (Instr.fieldAt 32 v2 20) fun v484 => k481 v484 w478) w478 fun v482 w483 =>
    Gd v480 false (fun k485 => Qu Pr (Is w483) (Instr.loadAt 3 v482) fun v488 => k485 v488 w483) w483 fun v486 w487 =>
    Gd v480 false (fun k489 => Qu Pr (Is w487) (binS .gtr 3 (.tmp 194) (.const (Value.int .i64 60)) v486 (Value.int .i64 60)) fun v492 => k489 v492 w487) w487 fun v490 w491 =>
    Qu Pr (Is w491) (pickS v480 (Value.bool true) v490) fun v493 =>
    If v493 (
     K (Value.bool false) w491) (t9_2 w491 v2 v263 K)
@[irreducible] def t9_4 (w255 : World) (v2 : Value) (K : Value → World → Prop) : Prop :=
   Qu Pr (Is w255) (Instr.loadAt 32 v2) fun v258 =>
   Cl Pr (callV (fn 12) #[v258]) w255 fun v260 w259 =>
   Cl Pr (callV (fn 19) #[v260]) w259 fun v262 w261 =>
   Qu Pr (Is w261) (Instr.extract v262 0) fun v263 =>
   Qu Pr (Is w261) (Instr.extract v262 1) fun _ =>
   Qu Pr (Is w261) (Instr.fieldAt 32 v2 8) fun v265 =>
   Qu Pr (Is w261) (Instr.loadAt 22 v265) fun v266 =>
   Qu Pr (Is w261) (Instr.fieldAt 32 v2 5) fun v267 =>
   Qu Pr (Is w261) (Instr.fieldAt 27 v267 1) fun v268 =>
   Qu Pr (Is w261) (Instr.loadAt 22 v268) fun v269 =>
   Qu Pr (Is w261) (binS .lss 22 (.tmp 111) (.tmp 114) v266 v269) fun v270 =>
   Gd v270 false (fun k271 => Qu Pr (Is w261) (Instr.fieldAt 32 v2 8) fun v274 => k271 v274 w261) w261 fun v272 w273 =>
   Gd v270 false (fun k275 => Qu Pr (Is w273) (Instr.loadAt 22 v272) fun v278 => k275 v278 w273) w273 fun v276 w277 =>
   Gd v270 false (fun k279 => k279 v263 w277) w277 fun v280 w281 =>
   Gd v270 false (fun k282 => Qu Pr (Is w281) (binS .gtr 22 (.tmp 118) (.tmp 119) v276 v280) fun v285 => k282 v285 w281) w281 fun v283 w284 =>
   Qu Pr (Is w284) (pickS v270 (Value.bool true) v283) fun v286 =>
   Gd v286 false (fun k287 => Qu Pr (Is w284) (Instr.fieldAt 32 v2 9) fun v290 => k287 v290 w284) w284 fun v288 w289 =>
   Gd v286 false (fun k291 => Qu Pr (Is w289) (Instr.loadAt 22 v288) fun v294 => k291 v294 w289) w289 fun v292 w293 =>
   Gd v286 false (fun k295 => Qu Pr (Is w293) (Instr.fieldAt 32 v2 5) fun v298 => k295 v298 w293) w293 fun v296 w297 =>
   Gd v286 false (fun k299 => Qu Pr (Is w297) (Instr.fieldAt 27 v296 1) fun v302 => k299 v302 w297) w297 fun v300 w301 =>
   Gd v286 false (fun k303 => Qu Pr (Is w301) (Instr.loadAt 22 v300) fun v306 => k303 v306 w301) w301 fun v304 w305 =>
   Gd v286 false (fun k307 => Qu Pr (Is w305) (binS .lss 22 (.tmp 124) (.tmp 127) v292 v304) fun v310 => k307 v310 w305) w305 fun v308 w309 =>
   Qu Pr (Is w309) (pickS v286 (Value.bool true) v308) fun v311 =>
   Gd v311 false (fun k312 => Qu Pr (Is w309) (Instr.fieldAt 32 v2 9) fun v315 => k312 v315 w309) w309 fun v313 w314 =>
   Gd v311 false (fun k316 => Qu Pr (Is w314) (Instr.loadAt 22 v313) fun v319 => k316 v319 w314) w314 fun v317 w318 =>
   Gd v311 false (fun k320 => Qu Pr (Is w318) (Instr.fieldAt 32 v2 8) fun v323 => k320 v323 w318) w318 fun v321 w322 =>
   Gd v311 false (fun k324 => Qu Pr (Is w322) (Instr.loadAt 22 v321) fun v327 => k324 v327 w322) w322 fun v325 w326 =>
   Gd v311 false (fun k328 => Qu Pr (Is w326) (binS .gtr 22 (.tmp 132) (.tmp 134) v317 v325) fun v331 => k328 v331 w326) w326 fun v329 w330 =>
   Qu Pr (Is w330) (pickS v311 (Value.bool true) v329) fun v332 =>
   Gd v332 false (fun k333 => Qu Pr (Is w330) (Instr.fieldAt 32 v2 21) fun v336 => k333 v336 w330) w330 fun v334 w335 =>
   Gd v332 false (fun k337 => Qu Pr (Is w335) (Instr.loadAt 22 v334) fun v340 => k337 v340 w335) w335 fun v338 w339 =>
   Gd v332 false (fun k341 => Qu Pr (Is w339) (binS .lss 22 (.tmp 139) (.const (Value.int .u64 65536)) v338 (Value.int .u64 65536)) fun v344 => k341 v344 w339) w339 fun v342 w343 =>
   Qu Pr (Is w343) (pickS v332 (Value.bool true) v342) fun v345 =>
   Gd v345 false (fun k346 => Qu Pr (Is w343) (Instr.fieldAt 32 v2 24) fun v349 => k346 v349 w343) w343 fun v347 w348 =>
   Gd v345 false (fun k350 => Qu Pr (Is w348) (Instr.loadAt 22 v347) fun v353 => k350 v353 w348) w348 fun v351 w352 =>
   Gd v345 false (fun k354 => Qu Pr (Is w352) (binS .neq 22 (.tmp 144) (.const (Value.int .u64 0)) v351 (Value.int .u64 0)) fun v357 => k354 v357 w352) w352 fun v355 w356 =>
   Qu Pr (Is w356) (pickS v345 (Value.bool true) v355) fun v358 =>
   If v358 (
    K (Value.bool false) w356) (t9_3 w356 v2 K v263)
@[irreducible] def t9_5 (w123 : World) (v2 : Value) (K : Value → World → Prop) : Prop :=
  Dr w123 fun S126 w127 =>
  Qu Pr (S126) (Instr.fieldAt 32 v2 5) fun v128 =>
  Qu Pr (S126) (Instr.fieldAt 27 v128 1) fun v129 =>
  Qu Pr (S126) (Instr.loadAt 22 v129) fun v130 =>
  Qu Pr (S126) (binS .lss 22 (.tmp 61) (.const (Value.int .u64 1)) v130 (Value.int .u64 1)) fun v131 =>
  Gd v131 false (fun k132 => Qu Pr (S126) (Instr.fieldAt 32 v2 5) fun v135 => k132 v135 w127) w127 fun v133 w134 =>
  Gd v131 false (fun k136 => Qu Pr (S126) (Instr.fieldAt 27 v133 1) fun v139 => k136 v139 w134) w134 fun v137 w138 =>
  Gd v131 false (fun k140 => Qu Pr (S126) (Instr.loadAt 22 v137) fun v143 => k140 v143 w138) w138 fun v141 w142 =>
  Gd v131 false (fun k144 => Qu Pr (S126) (binS .gtr 22 (.tmp 66) (.const (Value.int .u64 1099511627776)) v141 (Value.int .u64 1099511627776)) fun v147 => k144 v147 w142) w142 fun v145 w146 =>
  Qu Pr (S126) (pickS v131 (Value.bool true) v145) fun v148 =>
  Gd v148 false (fun k149 => Qu Pr (S126) (Instr.fieldAt 32 v2 5) fun v152 => k149 v152 w146) w146 fun v150 w151 =>
  Gd v148 false (fun k153 => Qu Pr (S126) (Instr.fieldAt 27 v150 2) fun v156 => k153 v156 w151) w151 fun v154 w155 =>
  Gd v148 false (fun k157 => Qu Pr (S126) (Instr.loadAt 22 v154) fun v160 => k157 v160 w155) w155 fun v158 w159 =>
  Gd v148 false (fun k161 => Qu Pr (S126) (binS .lss 22 (.tmp 72) (.const (Value.int .u64 1)) v158 (Value.int .u64 1)) fun v164 => k161 v164 w159) w159 fun v162 w163 =>
  Qu Pr (S126) (pickS v148 (Value.bool true) v162) fun v165 =>
  Gd v165 false (fun k166 => Qu Pr (S126) (Instr.fieldAt 32 v2 5) fun v169 => k166 v169 w163) w163 fun v167 w168 =>
  Gd v165 false (fun k170 => Qu Pr (S126) (Instr.fieldAt 27 v167 0) fun v173 => k170 v173 w168) w168 fun v171 w172 =>
  Gd v165 false (fun k174 => Qu Pr (S126) (Instr.loadAt 9 v171) fun v177 => k174 v177 w172) w172 fun v175 w176 =>
  Gd v165 false (fun k178 => Qu Pr (S126) (Builtin.len_ #[9] 3 #[v175]) fun v181 => k178 v181 w176) w176 fun v179 w180 =>
  Gd v165 false (fun k182 => Qu Pr (S126) (binS .gtr 3 (.tmp 79) (.const (Value.int .i64 100)) v179 (Value.int .i64 100)) fun v185 => k182 v185 w180) w180 fun v183 w184 =>
  Qu Pr (S126) (pickS v165 (Value.bool true) v183) fun v186 =>
  Gd v186 false (fun k187 => Qu Pr (S126) (Instr.fieldAt 32 v2 5) fun v190 => k187 v190 w184) w184 fun v188 w189 =>
  Gd v186 false (fun k191 => Qu Pr (S126) (Instr.fieldAt 27 v188 3) fun v194 => k191 v194 w189) w189 fun v192 w193 =>
  Gd v186 false (fun k195 => Qu Pr (S126) (Instr.loadAt 25 v192) fun v198 => k195 v198 w193) w193 fun v196 w197 =>
  Gd v186 false (fun k199 => Cl Pr (callV (fn 26) #[v196]) w197 fun v200x w201x => S126 w201x ∧ k199 v200x w201x) w197 fun v200 w201 =>
  Gd v186 false (fun k202 => Qu Pr (S126) (Op.unary .not v200) fun v205 => k202 v205 w201) w201 fun v203 w204 =>
  Qu Pr (S126) (pickS v186 (Value.bool true) v203) fun v206 =>
  Gd v206 false (fun k207 => Qu Pr (S126) (Instr.fieldAt 32 v2 5) fun v210 => k207 v210 w204) w204 fun v208 w209 =>
  Gd v206 false (fun k211 => Qu Pr (S126) (Instr.fieldAt 27 v208 1) fun v214 => k211 v214 w209) w209 fun v212 w213 =>
  Gd v206 false (fun k215 => Qu Pr (S126) (Instr.loadAt 22 v212) fun v218 => k215 v218 w213) w213 fun v216 w217 =>
  Gd v206 false (fun k219 => Qu Pr (S126) (Instr.fieldAt 32 v2 5) fun v222 => k219 v222 w217) w217 fun v220 w221 =>
  Gd v206 false (fun k223 => Qu Pr (S126) (Instr.fieldAt 27 v220 2) fun v226 => k223 v226 w221) w221 fun v224 w225 =>
  Gd v206 false (fun k227 => Qu Pr (S126) (Instr.loadAt 22 v224) fun v230 => k227 v230 w225) w225 fun v228 w229 =>
  Gd v206 false (fun k231 => Qu Pr (S126) (Instr.loadAt 32 v2) fun v234 => k231 v234 w229) w229 fun v232 w233 =>
  Gd v206 false (fun k235 => Cl Pr (callV (fn 12) #[v232]) w233 fun v236x w237x => S126 w237x ∧ k235 v236x w237x) w233 fun v236 w237 =>
  Gd v206 false (fun k238 => Qu Pr (S126) (Instr.field 43 v236 4) fun v241 => k238 v241 w237) w237 fun v239 w240 =>
  Gd v206 false (fun k242 => Qu Pr (S126) (Instr.fieldAt 32 v2 1) fun v245 => k242 v245 w240) w240 fun v243 w244 =>
  Gd v206 false (fun k246 => Qu Pr (S126) (Instr.loadAt 22 v243) fun v249 => k246 v249 w244) w244 fun v247 w248 =>
  Gd v206 false (fun k250 => Cl Pr (callV (fn 28) #[v216, v228, v239, v247]) w248 fun v251x w252x => S126 w252x ∧ k250 v251x w252x) w248 fun v251 w252 =>
  Gd v206 false (fun k253 => Qu Pr (S126) (Op.unary .not v251) fun v256 => k253 v256 w252) w252 fun v254 w255 =>
  Qu Pr (S126) (pickS v206 (Value.bool true) v254) fun v257 =>
  If v257 (
   K (Value.bool false) w255) (t9_4 w255 v2 K)
def t9 (a0 : Value) (K : Value → World → Prop) (w : World) : Prop :=
 Ef Pr (Instr.box 32 a0) w fun v2 w1 =>
 Qu Pr (Is w1) (Instr.fieldAt 32 v2 10) fun v3 =>
 Qu Pr (Is w1) (Instr.loadAt 23 v3) fun v4 =>
 Qu Pr (Is w1) (Instr.fieldAt 32 v2 11) fun v5 =>
 Qu Pr (Is w1) (Instr.loadAt 23 v5) fun v6 =>
 Qu Pr (Is w1) (Instr.build 25 #[(0, v4), (1, v6)]) fun v7 =>
 Ef Pr (Instr.alloc 25 true (.tuple #[])) w1 fun v9 w8 =>
 Eu Pr (Instr.storeAt 25 v9 v7) w8 fun w10 =>
 Qu Pr (Is w10) (Instr.fieldAt 32 v2 0) fun v11 =>
 Qu Pr (Is w10) (Instr.loadAt 22 v11) fun v12 =>
 Cl Pr (callV (fn 20) #[v12]) w10 fun v14 w13 =>
 Qu Pr (Is w13) (Op.unary .not v14) fun v15 =>
 Gd v15 false (fun k16 => Qu Pr (Is w13) (Instr.fieldAt 32 v2 1) fun v19 => k16 v19 w13) w13 fun v17 w18 =>
 Gd v15 false (fun k20 => Qu Pr (Is w18) (Instr.loadAt 22 v17) fun v23 => k20 v23 w18) w18 fun v21 w22 =>
 Gd v15 false (fun k24 => Qu Pr (Is w22) (binS .lss 22 (.tmp 19) (.const (Value.int .u64 1)) v21 (Value.int .u64 1)) fun v27 => k24 v27 w22) w22 fun v25 w26 =>
 Qu Pr (Is w26) (pickS v15 (Value.bool true) v25) fun v28 =>
 Gd v28 false (fun k29 => Qu Pr (Is w26) (Instr.fieldAt 32 v2 1) fun v32 => k29 v32 w26) w26 fun v30 w31 =>
 Gd v28 false (fun k33 => Qu Pr (Is w31) (Instr.loadAt 22 v30) fun v36 => k33 v36 w31) w31 fun v34 w35 =>
 Gd v28 false (fun k37 => Qu Pr (Is w35) (binS .gtr 22 (.tmp 24) (.const (Value.int .u64 1099511627776)) v34 (Value.int .u64 1099511627776)) fun v40 => k37 v40 w35) w35 fun v38 w39 =>
 Qu Pr (Is w39) (pickS v28 (Value.bool true) v38) fun v41 =>
 Gd v41 false (fun k42 => Qu Pr (Is w39) (Instr.fieldAt 32 v2 2) fun v45 => k42 v45 w39) w39 fun v43 w44 =>
 Gd v41 false (fun k46 => Qu Pr (Is w44) (Instr.loadAt 22 v43) fun v49 => k46 v49 w44) w44 fun v47 w48 =>
 Gd v41 false (fun k50 => Qu Pr (Is w48) (binS .geq 22 (.tmp 29) (.const (Value.int .u64 1099511627776)) v47 (Value.int .u64 1099511627776)) fun v53 => k50 v53 w48) w48 fun v51 w52 =>
 Qu Pr (Is w52) (pickS v41 (Value.bool true) v51) fun v54 =>
 Gd v54 false (fun k55 => Qu Pr (Is w52) (Instr.fieldAt 32 v2 3) fun v58 => k55 v58 w52) w52 fun v56 w57 =>
 Gd v54 false (fun k59 => Qu Pr (Is w57) (Instr.loadAt 22 v56) fun v62 => k59 v62 w57) w57 fun v60 w61 =>
 Gd v54 false (fun k63 => Qu Pr (Is w61) (binS .geq 22 (.tmp 34) (.const (Value.int .u64 1099511627776)) v60 (Value.int .u64 1099511627776)) fun v66 => k63 v66 w61) w61 fun v64 w65 =>
 Qu Pr (Is w65) (pickS v54 (Value.bool true) v64) fun v67 =>
 Gd v67 false (fun k68 => Qu Pr (Is w65) (Instr.fieldAt 32 v2 4) fun v71 => k68 v71 w65) w65 fun v69 w70 =>
 Gd v67 false (fun k72 => Qu Pr (Is w70) (Instr.loadAt 3 v69) fun v75 => k72 v75 w70) w70 fun v73 w74 =>
 Gd v67 false (fun k76 => Qu Pr (Is w74) (binS .lss 3 (.tmp 39) (.const (Value.int .i64 0)) v73 (Value.int .i64 0)) fun v79 => k76 v79 w74) w74 fun v77 w78 =>
 Qu Pr (Is w78) (pickS v67 (Value.bool true) v77) fun v80 =>
 Gd v80 false (fun k81 => Qu Pr (Is w78) (Instr.fieldAt 32 v2 4) fun v84 => k81 v84 w78) w78 fun v82 w83 =>
 Gd v80 false (fun k85 => Qu Pr (Is w83) (Instr.loadAt 3 v82) fun v88 => k85 v88 w83) w83 fun v86 w87 =>
 Gd v80 false (fun k89 => Qu Pr (Is w87) (binS .gtr 3 (.tmp 44) (.const (Value.int .i64 3)) v86 (Value.int .i64 3)) fun v92 => k89 v92 w87) w87 fun v90 w91 =>
 Qu Pr (Is w91) (pickS v80 (Value.bool true) v90) fun v93 =>
 Gd v93 false (fun k94 => Qu Pr (Is w91) (Instr.loadAt 25 v9) fun v97 => k94 v97 w91) w91 fun v95 w96 =>
 Gd v93 false (fun k98 => Cl Pr (callV (fn 26) #[v95]) w96 fun v99x w100x => k98 v99x w100x) w96 fun v99 w100 =>
 Gd v93 false (fun k101 => Qu Pr (Is w100) (Op.unary .not v99) fun v104 => k101 v104 w100) w100 fun v102 w103 =>
 Qu Pr (Is w103) (pickS v93 (Value.bool true) v102) fun v105 =>
 Gd v105 false (fun k106 => Qu Pr (Is w103) (Instr.loadAt 32 v2) fun v109 => k106 v109 w103) w103 fun v107 w108 =>
 Gd v105 false (fun k110 => Qu Pr (Is w108) (Instr.fieldAt 32 v2 0) fun v113 => k110 v113 w108) w108 fun v111 w112 =>
 Gd v105 false (fun k114 => Qu Pr (Is w112) (Instr.loadAt 22 v111) fun v117 => k114 v117 w112) w112 fun v115 w116 =>
 Gd v105 false (fun k118 => Cl Pr (callV (fn 27) #[v107, v115]) w116 fun v119x w120x => k118 v119x w120x) w116 fun v119 w120 =>
 Gd v105 false (fun k121 => Qu Pr (Is w120) (Op.unary .not v119) fun v124 => k121 v124 w120) w120 fun v122 w123 =>
 Qu Pr (Is w123) (pickS v105 (Value.bool true) v122) fun v125 =>
 If v125 (
  K (Value.bool false) w123) (t9_5 w123 v2 K)
theorem c9 {a0 : Value} {K : Value → World → Prop} {w : World} (h : t9 a0 K w) : CK Pr 9 #[a0] w K := by
  refine calls_of_RF [(12, [2, 6, 7, 200, 201, 202, 203, 204, 205, 206, 207, 208, 209, 210, 211, 212, 213, 214, 215, 216, 217, 218, 219, 220, 221, 222, 223, 224, 225, 226, 227, 228, 229, 230, 231, 232, 233, 234, 235, 236, 237, 238, 239, 240, 241, 242, 243, 244, 245, 246, 247, 248, 249, 250, 251, 252, 253, 254, 255, 256, 257, 258, 259, 260, 261, 262, 263, 264, 265, 266, 267, 268, 269, 270, 271, 272, 273, 274, 275, 276, 277, 278, 279, 280, 281, 282, 283, 284, 285, 286, 287, 288, 289, 290, 291, 292, 293, 294, 295, 296, 297, 298, 299, 300, 301, 302])] Tryz.func9 rfl ?_ ?_ ?_
  · kernel_rfl
  · exact Nat.le_of_ble_eq_true rfl
  · exact cast (by kernel_rfl) h

def t10 (a0 a1 : Value) (K : Value → World → Prop) (w : World) : Prop :=
 Ef Pr (Instr.box 32 a0) w fun v2 w1 =>
 Ef Pr (Instr.box 27 a1) w1 fun v4 w3 =>
 Qu Pr (Is w3) (Instr.fieldAt 27 v4 1) fun v5 =>
 Qu Pr (Is w3) (Instr.loadAt 22 v5) fun v6 =>
 Qu Pr (Is w3) (binS .geq 22 (.tmp 6) (.const (Value.int .u64 1)) v6 (Value.int .u64 1)) fun v7 =>
 Gd v7 true (fun k8 => Qu Pr (Is w3) (Instr.fieldAt 27 v4 1) fun v11 => k8 v11 w3) w3 fun v9 w10 =>
 Gd v7 true (fun k12 => Qu Pr (Is w10) (Instr.loadAt 22 v9) fun v15 => k12 v15 w10) w10 fun v13 w14 =>
 Gd v7 true (fun k16 => Qu Pr (Is w14) (binS .leq 22 (.tmp 10) (.const (Value.int .u64 1099511627776)) v13 (Value.int .u64 1099511627776)) fun v19 => k16 v19 w14) w14 fun v17 w18 =>
 Qu Pr (Is w18) (pickS v7 v17 (Value.bool false)) fun v20 =>
 Gd v20 true (fun k21 => Qu Pr (Is w18) (Instr.fieldAt 27 v4 2) fun v24 => k21 v24 w18) w18 fun v22 w23 =>
 Gd v20 true (fun k25 => Qu Pr (Is w23) (Instr.loadAt 22 v22) fun v28 => k25 v28 w23) w23 fun v26 w27 =>
 Gd v20 true (fun k29 => Qu Pr (Is w27) (binS .geq 22 (.tmp 15) (.const (Value.int .u64 1)) v26 (Value.int .u64 1)) fun v32 => k29 v32 w27) w27 fun v30 w31 =>
 Qu Pr (Is w31) (pickS v20 v30 (Value.bool false)) fun v33 =>
 Gd v33 true (fun k34 => Qu Pr (Is w31) (Instr.fieldAt 27 v4 2) fun v37 => k34 v37 w31) w31 fun v35 w36 =>
 Gd v33 true (fun k38 => Qu Pr (Is w36) (Instr.loadAt 22 v35) fun v41 => k38 v41 w36) w36 fun v39 w40 =>
 Gd v33 true (fun k42 => Qu Pr (Is w40) (Instr.fieldAt 32 v2 1) fun v45 => k42 v45 w40) w40 fun v43 w44 =>
 Gd v33 true (fun k46 => Qu Pr (Is w44) (Instr.loadAt 22 v43) fun v49 => k46 v49 w44) w44 fun v47 w48 =>
 Gd v33 true (fun k50 => Qu Pr (Is w48) (binS .leq 22 (.tmp 20) (.tmp 22) v39 v47) fun v53 => k50 v53 w48) w48 fun v51 w52 =>
 Qu Pr (Is w52) (pickS v33 v51 (Value.bool false)) fun v54 =>
 Gd v54 true (fun k55 => Qu Pr (Is w52) (Instr.fieldAt 27 v4 0) fun v58 => k55 v58 w52) w52 fun v56 w57 =>
 Gd v54 true (fun k59 => Qu Pr (Is w57) (Instr.loadAt 9 v56) fun v62 => k59 v62 w57) w57 fun v60 w61 =>
 Gd v54 true (fun k63 => Qu Pr (Is w61) (Builtin.len_ #[9] 3 #[v60]) fun v66 => k63 v66 w61) w61 fun v64 w65 =>
 Gd v54 true (fun k67 => Qu Pr (Is w65) (binS .leq 3 (.tmp 28) (.const (Value.int .i64 100)) v64 (Value.int .i64 100)) fun v70 => k67 v70 w65) w65 fun v68 w69 =>
 Qu Pr (Is w69) (pickS v54 v68 (Value.bool false)) fun v71 =>
 Gd v71 true (fun k72 => Qu Pr (Is w69) (Instr.fieldAt 27 v4 3) fun v75 => k72 v75 w69) w69 fun v73 w74 =>
 Gd v71 true (fun k76 => Qu Pr (Is w74) (Instr.loadAt 25 v73) fun v79 => k76 v79 w74) w74 fun v77 w78 =>
 Gd v71 true (fun k80 => Cl Pr (callV (fn 26) #[v77]) w78 fun v81x w82x => k80 v81x w82x) w78 fun v81 w82 =>
 Qu Pr (Is w82) (pickS v71 v81 (Value.bool false)) fun v83 =>
 Gd v83 true (fun k84 => Qu Pr (Is w82) (Instr.fieldAt 27 v4 3) fun v87 => k84 v87 w82) w82 fun v85 w86 =>
 Gd v83 true (fun k88 => Qu Pr (Is w86) (Instr.fieldAt 25 v85 0) fun v91 => k88 v91 w86) w86 fun v89 w90 =>
 Gd v83 true (fun k92 => Qu Pr (Is w90) (Instr.loadAt 23 v89) fun v95 => k92 v95 w90) w90 fun v93 w94 =>
 Gd v83 true (fun k96 => Qu Pr (Is w94) (Instr.fieldAt 32 v2 0) fun v99 => k96 v99 w94) w94 fun v97 w98 =>
 Gd v83 true (fun k100 => Qu Pr (Is w98) (Instr.loadAt 22 v97) fun v103 => k100 v103 w98) w98 fun v101 w102 =>
 Gd v83 true (fun k104 => Cl Pr (callV (fn 18) #[v93, v101]) w102 fun v105x w106x => k104 v105x w106x) w102 fun v105 w106 =>
 Gd v83 true (fun k107 => k107 v105 w106) w106 fun v108 w109 =>
 Gd v108 false (fun k110 => Qu Pr (Is w109) (Instr.fieldAt 27 v4 3) fun v113 => k110 v113 w109) w109 fun v111 w112 =>
 Gd v108 false (fun k114 => Qu Pr (Is w112) (Instr.fieldAt 25 v111 1) fun v117 => k114 v117 w112) w112 fun v115 w116 =>
 Gd v108 false (fun k118 => Qu Pr (Is w116) (Instr.loadAt 23 v115) fun v121 => k118 v121 w116) w116 fun v119 w120 =>
 Gd v108 false (fun k122 => Qu Pr (Is w120) (Instr.fieldAt 32 v2 0) fun v125 => k122 v125 w120) w120 fun v123 w124 =>
 Gd v108 false (fun k126 => Qu Pr (Is w124) (Instr.loadAt 22 v123) fun v129 => k126 v129 w124) w124 fun v127 w128 =>
 Gd v108 false (fun k130 => Cl Pr (callV (fn 18) #[v119, v127]) w128 fun v131x w132x => k130 v131x w132x) w128 fun v131 w132 =>
 Gd v83 true (fun k133 => Qu Pr (Is w132) (pickS v108 (Value.bool true) v131) fun v136 => k133 v136 w132) w132 fun v134 w135 =>
 Qu Pr (Is w135) (pickS v83 v134 (Value.bool false)) fun v137 =>
 K v137 w135
theorem c10 {a0 a1 : Value} {K : Value → World → Prop} {w : World} (h : t10 a0 a1 K w) : CK Pr 10 #[a0, a1] w K := by
  refine calls_of_RF [] Tryz.func10 rfl ?_ ?_ ?_
  · kernel_rfl
  · exact Nat.le_of_ble_eq_true rfl
  · exact cast (by kernel_rfl) h

def t11 (a0 a1 : Value) (K : Value → World → Prop) (w : World) : Prop :=
 Ef Pr (Instr.box 32 a0) w fun v2 w1 =>
 Ef Pr (Instr.box 27 a1) w1 fun v4 w3 =>
 Ef Pr (Instr.alloc 38 true (.tuple #[])) w3 fun v6 w5 =>
 Qu Pr (Is w5) (Instr.loadAt 32 v2) fun v7 =>
 Qu Pr (Is w5) (Instr.makeFunc (Fn.func 30) #[] #[v4]) fun v8 =>
 Cl Pr (callV (fn 29) #[v7, v8]) w5 fun v10 w9 =>
 Eu Pr (Instr.storeAt 38 v6 v10) w9 fun w11 =>
 Qu Pr (Is w11) (Instr.loadAt 38 v6) fun v12 =>
 K v12 w11
theorem c11 {a0 a1 : Value} {K : Value → World → Prop} {w : World} (h : t11 a0 a1 K w) : CK Pr 11 #[a0, a1] w K := by
  refine calls_of_RF [] Tryz.func11 rfl ?_ ?_ ?_
  · kernel_rfl
  · exact Nat.le_of_ble_eq_true rfl
  · exact cast (by kernel_rfl) h

def t12 (a0 : Value) (K : Value → World → Prop) (w : World) : Prop :=
 Ef Pr (Instr.box 32 a0) w fun v2 w1 =>
 Ef Pr (Instr.alloc 43 true (.tuple #[])) w1 fun v4 w3 =>
 Dr2 w3 fun S7 S5 w6 =>
 Qu Pr (S7) (Instr.fieldAt 32 v2 0) fun v8 =>
 Qu Pr (S7) (Instr.loadAt 22 v8) fun v9 =>
 Qu Pr (S7) (Instr.fieldAt 32 v2 3) fun v10 =>
 Qu Pr (S7) (Instr.loadAt 22 v10) fun v11 =>
 Qu Pr (S7) (Instr.fieldAt 32 v2 1) fun v12 =>
 Qu Pr (S7) (Instr.loadAt 22 v12) fun v13 =>
 Qu Pr (S7) (Instr.fieldAt 32 v2 2) fun v14 =>
 Qu Pr (S7) (Instr.loadAt 22 v14) fun v15 =>
 Qu Pr (S7) (Instr.fieldAt 32 v2 8) fun v16 =>
 Qu Pr (S7) (Instr.loadAt 22 v16) fun v17 =>
 Qu Pr (S7) (Instr.build 41 #[(0, v13), (1, v15), (2, v17)]) fun v18 =>
 Qu Pr (S7) (Instr.fieldAt 32 v2 5) fun v19 =>
 Qu Pr (S7) (Instr.loadAt 27 v19) fun v20 =>
 Ef Pr (Instr.buildSlice 28 0 #[]) w6 fun v22 w21 => (S7 w21 ∧ S5 w21) ∧
 Qu Pr (S7) (Instr.fieldAt 32 v2 6) fun v23 =>
 Qu Pr (S7) (Instr.loadAt 28 v23) fun v24 =>
 Ef Pr (Builtin.append_ #[28, 28] 28 #[v22, v24]) w21 fun v26 w25 => (S7 w25 ∧ S5 w25) ∧
 Qu Pr (S7) (Instr.fieldAt 32 v2 7) fun v27 =>
 Qu Pr (S7) (Instr.loadAt 28 v27) fun v28 =>
 Ef Pr (Builtin.append_ #[28, 28] 28 #[v26, v28]) w25 fun v30 w29 => (S7 w29 ∧ S5 w29) ∧
 Qu Pr (S7) (Instr.build 43 #[(0, v9), (1, v11), (2, v18), (3, v20), (4, v30)]) fun v31 =>
 Eu Pr (Instr.storeAt 43 v4 v31) w29 fun w32 => S5 w32 ∧
 Qu Pr (Is w32) (Instr.loadAt 43 v4) fun v33 =>
 K v33 w32
theorem c12 {a0 : Value} {K : Value → World → Prop} {w : World} (h : t12 a0 K w) : CK Pr 12 #[a0] w K := by
  refine calls_of_RF [] Tryz.func12 rfl ?_ ?_ ?_
  · kernel_rfl
  · exact Nat.le_of_ble_eq_true rfl
  · exact cast (by kernel_rfl) h

def t13 (a0 a1 : Value) (K : Value → World → Prop) (w : World) : Prop :=
 Ef Pr (Instr.box 43 a0) w fun v2 w1 =>
 Ef Pr (Instr.box 27 a1) w1 fun v4 w3 =>
 Ef Pr (Instr.alloc 43 true (.tuple #[])) w3 fun v6 w5 =>
 Qu Pr (Is w5) (Instr.fieldAt 27 v4 1) fun v7 =>
 Qu Pr (Is w5) (Instr.loadAt 22 v7) fun v8 =>
 Qu Pr (Is w5) (Instr.fieldAt 43 v2 2) fun v9 =>
 Qu Pr (Is w5) (Instr.fieldAt 41 v9 2) fun v10 =>
 Qu Pr (Is w5) (Instr.loadAt 22 v10) fun v11 =>
 Qu Pr (Is w5) (binS .leq 22 (.tmp 9) (.tmp 12) v8 v11) fun v12 =>
 If v12 (
  Qu Pr (Is w5) (Instr.loadAt 43 v2) fun v13 =>
  Eu Pr (Instr.storeAt 43 v6 v13) w5 fun w14 =>
  Qu Pr (Is w14) (Instr.loadAt 43 v6) fun v15 =>
  K (.tuple #[v15, (Value.bool false)]) w14) (
  Qu Pr (Is w5) (Instr.loadAt 43 v2) fun v16 =>
  Qu Pr (Is w5) (Instr.fieldAt 27 v4 1) fun v17 =>
  Qu Pr (Is w5) (Instr.loadAt 22 v17) fun v18 =>
  Cl Pr (callV (fn 33) #[v16, v18]) w5 fun v20 w19 =>
  Qu Pr (Is w19) (Instr.extract v20 0) fun v21 =>
  Qu Pr (Is w19) (Instr.extract v20 1) fun v22 =>
  Gd v22 true (fun k23 => k23 v21 w19) w19 fun v24 w25 =>
  Gd v22 true (fun k26 => Qu Pr (Is w25) (Instr.fieldAt 27 v4 2) fun v29 => k26 v29 w25) w25 fun v27 w28 =>
  Gd v22 true (fun k30 => Qu Pr (Is w28) (Instr.loadAt 22 v27) fun v33 => k30 v33 w28) w28 fun v31 w32 =>
  Gd v22 true (fun k34 => Qu Pr (Is w32) (binS .eql 22 (.tmp 24) (.tmp 26) v24 v31) fun v37 => k34 v37 w32) w32 fun v35 w36 =>
  Qu Pr (Is w36) (pickS v22 v35 (Value.bool false)) fun v38 =>
  If v38 (
   Qu Pr (Is w36) (Instr.loadAt 43 v2) fun v39 =>
   Qu Pr (Is w36) (Instr.fieldAt 27 v4 1) fun v40 =>
   Qu Pr (Is w36) (Instr.loadAt 22 v40) fun v41 =>
   Cl Pr (callV (fn 34) #[v39, v41]) w36 fun v43 w42 =>
   Eu Pr (Instr.storeAt 43 v6 v43) w42 fun w44 =>
   Qu Pr (Is w44) (Instr.loadAt 43 v6) fun v45 =>
   K (.tuple #[v45, (Value.bool false)]) w44) (
   Qu Pr (Is w36) (Instr.loadAt 27 v4) fun v46 =>
   Qu Pr (Is w36) (Instr.fieldAt 43 v2 3) fun v47 =>
   Eu Pr (Instr.storeAt 27 v47 v46) w36 fun w48 =>
   Qu Pr (Is w48) (Instr.fieldAt 43 v2 4) fun v49 =>
   Eu Pr (Instr.storeAt 28 v49 (Value.slice none 0 0)) w48 fun w50 =>
   Qu Pr (Is w50) (Instr.fieldAt 27 v4 1) fun v51 =>
   Qu Pr (Is w50) (Instr.loadAt 22 v51) fun v52 =>
   Qu Pr (Is w50) (Instr.fieldAt 43 v2 2) fun v53 =>
   Qu Pr (Is w50) (Instr.fieldAt 41 v53 2) fun v54 =>
   Eu Pr (Instr.storeAt 22 v54 v52) w50 fun w55 =>
   Qu Pr (Is w55) (Instr.loadAt 43 v2) fun v56 =>
   Eu Pr (Instr.storeAt 43 v6 v56) w55 fun w57 =>
   Qu Pr (Is w57) (Instr.loadAt 43 v6) fun v58 =>
   K (.tuple #[v58, (Value.bool true)]) w57))
theorem c13 {a0 a1 : Value} {K : Value → World → Prop} {w : World} (h : t13 a0 a1 K w) : CK Pr 13 #[a0, a1] w K := by
  refine calls_of_RF [] Tryz.func13 rfl ?_ ?_ ?_
  · kernel_rfl
  · exact Nat.le_of_ble_eq_true rfl
  · exact cast (by kernel_rfl) h

def t14 (a0 a1 a2 : Value) (K : Value → World → Prop) (w : World) : Prop :=
 Ef Pr (Instr.box 32 a0) w fun v2 w1 =>
 Ef Pr (Instr.box 43 a2) w1 fun v4 w3 =>
 Qu Pr (Is w3) (Instr.loadAt 32 v2) fun v5 =>
 Cl Pr (callV (fn 12) #[v5]) w3 fun v7 w6 =>
 Ef Pr (Instr.alloc 43 true (.tuple #[])) w6 fun v9 w8 =>
 Eu Pr (Instr.storeAt 43 v9 v7) w8 fun w10 =>
 Qu Pr (Is w10) (Instr.fieldAt 32 v2 4) fun v11 =>
 Qu Pr (Is w10) (Instr.loadAt 3 v11) fun v12 =>
 Qu Pr (Is w10) (binS .eql 3 (.tmp 11) (.tmp 12) v12 a1) fun v13 =>
 Gd v13 true (fun k14 => Qu Pr (Is w10) (Instr.fieldAt 32 v2 3) fun v17 => k14 v17 w10) w10 fun v15 w16 =>
 Gd v13 true (fun k18 => Qu Pr (Is w16) (Instr.loadAt 22 v15) fun v21 => k18 v21 w16) w16 fun v19 w20 =>
 Gd v13 true (fun k22 => Qu Pr (Is w20) (Instr.fieldAt 43 v4 1) fun v25 => k22 v25 w20) w20 fun v23 w24 =>
 Gd v13 true (fun k26 => Qu Pr (Is w24) (Instr.loadAt 22 v23) fun v29 => k26 v29 w24) w24 fun v27 w28 =>
 Gd v13 true (fun k30 => Qu Pr (Is w28) (binS .eql 22 (.tmp 16) (.tmp 18) v19 v27) fun v33 => k30 v33 w28) w28 fun v31 w32 =>
 Qu Pr (Is w32) (pickS v13 v31 (Value.bool false)) fun v34 =>
 Gd v34 true (fun k35 => Qu Pr (Is w32) (Instr.fieldAt 43 v9 2) fun v38 => k35 v38 w32) w32 fun v36 w37 =>
 Gd v34 true (fun k39 => Qu Pr (Is w37) (Instr.loadAt 41 v36) fun v42 => k39 v42 w37) w37 fun v40 w41 =>
 Gd v34 true (fun k43 => Qu Pr (Is w41) (Instr.fieldAt 43 v4 2) fun v46 => k43 v46 w41) w41 fun v44 w45 =>
 Gd v34 true (fun k47 => Qu Pr (Is w45) (Instr.loadAt 41 v44) fun v50 => k47 v50 w45) w45 fun v48 w49 =>
 Gd v34 true (fun k51 => Qu Pr (Is w49) (binS .eql 41 (.tmp 23) (.tmp 25) v40 v48) fun v54 => k51 v54 w49) w49 fun v52 w53 =>
 Qu Pr (Is w53) (pickS v34 v52 (Value.bool false)) fun v55 =>
 Gd v55 true (fun k56 => Qu Pr (Is w53) (Instr.fieldAt 43 v9 3) fun v59 => k56 v59 w53) w53 fun v57 w58 =>
 Gd v55 true (fun k60 => Qu Pr (Is w58) (Instr.fieldAt 27 v57 1) fun v63 => k60 v63 w58) w58 fun v61 w62 =>
 Gd v55 true (fun k64 => Qu Pr (Is w62) (Instr.loadAt 22 v61) fun v67 => k64 v67 w62) w62 fun v65 w66 =>
 Gd v55 true (fun k68 => Qu Pr (Is w66) (Instr.fieldAt 43 v4 3) fun v71 => k68 v71 w66) w66 fun v69 w70 =>
 Gd v55 true (fun k72 => Qu Pr (Is w70) (Instr.fieldAt 27 v69 1) fun v75 => k72 v75 w70) w70 fun v73 w74 =>
 Gd v55 true (fun k76 => Qu Pr (Is w74) (Instr.loadAt 22 v73) fun v79 => k76 v79 w74) w74 fun v77 w78 =>
 Gd v55 true (fun k80 => Qu Pr (Is w78) (binS .eql 22 (.tmp 31) (.tmp 34) v65 v77) fun v83 => k80 v83 w78) w78 fun v81 w82 =>
 Qu Pr (Is w82) (pickS v55 v81 (Value.bool false)) fun v84 =>
 Gd v84 true (fun k85 => Qu Pr (Is w82) (Instr.fieldAt 43 v9 3) fun v88 => k85 v88 w82) w82 fun v86 w87 =>
 Gd v84 true (fun k89 => Qu Pr (Is w87) (Instr.fieldAt 27 v86 2) fun v92 => k89 v92 w87) w87 fun v90 w91 =>
 Gd v84 true (fun k93 => Qu Pr (Is w91) (Instr.loadAt 22 v90) fun v96 => k93 v96 w91) w91 fun v94 w95 =>
 Gd v84 true (fun k97 => Qu Pr (Is w95) (Instr.fieldAt 43 v4 3) fun v100 => k97 v100 w95) w95 fun v98 w99 =>
 Gd v84 true (fun k101 => Qu Pr (Is w99) (Instr.fieldAt 27 v98 2) fun v104 => k101 v104 w99) w99 fun v102 w103 =>
 Gd v84 true (fun k105 => Qu Pr (Is w103) (Instr.loadAt 22 v102) fun v108 => k105 v108 w103) w103 fun v106 w107 =>
 Gd v84 true (fun k109 => Qu Pr (Is w107) (binS .eql 22 (.tmp 40) (.tmp 43) v94 v106) fun v112 => k109 v112 w107) w107 fun v110 w111 =>
 Qu Pr (Is w111) (pickS v84 v110 (Value.bool false)) fun v113 =>
 Gd v113 true (fun k114 => Qu Pr (Is w111) (Instr.fieldAt 43 v9 4) fun v117 => k114 v117 w111) w111 fun v115 w116 =>
 Gd v113 true (fun k118 => Qu Pr (Is w116) (Instr.loadAt 28 v115) fun v121 => k118 v121 w116) w116 fun v119 w120 =>
 Gd v113 true (fun k122 => Qu Pr (Is w120) (Instr.fieldAt 43 v4 4) fun v125 => k122 v125 w120) w120 fun v123 w124 =>
 Gd v113 true (fun k126 => Qu Pr (Is w124) (Instr.loadAt 28 v123) fun v129 => k126 v129 w124) w124 fun v127 w128 =>
 Gd v113 true (fun k130 => Cl Pr (callV (fn 35) #[v119, v127]) w128 fun v131x w132x => k130 v131x w132x) w128 fun v131 w132 =>
 Qu Pr (Is w132) (pickS v113 v131 (Value.bool false)) fun v133 =>
 K v133 w132
theorem c14 {a0 a1 a2 : Value} {K : Value → World → Prop} {w : World} (h : t14 a0 a1 a2 K w) : CK Pr 14 #[a0, a1, a2] w K := by
  refine calls_of_RF [] Tryz.func14 rfl ?_ ?_ ?_
  · kernel_rfl
  · exact Nat.le_of_ble_eq_true rfl
  · exact cast (by kernel_rfl) h

def t15 (a0 a1 : Value) (K : Value → World → Prop) (w : World) : Prop :=
 Ef Pr (Instr.box 25 a0) w fun v2 w1 =>
 Ef Pr (Instr.box 25 a1) w1 fun v4 w3 =>
 Qu Pr (Is w3) (Instr.fieldAt 25 v2 0) fun v5 =>
 Qu Pr (Is w3) (Instr.loadAt 23 v5) fun v6 =>
 Qu Pr (Is w3) (Instr.fieldAt 25 v4 0) fun v7 =>
 Qu Pr (Is w3) (Instr.loadAt 23 v7) fun v8 =>
 Cl Pr (callV (fn 36) #[v6, v8]) w3 fun v10 w9 =>
 Gd v10 true (fun k11 => Qu Pr (Is w9) (Instr.fieldAt 25 v2 1) fun v14 => k11 v14 w9) w9 fun v12 w13 =>
 Gd v10 true (fun k15 => Qu Pr (Is w13) (Instr.loadAt 23 v12) fun v18 => k15 v18 w13) w13 fun v16 w17 =>
 Gd v10 true (fun k19 => Qu Pr (Is w17) (Instr.fieldAt 25 v4 1) fun v22 => k19 v22 w17) w17 fun v20 w21 =>
 Gd v10 true (fun k23 => Qu Pr (Is w21) (Instr.loadAt 23 v20) fun v26 => k23 v26 w21) w21 fun v24 w25 =>
 Gd v10 true (fun k27 => Cl Pr (callV (fn 36) #[v16, v24]) w25 fun v28x w29x => k27 v28x w29x) w25 fun v28 w29 =>
 Qu Pr (Is w29) (pickS v10 v28 (Value.bool false)) fun v30 =>
 Gd v30 true (fun k31 => Qu Pr (Is w29) (Instr.fieldAt 25 v2 2) fun v34 => k31 v34 w29) w29 fun v32 w33 =>
 Gd v30 true (fun k35 => Qu Pr (Is w33) (Instr.loadAt 23 v32) fun v38 => k35 v38 w33) w33 fun v36 w37 =>
 Gd v30 true (fun k39 => Qu Pr (Is w37) (Instr.fieldAt 25 v4 2) fun v42 => k39 v42 w37) w37 fun v40 w41 =>
 Gd v30 true (fun k43 => Qu Pr (Is w41) (Instr.loadAt 23 v40) fun v46 => k43 v46 w41) w41 fun v44 w45 =>
 Gd v30 true (fun k47 => Cl Pr (callV (fn 36) #[v36, v44]) w45 fun v48x w49x => k47 v48x w49x) w45 fun v48 w49 =>
 Qu Pr (Is w49) (pickS v30 v48 (Value.bool false)) fun v50 =>
 Gd v50 true (fun k51 => Qu Pr (Is w49) (Instr.fieldAt 25 v2 3) fun v54 => k51 v54 w49) w49 fun v52 w53 =>
 Gd v50 true (fun k55 => Qu Pr (Is w53) (Instr.loadAt 23 v52) fun v58 => k55 v58 w53) w53 fun v56 w57 =>
 Gd v50 true (fun k59 => Qu Pr (Is w57) (Instr.fieldAt 25 v4 3) fun v62 => k59 v62 w57) w57 fun v60 w61 =>
 Gd v50 true (fun k63 => Qu Pr (Is w61) (Instr.loadAt 23 v60) fun v66 => k63 v66 w61) w61 fun v64 w65 =>
 Gd v50 true (fun k67 => Cl Pr (callV (fn 36) #[v56, v64]) w65 fun v68x w69x => k67 v68x w69x) w65 fun v68 w69 =>
 Qu Pr (Is w69) (pickS v50 v68 (Value.bool false)) fun v70 =>
 Gd v70 true (fun k71 => Qu Pr (Is w69) (Instr.fieldAt 25 v2 4) fun v74 => k71 v74 w69) w69 fun v72 w73 =>
 Gd v70 true (fun k75 => Qu Pr (Is w73) (Instr.loadAt 4 v72) fun v78 => k75 v78 w73) w73 fun v76 w77 =>
 Gd v70 true (fun k79 => Qu Pr (Is w77) (Instr.fieldAt 25 v4 4) fun v82 => k79 v82 w77) w77 fun v80 w81 =>
 Gd v70 true (fun k83 => Qu Pr (Is w81) (Instr.loadAt 4 v80) fun v86 => k83 v86 w81) w81 fun v84 w85 =>
 Gd v70 true (fun k87 => Qu Pr (Is w85) (binS .eql 4 (.tmp 33) (.tmp 35) v76 v84) fun v90 => k87 v90 w85) w85 fun v88 w89 =>
 Qu Pr (Is w89) (pickS v70 v88 (Value.bool false)) fun v91 =>
 K v91 w89
theorem c15 {a0 a1 : Value} {K : Value → World → Prop} {w : World} (h : t15 a0 a1 K w) : CK Pr 15 #[a0, a1] w K := by
  refine calls_of_RF [] Tryz.func15 rfl ?_ ?_ ?_
  · kernel_rfl
  · exact Nat.le_of_ble_eq_true rfl
  · exact cast (by kernel_rfl) h

def t18 (a0 a1 : Value) (K : Value → World → Prop) (w : World) : Prop :=
 Qu Pr (Is w) (Builtin.len_ #[23] 3 #[a0]) fun v1 =>
 LoopW [(Value.bool false), undef, (Value.int .i64 0), undef, undef, undef, undef, undef, undef, undef] (fun r2 τ3 w4 =>
  Qu Pr (Is w4) (binS .lss 3 (.tmp 9) (.tmp 8) (g τ3 2) v1) fun v5 =>
  If v5 (
   Qu Pr (Is w4) (Instr.indexAt 23 a0 (g τ3 2)) fun v6 =>
   Qu Pr (Is w4) (Instr.loadAt 22 v6) fun v7 =>
   Qu Pr (Is w4) (binS .eql 22 (.tmp 13) (.tmp 14) v7 a1) fun v8 =>
   If v8 (
    K (Value.bool true) w4) (
    Qu Pr (Is w4) (binS .add 3 (.tmp 9) (.const (Value.int .i64 1)) (g τ3 2) (Value.int .i64 1)) fun v9 =>
    r2 [(g τ3 0), v7, v9, v5, v6, v7, v7, a1, v8, v9] w4)) (
   K (Value.bool false) w4)) w
theorem c18 {a0 a1 : Value} {K : Value → World → Prop} {w : World} (h : t18 a0 a1 K w) : CK Pr 18 #[a0, a1] w K := by
  refine calls_of_RF [(2, [4, 6, 9, 10, 11, 12, 13, 14, 15, 16])] Tryz.func18 rfl ?_ ?_ ?_
  · kernel_rfl
  · exact Nat.le_of_ble_eq_true rfl
  · exact cast (by kernel_rfl) h

def t19 (a0 : Value) (K : Value → World → Prop) (w : World) : Prop :=
 Ef Pr (Instr.box 43 a0) w fun v2 w1 =>
 Qu Pr (Is w1) (Instr.fieldAt 43 v2 4) fun v3 =>
 Qu Pr (Is w1) (Instr.loadAt 28 v3) fun v4 =>
 Qu Pr (Is w1) (Builtin.len_ #[28] 3 #[v4]) fun v5 =>
 Qu Pr (Is w1) (binS .eql 3 (.tmp 7) (.const (Value.int .i64 0)) v5 (Value.int .i64 0)) fun v6 =>
 If v6 (
  Dr w1 fun S7 w8 =>
  Qu Pr (S7) (Instr.fieldAt 43 v2 3) fun v9 =>
  Qu Pr (S7) (Instr.fieldAt 27 v9 1) fun v10 =>
  Qu Pr (S7) (Instr.loadAt 22 v10) fun v11 =>
  Qu Pr (S7) (Instr.fieldAt 43 v2 3) fun v12 =>
  Qu Pr (S7) (Instr.fieldAt 27 v12 2) fun v13 =>
  Qu Pr (S7) (Instr.loadAt 22 v13) fun v14 =>
  K (.tuple #[v11, v14]) w8) (
  Qu Pr (Is w1) (Instr.fieldAt 43 v2 4) fun v15 =>
  Qu Pr (Is w1) (Instr.loadAt 28 v15) fun v16 =>
  Qu Pr (Is w1) (Instr.fieldAt 43 v2 4) fun v17 =>
  Qu Pr (Is w1) (Instr.loadAt 28 v17) fun v18 =>
  Qu Pr (Is w1) (Builtin.len_ #[28] 3 #[v18]) fun v19 =>
  Qu Pr (Is w1) (binS .sub 3 (.tmp 19) (.const (Value.int .i64 1)) v19 (Value.int .i64 1)) fun v20 =>
  Qu Pr (Is w1) (Instr.indexAt 28 v16 v20) fun v21 =>
  Qu Pr (Is w1) (Instr.loadAt 56 v21) fun v22 =>
  Ef Pr (Instr.alloc 56 true (.tuple #[])) w1 fun v24 w23 =>
  Eu Pr (Instr.storeAt 56 v24 v22) w23 fun w25 =>
  Dr w25 fun S26 w27 =>
  Qu Pr (S26) (Instr.fieldAt 56 v24 1) fun v28 =>
  Qu Pr (S26) (Instr.loadAt 22 v28) fun v29 =>
  Qu Pr (S26) (Instr.fieldAt 56 v24 0) fun v30 =>
  Qu Pr (S26) (Instr.loadAt 22 v30) fun v31 =>
  K (.tuple #[v29, v31]) w27)
theorem c19 {a0 : Value} {K : Value → World → Prop} {w : World} (h : t19 a0 K w) : CK Pr 19 #[a0] w K := by
  refine calls_of_RF [] Tryz.func19 rfl ?_ ?_ ?_
  · kernel_rfl
  · exact Nat.le_of_ble_eq_true rfl
  · exact cast (by kernel_rfl) h

def t20 (a0 : Value) (K : Value → World → Prop) (w : World) : Prop :=
 Qu Pr (Is w) (binS .gtr 22 (.tmp 3) (.const (Value.int .u64 0)) a0 (Value.int .u64 0)) fun v1 =>
 Gd v1 true (fun k2 => k2 a0 w) w fun v3 w4 =>
 Gd v1 true (fun k5 => Qu Pr (Is w4) (binS .lss 22 (.tmp 6) (.const (Value.int .u64 1099511627776)) v3 (Value.int .u64 1099511627776)) fun v8 => k5 v8 w4) w4 fun v6 w7 =>
 Qu Pr (Is w7) (pickS v1 v6 (Value.bool false)) fun v9 =>
 K v9 w7
theorem c20 {a0 : Value} {K : Value → World → Prop} {w : World} (h : t20 a0 K w) : CK Pr 20 #[a0] w K := by
  refine calls_of_RF [] Tryz.func20 rfl ?_ ?_ ?_
  · kernel_rfl
  · exact Nat.le_of_ble_eq_true rfl
  · exact cast (by kernel_rfl) h

def t21 (a0 a1 : Value) (K : Value → World → Prop) (w : World) : Prop :=
 Ef Pr (Instr.box 32 a0) w fun v2 w1 =>
 Ef Pr (Instr.box 64 a1) w1 fun v4 w3 =>
 Ef Pr (Instr.alloc 38 true (.tuple #[])) w3 fun v6 w5 =>
 Qu Pr (Is w5) (Instr.loadAt 32 v2) fun v7 =>
 Qu Pr (Is w5) (Instr.makeFunc (Fn.func 42) #[] #[v4]) fun v8 =>
 Cl Pr (callV (fn 29) #[v7, v8]) w5 fun v10 w9 =>
 Eu Pr (Instr.storeAt 38 v6 v10) w9 fun w11 =>
 Qu Pr (Is w11) (Instr.loadAt 38 v6) fun v12 =>
 K v12 w11
theorem c21 {a0 a1 : Value} {K : Value → World → Prop} {w : World} (h : t21 a0 a1 K w) : CK Pr 21 #[a0, a1] w K := by
  refine calls_of_RF [] Tryz.func21 rfl ?_ ?_ ?_
  · kernel_rfl
  · exact Nat.le_of_ble_eq_true rfl
  · exact cast (by kernel_rfl) h

def t22 (a0 a1 a2 a3 : Value) (K : Value → World → Prop) (w : World) : Prop :=
 Ef Pr (Instr.box 32 a1) w fun v2 w1 =>
 Dr w1 fun S3 w4 =>
 Qu Pr (S3) (Builtin.len_ #[36] 3 #[a0]) fun v5 =>
 Qu Pr (S3) (binS .eql 3 (.tmp 10) (.const (Value.int .i64 1)) v5 (Value.int .i64 1)) fun v6 =>
 Gd v6 true (fun k7 => k7 a0 w4) w4 fun v8 w9 =>
 Gd v6 true (fun k10 => Qu Pr (S3) (Instr.indexAt 36 v8 (Value.int .i64 0)) fun v13 => k10 v13 w9) w9 fun v11 w12 =>
 Gd v6 true (fun k14 => Qu Pr (S3) (Instr.fieldAt 64 v11 0) fun v17 => k14 v17 w12) w12 fun v15 w16 =>
 Gd v6 true (fun k18 => Qu Pr (S3) (Instr.loadAt 3 v15) fun v21 => k18 v21 w16) w16 fun v19 w20 =>
 Gd v6 true (fun k22 => k22 a2 w20) w20 fun v23 w24 =>
 Gd v6 true (fun k25 => Qu Pr (S3) (binS .eql 3 (.tmp 16) (.tmp 17) v19 v23) fun v28 => k25 v28 w24) w24 fun v26 w27 =>
 Qu Pr (S3) (pickS v6 v26 (Value.bool false)) fun v29 =>
 Gd v29 true (fun k30 => k30 a0 w27) w27 fun v31 w32 =>
 Gd v29 true (fun k33 => Qu Pr (S3) (Instr.indexAt 36 v31 (Value.int .i64 0)) fun v36 => k33 v36 w32) w32 fun v34 w35 =>
 Gd v29 true (fun k37 => Qu Pr (S3) (Instr.fieldAt 64 v34 1) fun v40 => k37 v40 w35) w35 fun v38 w39 =>
 Gd v29 true (fun k41 => Qu Pr (S3) (Instr.loadAt 22 v38) fun v44 => k41 v44 w39) w39 fun v42 w43 =>
 Gd v29 true (fun k45 => k45 a3 w43) w43 fun v46 w47 =>
 Gd v29 true (fun k48 => Qu Pr (S3) (binS .eql 22 (.tmp 24) (.tmp 25) v42 v46) fun v51 => k48 v51 w47) w47 fun v49 w50 =>
 Qu Pr (S3) (pickS v29 v49 (Value.bool false)) fun v52 =>
 Gd v52 true (fun k53 => k53 a0 w50) w50 fun v54 w55 =>
 Gd v52 true (fun k56 => Qu Pr (S3) (Instr.indexAt 36 v54 (Value.int .i64 0)) fun v59 => k56 v59 w55) w55 fun v57 w58 =>
 Gd v52 true (fun k60 => Qu Pr (S3) (Instr.fieldAt 64 v57 2) fun v63 => k60 v63 w58) w58 fun v61 w62 =>
 Gd v52 true (fun k64 => Qu Pr (S3) (Instr.loadAt 22 v61) fun v67 => k64 v67 w62) w62 fun v65 w66 =>
 Gd v52 true (fun k68 => Qu Pr (S3) (Instr.fieldAt 32 v2 0) fun v71 => k68 v71 w66) w66 fun v69 w70 =>
 Gd v52 true (fun k72 => Qu Pr (S3) (Instr.loadAt 22 v69) fun v75 => k72 v75 w70) w70 fun v73 w74 =>
 Gd v52 true (fun k76 => Qu Pr (S3) (binS .eql 22 (.tmp 32) (.tmp 34) v65 v73) fun v79 => k76 v79 w74) w74 fun v77 w78 =>
 Qu Pr (S3) (pickS v52 v77 (Value.bool false)) fun v80 =>
 Gd v80 true (fun k81 => k81 a0 w78) w78 fun v82 w83 =>
 Gd v80 true (fun k84 => Qu Pr (S3) (Instr.indexAt 36 v82 (Value.int .i64 0)) fun v87 => k84 v87 w83) w83 fun v85 w86 =>
 Gd v80 true (fun k88 => Qu Pr (S3) (Instr.fieldAt 64 v85 3) fun v91 => k88 v91 w86) w86 fun v89 w90 =>
 Gd v80 true (fun k92 => Qu Pr (S3) (Instr.loadAt 22 v89) fun v95 => k92 v95 w90) w90 fun v93 w94 =>
 Gd v80 true (fun k96 => Qu Pr (S3) (Instr.fieldAt 32 v2 1) fun v99 => k96 v99 w94) w94 fun v97 w98 =>
 Gd v80 true (fun k100 => Qu Pr (S3) (Instr.loadAt 22 v97) fun v103 => k100 v103 w98) w98 fun v101 w102 =>
 Gd v80 true (fun k104 => Qu Pr (S3) (binS .eql 22 (.tmp 41) (.tmp 43) v93 v101) fun v107 => k104 v107 w102) w102 fun v105 w106 =>
 Qu Pr (S3) (pickS v80 v105 (Value.bool false)) fun v108 =>
 K v108 w106
theorem c22 {a0 a1 a2 a3 : Value} {K : Value → World → Prop} {w : World} (h : t22 a0 a1 a2 a3 K w) : CK Pr 22 #[a0, a1, a2, a3] w K := by
  refine calls_of_RF [] Tryz.func22 rfl ?_ ?_ ?_
  · kernel_rfl
  · exact Nat.le_of_ble_eq_true rfl
  · exact cast (by kernel_rfl) h

def t23 (a0 : Value) (K : Value → World → Prop) (w : World) : Prop :=
 Qu Pr (Is w) (Builtin.len_ #[28] 3 #[a0]) fun v1 =>
 Qu Pr (Is w) (binS .gtr 3 (.tmp 6) (.const (Value.int .i64 2147483647)) v1 (Value.int .i64 2147483647)) fun v2 =>
 If v2 (
  K (Value.bool false) w) (
  Qu Pr (Is w) (Builtin.len_ #[28] 3 #[a0]) fun v3 =>
  LoopW [(Value.bool false), undef, (Value.int .i64 0), undef, undef, undef, undef, undef, undef, undef] (fun r4 τ5 w6 =>
   Qu Pr (Is w6) (binS .lss 3 (.tmp 10) (.tmp 9) (g τ5 2) v3) fun v7 =>
   If v7 (
    Qu Pr (Is w6) (Instr.indexAt 28 a0 (g τ5 2)) fun v8 =>
    Qu Pr (Is w6) (Instr.loadAt 56 v8) fun v9 =>
    Ef Pr (Instr.alloc 56 true (.tuple #[])) w6 fun v11 w10 =>
    Eu Pr (Instr.storeAt 56 v11 v9) w10 fun w12 =>
    Qu Pr (Is w12) (Instr.loadAt 56 v11) fun v13 =>
    Cl Pr (callV (fn 45) #[v13]) w12 fun v15 w14 =>
    Qu Pr (Is w14) (Op.unary .not v15) fun v16 =>
    If v16 (
     K (Value.bool false) w14) (
     Qu Pr (Is w14) (binS .add 3 (.tmp 10) (.const (Value.int .i64 1)) (g τ5 2) (Value.int .i64 1)) fun v17 =>
     r4 [(g τ5 0), v11, v17, v7, v8, v9, v13, v15, v16, v17] w14)) (
    K (Value.bool true) w6)) w)
theorem c23 {a0 : Value} {K : Value → World → Prop} {w : World} (h : t23 a0 K w) : CK Pr 23 #[a0] w K := by
  refine calls_of_RF [(4, [2, 4, 10, 11, 12, 13, 14, 15, 16, 17])] Tryz.func23 rfl ?_ ?_ ?_
  · kernel_rfl
  · exact Nat.le_of_ble_eq_true rfl
  · exact cast (by kernel_rfl) h

def t24 (a0 : Value) (K : Value → World → Prop) (w : World) : Prop :=
 Qu Pr (Is w) (Builtin.len_ #[29] 3 #[a0]) fun v1 =>
 Qu Pr (Is w) (binS .gtr 3 (.tmp 6) (.const (Value.int .i64 2147483647)) v1 (Value.int .i64 2147483647)) fun v2 =>
 If v2 (
  K (Value.bool false) w) (
  Qu Pr (Is w) (Builtin.len_ #[29] 3 #[a0]) fun v3 =>
  LoopW [(Value.bool false), undef, (Value.int .i64 0), undef, undef, undef, undef, undef, undef, undef] (fun r4 τ5 w6 =>
   Qu Pr (Is w6) (binS .lss 3 (.tmp 10) (.tmp 9) (g τ5 2) v3) fun v7 =>
   If v7 (
    Qu Pr (Is w6) (Instr.indexAt 29 a0 (g τ5 2)) fun v8 =>
    Qu Pr (Is w6) (Instr.loadAt 60 v8) fun v9 =>
    Ef Pr (Instr.alloc 60 true (.tuple #[])) w6 fun v11 w10 =>
    Eu Pr (Instr.storeAt 60 v11 v9) w10 fun w12 =>
    Qu Pr (Is w12) (Instr.loadAt 60 v11) fun v13 =>
    Cl Pr (callV (fn 46) #[v13]) w12 fun v15 w14 =>
    Qu Pr (Is w14) (Op.unary .not v15) fun v16 =>
    If v16 (
     K (Value.bool false) w14) (
     Qu Pr (Is w14) (binS .add 3 (.tmp 10) (.const (Value.int .i64 1)) (g τ5 2) (Value.int .i64 1)) fun v17 =>
     r4 [(g τ5 0), v11, v17, v7, v8, v9, v13, v15, v16, v17] w14)) (
    K (Value.bool true) w6)) w)
theorem c24 {a0 : Value} {K : Value → World → Prop} {w : World} (h : t24 a0 K w) : CK Pr 24 #[a0] w K := by
  refine calls_of_RF [(4, [2, 4, 10, 11, 12, 13, 14, 15, 16, 17])] Tryz.func24 rfl ?_ ?_ ?_
  · kernel_rfl
  · exact Nat.le_of_ble_eq_true rfl
  · exact cast (by kernel_rfl) h

def t25 (a0 : Value) (K : Value → World → Prop) (w : World) : Prop :=
 Ef Pr (Instr.box 25 a0) w fun v2 w1 =>
 Qu Pr (Is w1) (Instr.fieldAt 25 v2 0) fun v3 =>
 Qu Pr (Is w1) (Instr.loadAt 23 v3) fun v4 =>
 Qu Pr (Is w1) (Builtin.len_ #[23] 3 #[v4]) fun v5 =>
 Qu Pr (Is w1) (binS .gtr 3 (.tmp 5) (.const (Value.int .i64 2147483647)) v5 (Value.int .i64 2147483647)) fun v6 =>
 If v6 (
  K (Value.bool false) w1) (
  Qu Pr (Is w1) (Instr.fieldAt 25 v2 1) fun v7 =>
  Qu Pr (Is w1) (Instr.loadAt 23 v7) fun v8 =>
  Qu Pr (Is w1) (Builtin.len_ #[23] 3 #[v8]) fun v9 =>
  Qu Pr (Is w1) (binS .gtr 3 (.tmp 9) (.const (Value.int .i64 2147483647)) v9 (Value.int .i64 2147483647)) fun v10 =>
  If v10 (
   K (Value.bool false) w1) (
   Qu Pr (Is w1) (Instr.fieldAt 25 v2 2) fun v11 =>
   Qu Pr (Is w1) (Instr.loadAt 23 v11) fun v12 =>
   Qu Pr (Is w1) (Builtin.len_ #[23] 3 #[v12]) fun v13 =>
   Qu Pr (Is w1) (binS .gtr 3 (.tmp 13) (.const (Value.int .i64 2147483647)) v13 (Value.int .i64 2147483647)) fun v14 =>
   If v14 (
    K (Value.bool false) w1) (
    Qu Pr (Is w1) (Instr.fieldAt 25 v2 3) fun v15 =>
    Qu Pr (Is w1) (Instr.loadAt 23 v15) fun v16 =>
    Qu Pr (Is w1) (Builtin.len_ #[23] 3 #[v16]) fun v17 =>
    Qu Pr (Is w1) (binS .gtr 3 (.tmp 17) (.const (Value.int .i64 2147483647)) v17 (Value.int .i64 2147483647)) fun v18 =>
    If v18 (
     K (Value.bool false) w1) (
     K (Value.bool true) w1))))
theorem c25 {a0 : Value} {K : Value → World → Prop} {w : World} (h : t25 a0 K w) : CK Pr 25 #[a0] w K := by
  refine calls_of_RF [] Tryz.func25 rfl ?_ ?_ ?_
  · kernel_rfl
  · exact Nat.le_of_ble_eq_true rfl
  · exact cast (by kernel_rfl) h

def t26 (a0 : Value) (K : Value → World → Prop) (w : World) : Prop :=
 Ef Pr (Instr.box 25 a0) w fun v2 w1 =>
 Qu Pr (Is w1) (Instr.fieldAt 25 v2 0) fun v3 =>
 Qu Pr (Is w1) (Instr.loadAt 23 v3) fun v4 =>
 Qu Pr (Is w1) (Builtin.len_ #[23] 3 #[v4]) fun v5 =>
 Qu Pr (Is w1) (binS .eql 3 (.tmp 8) (.const (Value.int .i64 0)) v5 (Value.int .i64 0)) fun v6 =>
 Gd v6 false (fun k7 => Qu Pr (Is w1) (Instr.fieldAt 25 v2 0) fun v10 => k7 v10 w1) w1 fun v8 w9 =>
 Gd v6 false (fun k11 => Qu Pr (Is w9) (Instr.loadAt 23 v8) fun v14 => k11 v14 w9) w9 fun v12 w13 =>
 Gd v6 false (fun k15 => Qu Pr (Is w13) (Builtin.len_ #[23] 3 #[v12]) fun v18 => k15 v18 w13) w13 fun v16 w17 =>
 Gd v6 false (fun k19 => Qu Pr (Is w17) (binS .gtr 3 (.tmp 13) (.const (Value.int .i64 9)) v16 (Value.int .i64 9)) fun v22 => k19 v22 w17) w17 fun v20 w21 =>
 Qu Pr (Is w21) (pickS v6 (Value.bool true) v20) fun v23 =>
 Gd v23 false (fun k24 => Qu Pr (Is w21) (Instr.fieldAt 25 v2 1) fun v27 => k24 v27 w21) w21 fun v25 w26 =>
 Gd v23 false (fun k28 => Qu Pr (Is w26) (Instr.loadAt 23 v25) fun v31 => k28 v31 w26) w26 fun v29 w30 =>
 Gd v23 false (fun k32 => Qu Pr (Is w30) (Builtin.len_ #[23] 3 #[v29]) fun v35 => k32 v35 w30) w30 fun v33 w34 =>
 Gd v23 false (fun k36 => Qu Pr (Is w34) (binS .gtr 3 (.tmp 19) (.const (Value.int .i64 4)) v33 (Value.int .i64 4)) fun v39 => k36 v39 w34) w34 fun v37 w38 =>
 Qu Pr (Is w38) (pickS v23 (Value.bool true) v37) fun v40 =>
 Gd v40 false (fun k41 => Qu Pr (Is w38) (Instr.fieldAt 25 v2 2) fun v44 => k41 v44 w38) w38 fun v42 w43 =>
 Gd v40 false (fun k45 => Qu Pr (Is w43) (Instr.loadAt 23 v42) fun v48 => k45 v48 w43) w43 fun v46 w47 =>
 Gd v40 false (fun k49 => Qu Pr (Is w47) (Builtin.len_ #[23] 3 #[v46]) fun v52 => k49 v52 w47) w47 fun v50 w51 =>
 Gd v40 false (fun k53 => Qu Pr (Is w51) (Instr.fieldAt 25 v2 3) fun v56 => k53 v56 w51) w51 fun v54 w55 =>
 Gd v40 false (fun k57 => Qu Pr (Is w55) (Instr.loadAt 23 v54) fun v60 => k57 v60 w55) w55 fun v58 w59 =>
 Gd v40 false (fun k61 => Qu Pr (Is w59) (Builtin.len_ #[23] 3 #[v58]) fun v64 => k61 v64 w59) w59 fun v62 w63 =>
 Gd v40 false (fun k65 => Qu Pr (Is w63) (binS .add 3 (.tmp 25) (.tmp 28) v50 v62) fun v68 => k65 v68 w63) w63 fun v66 w67 =>
 Gd v40 false (fun k69 => Qu Pr (Is w67) (binS .gtr 3 (.tmp 29) (.const (Value.int .i64 0)) v66 (Value.int .i64 0)) fun v72 => k69 v72 w67) w67 fun v70 w71 =>
 Qu Pr (Is w71) (pickS v40 (Value.bool true) v70) fun v73 =>
 Gd v73 false (fun k74 => Qu Pr (Is w71) (Instr.fieldAt 25 v2 4) fun v77 => k74 v77 w71) w71 fun v75 w76 =>
 Gd v73 false (fun k78 => Qu Pr (Is w76) (Instr.loadAt 4 v75) fun v81 => k78 v81 w76) w76 fun v79 w80 =>
 Qu Pr (Is w80) (pickS v73 (Value.bool true) v79) fun v82 =>
 If v82 (
  K (Value.bool false) w80) (
  Dr w80 fun S83 w84 =>
  Ef Pr (Instr.buildSlice 23 0 #[]) w84 fun v86 w85 => S83 w85 ∧
  Qu Pr (S83) (Instr.fieldAt 25 v2 0) fun v87 =>
  Qu Pr (S83) (Instr.loadAt 23 v87) fun v88 =>
  Ef Pr (Builtin.append_ #[23, 23] 23 #[v86, v88]) w85 fun v90 w89 => S83 w89 ∧
  Qu Pr (S83) (Instr.fieldAt 25 v2 1) fun v91 =>
  Qu Pr (S83) (Instr.loadAt 23 v91) fun v92 =>
  Ef Pr (Builtin.append_ #[23, 23] 23 #[v90, v92]) w89 fun v94 w93 => S83 w93 ∧
  Qu Pr (Is w93) (Builtin.len_ #[23] 3 #[v94]) fun v95 =>
  LoopW [(Value.bool false), undef, (Value.int .i64 0), undef, undef, undef, undef, undef, undef, undef] (fun r96 τ97 w98 =>
   Qu Pr (Is w98) (binS .lss 3 (.tmp 45) (.tmp 44) (g τ97 2) v95) fun v99 =>
   If v99 (
    Qu Pr (Is w98) (Instr.indexAt 23 v94 (g τ97 2)) fun v100 =>
    Qu Pr (Is w98) (Instr.loadAt 22 v100) fun v101 =>
    Cl Pr (callV (fn 20) #[v101]) w98 fun v103 w102 =>
    Qu Pr (Is w102) (Op.unary .not v103) fun v104 =>
    If v104 (
     K (Value.bool false) w102) (
     Qu Pr (Is w102) (binS .add 3 (.tmp 45) (.const (Value.int .i64 1)) (g τ97 2) (Value.int .i64 1)) fun v105 =>
     r96 [(g τ97 0), v101, v105, v99, v100, v101, v101, v103, v104, v105] w102)) (
    Cl Pr (callV (fn 47) #[v94]) w98 fun v107 w106 =>
    K v107 w106)) w93)
theorem c26 {a0 : Value} {K : Value → World → Prop} {w : World} (h : t26 a0 K w) : CK Pr 26 #[a0] w K := by
  refine calls_of_RF [(5, [2, 5, 45, 46, 47, 48, 49, 50, 51, 52])] Tryz.func26 rfl ?_ ?_ ?_
  · kernel_rfl
  · exact Nat.le_of_ble_eq_true rfl
  · exact cast (by kernel_rfl) h

def t27 (a0 a1 : Value) (K : Value → World → Prop) (w : World) : Prop :=
 Ef Pr (Instr.box 32 a0) w fun v2 w1 =>
 Qu Pr (Is w1) (Instr.fieldAt 32 v2 10) fun v3 =>
 Qu Pr (Is w1) (Instr.loadAt 23 v3) fun v4 =>
 Cl Pr (callV (fn 18) #[v4, a1]) w1 fun v6 w5 =>
 Gd v6 false (fun k7 => Qu Pr (Is w5) (Instr.fieldAt 32 v2 11) fun v10 => k7 v10 w5) w5 fun v8 w9 =>
 Gd v6 false (fun k11 => Qu Pr (Is w9) (Instr.loadAt 23 v8) fun v14 => k11 v14 w9) w9 fun v12 w13 =>
 Gd v6 false (fun k15 => k15 a1 w13) w13 fun v16 w17 =>
 Gd v6 false (fun k18 => Cl Pr (callV (fn 18) #[v12, v16]) w17 fun v19x w20x => k18 v19x w20x) w17 fun v19 w20 =>
 Qu Pr (Is w20) (pickS v6 (Value.bool true) v19) fun v21 =>
 K v21 w20
theorem c27 {a0 a1 : Value} {K : Value → World → Prop} {w : World} (h : t27 a0 a1 K w) : CK Pr 27 #[a0, a1] w K := by
  refine calls_of_RF [] Tryz.func27 rfl ?_ ?_ ?_
  · kernel_rfl
  · exact Nat.le_of_ble_eq_true rfl
  · exact cast (by kernel_rfl) h

@[irreducible] def t28_1 (w17 : World) (a2 : Value) (τ16 : List Value) (a0 : Value) (a3 : Value) (K : Value → World → Prop) (r15 : List Value → World → Prop) (v18 : Value) : Prop :=
    Qu Pr (Is w17) (Instr.indexAt 28 a2 (g τ16 4)) fun v19 =>
    Qu Pr (Is w17) (Instr.loadAt 56 v19) fun v20 =>
    Ef Pr (Instr.alloc 56 true (.tuple #[])) w17 fun v22 w21 =>
    Eu Pr (Instr.storeAt 56 v22 v20) w21 fun w23 =>
    Qu Pr (Is w23) (Instr.fieldAt 56 v22 1) fun v24 =>
    Qu Pr (Is w23) (Instr.loadAt 22 v24) fun v25 =>
    Qu Pr (Is w23) (binS .add 22 (.tmp 28) (.const (Value.int .u64 1)) a0 (Value.int .u64 1)) fun v26 =>
    Qu Pr (Is w23) (convert 3 22 (g τ16 4)) fun v27 =>
    Qu Pr (Is w23) (binS .add 22 (.tmp 29) (.tmp 31) v26 v27) fun v28 =>
    Qu Pr (Is w23) (binS .neq 22 (.tmp 27) (.tmp 32) v25 v28) fun v29 =>
    Gd v29 false (fun k30 => Qu Pr (Is w23) (Instr.fieldAt 56 v22 0) fun v33 => k30 v33 w23) w23 fun v31 w32 =>
    Gd v29 false (fun k34 => Qu Pr (Is w32) (Instr.loadAt 22 v31) fun v37 => k34 v37 w32) w32 fun v35 w36 =>
    Gd v29 false (fun k38 => k38 (g τ16 0) w36) w36 fun v39 w40 =>
    Gd v29 false (fun k41 => Qu Pr (Is w40) (binS .lss 22 (.tmp 36) (.tmp 37) v35 v39) fun v44 => k41 v44 w40) w40 fun v42 w43 =>
    Qu Pr (Is w43) (pickS v29 (Value.bool true) v42) fun v45 =>
    Gd v45 false (fun k46 => Qu Pr (Is w43) (Instr.fieldAt 56 v22 0) fun v49 => k46 v49 w43) w43 fun v47 w48 =>
    Gd v45 false (fun k50 => Qu Pr (Is w48) (Instr.loadAt 22 v47) fun v53 => k50 v53 w48) w48 fun v51 w52 =>
    Gd v45 false (fun k54 => k54 a3 w52) w52 fun v55 w56 =>
    Gd v45 false (fun k57 => Qu Pr (Is w56) (binS .gtr 22 (.tmp 42) (.tmp 43) v51 v55) fun v60 => k57 v60 w56) w56 fun v58 w59 =>
    Qu Pr (Is w59) (pickS v45 (Value.bool true) v58) fun v61 =>
    Gd v61 false (fun k62 => Qu Pr (Is w59) (Instr.fieldAt 56 v22 2) fun v65 => k62 v65 w59) w59 fun v63 w64 =>
    Gd v61 false (fun k66 => Qu Pr (Is w64) (Instr.loadAt 3 v63) fun v69 => k66 v69 w64) w64 fun v67 w68 =>
    Gd v61 false (fun k70 => Qu Pr (Is w68) (binS .neq 3 (.tmp 48) (.const (Value.int .i64 0)) v67 (Value.int .i64 0)) fun v73 => k70 v73 w68) w68 fun v71 w72 =>
    Qu Pr (Is w72) (pickS v61 (Value.bool true) v71) fun v74 =>
    Gd v74 false (fun k75 => Qu Pr (Is w72) (Instr.fieldAt 56 v22 3) fun v78 => k75 v78 w72) w72 fun v76 w77 =>
    Gd v74 false (fun k79 => Qu Pr (Is w77) (Instr.loadAt 9 v76) fun v82 => k79 v82 w77) w77 fun v80 w81 =>
    Gd v74 false (fun k83 => Qu Pr (Is w81) (Builtin.len_ #[9] 3 #[v80]) fun v86 => k83 v86 w81) w81 fun v84 w85 =>
    Gd v74 false (fun k87 => Qu Pr (Is w85) (binS .gtr 3 (.tmp 54) (.const (Value.int .i64 100)) v84 (Value.int .i64 100)) fun v90 => k87 v90 w85) w85 fun v88 w89 =>
    Qu Pr (Is w89) (pickS v74 (Value.bool true) v88) fun v91 =>
    If v91 (
     K (Value.bool false) w89) (
     Qu Pr (Is w89) (Instr.fieldAt 56 v22 0) fun v92 =>
     Qu Pr (Is w89) (Instr.loadAt 22 v92) fun v93 =>
     Qu Pr (Is w89) (binS .add 3 (.tmp 21) (.const (Value.int .i64 1)) (g τ16 4) (Value.int .i64 1)) fun v94 =>
     r15 [v93, (g τ16 1), (g τ16 4), v22, v94, v18, (g τ16 4), v19, v20, v24, v25, a0, v26, (g τ16 4), v27, v28, v29, v29, v31, v35, v39, v42, v45, v45, v47, v51, v55, v58, v61, v61, v63, v67, v71, v74, v74, v76, v80, v84, v88, v91, v92, v93, v94] w89)
@[irreducible] def t28_2 (w11 : World) (a2 : Value) (a1 : Value) (a0 : Value) (a3 : Value) (K : Value → World → Prop) : Prop :=
  Qu Pr (Is w11) (Builtin.len_ #[28] 3 #[a2]) fun v14 =>
  LoopW [a1, (Value.bool false), undef, undef, (Value.int .i64 0), undef, undef, undef, undef, undef, undef, undef, undef, undef, undef, undef, undef, undef, undef, undef, undef, undef, undef, undef, undef, undef, undef, undef, undef, undef, undef, undef, undef, undef, undef, undef, undef, undef, undef, undef, undef, undef, undef] (fun r15 τ16 w17 =>
   Qu Pr (Is w17) (binS .lss 3 (.tmp 21) (.tmp 20) (g τ16 4) v14) fun v18 =>
   If v18 (t28_1 w17 a2 τ16 a0 a3 K r15 v18) (
    K (Value.bool true) w17)) w11
def t28 (a0 a1 a2 a3 : Value) (K : Value → World → Prop) (w : World) : Prop :=
 Qu Pr (Is w) (Builtin.len_ #[28] 3 #[a2]) fun v1 =>
 Qu Pr (Is w) (binS .gtr 3 (.tmp 12) (.const (Value.int .i64 30)) v1 (Value.int .i64 30)) fun v2 =>
 Gd v2 false (fun k3 => k3 a1 w) w fun v4 w5 =>
 Gd v2 false (fun k6 => k6 a3 w5) w5 fun v7 w8 =>
 Gd v2 false (fun k9 => Qu Pr (Is w8) (binS .gtr 22 (.tmp 15) (.tmp 16) v4 v7) fun v12 => k9 v12 w8) w8 fun v10 w11 =>
 Qu Pr (Is w11) (pickS v2 (Value.bool true) v10) fun v13 =>
 If v13 (
  K (Value.bool false) w11) (t28_2 w11 a2 a1 a0 a3 K)
theorem c28 {a0 a1 a2 a3 : Value} {K : Value → World → Prop} {w : World} (h : t28 a0 a1 a2 a3 K w) : CK Pr 28 #[a0, a1, a2, a3] w K := by
  refine calls_of_RF [(4, [1, 8, 9, 10, 21, 22, 23, 24, 25, 26, 27, 28, 29, 30, 31, 32, 33, 34, 35, 36, 37, 38, 39, 40, 41, 42, 43, 44, 45, 46, 47, 48, 49, 50, 51, 52, 53, 54, 55, 56, 57, 58, 59])] Tryz.func28 rfl ?_ ?_ ?_
  · kernel_rfl
  · exact Nat.le_of_ble_eq_true rfl
  · exact cast (by kernel_rfl) h

def t29 (a0 a1 : Value) (K : Value → World → Prop) (w : World) : Prop :=
 Ef Pr (Instr.box 32 a0) w fun v2 w1 =>
 Ef Pr (Instr.box 77 a1) w1 fun v4 w3 =>
 Ef Pr (Instr.alloc 38 true (.tuple #[])) w3 fun v6 w5 =>
 Ef Pr (Instr.alloc 38 true (.tuple #[])) w5 fun v8 w7 =>
 Qu Pr (Is w7) (Instr.makeFunc (Fn.func 49) #[] #[v2, v4, v8]) fun v9 =>
 Cl Pr (callV (fn 48) #[v9]) w7 fun v11 w10 =>
 If v11 (
  Qu Pr (Is w10) (Instr.build 38 #[(4, (Value.bool true))]) fun v12 =>
  Eu Pr (Instr.storeAt 38 v6 v12) w10 fun w13 =>
  Qu Pr (Is w13) (Instr.loadAt 38 v6) fun v14 =>
  K v14 w13) (
  Qu Pr (Is w10) (Instr.loadAt 38 v8) fun v15 =>
  Eu Pr (Instr.storeAt 38 v6 v15) w10 fun w16 =>
  Qu Pr (Is w16) (Instr.loadAt 38 v6) fun v17 =>
  K v17 w16)
theorem c29 {a0 a1 : Value} {K : Value → World → Prop} {w : World} (h : t29 a0 a1 K w) : CK Pr 29 #[a0, a1] w K := by
  refine calls_of_RF [] Tryz.func29 rfl ?_ ?_ ?_
  · kernel_rfl
  · exact Nat.le_of_ble_eq_true rfl
  · exact cast (by kernel_rfl) h

def t30 (a0 a1 : Value) (K : Value → World → Prop) (w : World) : Prop :=
 Qu Pr (Is w) (Instr.loadAt 27 a1) fun v1 =>
 Cl Pr (callV (fn 32) #[v1]) w fun v3 w2 =>
 Cl Pr (callV (fn 31) #[a0, v3]) w2 fun v5 w4 =>
 K v5 w4
theorem c30 {a0 a1 : Value} {K : Value → World → Prop} {w : World} (h : t30 a0 a1 K w) : CK Pr 30 #[a0, a1] w K := by
  refine calls_of_RF [] Tryz.func30 rfl ?_ ?_ ?_
  · kernel_rfl
  · exact Nat.le_of_ble_eq_true rfl
  · exact cast (by kernel_rfl) h

def t31 (a0 a1 : Value) (K : Value → World → Prop) (w : World) : Prop :=
 Cl Pr (callV (fn 54) #[a0, a1]) w fun v2 w1 =>
 K v2 w1
theorem c31 {a0 a1 : Value} {K : Value → World → Prop} {w : World} (h : t31 a0 a1 K w) : CK Pr 31 #[a0, a1] w K := by
  refine calls_of_RF [] Tryz.func31 rfl ?_ ?_ ?_
  · kernel_rfl
  · exact Nat.le_of_ble_eq_true rfl
  · exact cast (by kernel_rfl) h

def t32 (a0 : Value) (K : Value → World → Prop) (w : World) : Prop :=
 Ef Pr (Instr.box 27 a0) w fun v2 w1 =>
 Dr w1 fun S3 w4 =>
 Qu Pr (S3) (Instr.fieldAt 27 v2 0) fun v5 =>
 Qu Pr (S3) (Instr.loadAt 9 v5) fun v6 =>
 Cl Pr (callV (fn 55) #[v6]) w4 fun v8 w7 => S3 w7 ∧
 Qu Pr (S3) (Instr.fieldAt 27 v2 3) fun v9 =>
 Qu Pr (S3) (Instr.loadAt 25 v9) fun v10 =>
 Cl Pr (callV (fn 56) #[v10]) w7 fun v12 w11 => S3 w11 ∧
 Qu Pr (S3) (Instr.fieldAt 27 v2 1) fun v13 =>
 Qu Pr (S3) (Instr.loadAt 22 v13) fun v14 =>
 Ef Pr (Instr.box 22 v14) w11 fun v16 w15 => S3 w15 ∧
 Qu Pr (S3) (Instr.fieldAt 27 v2 2) fun v17 =>
 Qu Pr (S3) (Instr.loadAt 22 v17) fun v18 =>
 Ef Pr (Instr.box 22 v18) w15 fun v20 w19 => S3 w19 ∧
 Qu Pr (S3) (Instr.build 106 #[(0, v12), (1, v16), (2, v20)]) fun v21 =>
 Ef Pr (Instr.box 106 v21) w19 fun v23 w22 => S3 w22 ∧
 Qu Pr (S3) (Instr.build 108 #[(0, v8), (1, v23)]) fun v24 =>
 Ef Pr (Instr.box 108 v24) w22 fun v26 w25 => S3 w25 ∧
 K v26 w25
theorem c32 {a0 : Value} {K : Value → World → Prop} {w : World} (h : t32 a0 K w) : CK Pr 32 #[a0] w K := by
  refine calls_of_RF [] Tryz.func32 rfl ?_ ?_ ?_
  · kernel_rfl
  · exact Nat.le_of_ble_eq_true rfl
  · exact cast (by kernel_rfl) h

def t33 (a0 a1 : Value) (K : Value → World → Prop) (w : World) : Prop :=
 Ef Pr (Instr.box 43 a0) w fun v2 w1 =>
 Qu Pr (Is w1) (Instr.loadAt 43 v2) fun v3 =>
 Cl Pr (callV (fn 19) #[v3]) w1 fun v5 w4 =>
 Qu Pr (Is w4) (Instr.extract v5 0) fun v6 =>
 Qu Pr (Is w4) (Instr.extract v5 1) fun _ =>
 Qu Pr (Is w4) (Instr.fieldAt 43 v2 3) fun v8 =>
 Qu Pr (Is w4) (Instr.fieldAt 27 v8 1) fun v9 =>
 Qu Pr (Is w4) (Instr.loadAt 22 v9) fun v10 =>
 Qu Pr (Is w4) (binS .lss 22 (.tmp 14) (.tmp 17) a1 v10) fun v11 =>
 Gd v11 false (fun k12 => k12 a1 w4) w4 fun v13 w14 =>
 Gd v11 false (fun k15 => k15 v6 w14) w14 fun v16 w17 =>
 Gd v11 false (fun k18 => Qu Pr (Is w17) (binS .gtr 22 (.tmp 20) (.tmp 21) v13 v16) fun v21 => k18 v21 w17) w17 fun v19 w20 =>
 Qu Pr (Is w20) (pickS v11 (Value.bool true) v19) fun v22 =>
 If v22 (
  K (.tuple #[(Value.int .u64 0), (Value.bool false)]) w20) (
  Qu Pr (Is w20) (Instr.fieldAt 43 v2 3) fun v23 =>
  Qu Pr (Is w20) (Instr.fieldAt 27 v23 1) fun v24 =>
  Qu Pr (Is w20) (Instr.loadAt 22 v24) fun v25 =>
  Qu Pr (Is w20) (binS .eql 22 (.tmp 25) (.tmp 28) a1 v25) fun v26 =>
  If v26 (
   Qu Pr (Is w20) (Instr.fieldAt 43 v2 3) fun v27 =>
   Qu Pr (Is w20) (Instr.fieldAt 27 v27 2) fun v28 =>
   Qu Pr (Is w20) (Instr.loadAt 22 v28) fun v29 =>
   K (.tuple #[v29, (Value.bool true)]) w20) (
   Qu Pr (Is w20) (Instr.fieldAt 43 v2 4) fun v30 =>
   Qu Pr (Is w20) (Instr.loadAt 28 v30) fun v31 =>
   Qu Pr (Is w20) (Instr.fieldAt 43 v2 3) fun v32 =>
   Qu Pr (Is w20) (Instr.fieldAt 27 v32 1) fun v33 =>
   Qu Pr (Is w20) (Instr.loadAt 22 v33) fun v34 =>
   Qu Pr (Is w20) (binS .sub 22 (.tmp 35) (.tmp 38) a1 v34) fun v35 =>
   Qu Pr (Is w20) (binS .sub 22 (.tmp 39) (.const (Value.int .u64 1)) v35 (Value.int .u64 1)) fun v36 =>
   Qu Pr (Is w20) (Instr.indexAt 28 v31 v36) fun v37 =>
   Qu Pr (Is w20) (Instr.fieldAt 56 v37 0) fun v38 =>
   Qu Pr (Is w20) (Instr.loadAt 22 v38) fun v39 =>
   K (.tuple #[v39, (Value.bool true)]) w20))
theorem c33 {a0 a1 : Value} {K : Value → World → Prop} {w : World} (h : t33 a0 a1 K w) : CK Pr 33 #[a0, a1] w K := by
  refine calls_of_RF [] Tryz.func33 rfl ?_ ?_ ?_
  · kernel_rfl
  · exact Nat.le_of_ble_eq_true rfl
  · exact cast (by kernel_rfl) h

def t34 (a0 a1 : Value) (K : Value → World → Prop) (w : World) : Prop :=
 Ef Pr (Instr.box 43 a0) w fun v2 w1 =>
 Ef Pr (Instr.alloc 43 true (.tuple #[])) w1 fun v4 w3 =>
 Qu Pr (Is w3) (Instr.loadAt 43 v2) fun v5 =>
 Cl Pr (callV (fn 19) #[v5]) w3 fun v7 w6 =>
 Qu Pr (Is w6) (Instr.extract v7 0) fun v8 =>
 Qu Pr (Is w6) (Instr.extract v7 1) fun _ =>
 Qu Pr (Is w6) (Instr.fieldAt 43 v2 2) fun v10 =>
 Qu Pr (Is w6) (Instr.fieldAt 41 v10 2) fun v11 =>
 Qu Pr (Is w6) (Instr.loadAt 22 v11) fun v12 =>
 Qu Pr (Is w6) (Builtin.min_ #[22, 22] 22 #[a1, v8]) fun v13 =>
 Qu Pr (Is w6) (Builtin.max_ #[22, 22] 22 #[v12, v13]) fun v14 =>
 Qu Pr (Is w6) (Instr.fieldAt 43 v2 2) fun v15 =>
 Qu Pr (Is w6) (Instr.fieldAt 41 v15 2) fun v16 =>
 Eu Pr (Instr.storeAt 22 v16 v14) w6 fun w17 =>
 Qu Pr (Is w17) (Instr.loadAt 43 v2) fun v18 =>
 Eu Pr (Instr.storeAt 43 v4 v18) w17 fun w19 =>
 Qu Pr (Is w19) (Instr.loadAt 43 v4) fun v20 =>
 K v20 w19
theorem c34 {a0 a1 : Value} {K : Value → World → Prop} {w : World} (h : t34 a0 a1 K w) : CK Pr 34 #[a0, a1] w K := by
  refine calls_of_RF [] Tryz.func34 rfl ?_ ?_ ?_
  · kernel_rfl
  · exact Nat.le_of_ble_eq_true rfl
  · exact cast (by kernel_rfl) h

def t35 (a0 a1 : Value) (K : Value → World → Prop) (w : World) : Prop :=
 Qu Pr (Is w) (Builtin.len_ #[28] 3 #[a0]) fun v1 =>
 Qu Pr (Is w) (Builtin.len_ #[28] 3 #[a1]) fun v2 =>
 Qu Pr (Is w) (binS .neq 3 (.tmp 7) (.tmp 9) v1 v2) fun v3 =>
 If v3 (
  K (Value.bool false) w) (
  Qu Pr (Is w) (Builtin.len_ #[28] 3 #[a0]) fun v4 =>
  LoopW [(Value.bool false), undef, (Value.int .i64 0), undef, undef, undef, undef, undef, undef, undef, undef, undef, undef, undef, undef] (fun r5 τ6 w7 =>
   Qu Pr (Is w7) (binS .lss 3 (.tmp 13) (.tmp 12) (g τ6 2) v4) fun v8 =>
   If v8 (
    Dr w7 fun S9 w10 =>
    Qu Pr (S9) (Instr.indexAt 28 a0 (g τ6 2)) fun v11 =>
    Qu Pr (S9) (Instr.loadAt 56 v11) fun v12 =>
    Qu Pr (S9) (Instr.indexAt 28 a1 (g τ6 2)) fun v13 =>
    Qu Pr (S9) (Instr.loadAt 56 v13) fun v14 =>
    Qu Pr (S9) (binS .neq 56 (.tmp 19) (.tmp 23) v12 v14) fun v15 =>
    If v15 (
     K (Value.bool false) w10) (
     Qu Pr (Is w10) (binS .add 3 (.tmp 13) (.const (Value.int .i64 1)) (g τ6 2) (Value.int .i64 1)) fun v16 =>
     r5 [(g τ6 0), (g τ6 2), v16, v8, (g τ6 2), a0, (g τ6 2), v11, v12, a1, (g τ6 2), v13, v14, v15, v16] w10)) (
    K (Value.bool true) w7)) w)
theorem c35 {a0 a1 : Value} {K : Value → World → Prop} {w : World} (h : t35 a0 a1 K w) : CK Pr 35 #[a0, a1] w K := by
  refine calls_of_RF [(4, [4, 5, 13, 14, 15, 16, 17, 18, 19, 20, 21, 22, 23, 24, 25])] Tryz.func35 rfl ?_ ?_ ?_
  · kernel_rfl
  · exact Nat.le_of_ble_eq_true rfl
  · exact cast (by kernel_rfl) h

def t36 (a0 a1 : Value) (K : Value → World → Prop) (w : World) : Prop :=
 Cl Pr (callV (fn 58) #[a0]) w fun v2 w1 =>
 Cl Pr (callV (fn 58) #[a1]) w1 fun v4 w3 =>
 Cl Pr (callV (fn 57) #[v2, v4]) w3 fun v6 w5 =>
 K v6 w5
theorem c36 {a0 a1 : Value} {K : Value → World → Prop} {w : World} (h : t36 a0 a1 K w) : CK Pr 36 #[a0, a1] w K := by
  refine calls_of_RF [] Tryz.func36 rfl ?_ ?_ ?_
  · kernel_rfl
  · exact Nat.le_of_ble_eq_true rfl
  · exact cast (by kernel_rfl) h

end Go.Proofs.YtmmpogfbhelioaaGreat
