/-
  PARTS: T6 S0 S1 S2 S3 S4.
-/
import Derived.Test.YtmmpogfbhelioaaGreatFbb
import Derived.Test.YtmmpogfbhelioaaGreatFbg
/-
  The readable texts of the sorting functions, printed by gen.py, and their links with the program.
  Conditions: none.
-/
namespace Go.Proofs.YtmmpogfbhelioaaGreat
set_option maxRecDepth 10000
set_option linter.unusedVariables false
set_option linter.unusedSimpArgs false
set_option linter.unusedVariables false
/-- slices.Sort[[]uint64,uint64] -/
def t131 (a0 : Value) (K : Value → World → Prop) (w : World) : Prop :=
  Qu Pr (Is w) (Builtin.len_ #[23] 3 #[a0]) fun v1 =>
  Qu Pr (Is w) (convert 3 305 v1) fun v2 =>
  Cl Pr (callV (fn 209) #[v2]) w fun v4 w3 => 
  Cl Pr (callV (fn 208) #[a0, (Value.int .i64 0), v1, v4]) w3 fun _ w5 => 
  K (.tuple #[]) w5
theorem c131 {a0 : Value} {K : Value → World → Prop} {w : World} (h : t131 a0 K w) : CK Pr 131 #[a0] w K := by
  refine calls_of_RF [] Tryz.func131 rfl ?_ ?_ ?_
  · kernel_rfl
  · exact Nat.le_of_ble_eq_true rfl
  · exact cast (by kernel_rfl) h

@[irreducible] def t208_1 (w187 : World) (τ2 : List Value) (a0 : Value) (p167 : Value) (J134 : Value → Value → Value → Value → Value → Value → Value → Value → Value → Value → Value → Value → Value → Value → Value → Value → Value → Value → Value → Value → Value → Value → Value → Value → Value → Value → Value → Value → Value → Value → Value → Value → Value → Value → Value → Value → Value → Value → Value → Value → Value → Value → Value → Value → Value → Value → Value → Value → Value → Value → Value → Value → Value → Value → Value → Value → Value → Value → Value → Value → Value → Value → Value → Value → Value → Value → Value → Value → Value → Value → Value → Value → Value → Value → Value → Value → Value → Value → Value → Value → Value → Value → Value → Value → Value → Value → Value → Value → Value → Value → Value → Value → Value → Value → Value → Value → Value → Value → Value → Value → Value → Value → Value → Value → Value → Value → Value → Value → Value → Value → Value → Value → Value → Value → Value → Value → Value → Value → Value → Value → Value → Value → Value → Value → Value → Value → Value → Value → Value → World → Prop) (v135 : Value) (v136 : Value) (v139 : Value) (v142 : Value) (p143 : Value) (p144 : Value) (p145 : Value) (p146 : Value) (p147 : Value) (p148 : Value) (p149 : Value) (v153 : Value) (v154 : Value) (v155 : Value) (v156 : Value) (p157 : Value) (p158 : Value) (p159 : Value) (p160 : Value) (p161 : Value) (p162 : Value) (p163 : Value) (p164 : Value) (p165 : Value) (p166 : Value) (p168 : Value) (v172 : Value) (v174 : Value) (v176 : Value) (v179 : Value) (v182 : Value) (p183 : Value) (p184 : Value) (p185 : Value) (p186 : Value) : Prop :=
                    Dr w187 fun S189 w190 =>
                    Qu Pr (S189) (binS .gtr 3 (.tmp 73) (.const (Value.int .i64 0)) (g τ2 0) (Value.int .i64 0)) fun v191 =>
                    Gd v191 true (fun k192 => k192 a0 w190) w190 fun v193 w194 =>
                    Gd v191 true (fun k195 => k195 (g τ2 0) w194) w194 fun v196 w197 =>
                    Gd v191 true (fun k198 => Qu Pr (S189) (binS .sub 3 (.tmp 77) (.const (Value.int .i64 1)) v196 (Value.int .i64 1)) fun v201 => k198 v201 w197) w197 fun v199 w200 =>
                    Gd v191 true (fun k202 => Qu Pr (S189) (Instr.indexAt 23 v193 v199) fun v205 => k202 v205 w200) w200 fun v203 w204 =>
                    Gd v191 true (fun k206 => Qu Pr (S189) (Instr.loadAt 22 v203) fun v209 => k206 v209 w204) w204 fun v207 w208 =>
                    Gd v191 true (fun k210 => k210 a0 w208) w208 fun v211 w212 =>
                    Gd v191 true (fun k213 => k213 p167 w212) w212 fun v214 w215 =>
                    Gd v191 true (fun k216 => Qu Pr (S189) (Instr.indexAt 23 v211 v214) fun v219 => k216 v219 w215) w215 fun v217 w218 =>
                    Gd v191 true (fun k220 => Qu Pr (S189) (Instr.loadAt 22 v217) fun v223 => k220 v223 w218) w218 fun v221 w222 =>
                    Gd v191 true (fun k224 => Cl Pr (callV (fn 275) #[v207, v221]) w222 fun v225x w226x => S189 w226x ∧ k224 v225x w226x) w222 fun v225 w226 =>
                    Gd v191 true (fun k227 => Qu Pr (S189) (Op.unary .not v225) fun v230 => k227 v230 w226) w226 fun v228 w229 =>
                    Qu Pr (S189) (pickS v191 v228 (Value.bool false)) fun v231 =>
                    If v231 (
                      Cl Pr (callV (fn 276) #[a0, (g τ2 0), (g τ2 1), p167]) w229 fun v233 w232 => 
                      J134 (g τ2 1) (g τ2 0) v135 v135 v135 v136 (g τ2 19) (g τ2 20) (g τ2 21) (g τ2 22) (g τ2 2) v139 (g τ2 25) (g τ2 26) (g τ2 27) (g τ2 28) (g τ2 3) v142 p143 p144 p145 p146 p147 p148 p149 a0 (g τ2 0) (g τ2 1) v153 v153 v154 v155 v155 v156 p157 p158 p159 p160 p161 p162 p163 p164 p165 p166 p167 p168 (g τ2 3) (g τ2 3) v172 v174 v174 v176 v179 v182 p183 p184 p185 p186 (g τ2 0) v191 v191 v193 v196 v199 v203 v207 v211 v214 v217 v221 v225 v228 v231 a0 (g τ2 0) (g τ2 1) p167 v233 v233 v233 (g τ2 90) (g τ2 91) (g τ2 92) (g τ2 93) (g τ2 94) (g τ2 89) (g τ2 95) (g τ2 96) (g τ2 9) (g τ2 10) (g τ2 97) (g τ2 4) (g τ2 98) (g τ2 99) (g τ2 100) (g τ2 101) (g τ2 102) (g τ2 103) (g τ2 11) (g τ2 12) (g τ2 104) (g τ2 105) (g τ2 13) (g τ2 106) (g τ2 107) (g τ2 108) (g τ2 109) (g τ2 110) (g τ2 111) (g τ2 112) (g τ2 113) (g τ2 114) (g τ2 115) (g τ2 116) (g τ2 117) (g τ2 118) v233 (g τ2 119) (g τ2 120) (g τ2 121) (g τ2 3) (g τ2 122) (g τ2 123) (g τ2 124) (g τ2 125) (g τ2 126) (g τ2 127) (g τ2 128) (g τ2 1) w232) (
                      Cl Pr (callV (fn 277) #[a0, (g τ2 0), (g τ2 1), p167]) w229 fun v235 w234 => 
                      Qu Pr (Is w234) (Instr.extract v235 0) fun v236 =>
                      Qu Pr (Is w234) (Instr.extract v235 1) fun v237 =>
                      Qu Pr (Is w234) (binS .sub 3 (.tmp 103) (.tmp 104) v236 (g τ2 0)) fun v238 =>
                      Qu Pr (Is w234) (binS .sub 3 (.tmp 106) (.tmp 107) (g τ2 1) v236) fun v239 =>
                      Qu Pr (Is w234) (binS .quo 3 (.tmp 109) (.const (Value.int .i64 8)) v135 (Value.int .i64 8)) fun v240 =>
                      Qu Pr (Is w234) (binS .lss 3 (.tmp 111) (.tmp 112) v238 v239) fun v241 =>
                      Jo (fun (p242 : Value) (p243 : Value) (p244 : Value) (p245 : Value) (p246 : Value) (p247 : Value) (p248 : Value) (p249 : Value) (p250 : Value) (p251 : Value) (p252 : Value) (p253 : Value) (p254 : Value) (p255 : Value) (p256 : Value) (p257 : Value) (p258 : Value) (p259 : Value) (p260 : Value) (p261 : Value) (p262 : Value) (p263 : Value) (p264 : Value) (w265 : World) => (
                          J134 (g τ2 1) (g τ2 0) v135 v135 v135 v136 (g τ2 19) (g τ2 20) (g τ2 21) (g τ2 22) (g τ2 2) v139 (g τ2 25) (g τ2 26) (g τ2 27) (g τ2 28) (g τ2 3) v142 p143 p144 p145 p146 p147 p148 p149 a0 (g τ2 0) (g τ2 1) v153 v153 v154 v155 v155 v156 p157 p158 p159 p160 p161 p162 p163 p164 p165 p166 p167 p168 (g τ2 3) (g τ2 3) v172 v174 v174 v176 v179 v182 p183 p184 p185 p186 (g τ2 0) v191 v191 v193 v196 v199 v203 v207 v211 v214 v217 v221 v225 v228 v231 (g τ2 83) (g τ2 84) (g τ2 85) (g τ2 86) (g τ2 87) (g τ2 8) (g τ2 88) a0 (g τ2 0) (g τ2 1) p167 v235 v235 v236 v237 v236 v237 v237 v237 v236 (g τ2 0) v238 (g τ2 1) v236 v239 v238 v239 v135 v240 v240 v238 v239 v241 p242 p243 p244 p245 p246 p247 p248 p249 p250 p251 p252 p253 p254 p255 p256 p257 p258 p259 p260 p261 p262 p263 p264 w265 : Prop)) fun J266 =>
                      If v241 (
                        Qu Pr (Is w234) (binS .geq 3 (.tmp 114) (.tmp 115) v238 v240) fun v267 =>
                        Cl Pr (callV (fn 208) #[a0, (g τ2 0), v236, p149]) w234 fun v269 w268 => 
                        Qu Pr (Is w268) (binS .add 3 (.tmp 122) (.const (Value.int .i64 1)) v236 (Value.int .i64 1)) fun v270 =>
                        J266 v238 v240 v267 a0 (g τ2 0) v236 p149 v269 v236 v270 v270 (g τ2 119) (g τ2 120) (g τ2 121) v267 (g τ2 122) (g τ2 123) (g τ2 124) (g τ2 125) (g τ2 126) (g τ2 127) (g τ2 128) (g τ2 1) w268) (
                        Qu Pr (Is w234) (binS .geq 3 (.tmp 124) (.tmp 125) v239 v240) fun v271 =>
                        Qu Pr (Is w234) (binS .add 3 (.tmp 128) (.const (Value.int .i64 1)) v236 (Value.int .i64 1)) fun v272 =>
                        Cl Pr (callV (fn 208) #[a0, v272, (g τ2 1), p149]) w234 fun v274 w273 => 
                        J266 (g τ2 109) (g τ2 110) (g τ2 111) (g τ2 112) (g τ2 113) (g τ2 114) (g τ2 115) (g τ2 116) (g τ2 117) (g τ2 118) (g τ2 0) v239 v240 v271 v271 a0 v236 v272 (g τ2 1) p149 v274 v236 v236 w273))
@[irreducible] def t208_2 (τ2 : List Value) (w169 : World) (p168 : Value) (a0 : Value) (p167 : Value) (J134 : Value → Value → Value → Value → Value → Value → Value → Value → Value → Value → Value → Value → Value → Value → Value → Value → Value → Value → Value → Value → Value → Value → Value → Value → Value → Value → Value → Value → Value → Value → Value → Value → Value → Value → Value → Value → Value → Value → Value → Value → Value → Value → Value → Value → Value → Value → Value → Value → Value → Value → Value → Value → Value → Value → Value → Value → Value → Value → Value → Value → Value → Value → Value → Value → Value → Value → Value → Value → Value → Value → Value → Value → Value → Value → Value → Value → Value → Value → Value → Value → Value → Value → Value → Value → Value → Value → Value → Value → Value → Value → Value → Value → Value → Value → Value → Value → Value → Value → Value → Value → Value → Value → Value → Value → Value → Value → Value → Value → Value → Value → Value → Value → Value → Value → Value → Value → Value → Value → Value → Value → Value → Value → Value → Value → Value → Value → Value → Value → Value → World → Prop) (v135 : Value) (v136 : Value) (v139 : Value) (v142 : Value) (p143 : Value) (p144 : Value) (p145 : Value) (p146 : Value) (p147 : Value) (p148 : Value) (p149 : Value) (v153 : Value) (v154 : Value) (v155 : Value) (v156 : Value) (p157 : Value) (p158 : Value) (p159 : Value) (p160 : Value) (p161 : Value) (p162 : Value) (p163 : Value) (p164 : Value) (p165 : Value) (p166 : Value) (K : Value → World → Prop) : Prop :=
                Gd (g τ2 3) true (fun k171 => k171 (g τ2 4) w169) w169 fun v172 w173 =>
                Qu Pr (Is w173) (pickS (g τ2 3) v172 (Value.bool false)) fun v174 =>
                Gd v174 true (fun k175 => k175 p168 w173) w173 fun v176 w177 =>
                Gd v174 true (fun k178 => Qu Pr (Is w177) (binS .eql 363 (.tmp 66) (.const (Value.int .i64 1)) v176 (Value.int .i64 1)) fun v181 => k178 v181 w177) w177 fun v179 w180 =>
                Qu Pr (Is w180) (pickS v174 v179 (Value.bool false)) fun v182 =>
                Jo (fun (p183 : Value) (p184 : Value) (p185 : Value) (p186 : Value) (w187 : World) => (t208_1 w187 τ2 a0 p167 J134 v135 v136 v139 v142 p143 p144 p145 p146 p147 p148 p149 v153 v154 v155 v156 p157 p158 p159 p160 p161 p162 p163 p164 p165 p166 p168 v172 v174 v176 v179 v182 p183 p184 p185 p186 : Prop)) fun J188 =>
                If v182 (
                  Cl Pr (callV (fn 274) #[a0, (g τ2 0), (g τ2 1)]) w180 fun v276 w275 => 
                  If v276 (
                    K (.tuple #[]) w275) (
                    J188 a0 (g τ2 0) (g τ2 1) v276 w275)) (
                  J188 (g τ2 64) (g τ2 65) (g τ2 66) (g τ2 67) w180)
@[irreducible] def t208_3 (a0 : Value) (τ2 : List Value) (w150 : World) (J134 : Value → Value → Value → Value → Value → Value → Value → Value → Value → Value → Value → Value → Value → Value → Value → Value → Value → Value → Value → Value → Value → Value → Value → Value → Value → Value → Value → Value → Value → Value → Value → Value → Value → Value → Value → Value → Value → Value → Value → Value → Value → Value → Value → Value → Value → Value → Value → Value → Value → Value → Value → Value → Value → Value → Value → Value → Value → Value → Value → Value → Value → Value → Value → Value → Value → Value → Value → Value → Value → Value → Value → Value → Value → Value → Value → Value → Value → Value → Value → Value → Value → Value → Value → Value → Value → Value → Value → Value → Value → Value → Value → Value → Value → Value → Value → Value → Value → Value → Value → Value → Value → Value → Value → Value → Value → Value → Value → Value → Value → Value → Value → Value → Value → Value → Value → Value → Value → Value → Value → Value → Value → Value → Value → Value → Value → Value → Value → Value → Value → World → Prop) (v135 : Value) (v136 : Value) (v139 : Value) (v142 : Value) (p143 : Value) (p144 : Value) (p145 : Value) (p146 : Value) (p147 : Value) (p148 : Value) (p149 : Value) (K : Value → World → Prop) : Prop :=
            Cl Pr (callV (fn 272) #[a0, (g τ2 0), (g τ2 1)]) w150 fun v153 w152 => 
            Qu Pr (Is w152) (Instr.extract v153 0) fun v154 =>
            Qu Pr (Is w152) (Instr.extract v153 1) fun v155 =>
            Qu Pr (Is w152) (binS .eql 363 (.tmp 49) (.const (Value.int .i64 2)) v155 (Value.int .i64 2)) fun v156 =>
            Jo (fun (p157 : Value) (p158 : Value) (p159 : Value) (p160 : Value) (p161 : Value) (p162 : Value) (p163 : Value) (p164 : Value) (p165 : Value) (p166 : Value) (p167 : Value) (p168 : Value) (w169 : World) => (t208_2 τ2 w169 p168 a0 p167 J134 v135 v136 v139 v142 p143 p144 p145 p146 p147 p148 p149 v153 v154 v155 v156 p157 p158 p159 p160 p161 p162 p163 p164 p165 p166 K : Prop)) fun J170 =>
            If v156 (
              Cl Pr (callV (fn 273) #[a0, (g τ2 0), (g τ2 1)]) w152 fun v278 w277 => 
              Qu Pr (Is w277) (binS .sub 3 (.tmp 55) (.const (Value.int .i64 1)) (g τ2 1) (Value.int .i64 1)) fun v279 =>
              Qu Pr (Is w277) (binS .sub 3 (.tmp 57) (.tmp 58) v154 (g τ2 0)) fun v280 =>
              Qu Pr (Is w277) (binS .sub 3 (.tmp 56) (.tmp 59) v279 v280) fun v281 =>
              J170 a0 (g τ2 0) (g τ2 1) v278 (g τ2 1) v279 v154 (g τ2 0) v280 v281 v281 (Value.int .i64 1) w277) (
              J170 (g τ2 46) (g τ2 47) (g τ2 48) (g τ2 49) (g τ2 50) (g τ2 51) (g τ2 52) (g τ2 53) (g τ2 54) (g τ2 55) v154 v155 w152)
@[irreducible] def t208_4 (w3 : World) (τ2 : List Value) (a0 : Value) (J134 : Value → Value → Value → Value → Value → Value → Value → Value → Value → Value → Value → Value → Value → Value → Value → Value → Value → Value → Value → Value → Value → Value → Value → Value → Value → Value → Value → Value → Value → Value → Value → Value → Value → Value → Value → Value → Value → Value → Value → Value → Value → Value → Value → Value → Value → Value → Value → Value → Value → Value → Value → Value → Value → Value → Value → Value → Value → Value → Value → Value → Value → Value → Value → Value → Value → Value → Value → Value → Value → Value → Value → Value → Value → Value → Value → Value → Value → Value → Value → Value → Value → Value → Value → Value → Value → Value → Value → Value → Value → Value → Value → Value → Value → Value → Value → Value → Value → Value → Value → Value → Value → Value → Value → Value → Value → Value → Value → Value → Value → Value → Value → Value → Value → Value → Value → Value → Value → Value → Value → Value → Value → Value → Value → Value → Value → Value → Value → Value → Value → World → Prop) (v135 : Value) (v136 : Value) (v139 : Value) (K : Value → World → Prop) : Prop :=
        Qu Pr (Is w3) (Op.unary .not (g τ2 3)) fun v142 =>
        Jo (fun (p143 : Value) (p144 : Value) (p145 : Value) (p146 : Value) (p147 : Value) (p148 : Value) (p149 : Value) (w150 : World) => (t208_3 a0 τ2 w150 J134 v135 v136 v139 v142 p143 p144 p145 p146 p147 p148 p149 K : Prop)) fun J151 =>
        If v142 (
          Cl Pr (callV (fn 271) #[a0, (g τ2 0), (g τ2 1)]) w3 fun v283 w282 => 
          Qu Pr (Is w282) (binS .sub 3 (.tmp 40) (.const (Value.int .i64 1)) (g τ2 2) (Value.int .i64 1)) fun v284 =>
          J151 a0 (g τ2 0) (g τ2 1) v283 (g τ2 2) v284 v284 w282) (
          J151 (g τ2 31) (g τ2 32) (g τ2 33) (g τ2 34) (g τ2 35) (g τ2 36) (g τ2 2) w3)
@[irreducible] def t208_5 (w3 : World) (τ2 : List Value) (a0 : Value) (K : Value → World → Prop) (J134 : Value → Value → Value → Value → Value → Value → Value → Value → Value → Value → Value → Value → Value → Value → Value → Value → Value → Value → Value → Value → Value → Value → Value → Value → Value → Value → Value → Value → Value → Value → Value → Value → Value → Value → Value → Value → Value → Value → Value → Value → Value → Value → Value → Value → Value → Value → Value → Value → Value → Value → Value → Value → Value → Value → Value → Value → Value → Value → Value → Value → Value → Value → Value → Value → Value → Value → Value → Value → Value → Value → Value → Value → Value → Value → Value → Value → Value → Value → Value → Value → Value → Value → Value → Value → Value → Value → Value → Value → Value → Value → Value → Value → Value → Value → Value → Value → Value → Value → Value → Value → Value → Value → Value → Value → Value → Value → Value → Value → Value → Value → Value → Value → Value → Value → Value → Value → Value → Value → Value → Value → Value → Value → Value → Value → Value → Value → Value → Value → Value → World → Prop) (v135 : Value) (v136 : Value) : Prop :=
      Qu Pr (Is w3) (binS .eql 3 (.tmp 28) (.const (Value.int .i64 0)) (g τ2 2) (Value.int .i64 0)) fun v139 =>
      If v139 (
        Cl Pr (callV (fn 270) #[a0, (g τ2 0), (g τ2 1)]) w3 fun _ w140 => 
        K (.tuple #[]) w140) (t208_4 w3 τ2 a0 J134 v135 v136 v139 K)
/-- slices.pdqsortOrdered[uint64] -/
def t208 (a0 a1 a2 a3 : Value) (K : Value → World → Prop) (w : World) : Prop :=
  LoopW [a1, a2, a3, (Value.bool true), (Value.bool true), undef, undef, undef, undef, undef, undef, undef, undef, undef, undef, undef, undef, undef, undef, undef, undef, undef, undef, undef, undef, undef, undef, undef, undef, undef, undef, undef, undef, undef, undef, undef, undef, undef, undef, undef, undef, undef, undef, undef, undef, undef, undef, undef, undef, undef, undef, undef, undef, undef, undef, undef, undef, undef, undef, undef, undef, undef, undef, undef, undef, undef, undef, undef, undef, undef, undef, undef, undef, undef, undef, undef, undef, undef, undef, undef, undef, undef, undef, undef, undef, undef, undef, undef, undef, undef, undef, undef, undef, undef, undef, undef, undef, undef, undef, undef, undef, undef, undef, undef, undef, undef, undef, undef, undef, undef, undef, undef, undef, undef, undef, undef, undef, undef, undef, undef, undef, undef, undef, undef, undef, undef, undef, undef, undef] (fun r1 τ2 w3 =>
    Jo (fun (p4 : Value) (p5 : Value) (p6 : Value) (p7 : Value) (p8 : Value) (p9 : Value) (p10 : Value) (p11 : Value) (p12 : Value) (p13 : Value) (p14 : Value) (p15 : Value) (p16 : Value) (p17 : Value) (p18 : Value) (p19 : Value) (p20 : Value) (p21 : Value) (p22 : Value) (p23 : Value) (p24 : Value) (p25 : Value) (p26 : Value) (p27 : Value) (p28 : Value) (p29 : Value) (p30 : Value) (p31 : Value) (p32 : Value) (p33 : Value) (p34 : Value) (p35 : Value) (p36 : Value) (p37 : Value) (p38 : Value) (p39 : Value) (p40 : Value) (p41 : Value) (p42 : Value) (p43 : Value) (p44 : Value) (p45 : Value) (p46 : Value) (p47 : Value) (p48 : Value) (p49 : Value) (p50 : Value) (p51 : Value) (p52 : Value) (p53 : Value) (p54 : Value) (p55 : Value) (p56 : Value) (p57 : Value) (p58 : Value) (p59 : Value) (p60 : Value) (p61 : Value) (p62 : Value) (p63 : Value) (p64 : Value) (p65 : Value) (p66 : Value) (p67 : Value) (p68 : Value) (p69 : Value) (p70 : Value) (p71 : Value) (p72 : Value) (p73 : Value) (p74 : Value) (p75 : Value) (p76 : Value) (p77 : Value) (p78 : Value) (p79 : Value) (p80 : Value) (p81 : Value) (p82 : Value) (p83 : Value) (p84 : Value) (p85 : Value) (p86 : Value) (p87 : Value) (p88 : Value) (p89 : Value) (p90 : Value) (p91 : Value) (p92 : Value) (p93 : Value) (p94 : Value) (p95 : Value) (p96 : Value) (p97 : Value) (p98 : Value) (p99 : Value) (p100 : Value) (p101 : Value) (p102 : Value) (p103 : Value) (p104 : Value) (p105 : Value) (p106 : Value) (p107 : Value) (p108 : Value) (p109 : Value) (p110 : Value) (p111 : Value) (p112 : Value) (p113 : Value) (p114 : Value) (p115 : Value) (p116 : Value) (p117 : Value) (p118 : Value) (p119 : Value) (p120 : Value) (p121 : Value) (p122 : Value) (p123 : Value) (p124 : Value) (p125 : Value) (p126 : Value) (p127 : Value) (p128 : Value) (p129 : Value) (p130 : Value) (p131 : Value) (p132 : Value) (w133 : World) => (
        r1 [p120, p132, p28, p124, p95, p7, p48, p49, p82, p92, p93, p102, p103, p106, p4, p5, p6, p8, p9, p10, p11, p12, p13, p14, p15, p16, p17, p18, p19, p20, p21, p22, p23, p24, p25, p26, p27, p33, p29, p30, p31, p32, p34, p35, p36, p37, p38, p39, p40, p41, p42, p43, p44, p45, p46, p47, p50, p51, p52, p53, p54, p55, p56, p57, p58, p59, p60, p61, p62, p63, p64, p65, p66, p67, p68, p69, p70, p71, p72, p73, p74, p75, p76, p77, p78, p79, p80, p81, p83, p89, p84, p85, p86, p87, p88, p90, p91, p94, p96, p97, p98, p99, p100, p101, p104, p105, p107, p108, p109, p110, p111, p112, p113, p114, p115, p116, p117, p118, p119, p121, p122, p123, p125, p126, p127, p128, p129, p130, p131] w133 : Prop)) fun J134 =>
    Qu Pr (Is w3) (binS .sub 3 (.tmp 19) (.tmp 20) (g τ2 1) (g τ2 0)) fun v135 =>
    Qu Pr (Is w3) (binS .leq 3 (.tmp 22) (.const (Value.int .i64 12)) v135 (Value.int .i64 12)) fun v136 =>
    If v136 (
      Cl Pr (callV (fn 269) #[a0, (g τ2 0), (g τ2 1)]) w3 fun _ w137 => 
      K (.tuple #[]) w137) (t208_5 w3 τ2 a0 K J134 v135 v136)) w
theorem c208 {a0 a1 a2 a3 : Value} {K : Value → World → Prop} {w : World} (h : t208 a0 a1 a2 a3 K w) : CK Pr 208 #[a0, a1, a2, a3] w K := by
  refine calls_of_RF [(2, [1, 2, 3, 8, 9, 10, 11, 12, 13, 14, 15, 16, 17, 18, 19, 20, 21, 22, 23, 24, 25, 26, 27, 28, 29, 30, 31, 32, 33, 34, 35, 36, 37, 38, 39, 40, 41, 42, 43, 44, 45, 46, 47, 48, 49, 50, 51, 52, 53, 54, 55, 56, 57, 58, 59, 60, 61, 62, 63, 64, 65, 66, 67, 68, 69, 70, 71, 72, 73, 74, 75, 76, 77, 78, 79, 80, 81, 82, 83, 84, 85, 86, 87, 88, 89, 90, 91, 92, 93, 94, 95, 96, 97, 98, 99, 100, 101, 102, 103, 104, 105, 106, 107, 108, 109, 110, 111, 112, 113, 114, 115, 116, 117, 118, 119, 120, 121, 122, 123, 124, 125, 126, 127, 128, 129, 130, 131, 132, 133])] Tryz.func208 rfl ?_ ?_ ?_
  · kernel_rfl
  · exact Nat.le_of_ble_eq_true rfl
  · exact cast (by kernel_rfl) h

/-- math/bits.Len -/
def t209 (a0 : Value) (K : Value → World → Prop) (w : World) : Prop :=
  If (Value.bool false) (
    Qu Pr (Is w) (convert 305 371 a0) fun v1 =>
    Cl Pr (callV (fn 278) #[v1]) w fun v3 w2 => 
    K v3 w2) (
    Cl Pr (callV (fn 279) #[a0]) w fun v5 w4 => 
    K v5 w4)
theorem c209 {a0 : Value} {K : Value → World → Prop} {w : World} (h : t209 a0 K w) : CK Pr 209 #[a0] w K := by
  refine calls_of_RF [] Tryz.func209 rfl ?_ ?_ ?_
  · kernel_rfl
  · exact Nat.le_of_ble_eq_true rfl
  · exact cast (by kernel_rfl) h

/-- slices.insertionSortOrdered[uint64] -/
def t269 (a0 a1 a2 : Value) (K : Value → World → Prop) (w : World) : Prop :=
  Qu Pr (Is w) (binS .add 3 (.tmp 8) (.const (Value.int .i64 1)) a1 (Value.int .i64 1)) fun v1 =>
  LoopW [v1, undef, undef, undef, undef, undef, undef, undef, undef, undef, undef, undef, undef, undef, undef, undef, undef, undef, undef, undef, undef, undef, undef, undef, undef, undef, undef, undef, undef, undef, undef, undef, undef, undef, undef, undef, undef, undef, undef, undef, undef] (fun r2 τ3 w4 =>
    Qu Pr (Is w4) (binS .lss 3 (.tmp 10) (.tmp 11) (g τ3 0) a2) fun v5 =>
    If v5 (
      LoopW [(g τ3 0), (g τ3 8), (g τ3 9), (g τ3 10), (g τ3 11), (g τ3 12), (g τ3 13), (g τ3 14), (g τ3 15), (g τ3 16), (g τ3 17), (g τ3 18), (g τ3 19), (g τ3 20), (g τ3 21), (g τ3 22), (g τ3 23), (g τ3 24), (g τ3 25), (g τ3 26), (g τ3 27), (g τ3 28), (g τ3 29), (g τ3 30), (g τ3 31), (g τ3 32), (g τ3 33), (g τ3 34), (g τ3 35), (g τ3 36), (g τ3 37), (g τ3 38), (g τ3 39), (g τ3 40)] (fun r6 τ7 w8 =>
        Dr w8 fun S9 w10 =>
        Qu Pr (S9) (binS .gtr 3 (.tmp 16) (.tmp 17) (g τ7 0) a1) fun v11 =>
        Gd v11 true (fun k12 => k12 a0 w10) w10 fun v13 w14 =>
        Gd v11 true (fun k15 => k15 (g τ7 0) w14) w14 fun v16 w17 =>
        Gd v11 true (fun k18 => Qu Pr (S9) (Instr.indexAt 23 v13 v16) fun v21 => k18 v21 w17) w17 fun v19 w20 =>
        Gd v11 true (fun k22 => Qu Pr (S9) (Instr.loadAt 22 v19) fun v25 => k22 v25 w20) w20 fun v23 w24 =>
        Gd v11 true (fun k26 => k26 a0 w24) w24 fun v27 w28 =>
        Gd v11 true (fun k29 => k29 (g τ7 0) w28) w28 fun v30 w31 =>
        Gd v11 true (fun k32 => Qu Pr (S9) (binS .sub 3 (.tmp 25) (.const (Value.int .i64 1)) v30 (Value.int .i64 1)) fun v35 => k32 v35 w31) w31 fun v33 w34 =>
        Gd v11 true (fun k36 => Qu Pr (S9) (Instr.indexAt 23 v27 v33) fun v39 => k36 v39 w34) w34 fun v37 w38 =>
        Gd v11 true (fun k40 => Qu Pr (S9) (Instr.loadAt 22 v37) fun v43 => k40 v43 w38) w38 fun v41 w42 =>
        Gd v11 true (fun k44 => Cl Pr (callV (fn 275) #[v23, v41]) w42 fun v45x w46x => S9 w46x ∧ k44 v45x w46x) w42 fun v45 w46 =>
        Qu Pr (S9) (pickS v11 v45 (Value.bool false)) fun v47 =>
        If v47 (
          Dr w46 fun S48 w49 =>
          Qu Pr (S48) (binS .sub 3 (.tmp 36) (.const (Value.int .i64 1)) (g τ7 0) (Value.int .i64 1)) fun v50 =>
          Qu Pr (Is w49) (binS .sub 3 (.tmp 39) (.const (Value.int .i64 1)) (g τ7 0) (Value.int .i64 1)) fun v51 =>
          Qu Pr (Is w49) (Instr.indexAt 23 a0 v51) fun v52 =>
          Qu Pr (Is w49) (Instr.loadAt 22 v52) fun v53 =>
          Qu Pr (Is w49) (Instr.indexAt 23 a0 (g τ7 0)) fun v54 =>
          Qu Pr (Is w49) (Instr.loadAt 22 v54) fun v55 =>
          Qu Pr (Is w49) (Instr.indexAt 23 a0 (g τ7 0)) fun v56 =>
          Eu Pr (Instr.storeAt 22 v56 v53) w49 fun w57 => S48 w57 ∧ 
          Qu Pr (S48) (Instr.indexAt 23 a0 v50) fun v58 =>
          Eu Pr (Instr.storeAt 22 v58 v55) w57 fun w59 => S48 w59 ∧ 
          Qu Pr (Is w59) (binS .sub 3 (.tmp 31) (.const (Value.int .i64 1)) (g τ7 0) (Value.int .i64 1)) fun v60 =>
          r6 [v60, (g τ7 0), a1, v11, v11, v13, v16, v19, v23, v27, v30, v33, v37, v41, v45, v47, (g τ7 0), v60, a0, (g τ7 0), a0, (g τ7 0), v50, a0, (g τ7 0), v51, v52, v53, a0, (g τ7 0), v54, v55, v56, v58] w59) (
          Qu Pr (Is w46) (binS .add 3 (.tmp 13) (.const (Value.int .i64 1)) (g τ3 0) (Value.int .i64 1)) fun v61 =>
          r2 [v61, (g τ7 0), (g τ3 0), a2, v5, (g τ3 0), v61, (g τ3 0), (g τ7 0), a1, v11, v11, v13, v16, v19, v23, v27, v30, v33, v37, v41, v45, v47, (g τ7 16), (g τ7 17), (g τ7 18), (g τ7 19), (g τ7 20), (g τ7 21), (g τ7 22), (g τ7 23), (g τ7 24), (g τ7 25), (g τ7 26), (g τ7 27), (g τ7 28), (g τ7 29), (g τ7 30), (g τ7 31), (g τ7 32), (g τ7 33)] w46)) w4) (
      K (.tuple #[]) w4)) w
theorem c269 {a0 a1 a2 : Value} {K : Value → World → Prop} {w : World} (h : t269 a0 a1 a2 K w) : CK Pr 269 #[a0, a1, a2] w K := by
  refine calls_of_RF [(1, [6, 7, 10, 11, 12, 13, 14, 15, 16, 17, 18, 19, 20, 21, 22, 23, 24, 25, 26, 27, 28, 29, 30, 31, 32, 33, 34, 35, 36, 37, 38, 39, 40, 41, 42, 43, 44, 45, 46, 47, 48]), (4, [7, 16, 17, 18, 19, 20, 21, 22, 23, 24, 25, 26, 27, 28, 29, 30, 31, 32, 33, 34, 35, 36, 37, 38, 39, 40, 41, 42, 43, 44, 45, 46, 47, 48])] Tryz.func269 rfl ?_ ?_ ?_
  · kernel_rfl
  · exact Nat.le_of_ble_eq_true rfl
  · exact cast (by kernel_rfl) h

/-- slices.heapSortOrdered[uint64] -/
def t270 (a0 a1 a2 : Value) (K : Value → World → Prop) (w : World) : Prop :=
  Qu Pr (Is w) (binS .sub 3 (.tmp 12) (.tmp 13) a2 a1) fun v1 =>
  Qu Pr (Is w) (binS .sub 3 (.tmp 15) (.const (Value.int .i64 1)) v1 (Value.int .i64 1)) fun v2 =>
  Qu Pr (Is w) (binS .quo 3 (.tmp 16) (.const (Value.int .i64 2)) v2 (Value.int .i64 2)) fun v3 =>
  LoopW [v3, undef, undef, undef, undef, undef, undef, undef, undef, undef] (fun r4 τ5 w6 =>
    Qu Pr (Is w6) (binS .geq 3 (.tmp 18) (.const (Value.int .i64 0)) (g τ5 0) (Value.int .i64 0)) fun v7 =>
    If v7 (
      Cl Pr (callV (fn 310) #[a0, (g τ5 0), v1, a1]) w6 fun v9 w8 => 
      Qu Pr (Is w8) (binS .sub 3 (.tmp 20) (.const (Value.int .i64 1)) (g τ5 0) (Value.int .i64 1)) fun v10 =>
      r4 [v10, (g τ5 0), v7, (g τ5 0), v10, a0, (g τ5 0), v1, a1, v9] w8) (
      Qu Pr (Is w6) (binS .sub 3 (.tmp 27) (.const (Value.int .i64 1)) v1 (Value.int .i64 1)) fun v11 =>
      LoopW [v11, undef, undef, undef, undef, undef, undef, undef, undef, undef, undef, undef, undef, undef, undef, undef, undef, undef, undef, undef, undef, undef, undef, undef, undef, undef, undef, undef] (fun r12 τ13 w14 =>
        Qu Pr (Is w14) (binS .geq 3 (.tmp 29) (.const (Value.int .i64 0)) (g τ13 0) (Value.int .i64 0)) fun v15 =>
        If v15 (
          Dr w14 fun S16 w17 =>
          Qu Pr (S16) (binS .add 3 (.tmp 36) (.tmp 37) a1 (g τ13 0)) fun v18 =>
          Qu Pr (Is w17) (binS .add 3 (.tmp 40) (.tmp 41) a1 (g τ13 0)) fun v19 =>
          Qu Pr (Is w17) (Instr.indexAt 23 a0 v19) fun v20 =>
          Qu Pr (Is w17) (Instr.loadAt 22 v20) fun v21 =>
          Qu Pr (Is w17) (Instr.indexAt 23 a0 a1) fun v22 =>
          Qu Pr (Is w17) (Instr.loadAt 22 v22) fun v23 =>
          Qu Pr (Is w17) (Instr.indexAt 23 a0 a1) fun v24 =>
          Eu Pr (Instr.storeAt 22 v24 v21) w17 fun w25 => S16 w25 ∧ 
          Qu Pr (S16) (Instr.indexAt 23 a0 v18) fun v26 =>
          Eu Pr (Instr.storeAt 22 v26 v23) w25 fun w27 => S16 w27 ∧ 
          Cl Pr (callV (fn 310) #[a0, (Value.int .i64 0), (g τ13 0), a1]) w27 fun v29 w28 => 
          Qu Pr (Is w28) (binS .sub 3 (.tmp 31) (.const (Value.int .i64 1)) (g τ13 0) (Value.int .i64 1)) fun v30 =>
          r12 [v30, (g τ13 0), v15, (g τ13 0), v30, a0, a1, a0, a1, (g τ13 0), v18, a0, a1, (g τ13 0), v19, v20, v21, a0, a1, v22, v23, v24, v26, a0, (Value.int .i64 0), (g τ13 0), a1, v29] w28) (
          K (.tuple #[]) w14)) w6)) w
theorem c270 {a0 a1 a2 : Value} {K : Value → World → Prop} {w : World} (h : t270 a0 a1 a2 K w) : CK Pr 270 #[a0, a1, a2] w K := by
  refine calls_of_RF [(4, [9, 18, 19, 20, 21, 22, 23, 24, 25, 26]), (8, [10, 29, 30, 31, 32, 33, 34, 35, 36, 37, 38, 39, 40, 41, 42, 43, 44, 45, 46, 47, 48, 49, 50, 51, 52, 53, 54, 55])] Tryz.func270 rfl ?_ ?_ ?_
  · kernel_rfl
  · exact Nat.le_of_ble_eq_true rfl
  · exact cast (by kernel_rfl) h

@[irreducible] def t271_1 (w : World) (v1 : Value) (a1 : Value) (a0 : Value) (J57 : World → Prop) : Prop :=
    Qu Pr (Is w) (convert 3 399 v1) fun v58 =>
    Ef Pr (Instr.alloc 399 true (.tuple #[])) w fun v60 w59 => 
    Eu Pr (Instr.storeAt 399 v60 v58) w59 fun w61 => 
    Cl Pr (callV (fn 311) #[v1]) w61 fun v63 w62 => 
    Qu Pr (Is w62) (binS .quo 3 (.tmp 21) (.const (Value.int .i64 4)) v1 (Value.int .i64 4)) fun v64 =>
    Qu Pr (Is w62) (binS .mul 3 (.tmp 22) (.const (Value.int .i64 2)) v64 (Value.int .i64 2)) fun v65 =>
    Qu Pr (Is w62) (binS .add 3 (.tmp 20) (.tmp 23) a1 v65) fun v66 =>
    Qu Pr (Is w62) (binS .sub 3 (.tmp 24) (.const (Value.int .i64 1)) v66 (Value.int .i64 1)) fun v67 =>
    LoopW [v67, undef, undef, undef, undef, undef, undef, undef, undef, undef, undef, undef, undef, undef, undef, undef, undef, undef, undef, undef, undef, undef, undef, undef, undef, undef, undef, undef, undef, undef, undef, undef, undef, undef, undef, undef, undef, undef, undef, undef, undef] (fun r68 τ69 w70 =>
      Qu Pr (Is w70) (binS .quo 3 (.tmp 28) (.const (Value.int .i64 4)) v1 (Value.int .i64 4)) fun v71 =>
      Qu Pr (Is w70) (binS .mul 3 (.tmp 29) (.const (Value.int .i64 2)) v71 (Value.int .i64 2)) fun v72 =>
      Qu Pr (Is w70) (binS .add 3 (.tmp 27) (.tmp 30) a1 v72) fun v73 =>
      Qu Pr (Is w70) (binS .add 3 (.tmp 31) (.const (Value.int .i64 1)) v73 (Value.int .i64 1)) fun v74 =>
      Qu Pr (Is w70) (binS .leq 3 (.tmp 26) (.tmp 32) (g τ69 0) v74) fun v75 =>
      If v75 (
        Cl Pr (callV (fn 312) #[v60]) w70 fun v77 w76 => 
        Qu Pr (Is w76) (binS .sub 305 (.tmp 37) (.const (Value.int .u64 1)) v63 (Value.int .u64 1)) fun v78 =>
        Qu Pr (Is w76) (binS .and 305 (.tmp 36) (.tmp 38) v77 v78) fun v79 =>
        Qu Pr (Is w76) (convert 305 3 v79) fun v80 =>
        Qu Pr (Is w76) (binS .geq 3 (.tmp 41) (.tmp 42) v80 v1) fun v81 =>
        Jo (fun (p82 : Value) (p83 : Value) (p84 : Value) (p85 : Value) (w86 : World) => (
            Dr w86 fun S88 w89 =>
            Qu Pr (S88) (binS .add 3 (.tmp 50) (.tmp 51) a1 p85) fun v90 =>
            Qu Pr (Is w89) (binS .add 3 (.tmp 54) (.tmp 55) a1 p85) fun v91 =>
            Qu Pr (Is w89) (Instr.indexAt 23 a0 v91) fun v92 =>
            Qu Pr (Is w89) (Instr.loadAt 22 v92) fun v93 =>
            Qu Pr (Is w89) (Instr.indexAt 23 a0 (g τ69 0)) fun v94 =>
            Qu Pr (Is w89) (Instr.loadAt 22 v94) fun v95 =>
            Qu Pr (Is w89) (Instr.indexAt 23 a0 (g τ69 0)) fun v96 =>
            Eu Pr (Instr.storeAt 22 v96 v93) w89 fun w97 => S88 w97 ∧ 
            Qu Pr (S88) (Instr.indexAt 23 a0 v90) fun v98 =>
            Eu Pr (Instr.storeAt 22 v98 v95) w97 fun w99 => S88 w99 ∧ 
            Qu Pr (Is w99) (binS .add 3 (.tmp 34) (.const (Value.int .i64 1)) (g τ69 0) (Value.int .i64 1)) fun v100 =>
            r68 [v100, p85, (g τ69 0), a1, v1, v71, v72, v73, v74, v75, (g τ69 0), v100, v77, v63, v78, v79, v80, v80, v1, v81, p82, p83, p84, a0, (g τ69 0), a0, a1, p85, v90, a0, a1, p85, v91, v92, v93, a0, (g τ69 0), v94, v95, v96, v98] w99 : Prop)) fun J87 =>
        If v81 (
          Qu Pr (Is w76) (binS .sub 3 (.tmp 44) (.tmp 45) v80 v1) fun v101 =>
          J87 v80 v1 v101 v101 w76) (
          J87 (g τ69 20) (g τ69 21) (g τ69 22) v80 w76)) (
        J57 w70)) w62
/-- slices.breakPatternsOrdered[uint64] -/
def t271 (a0 a1 a2 : Value) (K : Value → World → Prop) (w : World) : Prop :=
  Qu Pr (Is w) (binS .sub 3 (.tmp 11) (.tmp 12) a2 a1) fun v1 =>
  Qu Pr (Is w) (binS .geq 3 (.tmp 14) (.const (Value.int .i64 8)) v1 (Value.int .i64 8)) fun v2 =>
  Jo (fun  (w56 : World) => (
      K (.tuple #[]) w56 : Prop)) fun J57 =>
  If v2 (t271_1 w v1 a1 a0 J57) (
    J57 w)
theorem c271 {a0 a1 a2 : Value} {K : Value → World → Prop} {w : World} (h : t271 a0 a1 a2 K w) : CK Pr 271 #[a0, a1, a2] w K := by
  refine calls_of_RF [(5, [9, 10, 26, 27, 28, 29, 30, 31, 32, 33, 34, 35, 36, 37, 38, 39, 40, 41, 42, 43, 44, 45, 46, 47, 48, 49, 50, 51, 52, 53, 54, 55, 56, 57, 58, 59, 60, 61, 62, 63, 64])] Tryz.func271 rfl ?_ ?_ ?_
  · kernel_rfl
  · exact Nat.le_of_ble_eq_true rfl
  · exact cast (by kernel_rfl) h

/-- slices.choosePivotOrdered[uint64] -/
def t272 (a0 a1 a2 : Value) (K : Value → World → Prop) (w : World) : Prop :=
  Qu Pr (Is w) (binS .sub 3 (.tmp 13) (.tmp 14) a2 a1) fun v1 =>
  Ef Pr (Instr.alloc 3 true (.tuple #[])) w fun v3 w2 => 
  Qu Pr (Is w2) (binS .quo 3 (.tmp 17) (.const (Value.int .i64 4)) v1 (Value.int .i64 4)) fun v4 =>
  Qu Pr (Is w2) (binS .mul 3 (.tmp 18) (.const (Value.int .i64 1)) v4 (Value.int .i64 1)) fun v5 =>
  Qu Pr (Is w2) (binS .add 3 (.tmp 16) (.tmp 19) a1 v5) fun v6 =>
  Qu Pr (Is w2) (binS .quo 3 (.tmp 22) (.const (Value.int .i64 4)) v1 (Value.int .i64 4)) fun v7 =>
  Qu Pr (Is w2) (binS .mul 3 (.tmp 23) (.const (Value.int .i64 2)) v7 (Value.int .i64 2)) fun v8 =>
  Qu Pr (Is w2) (binS .add 3 (.tmp 21) (.tmp 24) a1 v8) fun v9 =>
  Qu Pr (Is w2) (binS .quo 3 (.tmp 27) (.const (Value.int .i64 4)) v1 (Value.int .i64 4)) fun v10 =>
  Qu Pr (Is w2) (binS .mul 3 (.tmp 28) (.const (Value.int .i64 3)) v10 (Value.int .i64 3)) fun v11 =>
  Qu Pr (Is w2) (binS .add 3 (.tmp 26) (.tmp 29) a1 v11) fun v12 =>
  Qu Pr (Is w2) (binS .geq 3 (.tmp 31) (.const (Value.int .i64 8)) v1 (Value.int .i64 8)) fun v13 =>
  Jo (fun (p32 : Value) (w33 : World) => (
      Qu Pr (Is w33) (Instr.loadAt 3 v3) fun v35 =>
      Qu Pr (Is w33) (binS .eql 3 (.tmp 49) (.const (Value.int .i64 0)) v35 (Value.int .i64 0)) fun v36 =>
      If v36 (
        K (.tuple #[p32, (Value.int .i64 1)]) w33) (
        Qu Pr (Is w33) (binS .eql 3 (.tmp 49) (.const (Value.int .i64 12)) v35 (Value.int .i64 12)) fun v37 =>
        If v37 (
          K (.tuple #[p32, (Value.int .i64 2)]) w33) (
          K (.tuple #[p32, (Value.int .i64 0)]) w33)) : Prop)) fun J34 =>
  If v13 (
    Qu Pr (Is w2) (binS .geq 3 (.tmp 33) (.const (Value.int .i64 50)) v1 (Value.int .i64 50)) fun v38 =>
    Jo (fun (p42 : Value) (p46 : Value) (p50 : Value) (w51 : World) => (
        Cl Pr (callV (fn 314) #[a0, p42, p46, p50, v3]) w51 fun v54 w53 => 
        J34 v54 w53 : Prop)) fun J52 =>
    If v38 (
      Cl Pr (callV (fn 313) #[a0, v6, v3]) w2 fun v56 w55 => 
      Cl Pr (callV (fn 313) #[a0, v9, v3]) w55 fun v58 w57 => 
      Cl Pr (callV (fn 313) #[a0, v12, v3]) w57 fun v60 w59 => 
      J52 v56 v58 v60 w59) (
      J52 v6 v9 v12 w2)) (
    J34 v9 w2)
theorem c272 {a0 a1 a2 : Value} {K : Value → World → Prop} {w : World} (h : t272 a0 a1 a2 K w) : CK Pr 272 #[a0, a1, a2] w K := by
  refine calls_of_RF [] Tryz.func272 rfl ?_ ?_ ?_
  · kernel_rfl
  · exact Nat.le_of_ble_eq_true rfl
  · exact cast (by kernel_rfl) h

/-- slices.reverseRangeOrdered[uint64] -/
def t273 (a0 a1 a2 : Value) (K : Value → World → Prop) (w : World) : Prop :=
  Qu Pr (Is w) (binS .sub 3 (.tmp 9) (.const (Value.int .i64 1)) a2 (Value.int .i64 1)) fun v1 =>
  LoopW [a1, v1, undef, undef, undef, undef, undef, undef, undef, undef, undef, undef, undef, undef, undef, undef, undef, undef, undef, undef, undef, undef, undef] (fun r2 τ3 w4 =>
    Qu Pr (Is w4) (binS .lss 3 (.tmp 11) (.tmp 12) (g τ3 0) (g τ3 1)) fun v5 =>
    If v5 (
      Dr w4 fun S6 w7 =>
      Qu Pr (Is w7) (Instr.indexAt 23 a0 (g τ3 1)) fun v8 =>
      Qu Pr (Is w7) (Instr.loadAt 22 v8) fun v9 =>
      Qu Pr (Is w7) (Instr.indexAt 23 a0 (g τ3 0)) fun v10 =>
      Qu Pr (Is w7) (Instr.loadAt 22 v10) fun v11 =>
      Qu Pr (Is w7) (Instr.indexAt 23 a0 (g τ3 0)) fun v12 =>
      Eu Pr (Instr.storeAt 22 v12 v9) w7 fun w13 => S6 w13 ∧ 
      Qu Pr (S6) (Instr.indexAt 23 a0 (g τ3 1)) fun v14 =>
      Eu Pr (Instr.storeAt 22 v14 v11) w13 fun w15 => S6 w15 ∧ 
      Qu Pr (Is w15) (binS .add 3 (.tmp 28) (.const (Value.int .i64 1)) (g τ3 0) (Value.int .i64 1)) fun v16 =>
      Qu Pr (Is w15) (binS .sub 3 (.tmp 30) (.const (Value.int .i64 1)) (g τ3 1) (Value.int .i64 1)) fun v17 =>
      r2 [v16, v17, (g τ3 0), (g τ3 1), v5, a0, (g τ3 0), a0, (g τ3 1), a0, (g τ3 1), v8, v9, a0, (g τ3 0), v10, v11, v12, v14, (g τ3 0), v16, (g τ3 1), v17] w15) (
      K (.tuple #[]) w4)) w
theorem c273 {a0 a1 a2 : Value} {K : Value → World → Prop} {w : World} (h : t273 a0 a1 a2 K w) : CK Pr 273 #[a0, a1, a2] w K := by
  refine calls_of_RF [(2, [6, 7, 11, 12, 13, 14, 15, 16, 17, 18, 19, 20, 21, 22, 23, 24, 25, 26, 27, 28, 29, 30, 31])] Tryz.func273 rfl ?_ ?_ ?_
  · kernel_rfl
  · exact Nat.le_of_ble_eq_true rfl
  · exact cast (by kernel_rfl) h

@[irreducible] def t274_1 (w104 : World) (a2 : Value) (τ7 : List Value) (τ3 : List Value) (r2 : List Value → World → Prop) (p103 : Value) (v5 : Value) (v11 : Value) (v13 : Value) (v16 : Value) (v19 : Value) (v23 : Value) (v27 : Value) (v30 : Value) (v33 : Value) (v37 : Value) (v41 : Value) (v45 : Value) (v48 : Value) (v51 : Value) (v53 : Value) (a1 : Value) (v54 : Value) (v55 : Value) (a0 : Value) (v58 : Value) (v59 : Value) (v60 : Value) (v61 : Value) (v62 : Value) (v63 : Value) (v64 : Value) (v66 : Value) (v68 : Value) (v69 : Value) (p70 : Value) (p71 : Value) (p72 : Value) (p73 : Value) (p101 : Value) (p102 : Value) (p74 : Value) (p75 : Value) (p76 : Value) (p77 : Value) (p78 : Value) (p79 : Value) (p80 : Value) (p81 : Value) (p82 : Value) (p83 : Value) (p84 : Value) (p85 : Value) (p86 : Value) (p87 : Value) (p88 : Value) (p89 : Value) (p90 : Value) (p91 : Value) (p92 : Value) (p93 : Value) (p94 : Value) (p95 : Value) (p96 : Value) (p97 : Value) (p98 : Value) (p99 : Value) (p100 : Value) : Prop :=
                  Qu Pr (Is w104) (binS .sub 3 (.tmp 95) (.tmp 96) a2 (g τ7 0)) fun v106 =>
                  Qu Pr (Is w104) (binS .geq 3 (.tmp 97) (.const (Value.int .i64 2)) v106 (Value.int .i64 2)) fun v107 =>
                  Jo (fun (p108 : Value) (p109 : Value) (p110 : Value) (p111 : Value) (p112 : Value) (p113 : Value) (p114 : Value) (p115 : Value) (p116 : Value) (p117 : Value) (p118 : Value) (p119 : Value) (p120 : Value) (p121 : Value) (p122 : Value) (p123 : Value) (p124 : Value) (p125 : Value) (p126 : Value) (p127 : Value) (p128 : Value) (p129 : Value) (p130 : Value) (p131 : Value) (p132 : Value) (p133 : Value) (p134 : Value) (p135 : Value) (p136 : Value) (p137 : Value) (p138 : Value) (p139 : Value) (p140 : Value) (p141 : Value) (p142 : Value) (w143 : World) => (
                      Qu Pr (Is w143) (binS .add 3 (.tmp 15) (.const (Value.int .i64 1)) (g τ3 2) (Value.int .i64 1)) fun v145 =>
                      r2 [(g τ3 0), (g τ7 0), v145, p103, p142, (g τ3 2), v5, (g τ3 2), v145, (g τ7 0), a2, v11, v11, v13, v16, v19, v23, v27, v30, v33, v37, v41, v45, v48, v51, (g τ7 17), (g τ7 18), (g τ7 0), a2, v53, a2, a1, v54, v55, a0, (g τ7 0), a0, (g τ7 0), v58, a0, (g τ7 0), v59, v60, v61, a0, (g τ7 0), v62, v63, v64, v66, (g τ7 0), a1, v68, v69, p70, p71, p72, p73, p101, p102, p74, p75, p76, p77, p78, p79, p80, p81, p82, p83, p84, p85, p86, p87, p88, p89, p90, p91, p92, p93, p94, p95, p96, p97, p98, p99, p100, a2, (g τ7 0), v106, v107, p108, p109, p110, p111, p112, p140, p141, p113, p114, p115, p116, p117, p118, p119, p120, p121, p122, p123, p124, p125, p126, p127, p128, p129, p130, p131, p132, p133, p134, p135, p136, p137, p138, p139] w143 : Prop)) fun J144 =>
                  If v107 (
                    Qu Pr (Is w104) (binS .add 3 (.tmp 99) (.const (Value.int .i64 1)) (g τ7 0) (Value.int .i64 1)) fun v146 =>
                    Jo (fun (p147 : Value) (p148 : Value) (p149 : Value) (p150 : Value) (p151 : Value) (p152 : Value) (p153 : Value) (p154 : Value) (p155 : Value) (p156 : Value) (p157 : Value) (p158 : Value) (p159 : Value) (p160 : Value) (p161 : Value) (p162 : Value) (p163 : Value) (p164 : Value) (p165 : Value) (p166 : Value) (p167 : Value) (p168 : Value) (p169 : Value) (p170 : Value) (p171 : Value) (p172 : Value) (p173 : Value) (p174 : Value) (p175 : Value) (p176 : Value) (p177 : Value) (p178 : Value) (p179 : Value) (w180 : World) => (
                        J144 (g τ7 0) v146 p147 p148 p149 p150 p151 p152 p153 p154 p155 p156 p157 p158 p159 p160 p161 p162 p163 p164 p165 p166 p167 p168 p169 p170 p171 p172 p173 p174 p175 p176 p177 p178 p179 w180 : Prop)) fun J181 =>
                    LoopW [v146, (g τ3 93), (g τ3 94), (g τ3 95), (g τ3 96), (g τ3 97), (g τ3 98), (g τ3 99), (g τ3 100), (g τ3 101), (g τ3 102), (g τ3 103), (g τ3 104), (g τ3 105), (g τ3 106), (g τ3 107), (g τ3 108), (g τ3 109), (g τ3 110), (g τ3 111), (g τ3 112), (g τ3 113), (g τ3 114), (g τ3 115), (g τ3 116), (g τ3 117), (g τ3 118), (g τ3 119), (g τ3 120), (g τ3 121), (g τ3 122), (g τ3 123), (g τ3 124)] (fun r182 τ183 w184 =>
                      Qu Pr (Is w184) (binS .lss 3 (.tmp 101) (.tmp 102) (g τ183 0) a2) fun v185 =>
                      If v185 (
                        Dr w184 fun S186 w187 =>
                        Qu Pr (S186) (Instr.indexAt 23 a0 (g τ183 0)) fun v188 =>
                        Qu Pr (S186) (Instr.loadAt 22 v188) fun v189 =>
                        Qu Pr (S186) (binS .sub 3 (.tmp 111) (.const (Value.int .i64 1)) (g τ183 0) (Value.int .i64 1)) fun v190 =>
                        Qu Pr (S186) (Instr.indexAt 23 a0 v190) fun v191 =>
                        Qu Pr (S186) (Instr.loadAt 22 v191) fun v192 =>
                        Cl Pr (callV (fn 275) #[v189, v192]) w187 fun v194 w193 => S186 w193 ∧ 
                        Qu Pr (S186) (Op.unary .not v194) fun v195 =>
                        If v195 (
                          J181 (g τ183 0) a2 v185 a0 (g τ183 0) v188 v189 a0 (g τ183 0) v190 v191 v192 v194 v195 (g τ183 17) (g τ183 18) (g τ183 19) (g τ183 20) (g τ183 21) (g τ183 22) (g τ183 23) (g τ183 24) (g τ183 25) (g τ183 26) (g τ183 27) (g τ183 28) (g τ183 29) (g τ183 30) (g τ183 31) (g τ183 32) (g τ183 4) (g τ183 5) (g τ183 0) w193) (
                          Dr w193 fun S196 w197 =>
                          Qu Pr (S196) (binS .sub 3 (.tmp 120) (.const (Value.int .i64 1)) (g τ183 0) (Value.int .i64 1)) fun v198 =>
                          Qu Pr (Is w197) (binS .sub 3 (.tmp 123) (.const (Value.int .i64 1)) (g τ183 0) (Value.int .i64 1)) fun v199 =>
                          Qu Pr (Is w197) (Instr.indexAt 23 a0 v199) fun v200 =>
                          Qu Pr (Is w197) (Instr.loadAt 22 v200) fun v201 =>
                          Qu Pr (Is w197) (Instr.indexAt 23 a0 (g τ183 0)) fun v202 =>
                          Qu Pr (Is w197) (Instr.loadAt 22 v202) fun v203 =>
                          Qu Pr (Is w197) (Instr.indexAt 23 a0 (g τ183 0)) fun v204 =>
                          Eu Pr (Instr.storeAt 22 v204 v201) w197 fun w205 => S196 w205 ∧ 
                          Qu Pr (S196) (Instr.indexAt 23 a0 v198) fun v206 =>
                          Eu Pr (Instr.storeAt 22 v206 v203) w205 fun w207 => S196 w207 ∧ 
                          Qu Pr (Is w207) (binS .add 3 (.tmp 104) (.const (Value.int .i64 1)) (g τ183 0) (Value.int .i64 1)) fun v208 =>
                          r182 [v208, (g τ183 0), a2, v185, (g τ183 0), v208, a0, (g τ183 0), v188, v189, a0, (g τ183 0), v190, v191, v192, v194, v195, a0, (g τ183 0), a0, (g τ183 0), v198, a0, (g τ183 0), v199, v200, v201, a0, (g τ183 0), v202, v203, v204, v206] w207)) (
                        J181 (g τ183 0) a2 v185 (g τ183 6) (g τ183 7) (g τ183 8) (g τ183 9) (g τ183 10) (g τ183 11) (g τ183 12) (g τ183 13) (g τ183 14) (g τ183 15) (g τ183 16) (g τ183 17) (g τ183 18) (g τ183 19) (g τ183 20) (g τ183 21) (g τ183 22) (g τ183 23) (g τ183 24) (g τ183 25) (g τ183 26) (g τ183 27) (g τ183 28) (g τ183 29) (g τ183 30) (g τ183 31) (g τ183 32) (g τ183 4) (g τ183 5) (g τ183 0) w184)) w104) (
                    J144 (g τ3 91) (g τ3 92) (g τ3 93) (g τ3 94) (g τ3 95) (g τ3 98) (g τ3 99) (g τ3 100) (g τ3 101) (g τ3 102) (g τ3 103) (g τ3 104) (g τ3 105) (g τ3 106) (g τ3 107) (g τ3 108) (g τ3 109) (g τ3 110) (g τ3 111) (g τ3 112) (g τ3 113) (g τ3 114) (g τ3 115) (g τ3 116) (g τ3 117) (g τ3 118) (g τ3 119) (g τ3 120) (g τ3 121) (g τ3 122) (g τ3 123) (g τ3 124) (g τ3 96) (g τ3 97) (g τ3 4) w104)
@[irreducible] def t274_2 (w49 : World) (τ7 : List Value) (a0 : Value) (a1 : Value) (a2 : Value) (τ3 : List Value) (r2 : List Value → World → Prop) (v5 : Value) (v11 : Value) (v13 : Value) (v16 : Value) (v19 : Value) (v23 : Value) (v27 : Value) (v30 : Value) (v33 : Value) (v37 : Value) (v41 : Value) (v45 : Value) (v48 : Value) (v51 : Value) (v53 : Value) (v54 : Value) (v55 : Value) : Prop :=
              Dr w49 fun S56 w57 =>
              Qu Pr (S56) (binS .sub 3 (.tmp 45) (.const (Value.int .i64 1)) (g τ7 0) (Value.int .i64 1)) fun v58 =>
              Qu Pr (Is w57) (binS .sub 3 (.tmp 48) (.const (Value.int .i64 1)) (g τ7 0) (Value.int .i64 1)) fun v59 =>
              Qu Pr (Is w57) (Instr.indexAt 23 a0 v59) fun v60 =>
              Qu Pr (Is w57) (Instr.loadAt 22 v60) fun v61 =>
              Qu Pr (Is w57) (Instr.indexAt 23 a0 (g τ7 0)) fun v62 =>
              Qu Pr (Is w57) (Instr.loadAt 22 v62) fun v63 =>
              Qu Pr (Is w57) (Instr.indexAt 23 a0 (g τ7 0)) fun v64 =>
              Eu Pr (Instr.storeAt 22 v64 v61) w57 fun w65 => S56 w65 ∧ 
              Qu Pr (S56) (Instr.indexAt 23 a0 v58) fun v66 =>
              Eu Pr (Instr.storeAt 22 v66 v63) w65 fun w67 => S56 w67 ∧ 
              Qu Pr (Is w67) (binS .sub 3 (.tmp 58) (.tmp 59) (g τ7 0) a1) fun v68 =>
              Qu Pr (Is w67) (binS .geq 3 (.tmp 60) (.const (Value.int .i64 2)) v68 (Value.int .i64 2)) fun v69 =>
              Jo (fun (p70 : Value) (p71 : Value) (p72 : Value) (p73 : Value) (p74 : Value) (p75 : Value) (p76 : Value) (p77 : Value) (p78 : Value) (p79 : Value) (p80 : Value) (p81 : Value) (p82 : Value) (p83 : Value) (p84 : Value) (p85 : Value) (p86 : Value) (p87 : Value) (p88 : Value) (p89 : Value) (p90 : Value) (p91 : Value) (p92 : Value) (p93 : Value) (p94 : Value) (p95 : Value) (p96 : Value) (p97 : Value) (p98 : Value) (p99 : Value) (p100 : Value) (p101 : Value) (p102 : Value) (p103 : Value) (w104 : World) => (t274_1 w104 a2 τ7 τ3 r2 p103 v5 v11 v13 v16 v19 v23 v27 v30 v33 v37 v41 v45 v48 v51 v53 a1 v54 v55 a0 v58 v59 v60 v61 v62 v63 v64 v66 v68 v69 p70 p71 p72 p73 p101 p102 p74 p75 p76 p77 p78 p79 p80 p81 p82 p83 p84 p85 p86 p87 p88 p89 p90 p91 p92 p93 p94 p95 p96 p97 p98 p99 p100 : Prop)) fun J105 =>
              If v69 (
                Qu Pr (Is w67) (binS .sub 3 (.tmp 62) (.const (Value.int .i64 1)) (g τ7 0) (Value.int .i64 1)) fun v209 =>
                Jo (fun (p210 : Value) (p211 : Value) (p212 : Value) (p213 : Value) (p214 : Value) (p215 : Value) (p216 : Value) (p217 : Value) (p218 : Value) (p219 : Value) (p220 : Value) (p221 : Value) (p222 : Value) (p223 : Value) (p224 : Value) (p225 : Value) (p226 : Value) (p227 : Value) (p228 : Value) (p229 : Value) (p230 : Value) (p231 : Value) (p232 : Value) (p233 : Value) (p234 : Value) (p235 : Value) (p236 : Value) (p237 : Value) (p238 : Value) (p239 : Value) (p240 : Value) (p241 : Value) (w242 : World) => (
                    J105 (g τ7 0) v209 p210 p211 p212 p213 p214 p215 p216 p217 p218 p219 p220 p221 p222 p223 p224 p225 p226 p227 p228 p229 p230 p231 p232 p233 p234 p235 p236 p237 p238 p239 p240 p241 w242 : Prop)) fun J243 =>
                LoopW [v209, (g τ3 56), (g τ3 57), (g τ3 58), (g τ3 59), (g τ3 60), (g τ3 61), (g τ3 62), (g τ3 63), (g τ3 64), (g τ3 65), (g τ3 66), (g τ3 67), (g τ3 68), (g τ3 69), (g τ3 70), (g τ3 71), (g τ3 72), (g τ3 73), (g τ3 74), (g τ3 75), (g τ3 76), (g τ3 77), (g τ3 78), (g τ3 79), (g τ3 80), (g τ3 81), (g τ3 82), (g τ3 83), (g τ3 84), (g τ3 85), (g τ3 86)] (fun r244 τ245 w246 =>
                  Qu Pr (Is w246) (binS .geq 3 (.tmp 64) (.const (Value.int .i64 1)) (g τ245 0) (Value.int .i64 1)) fun v247 =>
                  If v247 (
                    Dr w246 fun S248 w249 =>
                    Qu Pr (S248) (Instr.indexAt 23 a0 (g τ245 0)) fun v250 =>
                    Qu Pr (S248) (Instr.loadAt 22 v250) fun v251 =>
                    Qu Pr (S248) (binS .sub 3 (.tmp 73) (.const (Value.int .i64 1)) (g τ245 0) (Value.int .i64 1)) fun v252 =>
                    Qu Pr (S248) (Instr.indexAt 23 a0 v252) fun v253 =>
                    Qu Pr (S248) (Instr.loadAt 22 v253) fun v254 =>
                    Cl Pr (callV (fn 275) #[v251, v254]) w249 fun v256 w255 => S248 w255 ∧ 
                    Qu Pr (S248) (Op.unary .not v256) fun v257 =>
                    If v257 (
                      J243 (g τ245 0) v247 a0 (g τ245 0) v250 v251 a0 (g τ245 0) v252 v253 v254 v256 v257 (g τ245 16) (g τ245 17) (g τ245 18) (g τ245 19) (g τ245 20) (g τ245 21) (g τ245 22) (g τ245 23) (g τ245 24) (g τ245 25) (g τ245 26) (g τ245 27) (g τ245 28) (g τ245 29) (g τ245 30) (g τ245 31) (g τ245 3) (g τ245 4) (g τ245 0) w255) (
                      Dr w255 fun S258 w259 =>
                      Qu Pr (S258) (binS .sub 3 (.tmp 82) (.const (Value.int .i64 1)) (g τ245 0) (Value.int .i64 1)) fun v260 =>
                      Qu Pr (Is w259) (binS .sub 3 (.tmp 85) (.const (Value.int .i64 1)) (g τ245 0) (Value.int .i64 1)) fun v261 =>
                      Qu Pr (Is w259) (Instr.indexAt 23 a0 v261) fun v262 =>
                      Qu Pr (Is w259) (Instr.loadAt 22 v262) fun v263 =>
                      Qu Pr (Is w259) (Instr.indexAt 23 a0 (g τ245 0)) fun v264 =>
                      Qu Pr (Is w259) (Instr.loadAt 22 v264) fun v265 =>
                      Qu Pr (Is w259) (Instr.indexAt 23 a0 (g τ245 0)) fun v266 =>
                      Eu Pr (Instr.storeAt 22 v266 v263) w259 fun w267 => S258 w267 ∧ 
                      Qu Pr (S258) (Instr.indexAt 23 a0 v260) fun v268 =>
                      Eu Pr (Instr.storeAt 22 v268 v265) w267 fun w269 => S258 w269 ∧ 
                      Qu Pr (Is w269) (binS .sub 3 (.tmp 66) (.const (Value.int .i64 1)) (g τ245 0) (Value.int .i64 1)) fun v270 =>
                      r244 [v270, (g τ245 0), v247, (g τ245 0), v270, a0, (g τ245 0), v250, v251, a0, (g τ245 0), v252, v253, v254, v256, v257, a0, (g τ245 0), a0, (g τ245 0), v260, a0, (g τ245 0), v261, v262, v263, a0, (g τ245 0), v264, v265, v266, v268] w269)) (
                    J243 (g τ245 0) v247 (g τ245 5) (g τ245 6) (g τ245 7) (g τ245 8) (g τ245 9) (g τ245 10) (g τ245 11) (g τ245 12) (g τ245 13) (g τ245 14) (g τ245 15) (g τ245 16) (g τ245 17) (g τ245 18) (g τ245 19) (g τ245 20) (g τ245 21) (g τ245 22) (g τ245 23) (g τ245 24) (g τ245 25) (g τ245 26) (g τ245 27) (g τ245 28) (g τ245 29) (g τ245 30) (g τ245 31) (g τ245 3) (g τ245 4) (g τ245 0) w246)) w67) (
                J105 (g τ3 54) (g τ3 55) (g τ3 56) (g τ3 57) (g τ3 60) (g τ3 61) (g τ3 62) (g τ3 63) (g τ3 64) (g τ3 65) (g τ3 66) (g τ3 67) (g τ3 68) (g τ3 69) (g τ3 70) (g τ3 71) (g τ3 72) (g τ3 73) (g τ3 74) (g τ3 75) (g τ3 76) (g τ3 77) (g τ3 78) (g τ3 79) (g τ3 80) (g τ3 81) (g τ3 82) (g τ3 83) (g τ3 84) (g τ3 85) (g τ3 86) (g τ3 58) (g τ3 59) (g τ3 3) w67)
@[irreducible] def t274_3 (w49 : World) (a2 : Value) (a1 : Value) (K : Value → World → Prop) (τ7 : List Value) (a0 : Value) (τ3 : List Value) (r2 : List Value → World → Prop) (v5 : Value) (v11 : Value) (v13 : Value) (v16 : Value) (v19 : Value) (v23 : Value) (v27 : Value) (v30 : Value) (v33 : Value) (v37 : Value) (v41 : Value) (v45 : Value) (v48 : Value) (v51 : Value) (v53 : Value) : Prop :=
            Qu Pr (Is w49) (binS .sub 3 (.tmp 38) (.tmp 39) a2 a1) fun v54 =>
            Qu Pr (Is w49) (binS .lss 3 (.tmp 40) (.const (Value.int .i64 50)) v54 (Value.int .i64 50)) fun v55 =>
            If v55 (
              K (Value.bool false) w49) (t274_2 w49 τ7 a0 a1 a2 τ3 r2 v5 v11 v13 v16 v19 v23 v27 v30 v33 v37 v41 v45 v48 v51 v53 v54 v55)
@[irreducible] def t274_4 (w49 : World) (τ7 : List Value) (a2 : Value) (K : Value → World → Prop) (a1 : Value) (a0 : Value) (τ3 : List Value) (r2 : List Value → World → Prop) (v5 : Value) (v11 : Value) (v13 : Value) (v16 : Value) (v19 : Value) (v23 : Value) (v27 : Value) (v30 : Value) (v33 : Value) (v37 : Value) (v41 : Value) (v45 : Value) (v48 : Value) (v51 : Value) : Prop :=
          Qu Pr (Is w49) (binS .eql 3 (.tmp 35) (.tmp 36) (g τ7 0) a2) fun v53 =>
          If v53 (
            K (Value.bool true) w49) (t274_3 w49 a2 a1 K τ7 a0 τ3 r2 v5 v11 v13 v16 v19 v23 v27 v30 v33 v37 v41 v45 v48 v51 v53)
@[irreducible] def t274_5 (τ3 : List Value) (a2 : Value) (a0 : Value) (K : Value → World → Prop) (a1 : Value) (r2 : List Value → World → Prop) (v5 : Value) (w4 : World) : Prop :=
      LoopW [(g τ3 1), (g τ3 9), (g τ3 10), (g τ3 11), (g τ3 12), (g τ3 13), (g τ3 14), (g τ3 15), (g τ3 16), (g τ3 17), (g τ3 18), (g τ3 19), (g τ3 20), (g τ3 21), (g τ3 22), (g τ3 23), (g τ3 24), (g τ3 25), (g τ3 26)] (fun r6 τ7 w8 =>
        Dr w8 fun S9 w10 =>
        Qu Pr (S9) (binS .lss 3 (.tmp 17) (.tmp 18) (g τ7 0) a2) fun v11 =>
        Gd v11 true (fun k12 => k12 a0 w10) w10 fun v13 w14 =>
        Gd v11 true (fun k15 => k15 (g τ7 0) w14) w14 fun v16 w17 =>
        Gd v11 true (fun k18 => Qu Pr (S9) (Instr.indexAt 23 v13 v16) fun v21 => k18 v21 w17) w17 fun v19 w20 =>
        Gd v11 true (fun k22 => Qu Pr (S9) (Instr.loadAt 22 v19) fun v25 => k22 v25 w20) w20 fun v23 w24 =>
        Gd v11 true (fun k26 => k26 a0 w24) w24 fun v27 w28 =>
        Gd v11 true (fun k29 => k29 (g τ7 0) w28) w28 fun v30 w31 =>
        Gd v11 true (fun k32 => Qu Pr (S9) (binS .sub 3 (.tmp 26) (.const (Value.int .i64 1)) v30 (Value.int .i64 1)) fun v35 => k32 v35 w31) w31 fun v33 w34 =>
        Gd v11 true (fun k36 => Qu Pr (S9) (Instr.indexAt 23 v27 v33) fun v39 => k36 v39 w34) w34 fun v37 w38 =>
        Gd v11 true (fun k40 => Qu Pr (S9) (Instr.loadAt 22 v37) fun v43 => k40 v43 w38) w38 fun v41 w42 =>
        Gd v11 true (fun k44 => Cl Pr (callV (fn 275) #[v23, v41]) w42 fun v45x w46x => S9 w46x ∧ k44 v45x w46x) w42 fun v45 w46 =>
        Gd v11 true (fun k47 => Qu Pr (S9) (Op.unary .not v45) fun v50 => k47 v50 w46) w46 fun v48 w49 =>
        Qu Pr (S9) (pickS v11 v48 (Value.bool false)) fun v51 =>
        If v51 (
          Qu Pr (Is w49) (binS .add 3 (.tmp 33) (.const (Value.int .i64 1)) (g τ7 0) (Value.int .i64 1)) fun v52 =>
          r6 [v52, (g τ7 0), a2, v11, v11, v13, v16, v19, v23, v27, v30, v33, v37, v41, v45, v48, v51, (g τ7 0), v52] w49) (t274_4 w49 τ7 a2 K a1 a0 τ3 r2 v5 v11 v13 v16 v19 v23 v27 v30 v33 v37 v41 v45 v48 v51)) w4
/-- slices.partialInsertionSortOrdered[uint64] -/
def t274 (a0 a1 a2 : Value) (K : Value → World → Prop) (w : World) : Prop :=
  Qu Pr (Is w) (binS .add 3 (.tmp 11) (.const (Value.int .i64 1)) a1 (Value.int .i64 1)) fun v1 =>
  LoopW [(Value.bool false), v1, (Value.int .i64 0), undef, undef, undef, undef, undef, undef, undef, undef, undef, undef, undef, undef, undef, undef, undef, undef, undef, undef, undef, undef, undef, undef, undef, undef, undef, undef, undef, undef, undef, undef, undef, undef, undef, undef, undef, undef, undef, undef, undef, undef, undef, undef, undef, undef, undef, undef, undef, undef, undef, undef, undef, undef, undef, undef, undef, undef, undef, undef, undef, undef, undef, undef, undef, undef, undef, undef, undef, undef, undef, undef, undef, undef, undef, undef, undef, undef, undef, undef, undef, undef, undef, undef, undef, undef, undef, undef, undef, undef, undef, undef, undef, undef, undef, undef, undef, undef, undef, undef, undef, undef, undef, undef, undef, undef, undef, undef, undef, undef, undef, undef, undef, undef, undef, undef, undef, undef, undef, undef, undef, undef, undef, undef] (fun r2 τ3 w4 =>
    Qu Pr (Is w4) (binS .lss 3 (.tmp 13) (.const (Value.int .i64 5)) (g τ3 2) (Value.int .i64 5)) fun v5 =>
    If v5 (t274_5 τ3 a2 a0 K a1 r2 v5 w4) (
      K (Value.bool false) w4)) w
theorem c274 {a0 a1 a2 : Value} {K : Value → World → Prop} {w : World} (h : t274 a0 a1 a2 K w) : CK Pr 274 #[a0, a1, a2] w K := by
  refine calls_of_RF [(3, [6, 7, 8, 9, 10, 13, 14, 15, 16, 17, 18, 19, 20, 21, 22, 23, 24, 25, 26, 27, 28, 29, 30, 31, 32, 33, 34, 35, 36, 37, 38, 39, 40, 41, 42, 43, 44, 45, 46, 47, 48, 49, 50, 51, 52, 53, 54, 55, 56, 57, 58, 59, 60, 61, 62, 63, 64, 65, 66, 67, 68, 69, 70, 71, 72, 73, 74, 75, 76, 77, 78, 79, 80, 81, 82, 83, 84, 85, 86, 87, 88, 89, 90, 91, 92, 93, 94, 95, 96, 97, 98, 99, 100, 101, 102, 103, 104, 105, 106, 107, 108, 109, 110, 111, 112, 113, 114, 115, 116, 117, 118, 119, 120, 121, 122, 123, 124, 125, 126, 127, 128, 129, 130, 131, 132]), (5, [7, 17, 18, 19, 20, 21, 22, 23, 24, 25, 26, 27, 28, 29, 30, 31, 32, 33, 34]), (14, [9, 64, 65, 66, 67, 68, 69, 70, 71, 72, 73, 74, 75, 76, 77, 78, 79, 80, 81, 82, 83, 84, 85, 86, 87, 88, 89, 90, 91, 92, 93, 94]), (20, [10, 101, 102, 103, 104, 105, 106, 107, 108, 109, 110, 111, 112, 113, 114, 115, 116, 117, 118, 119, 120, 121, 122, 123, 124, 125, 126, 127, 128, 129, 130, 131, 132])] Tryz.func274 rfl ?_ ?_ ?_
  · kernel_rfl
  · exact Nat.le_of_ble_eq_true rfl
  · exact cast (by kernel_rfl) h

/-- cmp.Less[uint64] -/
def t275 (a0 a1 : Value) (K : Value → World → Prop) (w : World) : Prop :=
  Cl Pr (callV (fn 315) #[a0]) w fun v2 w1 => 
  Gd v2 true (fun k3 => k3 a1 w1) w1 fun v4 w5 =>
  Gd v2 true (fun k6 => Cl Pr (callV (fn 315) #[v4]) w5 fun v7x w8x => k6 v7x w8x) w5 fun v7 w8 =>
  Gd v2 true (fun k9 => Qu Pr (Is w8) (Op.unary .not v7) fun v12 => k9 v12 w8) w8 fun v10 w11 =>
  Qu Pr (Is w11) (pickS v2 v10 (Value.bool false)) fun v13 =>
  Gd v13 false (fun k14 => k14 a0 w11) w11 fun v15 w16 =>
  Gd v13 false (fun k17 => k17 a1 w16) w16 fun v18 w19 =>
  Gd v13 false (fun k20 => Qu Pr (Is w19) (binS .lss 22 (.tmp 13) (.tmp 14) v15 v18) fun v23 => k20 v23 w19) w19 fun v21 w22 =>
  Qu Pr (Is w22) (pickS v13 (Value.bool true) v21) fun v24 =>
  K v24 w22
theorem c275 {a0 a1 : Value} {K : Value → World → Prop} {w : World} (h : t275 a0 a1 K w) : CK Pr 275 #[a0, a1] w K := by
  refine calls_of_RF [] Tryz.func275 rfl ?_ ?_ ?_
  · kernel_rfl
  · exact Nat.le_of_ble_eq_true rfl
  · exact cast (by kernel_rfl) h

/-- slices.partitionEqualOrdered[uint64] -/
def t276 (a0 a1 a2 a3 : Value) (K : Value → World → Prop) (w : World) : Prop :=
  Dr w fun S1 w2 =>
  Qu Pr (Is w2) (Instr.indexAt 23 a0 a3) fun v3 =>
  Qu Pr (Is w2) (Instr.loadAt 22 v3) fun v4 =>
  Qu Pr (Is w2) (Instr.indexAt 23 a0 a1) fun v5 =>
  Qu Pr (Is w2) (Instr.loadAt 22 v5) fun v6 =>
  Qu Pr (Is w2) (Instr.indexAt 23 a0 a1) fun v7 =>
  Eu Pr (Instr.storeAt 22 v7 v4) w2 fun w8 => S1 w8 ∧ 
  Qu Pr (S1) (Instr.indexAt 23 a0 a3) fun v9 =>
  Eu Pr (Instr.storeAt 22 v9 v6) w8 fun w10 => S1 w10 ∧ 
  Qu Pr (Is w10) (binS .add 3 (.tmp 25) (.const (Value.int .i64 1)) a1 (Value.int .i64 1)) fun v11 =>
  Qu Pr (Is w10) (binS .sub 3 (.tmp 27) (.const (Value.int .i64 1)) a2 (Value.int .i64 1)) fun v12 =>
  LoopW [v11, v12, undef, undef, undef, undef, undef, undef, undef, undef, undef, undef, undef, undef, undef, undef, undef, undef, undef, undef, undef, undef, undef, undef, undef, undef, undef, undef, undef, undef, undef, undef, undef, undef, undef, undef, undef, undef, undef, undef, undef, undef, undef, undef, undef, undef, undef, undef, undef, undef, undef, undef, undef, undef, undef, undef] (fun r13 τ14 w15 =>
    LoopW [(g τ14 0), (g τ14 2), (g τ14 3), (g τ14 4), (g τ14 5), (g τ14 6), (g τ14 7), (g τ14 8), (g τ14 9), (g τ14 10), (g τ14 11), (g τ14 12), (g τ14 13), (g τ14 14), (g τ14 15), (g τ14 16), (g τ14 17), (g τ14 18)] (fun r16 τ17 w18 =>
      Dr w18 fun S19 w20 =>
      Qu Pr (S19) (binS .leq 3 (.tmp 29) (.tmp 30) (g τ17 0) (g τ14 1)) fun v21 =>
      Gd v21 true (fun k22 => k22 a0 w20) w20 fun v23 w24 =>
      Gd v21 true (fun k25 => k25 a1 w24) w24 fun v26 w27 =>
      Gd v21 true (fun k28 => Qu Pr (S19) (Instr.indexAt 23 v23 v26) fun v31 => k28 v31 w27) w27 fun v29 w30 =>
      Gd v21 true (fun k32 => Qu Pr (S19) (Instr.loadAt 22 v29) fun v35 => k32 v35 w30) w30 fun v33 w34 =>
      Gd v21 true (fun k36 => k36 a0 w34) w34 fun v37 w38 =>
      Gd v21 true (fun k39 => k39 (g τ17 0) w38) w38 fun v40 w41 =>
      Gd v21 true (fun k42 => Qu Pr (S19) (Instr.indexAt 23 v37 v40) fun v45 => k42 v45 w41) w41 fun v43 w44 =>
      Gd v21 true (fun k46 => Qu Pr (S19) (Instr.loadAt 22 v43) fun v49 => k46 v49 w44) w44 fun v47 w48 =>
      Gd v21 true (fun k50 => Cl Pr (callV (fn 275) #[v33, v47]) w48 fun v51x w52x => S19 w52x ∧ k50 v51x w52x) w48 fun v51 w52 =>
      Gd v21 true (fun k53 => Qu Pr (S19) (Op.unary .not v51) fun v56 => k53 v56 w52) w52 fun v54 w55 =>
      Qu Pr (S19) (pickS v21 v54 (Value.bool false)) fun v57 =>
      If v57 (
        Qu Pr (Is w55) (binS .add 3 (.tmp 44) (.const (Value.int .i64 1)) (g τ17 0) (Value.int .i64 1)) fun v58 =>
        r16 [v58, (g τ17 0), (g τ14 1), v21, v21, v23, v26, v29, v33, v37, v40, v43, v47, v51, v54, v57, (g τ17 0), v58] w55) (
        LoopW [(g τ14 1), (g τ14 19), (g τ14 20), (g τ14 21), (g τ14 22), (g τ14 23), (g τ14 24), (g τ14 25), (g τ14 26), (g τ14 27), (g τ14 28), (g τ14 29), (g τ14 30), (g τ14 31), (g τ14 32), (g τ14 33), (g τ14 34)] (fun r59 τ60 w61 =>
          Dr w61 fun S62 w63 =>
          Qu Pr (S62) (binS .leq 3 (.tmp 46) (.tmp 47) (g τ17 0) (g τ60 0)) fun v64 =>
          Gd v64 true (fun k65 => k65 a0 w63) w63 fun v66 w67 =>
          Gd v64 true (fun k68 => k68 a1 w67) w67 fun v69 w70 =>
          Gd v64 true (fun k71 => Qu Pr (S62) (Instr.indexAt 23 v66 v69) fun v74 => k71 v74 w70) w70 fun v72 w73 =>
          Gd v64 true (fun k75 => Qu Pr (S62) (Instr.loadAt 22 v72) fun v78 => k75 v78 w73) w73 fun v76 w77 =>
          Gd v64 true (fun k79 => k79 a0 w77) w77 fun v80 w81 =>
          Gd v64 true (fun k82 => k82 (g τ60 0) w81) w81 fun v83 w84 =>
          Gd v64 true (fun k85 => Qu Pr (S62) (Instr.indexAt 23 v80 v83) fun v88 => k85 v88 w84) w84 fun v86 w87 =>
          Gd v64 true (fun k89 => Qu Pr (S62) (Instr.loadAt 22 v86) fun v92 => k89 v92 w87) w87 fun v90 w91 =>
          Gd v64 true (fun k93 => Cl Pr (callV (fn 275) #[v76, v90]) w91 fun v94x w95x => S62 w95x ∧ k93 v94x w95x) w91 fun v94 w95 =>
          Qu Pr (S62) (pickS v64 v94 (Value.bool false)) fun v96 =>
          If v96 (
            Qu Pr (Is w95) (binS .sub 3 (.tmp 60) (.const (Value.int .i64 1)) (g τ60 0) (Value.int .i64 1)) fun v97 =>
            r59 [v97, (g τ17 0), (g τ60 0), v64, v64, v66, v69, v72, v76, v80, v83, v86, v90, v94, v96, (g τ60 0), v97] w95) (
            Qu Pr (Is w95) (binS .gtr 3 (.tmp 62) (.tmp 63) (g τ17 0) (g τ60 0)) fun v98 =>
            If v98 (
              K (g τ17 0) w95) (
              Dr w95 fun S99 w100 =>
              Qu Pr (Is w100) (Instr.indexAt 23 a0 (g τ60 0)) fun v101 =>
              Qu Pr (Is w100) (Instr.loadAt 22 v101) fun v102 =>
              Qu Pr (Is w100) (Instr.indexAt 23 a0 (g τ17 0)) fun v103 =>
              Qu Pr (Is w100) (Instr.loadAt 22 v103) fun v104 =>
              Qu Pr (Is w100) (Instr.indexAt 23 a0 (g τ17 0)) fun v105 =>
              Eu Pr (Instr.storeAt 22 v105 v102) w100 fun w106 => S99 w106 ∧ 
              Qu Pr (S99) (Instr.indexAt 23 a0 (g τ60 0)) fun v107 =>
              Eu Pr (Instr.storeAt 22 v107 v104) w106 fun w108 => S99 w108 ∧ 
              Qu Pr (Is w108) (binS .add 3 (.tmp 79) (.const (Value.int .i64 1)) (g τ17 0) (Value.int .i64 1)) fun v109 =>
              Qu Pr (Is w108) (binS .sub 3 (.tmp 81) (.const (Value.int .i64 1)) (g τ60 0) (Value.int .i64 1)) fun v110 =>
              r13 [v109, v110, (g τ17 0), (g τ14 1), v21, v21, v23, v26, v29, v33, v37, v40, v43, v47, v51, v54, v57, (g τ17 16), (g τ17 17), (g τ17 0), (g τ60 0), v64, v64, v66, v69, v72, v76, v80, v83, v86, v90, v94, v96, (g τ60 15), (g τ60 16), (g τ17 0), (g τ60 0), v98, a0, (g τ17 0), a0, (g τ60 0), a0, (g τ60 0), v101, v102, a0, (g τ17 0), v103, v104, v105, v107, (g τ17 0), v109, (g τ60 0), v110] w108))) w55)) w15) w10
theorem c276 {a0 a1 a2 a3 : Value} {K : Value → World → Prop} {w : World} (h : t276 a0 a1 a2 a3 K w) : CK Pr 276 #[a0, a1, a2, a3] w K := by
  refine calls_of_RF [(3, [9, 29, 30, 31, 32, 33, 34, 35, 36, 37, 38, 39, 40, 41, 42, 43, 44, 45]), (5, [10, 46, 47, 48, 49, 50, 51, 52, 53, 54, 55, 56, 57, 58, 59, 60, 61]), (100003, [9, 10, 29, 30, 31, 32, 33, 34, 35, 36, 37, 38, 39, 40, 41, 42, 43, 44, 45, 46, 47, 48, 49, 50, 51, 52, 53, 54, 55, 56, 57, 58, 59, 60, 61, 62, 63, 64, 65, 66, 67, 68, 69, 70, 71, 72, 73, 74, 75, 76, 77, 78, 79, 80, 81, 82])] Tryz.func276 rfl ?_ ?_ ?_
  · kernel_rfl
  · exact Nat.le_of_ble_eq_true rfl
  · exact cast (by kernel_rfl) h

@[irreducible] def t277_1 (τ119 : List Value) (τ122 : List Value) (a0 : Value) (a1 : Value) (K : Value → World → Prop) (r118 : List Value → World → Prop) (v126 : Value) (v128 : Value) (v131 : Value) (v134 : Value) (v138 : Value) (v142 : Value) (v145 : Value) (v148 : Value) (v152 : Value) (v156 : Value) (v158 : Value) (w157 : World) : Prop :=
                  LoopW [(g τ119 1), (g τ119 18), (g τ119 19), (g τ119 20), (g τ119 21), (g τ119 22), (g τ119 23), (g τ119 24), (g τ119 25), (g τ119 26), (g τ119 27), (g τ119 28), (g τ119 29), (g τ119 30), (g τ119 31), (g τ119 32), (g τ119 33), (g τ119 34)] (fun r160 τ161 w162 =>
                    Dr w162 fun S163 w164 =>
                    Qu Pr (S163) (binS .leq 3 (.tmp 115) (.tmp 116) (g τ122 0) (g τ161 0)) fun v165 =>
                    Gd v165 true (fun k166 => k166 a0 w164) w164 fun v167 w168 =>
                    Gd v165 true (fun k169 => k169 (g τ161 0) w168) w168 fun v170 w171 =>
                    Gd v165 true (fun k172 => Qu Pr (S163) (Instr.indexAt 23 v167 v170) fun v175 => k172 v175 w171) w171 fun v173 w174 =>
                    Gd v165 true (fun k176 => Qu Pr (S163) (Instr.loadAt 22 v173) fun v179 => k176 v179 w174) w174 fun v177 w178 =>
                    Gd v165 true (fun k180 => k180 a0 w178) w178 fun v181 w182 =>
                    Gd v165 true (fun k183 => k183 a1 w182) w182 fun v184 w185 =>
                    Gd v165 true (fun k186 => Qu Pr (S163) (Instr.indexAt 23 v181 v184) fun v189 => k186 v189 w185) w185 fun v187 w188 =>
                    Gd v165 true (fun k190 => Qu Pr (S163) (Instr.loadAt 22 v187) fun v193 => k190 v193 w188) w188 fun v191 w192 =>
                    Gd v165 true (fun k194 => Cl Pr (callV (fn 275) #[v177, v191]) w192 fun v195x w196x => S163 w196x ∧ k194 v195x w196x) w192 fun v195 w196 =>
                    Gd v165 true (fun k197 => Qu Pr (S163) (Op.unary .not v195) fun v200 => k197 v200 w196) w196 fun v198 w199 =>
                    Qu Pr (S163) (pickS v165 v198 (Value.bool false)) fun v201 =>
                    If v201 (
                      Qu Pr (Is w199) (binS .sub 3 (.tmp 130) (.const (Value.int .i64 1)) (g τ161 0) (Value.int .i64 1)) fun v202 =>
                      r160 [v202, (g τ122 0), (g τ161 0), v165, v165, v167, v170, v173, v177, v181, v184, v187, v191, v195, v198, v201, (g τ161 0), v202] w199) (
                      Qu Pr (Is w199) (binS .gtr 3 (.tmp 132) (.tmp 133) (g τ122 0) (g τ161 0)) fun v203 =>
                      If v203 (
                        Dr w199 fun S204 w205 =>
                        Qu Pr (Is w205) (Instr.indexAt 23 a0 a1) fun v206 =>
                        Qu Pr (Is w205) (Instr.loadAt 22 v206) fun v207 =>
                        Qu Pr (Is w205) (Instr.indexAt 23 a0 (g τ161 0)) fun v208 =>
                        Qu Pr (Is w205) (Instr.loadAt 22 v208) fun v209 =>
                        Qu Pr (Is w205) (Instr.indexAt 23 a0 (g τ161 0)) fun v210 =>
                        Eu Pr (Instr.storeAt 22 v210 v207) w205 fun w211 => S204 w211 ∧ 
                        Qu Pr (S204) (Instr.indexAt 23 a0 a1) fun v212 =>
                        Eu Pr (Instr.storeAt 22 v212 v209) w211 fun w213 => S204 w213 ∧ 
                        K (.tuple #[(g τ161 0), (Value.bool false)]) w213) (
                        Dr w199 fun S214 w215 =>
                        Qu Pr (Is w215) (Instr.indexAt 23 a0 (g τ161 0)) fun v216 =>
                        Qu Pr (Is w215) (Instr.loadAt 22 v216) fun v217 =>
                        Qu Pr (Is w215) (Instr.indexAt 23 a0 (g τ122 0)) fun v218 =>
                        Qu Pr (Is w215) (Instr.loadAt 22 v218) fun v219 =>
                        Qu Pr (Is w215) (Instr.indexAt 23 a0 (g τ122 0)) fun v220 =>
                        Eu Pr (Instr.storeAt 22 v220 v217) w215 fun w221 => S214 w221 ∧ 
                        Qu Pr (S214) (Instr.indexAt 23 a0 (g τ161 0)) fun v222 =>
                        Eu Pr (Instr.storeAt 22 v222 v219) w221 fun w223 => S214 w223 ∧ 
                        Qu Pr (Is w223) (binS .add 3 (.tmp 149) (.const (Value.int .i64 1)) (g τ122 0) (Value.int .i64 1)) fun v224 =>
                        Qu Pr (Is w223) (binS .sub 3 (.tmp 151) (.const (Value.int .i64 1)) (g τ161 0) (Value.int .i64 1)) fun v225 =>
                        r118 [v224, v225, (g τ122 0), (g τ119 1), v126, v126, v128, v131, v134, v138, v142, v145, v148, v152, v156, v158, (g τ122 15), (g τ122 16), (g τ122 0), (g τ161 0), v165, v165, v167, v170, v173, v177, v181, v184, v187, v191, v195, v198, v201, (g τ161 16), (g τ161 17), (g τ122 0), (g τ161 0), v203, a0, (g τ122 0), a0, (g τ161 0), a0, (g τ161 0), v216, v217, a0, (g τ122 0), v218, v219, v220, v222, (g τ122 0), v224, (g τ161 0), v225] w223))) w157
@[irreducible] def t277_2 (w91 : World) (a0 : Value) (τ53 : List Value) (τ14 : List Value) (a1 : Value) (K : Value → World → Prop) : Prop :=
            Dr w91 fun S106 w107 =>
            Qu Pr (Is w107) (Instr.indexAt 23 a0 (g τ53 0)) fun v108 =>
            Qu Pr (Is w107) (Instr.loadAt 22 v108) fun v109 =>
            Qu Pr (Is w107) (Instr.indexAt 23 a0 (g τ14 0)) fun v110 =>
            Qu Pr (Is w107) (Instr.loadAt 22 v110) fun v111 =>
            Qu Pr (Is w107) (Instr.indexAt 23 a0 (g τ14 0)) fun v112 =>
            Eu Pr (Instr.storeAt 22 v112 v109) w107 fun w113 => S106 w113 ∧ 
            Qu Pr (S106) (Instr.indexAt 23 a0 (g τ53 0)) fun v114 =>
            Eu Pr (Instr.storeAt 22 v114 v111) w113 fun w115 => S106 w115 ∧ 
            Qu Pr (Is w115) (binS .add 3 (.tmp 95) (.const (Value.int .i64 1)) (g τ14 0) (Value.int .i64 1)) fun v116 =>
            Qu Pr (Is w115) (binS .sub 3 (.tmp 97) (.const (Value.int .i64 1)) (g τ53 0) (Value.int .i64 1)) fun v117 =>
            LoopW [v116, v117, undef, undef, undef, undef, undef, undef, undef, undef, undef, undef, undef, undef, undef, undef, undef, undef, undef, undef, undef, undef, undef, undef, undef, undef, undef, undef, undef, undef, undef, undef, undef, undef, undef, undef, undef, undef, undef, undef, undef, undef, undef, undef, undef, undef, undef, undef, undef, undef, undef, undef, undef, undef, undef, undef] (fun r118 τ119 w120 =>
              LoopW [(g τ119 0), (g τ119 2), (g τ119 3), (g τ119 4), (g τ119 5), (g τ119 6), (g τ119 7), (g τ119 8), (g τ119 9), (g τ119 10), (g τ119 11), (g τ119 12), (g τ119 13), (g τ119 14), (g τ119 15), (g τ119 16), (g τ119 17)] (fun r121 τ122 w123 =>
                Dr w123 fun S124 w125 =>
                Qu Pr (S124) (binS .leq 3 (.tmp 99) (.tmp 100) (g τ122 0) (g τ119 1)) fun v126 =>
                Gd v126 true (fun k127 => k127 a0 w125) w125 fun v128 w129 =>
                Gd v126 true (fun k130 => k130 (g τ122 0) w129) w129 fun v131 w132 =>
                Gd v126 true (fun k133 => Qu Pr (S124) (Instr.indexAt 23 v128 v131) fun v136 => k133 v136 w132) w132 fun v134 w135 =>
                Gd v126 true (fun k137 => Qu Pr (S124) (Instr.loadAt 22 v134) fun v140 => k137 v140 w135) w135 fun v138 w139 =>
                Gd v126 true (fun k141 => k141 a0 w139) w139 fun v142 w143 =>
                Gd v126 true (fun k144 => k144 a1 w143) w143 fun v145 w146 =>
                Gd v126 true (fun k147 => Qu Pr (S124) (Instr.indexAt 23 v142 v145) fun v150 => k147 v150 w146) w146 fun v148 w149 =>
                Gd v126 true (fun k151 => Qu Pr (S124) (Instr.loadAt 22 v148) fun v154 => k151 v154 w149) w149 fun v152 w153 =>
                Gd v126 true (fun k155 => Cl Pr (callV (fn 275) #[v138, v152]) w153 fun v156x w157x => S124 w157x ∧ k155 v156x w157x) w153 fun v156 w157 =>
                Qu Pr (S124) (pickS v126 v156 (Value.bool false)) fun v158 =>
                If v158 (
                  Qu Pr (Is w157) (binS .add 3 (.tmp 113) (.const (Value.int .i64 1)) (g τ122 0) (Value.int .i64 1)) fun v159 =>
                  r121 [v159, (g τ122 0), (g τ119 1), v126, v126, v128, v131, v134, v138, v142, v145, v148, v152, v156, v158, (g τ122 0), v159] w157) (t277_1 τ119 τ122 a0 a1 K r118 v126 v128 v131 v134 v138 v142 v145 v148 v152 v156 v158 w157)) w120) w115
@[irreducible] def t277_3 (w91 : World) (τ14 : List Value) (τ53 : List Value) (a0 : Value) (a1 : Value) (K : Value → World → Prop) : Prop :=
          Qu Pr (Is w91) (binS .gtr 3 (.tmp 63) (.tmp 64) (g τ14 0) (g τ53 0)) fun v95 =>
          If v95 (
            Dr w91 fun S96 w97 =>
            Qu Pr (Is w97) (Instr.indexAt 23 a0 a1) fun v98 =>
            Qu Pr (Is w97) (Instr.loadAt 22 v98) fun v99 =>
            Qu Pr (Is w97) (Instr.indexAt 23 a0 (g τ53 0)) fun v100 =>
            Qu Pr (Is w97) (Instr.loadAt 22 v100) fun v101 =>
            Qu Pr (Is w97) (Instr.indexAt 23 a0 (g τ53 0)) fun v102 =>
            Eu Pr (Instr.storeAt 22 v102 v99) w97 fun w103 => S96 w103 ∧ 
            Qu Pr (S96) (Instr.indexAt 23 a0 a1) fun v104 =>
            Eu Pr (Instr.storeAt 22 v104 v101) w103 fun w105 => S96 w105 ∧ 
            K (.tuple #[(g τ53 0), (Value.bool true)]) w105) (t277_2 w91 a0 τ53 τ14 a1 K)
@[irreducible] def t277_4 (v12 : Value) (τ14 : List Value) (a0 : Value) (a1 : Value) (K : Value → World → Prop) (w49 : World) : Prop :=
      LoopW [v12, undef, undef, undef, undef, undef, undef, undef, undef, undef, undef, undef, undef, undef, undef, undef, undef, undef] (fun r52 τ53 w54 =>
        Dr w54 fun S55 w56 =>
        Qu Pr (S55) (binS .leq 3 (.tmp 46) (.tmp 47) (g τ14 0) (g τ53 0)) fun v57 =>
        Gd v57 true (fun k58 => k58 a0 w56) w56 fun v59 w60 =>
        Gd v57 true (fun k61 => k61 (g τ53 0) w60) w60 fun v62 w63 =>
        Gd v57 true (fun k64 => Qu Pr (S55) (Instr.indexAt 23 v59 v62) fun v67 => k64 v67 w63) w63 fun v65 w66 =>
        Gd v57 true (fun k68 => Qu Pr (S55) (Instr.loadAt 22 v65) fun v71 => k68 v71 w66) w66 fun v69 w70 =>
        Gd v57 true (fun k72 => k72 a0 w70) w70 fun v73 w74 =>
        Gd v57 true (fun k75 => k75 a1 w74) w74 fun v76 w77 =>
        Gd v57 true (fun k78 => Qu Pr (S55) (Instr.indexAt 23 v73 v76) fun v81 => k78 v81 w77) w77 fun v79 w80 =>
        Gd v57 true (fun k82 => Qu Pr (S55) (Instr.loadAt 22 v79) fun v85 => k82 v85 w80) w80 fun v83 w84 =>
        Gd v57 true (fun k86 => Cl Pr (callV (fn 275) #[v69, v83]) w84 fun v87x w88x => S55 w88x ∧ k86 v87x w88x) w84 fun v87 w88 =>
        Gd v57 true (fun k89 => Qu Pr (S55) (Op.unary .not v87) fun v92 => k89 v92 w88) w88 fun v90 w91 =>
        Qu Pr (S55) (pickS v57 v90 (Value.bool false)) fun v93 =>
        If v93 (
          Qu Pr (Is w91) (binS .sub 3 (.tmp 61) (.const (Value.int .i64 1)) (g τ53 0) (Value.int .i64 1)) fun v94 =>
          r52 [v94, (g τ14 0), (g τ53 0), v57, v57, v59, v62, v65, v69, v73, v76, v79, v83, v87, v90, v93, (g τ53 0), v94] w91) (t277_3 w91 τ14 τ53 a0 a1 K)) w49
/-- slices.partitionOrdered[uint64] -/
def t277 (a0 a1 a2 a3 : Value) (K : Value → World → Prop) (w : World) : Prop :=
  Dr w fun S1 w2 =>
  Qu Pr (Is w2) (Instr.indexAt 23 a0 a3) fun v3 =>
  Qu Pr (Is w2) (Instr.loadAt 22 v3) fun v4 =>
  Qu Pr (Is w2) (Instr.indexAt 23 a0 a1) fun v5 =>
  Qu Pr (Is w2) (Instr.loadAt 22 v5) fun v6 =>
  Qu Pr (Is w2) (Instr.indexAt 23 a0 a1) fun v7 =>
  Eu Pr (Instr.storeAt 22 v7 v4) w2 fun w8 => S1 w8 ∧ 
  Qu Pr (S1) (Instr.indexAt 23 a0 a3) fun v9 =>
  Eu Pr (Instr.storeAt 22 v9 v6) w8 fun w10 => S1 w10 ∧ 
  Qu Pr (Is w10) (binS .add 3 (.tmp 26) (.const (Value.int .i64 1)) a1 (Value.int .i64 1)) fun v11 =>
  Qu Pr (Is w10) (binS .sub 3 (.tmp 28) (.const (Value.int .i64 1)) a2 (Value.int .i64 1)) fun v12 =>
  LoopW [v11, undef, undef, undef, undef, undef, undef, undef, undef, undef, undef, undef, undef, undef, undef, undef, undef] (fun r13 τ14 w15 =>
    Dr w15 fun S16 w17 =>
    Qu Pr (S16) (binS .leq 3 (.tmp 30) (.tmp 31) (g τ14 0) v12) fun v18 =>
    Gd v18 true (fun k19 => k19 a0 w17) w17 fun v20 w21 =>
    Gd v18 true (fun k22 => k22 (g τ14 0) w21) w21 fun v23 w24 =>
    Gd v18 true (fun k25 => Qu Pr (S16) (Instr.indexAt 23 v20 v23) fun v28 => k25 v28 w24) w24 fun v26 w27 =>
    Gd v18 true (fun k29 => Qu Pr (S16) (Instr.loadAt 22 v26) fun v32 => k29 v32 w27) w27 fun v30 w31 =>
    Gd v18 true (fun k33 => k33 a0 w31) w31 fun v34 w35 =>
    Gd v18 true (fun k36 => k36 a1 w35) w35 fun v37 w38 =>
    Gd v18 true (fun k39 => Qu Pr (S16) (Instr.indexAt 23 v34 v37) fun v42 => k39 v42 w38) w38 fun v40 w41 =>
    Gd v18 true (fun k43 => Qu Pr (S16) (Instr.loadAt 22 v40) fun v46 => k43 v46 w41) w41 fun v44 w45 =>
    Gd v18 true (fun k47 => Cl Pr (callV (fn 275) #[v30, v44]) w45 fun v48x w49x => S16 w49x ∧ k47 v48x w49x) w45 fun v48 w49 =>
    Qu Pr (S16) (pickS v18 v48 (Value.bool false)) fun v50 =>
    If v50 (
      Qu Pr (Is w49) (binS .add 3 (.tmp 44) (.const (Value.int .i64 1)) (g τ14 0) (Value.int .i64 1)) fun v51 =>
      r13 [v51, (g τ14 0), v12, v18, v18, v20, v23, v26, v30, v34, v37, v40, v44, v48, v50, (g τ14 0), v51] w49) (t277_4 v12 τ14 a0 a1 K w49)) w10
theorem c277 {a0 a1 a2 a3 : Value} {K : Value → World → Prop} {w : World} (h : t277 a0 a1 a2 a3 K w) : CK Pr 277 #[a0, a1, a2, a3] w K := by
  refine calls_of_RF [(3, [10, 30, 31, 32, 33, 34, 35, 36, 37, 38, 39, 40, 41, 42, 43, 44, 45]), (5, [11, 46, 47, 48, 49, 50, 51, 52, 53, 54, 55, 56, 57, 58, 59, 60, 61, 62]), (13, [10, 99, 100, 101, 102, 103, 104, 105, 106, 107, 108, 109, 110, 111, 112, 113, 114]), (15, [11, 115, 116, 117, 118, 119, 120, 121, 122, 123, 124, 125, 126, 127, 128, 129, 130, 131]), (100013, [10, 11, 99, 100, 101, 102, 103, 104, 105, 106, 107, 108, 109, 110, 111, 112, 113, 114, 115, 116, 117, 118, 119, 120, 121, 122, 123, 124, 125, 126, 127, 128, 129, 130, 131, 132, 133, 134, 135, 136, 137, 138, 139, 140, 141, 142, 143, 144, 145, 146, 147, 148, 149, 150, 151, 152])] Tryz.func277 rfl ?_ ?_ ?_
  · kernel_rfl
  · exact Nat.le_of_ble_eq_true rfl
  · exact cast (by kernel_rfl) h

/-- math/bits.Len32 -/
def t278 (a0 : Value) (K : Value → World → Prop) (w : World) : Prop :=
  Qu Pr (Is w) (binS .geq 371 (.tmp 3) (.const (Value.int .u32 65536)) a0 (Value.int .u32 65536)) fun v1 =>
  Jo (fun (p4 : Value) (p5 : Value) (w6 : World) => (
      Qu Pr (Is w6) (binS .geq 371 (.tmp 7) (.const (Value.int .u32 256)) p4 (Value.int .u32 256)) fun v8 =>
      Jo (fun (p11 : Value) (p14 : Value) (w15 : World) => (
          Qu Pr (Is w15) (convert 371 5 p11) fun v17 =>
          Qu Pr (Is w15) (Instr.index 9 (Value.string (ByteArray.mk #[0, 1, 2, 2, 3, 3, 3, 3, 4, 4, 4, 4, 4, 4, 4, 4, 5, 5, 5, 5, 5, 5, 5, 5, 5, 5, 5, 5, 5, 5, 5, 5, 6, 6, 6, 6, 6, 6, 6, 6, 6, 6, 6, 6, 6, 6, 6, 6, 6, 6, 6, 6, 6, 6, 6, 6, 6, 6, 6, 6, 6, 6, 6, 6, 7, 7, 7, 7, 7, 7, 7, 7, 7, 7, 7, 7, 7, 7, 7, 7, 7, 7, 7, 7, 7, 7, 7, 7, 7, 7, 7, 7, 7, 7, 7, 7, 7, 7, 7, 7, 7, 7, 7, 7, 7, 7, 7, 7, 7, 7, 7, 7, 7, 7, 7, 7, 7, 7, 7, 7, 7, 7, 7, 7, 7, 7, 7, 7, 8, 8, 8, 8, 8, 8, 8, 8, 8, 8, 8, 8, 8, 8, 8, 8, 8, 8, 8, 8, 8, 8, 8, 8, 8, 8, 8, 8, 8, 8, 8, 8, 8, 8, 8, 8, 8, 8, 8, 8, 8, 8, 8, 8, 8, 8, 8, 8, 8, 8, 8, 8, 8, 8, 8, 8, 8, 8, 8, 8, 8, 8, 8, 8, 8, 8, 8, 8, 8, 8, 8, 8, 8, 8, 8, 8, 8, 8, 8, 8, 8, 8, 8, 8, 8, 8, 8, 8, 8, 8, 8, 8, 8, 8, 8, 8, 8, 8, 8, 8, 8, 8, 8, 8, 8, 8, 8, 8, 8, 8, 8, 8, 8, 8, 8, 8, 8, 8, 8, 8, 8, 8, 8, 8, 8, 8, 8, 8])) v17) fun v18 =>
          Qu Pr (Is w15) (convert 5 3 v18) fun v19 =>
          Qu Pr (Is w15) (binS .add 3 (.tmp 13) (.tmp 17) p14 v19) fun v20 =>
          K v20 w15 : Prop)) fun J16 =>
      If v8 (
        Qu Pr (Is w6) (binS .shr 371 (.tmp 9) (.const (Value.int .u64 8)) p4 (Value.int .u64 8)) fun v21 =>
        Qu Pr (Is w6) (binS .add 3 (.tmp 11) (.const (Value.int .i64 8)) p5 (Value.int .i64 8)) fun v22 =>
        J16 v21 v22 w6) (
        J16 p4 p5 w6) : Prop)) fun J7 =>
  If v1 (
    Qu Pr (Is w) (binS .shr 371 (.tmp 5) (.const (Value.int .u64 16)) a0 (Value.int .u64 16)) fun v23 =>
    J7 v23 (Value.int .i64 16) w) (
    J7 a0 (Value.int .i64 0) w)
theorem c278 {a0 : Value} {K : Value → World → Prop} {w : World} (h : t278 a0 K w) : CK Pr 278 #[a0] w K := by
  refine calls_of_RF [] Tryz.func278 rfl ?_ ?_ ?_
  · kernel_rfl
  · exact Nat.le_of_ble_eq_true rfl
  · exact cast (by kernel_rfl) h

/-- math/bits.Len64 -/
def t279 (a0 : Value) (K : Value → World → Prop) (w : World) : Prop :=
  Qu Pr (Is w) (binS .geq 22 (.tmp 3) (.const (Value.int .u64 4294967296)) a0 (Value.int .u64 4294967296)) fun v1 =>
  Jo (fun (p4 : Value) (p5 : Value) (w6 : World) => (
      Qu Pr (Is w6) (binS .geq 22 (.tmp 7) (.const (Value.int .u64 65536)) p4 (Value.int .u64 65536)) fun v8 =>
      Jo (fun (p11 : Value) (p14 : Value) (w15 : World) => (
          Qu Pr (Is w15) (binS .geq 22 (.tmp 13) (.const (Value.int .u64 256)) p11 (Value.int .u64 256)) fun v17 =>
          Jo (fun (p20 : Value) (p23 : Value) (w24 : World) => (
              Qu Pr (Is w24) (convert 22 5 p20) fun v26 =>
              Qu Pr (Is w24) (Instr.index 9 (Value.string (ByteArray.mk #[0, 1, 2, 2, 3, 3, 3, 3, 4, 4, 4, 4, 4, 4, 4, 4, 5, 5, 5, 5, 5, 5, 5, 5, 5, 5, 5, 5, 5, 5, 5, 5, 6, 6, 6, 6, 6, 6, 6, 6, 6, 6, 6, 6, 6, 6, 6, 6, 6, 6, 6, 6, 6, 6, 6, 6, 6, 6, 6, 6, 6, 6, 6, 6, 7, 7, 7, 7, 7, 7, 7, 7, 7, 7, 7, 7, 7, 7, 7, 7, 7, 7, 7, 7, 7, 7, 7, 7, 7, 7, 7, 7, 7, 7, 7, 7, 7, 7, 7, 7, 7, 7, 7, 7, 7, 7, 7, 7, 7, 7, 7, 7, 7, 7, 7, 7, 7, 7, 7, 7, 7, 7, 7, 7, 7, 7, 7, 7, 8, 8, 8, 8, 8, 8, 8, 8, 8, 8, 8, 8, 8, 8, 8, 8, 8, 8, 8, 8, 8, 8, 8, 8, 8, 8, 8, 8, 8, 8, 8, 8, 8, 8, 8, 8, 8, 8, 8, 8, 8, 8, 8, 8, 8, 8, 8, 8, 8, 8, 8, 8, 8, 8, 8, 8, 8, 8, 8, 8, 8, 8, 8, 8, 8, 8, 8, 8, 8, 8, 8, 8, 8, 8, 8, 8, 8, 8, 8, 8, 8, 8, 8, 8, 8, 8, 8, 8, 8, 8, 8, 8, 8, 8, 8, 8, 8, 8, 8, 8, 8, 8, 8, 8, 8, 8, 8, 8, 8, 8, 8, 8, 8, 8, 8, 8, 8, 8, 8, 8, 8, 8, 8, 8, 8, 8, 8, 8])) v26) fun v27 =>
              Qu Pr (Is w24) (convert 5 3 v27) fun v28 =>
              Qu Pr (Is w24) (binS .add 3 (.tmp 19) (.tmp 23) p23 v28) fun v29 =>
              K v29 w24 : Prop)) fun J25 =>
          If v17 (
            Qu Pr (Is w15) (binS .shr 22 (.tmp 15) (.const (Value.int .u64 8)) p11 (Value.int .u64 8)) fun v30 =>
            Qu Pr (Is w15) (binS .add 3 (.tmp 17) (.const (Value.int .i64 8)) p14 (Value.int .i64 8)) fun v31 =>
            J25 v30 v31 w15) (
            J25 p11 p14 w15) : Prop)) fun J16 =>
      If v8 (
        Qu Pr (Is w6) (binS .shr 22 (.tmp 9) (.const (Value.int .u64 16)) p4 (Value.int .u64 16)) fun v32 =>
        Qu Pr (Is w6) (binS .add 3 (.tmp 11) (.const (Value.int .i64 16)) p5 (Value.int .i64 16)) fun v33 =>
        J16 v32 v33 w6) (
        J16 p4 p5 w6) : Prop)) fun J7 =>
  If v1 (
    Qu Pr (Is w) (binS .shr 22 (.tmp 5) (.const (Value.int .u64 32)) a0 (Value.int .u64 32)) fun v34 =>
    J7 v34 (Value.int .i64 32) w) (
    J7 a0 (Value.int .i64 0) w)
theorem c279 {a0 : Value} {K : Value → World → Prop} {w : World} (h : t279 a0 K w) : CK Pr 279 #[a0] w K := by
  refine calls_of_RF [] Tryz.func279 rfl ?_ ?_ ?_
  · kernel_rfl
  · exact Nat.le_of_ble_eq_true rfl
  · exact cast (by kernel_rfl) h

@[irreducible] def t310_1 (w3 : World) (v5 : Value) (a2 : Value) (a0 : Value) (a3 : Value) (τ2 : List Value) (K : Value → World → Prop) (r1 : List Value → World → Prop) (v4 : Value) (v6 : Value) : Prop :=
      Dr w3 fun S7 w8 =>
      Qu Pr (S7) (binS .add 3 (.tmp 17) (.const (Value.int .i64 1)) v5 (Value.int .i64 1)) fun v9 =>
      Qu Pr (S7) (binS .lss 3 (.tmp 18) (.tmp 19) v9 a2) fun v10 =>
      Gd v10 true (fun k11 => k11 a0 w8) w8 fun v12 w13 =>
      Gd v10 true (fun k14 => k14 a3 w13) w13 fun v15 w16 =>
      Gd v10 true (fun k17 => k17 v5 w16) w16 fun v18 w19 =>
      Gd v10 true (fun k20 => Qu Pr (S7) (binS .add 3 (.tmp 23) (.tmp 24) v15 v18) fun v23 => k20 v23 w19) w19 fun v21 w22 =>
      Gd v10 true (fun k24 => Qu Pr (S7) (Instr.indexAt 23 v12 v21) fun v27 => k24 v27 w22) w22 fun v25 w26 =>
      Gd v10 true (fun k28 => Qu Pr (S7) (Instr.loadAt 22 v25) fun v31 => k28 v31 w26) w26 fun v29 w30 =>
      Gd v10 true (fun k32 => k32 a0 w30) w30 fun v33 w34 =>
      Gd v10 true (fun k35 => k35 a3 w34) w34 fun v36 w37 =>
      Gd v10 true (fun k38 => k38 v5 w37) w37 fun v39 w40 =>
      Gd v10 true (fun k41 => Qu Pr (S7) (binS .add 3 (.tmp 29) (.tmp 30) v36 v39) fun v44 => k41 v44 w40) w40 fun v42 w43 =>
      Gd v10 true (fun k45 => Qu Pr (S7) (binS .add 3 (.tmp 31) (.const (Value.int .i64 1)) v42 (Value.int .i64 1)) fun v48 => k45 v48 w43) w43 fun v46 w47 =>
      Gd v10 true (fun k49 => Qu Pr (S7) (Instr.indexAt 23 v33 v46) fun v52 => k49 v52 w47) w47 fun v50 w51 =>
      Gd v10 true (fun k53 => Qu Pr (S7) (Instr.loadAt 22 v50) fun v56 => k53 v56 w51) w51 fun v54 w55 =>
      Gd v10 true (fun k57 => Cl Pr (callV (fn 275) #[v29, v54]) w55 fun v58x w59x => S7 w59x ∧ k57 v58x w59x) w55 fun v58 w59 =>
      Qu Pr (S7) (pickS v10 v58 (Value.bool false)) fun v60 =>
      Jo (fun (p61 : Value) (p62 : Value) (p63 : Value) (w64 : World) => (
          Dr w64 fun S66 w67 =>
          Qu Pr (S66) (binS .add 3 (.tmp 40) (.tmp 41) a3 (g τ2 0)) fun v68 =>
          Qu Pr (S66) (Instr.indexAt 23 a0 v68) fun v69 =>
          Qu Pr (S66) (Instr.loadAt 22 v69) fun v70 =>
          Qu Pr (S66) (binS .add 3 (.tmp 46) (.tmp 47) a3 p63) fun v71 =>
          Qu Pr (S66) (Instr.indexAt 23 a0 v71) fun v72 =>
          Qu Pr (S66) (Instr.loadAt 22 v72) fun v73 =>
          Cl Pr (callV (fn 275) #[v70, v73]) w67 fun v75 w74 => S66 w74 ∧ 
          Qu Pr (S66) (Op.unary .not v75) fun v76 =>
          If v76 (
            K (.tuple #[]) w74) (
            Dr w74 fun S77 w78 =>
            Qu Pr (Is w78) (binS .add 3 (.tmp 54) (.tmp 55) a3 (g τ2 0)) fun v79 =>
            Qu Pr (S77) (binS .add 3 (.tmp 58) (.tmp 59) a3 p63) fun v80 =>
            Qu Pr (Is w78) (binS .add 3 (.tmp 62) (.tmp 63) a3 p63) fun v81 =>
            Qu Pr (Is w78) (Instr.indexAt 23 a0 v81) fun v82 =>
            Qu Pr (Is w78) (Instr.loadAt 22 v82) fun v83 =>
            Qu Pr (Is w78) (binS .add 3 (.tmp 68) (.tmp 69) a3 (g τ2 0)) fun v84 =>
            Qu Pr (Is w78) (Instr.indexAt 23 a0 v84) fun v85 =>
            Qu Pr (Is w78) (Instr.loadAt 22 v85) fun v86 =>
            Qu Pr (Is w78) (Instr.indexAt 23 a0 v79) fun v87 =>
            Eu Pr (Instr.storeAt 22 v87 v83) w78 fun w88 => S77 w88 ∧ 
            Qu Pr (S77) (Instr.indexAt 23 a0 v80) fun v89 =>
            Eu Pr (Instr.storeAt 22 v89 v86) w88 fun w90 => S77 w90 ∧ 
            r1 [p63, p63, (g τ2 0), v4, v5, v5, a2, v6, v5, v9, a2, v10, v10, v12, v15, v18, v21, v25, v29, v33, v36, v39, v42, v46, v50, v54, v58, v60, p61, p62, a0, a3, (g τ2 0), v68, v69, v70, a0, a3, p63, v71, v72, v73, v75, v76, a0, a3, (g τ2 0), v79, a0, a3, p63, v80, a0, a3, p63, v81, v82, v83, a0, a3, (g τ2 0), v84, v85, v86, v87, v89, p63] w90) : Prop)) fun J65 =>
      If v60 (
        Qu Pr (Is w59) (binS .add 3 (.tmp 37) (.const (Value.int .i64 1)) v5 (Value.int .i64 1)) fun v91 =>
        J65 v5 v91 v91 w59) (
        J65 (g τ2 28) (g τ2 29) v5 w59)
/-- slices.siftDownOrdered[uint64] -/
def t310 (a0 a1 a2 a3 : Value) (K : Value → World → Prop) (w : World) : Prop :=
  LoopW [a1, undef, undef, undef, undef, undef, undef, undef, undef, undef, undef, undef, undef, undef, undef, undef, undef, undef, undef, undef, undef, undef, undef, undef, undef, undef, undef, undef, undef, undef, undef, undef, undef, undef, undef, undef, undef, undef, undef, undef, undef, undef, undef, undef, undef, undef, undef, undef, undef, undef, undef, undef, undef, undef, undef, undef, undef, undef, undef, undef, undef, undef, undef, undef, undef, undef, undef] (fun r1 τ2 w3 =>
    Qu Pr (Is w3) (binS .mul 3 (.const (Value.int .i64 2)) (.tmp 11) (Value.int .i64 2) (g τ2 0)) fun v4 =>
    Qu Pr (Is w3) (binS .add 3 (.tmp 12) (.const (Value.int .i64 1)) v4 (Value.int .i64 1)) fun v5 =>
    Qu Pr (Is w3) (binS .geq 3 (.tmp 14) (.tmp 15) v5 a2) fun v6 =>
    If v6 (
      K (.tuple #[]) w3) (t310_1 w3 v5 a2 a0 a3 τ2 K r1 v4 v6)) w
theorem c310 {a0 a1 a2 a3 : Value} {K : Value → World → Prop} {w : World} (h : t310 a0 a1 a2 a3 K w) : CK Pr 310 #[a0, a1, a2, a3] w K := by
  refine calls_of_RF [(1, [8, 9, 11, 12, 13, 14, 15, 16, 17, 18, 19, 20, 21, 22, 23, 24, 25, 26, 27, 28, 29, 30, 31, 32, 33, 34, 35, 36, 37, 38, 39, 40, 41, 42, 43, 44, 45, 46, 47, 48, 49, 50, 51, 52, 53, 54, 55, 56, 57, 58, 59, 60, 61, 62, 63, 64, 65, 66, 67, 68, 69, 70, 71, 72, 73, 74, 75])] Tryz.func310 rfl ?_ ?_ ?_
  · kernel_rfl
  · exact Nat.le_of_ble_eq_true rfl
  · exact cast (by kernel_rfl) h

/-- slices.nextPowerOfTwo -/
def t311 (a0 : Value) (K : Value → World → Prop) (w : World) : Prop :=
  Qu Pr (Is w) (convert 3 305 a0) fun v1 =>
  Cl Pr (callV (fn 209) #[v1]) w fun v3 w2 => 
  Qu Pr (Is w2) (binS .shl 305 (.const (Value.int .u64 1)) (.tmp 5) (Value.int .u64 1) v3) fun v4 =>
  K v4 w2
theorem c311 {a0 : Value} {K : Value → World → Prop} {w : World} (h : t311 a0 K w) : CK Pr 311 #[a0] w K := by
  refine calls_of_RF [] Tryz.func311 rfl ?_ ?_ ?_
  · kernel_rfl
  · exact Nat.le_of_ble_eq_true rfl
  · exact cast (by kernel_rfl) h

/-- (*slices.xorshift).Next -/
def t312 (a0 : Value) (K : Value → World → Prop) (w : World) : Prop :=
  Dr w fun S1 w2 =>
  Qu Pr (S1) (nilS a0) fun v3 =>
  Qu Pr (S1) (Instr.loadAt 399 v3) fun v4 =>
  Qu Pr (S1) (nilS a0) fun v5 =>
  Qu Pr (S1) (Instr.loadAt 399 v5) fun v6 =>
  Qu Pr (S1) (binS .shl 399 (.tmp 8) (.const (Value.int .u64 13)) v6 (Value.int .u64 13)) fun v7 =>
  Qu Pr (S1) (binS .xor 399 (.tmp 5) (.tmp 9) v4 v7) fun v8 =>
  Qu Pr (S1) (nilS a0) fun v9 =>
  Eu Pr (Instr.storeAt 399 v9 v8) w2 fun w10 => S1 w10 ∧ 
  Dr w10 fun S11 w12 =>
  Qu Pr (S11) (nilS a0) fun v13 =>
  Qu Pr (S11) (Instr.loadAt 399 v13) fun v14 =>
  Qu Pr (S11) (nilS a0) fun v15 =>
  Qu Pr (S11) (Instr.loadAt 399 v15) fun v16 =>
  Qu Pr (S11) (binS .shr 399 (.tmp 17) (.const (Value.int .u64 7)) v16 (Value.int .u64 7)) fun v17 =>
  Qu Pr (S11) (binS .xor 399 (.tmp 14) (.tmp 18) v14 v17) fun v18 =>
  Qu Pr (S11) (nilS a0) fun v19 =>
  Eu Pr (Instr.storeAt 399 v19 v18) w12 fun w20 => S11 w20 ∧ 
  Dr w20 fun S21 w22 =>
  Qu Pr (S21) (nilS a0) fun v23 =>
  Qu Pr (S21) (Instr.loadAt 399 v23) fun v24 =>
  Qu Pr (S21) (nilS a0) fun v25 =>
  Qu Pr (S21) (Instr.loadAt 399 v25) fun v26 =>
  Qu Pr (S21) (binS .shl 399 (.tmp 26) (.const (Value.int .u64 17)) v26 (Value.int .u64 17)) fun v27 =>
  Qu Pr (S21) (binS .xor 399 (.tmp 23) (.tmp 27) v24 v27) fun v28 =>
  Qu Pr (S21) (nilS a0) fun v29 =>
  Eu Pr (Instr.storeAt 399 v29 v28) w22 fun w30 => S21 w30 ∧ 
  Qu Pr (Is w30) (nilS a0) fun v31 =>
  Qu Pr (Is w30) (Instr.loadAt 399 v31) fun v32 =>
  K v32 w30
theorem c312 {a0 : Value} {K : Value → World → Prop} {w : World} (h : t312 a0 K w) : CK Pr 312 #[a0] w K := by
  refine calls_of_RF [] Tryz.func312 rfl ?_ ?_ ?_
  · kernel_rfl
  · exact Nat.le_of_ble_eq_true rfl
  · exact cast (by kernel_rfl) h

/-- slices.medianAdjacentOrdered[uint64] -/
def t313 (a0 a1 a2 : Value) (K : Value → World → Prop) (w : World) : Prop :=
  Qu Pr (Is w) (binS .sub 3 (.tmp 8) (.const (Value.int .i64 1)) a1 (Value.int .i64 1)) fun v1 =>
  Qu Pr (Is w) (binS .add 3 (.tmp 11) (.const (Value.int .i64 1)) a1 (Value.int .i64 1)) fun v2 =>
  Cl Pr (callV (fn 314) #[a0, v1, a1, v2, a2]) w fun v4 w3 => 
  K v4 w3
theorem c313 {a0 a1 a2 : Value} {K : Value → World → Prop} {w : World} (h : t313 a0 a1 a2 K w) : CK Pr 313 #[a0, a1, a2] w K := by
  refine calls_of_RF [] Tryz.func313 rfl ?_ ?_ ?_
  · kernel_rfl
  · exact Nat.le_of_ble_eq_true rfl
  · exact cast (by kernel_rfl) h

/-- slices.medianOrdered[uint64] -/
def t314 (a0 a1 a2 a3 a4 : Value) (K : Value → World → Prop) (w : World) : Prop :=
  Cl Pr (callV (fn 329) #[a0, a1, a2, a4]) w fun v2 w1 => 
  Qu Pr (Is w1) (Instr.extract v2 0) fun v3 =>
  Qu Pr (Is w1) (Instr.extract v2 1) fun v4 =>
  Cl Pr (callV (fn 329) #[a0, v4, a3, a4]) w1 fun v6 w5 => 
  Qu Pr (Is w5) (Instr.extract v6 0) fun v7 =>
  Qu Pr (Is w5) (Instr.extract v6 1) fun _ =>
  Cl Pr (callV (fn 329) #[a0, v3, v7, a4]) w5 fun v10 w9 => 
  Qu Pr (Is w9) (Instr.extract v10 0) fun _ =>
  Qu Pr (Is w9) (Instr.extract v10 1) fun v12 =>
  K v12 w9
theorem c314 {a0 a1 a2 a3 a4 : Value} {K : Value → World → Prop} {w : World} (h : t314 a0 a1 a2 a3 a4 K w) : CK Pr 314 #[a0, a1, a2, a3, a4] w K := by
  refine calls_of_RF [] Tryz.func314 rfl ?_ ?_ ?_
  · kernel_rfl
  · exact Nat.le_of_ble_eq_true rfl
  · exact cast (by kernel_rfl) h

/-- cmp.isNaN[uint64] -/
def t315 (a0 : Value) (K : Value → World → Prop) (w : World) : Prop :=
  Qu Pr (Is w) (binS .neq 22 (.tmp 3) (.tmp 4) a0 a0) fun v1 =>
  K v1 w
theorem c315 {a0 : Value} {K : Value → World → Prop} {w : World} (h : t315 a0 K w) : CK Pr 315 #[a0] w K := by
  refine calls_of_RF [] Tryz.func315 rfl ?_ ?_ ?_
  · kernel_rfl
  · exact Nat.le_of_ble_eq_true rfl
  · exact cast (by kernel_rfl) h

/-- slices.order2Ordered[uint64] -/
def t329 (a0 a1 a2 a3 : Value) (K : Value → World → Prop) (w : World) : Prop :=
  Dr w fun S1 w2 =>
  Qu Pr (S1) (Instr.indexAt 23 a0 a2) fun v3 =>
  Qu Pr (S1) (Instr.loadAt 22 v3) fun v4 =>
  Qu Pr (S1) (Instr.indexAt 23 a0 a1) fun v5 =>
  Qu Pr (S1) (Instr.loadAt 22 v5) fun v6 =>
  Cl Pr (callV (fn 275) #[v4, v6]) w2 fun v8 w7 => S1 w7 ∧ 
  If v8 (
    Qu Pr (Is w7) (nilS a3) fun v9 =>
    Qu Pr (Is w7) (Instr.loadAt 3 v9) fun v10 =>
    Qu Pr (Is w7) (binS .add 3 (.tmp 21) (.const (Value.int .i64 1)) v10 (Value.int .i64 1)) fun v11 =>
    Qu Pr (Is w7) (nilS a3) fun v12 =>
    Eu Pr (Instr.storeAt 3 v12 v11) w7 fun w13 => 
    K (.tuple #[a2, a1]) w13) (
    K (.tuple #[a1, a2]) w7)
theorem c329 {a0 a1 a2 a3 : Value} {K : Value → World → Prop} {w : World} (h : t329 a0 a1 a2 a3 K w) : CK Pr 329 #[a0, a1, a2, a3] w K := by
  refine calls_of_RF [] Tryz.func329 rfl ?_ ?_ ?_
  · kernel_rfl
  · exact Nat.le_of_ble_eq_true rfl
  · exact cast (by kernel_rfl) h

end Go.Proofs.YtmmpogfbhelioaaGreat
/-
  Contracts: sorting numbers in place; what is told is that the numbers stay, in some order.
  Conditions: each one's own.
-/
namespace Go.Proofs.YtmmpogfbhelioaaGreat
set_option maxRecDepth 10000
set_option linter.unusedVariables false
set_option linter.unusedSimpArgs false
set_option linter.unusedVariables false
set_option linter.unusedSimpArgs false
attribute [local irreducible] Instr.box Instr.alloc Instr.loadAt Instr.storeAt Instr.fieldAt Instr.indexAt Instr.build Instr.buildSlice Instr.makeSlice Instr.makeMap Instr.mapUpdate Instr.lookup Instr.range Instr.next Instr.entry Instr.extract Instr.makeInterface Instr.makeFunc Instr.sliceAt Instr.typeAssert Instr.field Instr.index Builtin.len_ Builtin.cap_ Builtin.max_ Builtin.min_ Builtin.append_ Builtin.copy_ Builtin.delete_ convert binS pickS nilS callV callM Op.unary Own Mp It Cu

attribute [local irreducible] Nm

variable {K : Value → World → Prop} {w : World} {te : Nat} {v : Value} {xs : List Int}

/-- A drawn region of stores to places that hang on no world. -/
theorem dr_top {F : (World → Prop) → World → Prop} (h : ∀ w1, Ex w w1 → w1.heap.size = w.heap.size → F (fun _ => True) w1) : Dr w F :=
  .mk (fun _ => True) trivial (h _ (Up.drew _ _ _) rfl)

instance tfn208 : TFn Pr 208 := ⟨by kernel_rfl⟩
instance tfn209 : TFn Pr 209 := ⟨by kernel_rfl⟩
instance tfn269 : TFn Pr 269 := ⟨by kernel_rfl⟩
instance tfn270 : TFn Pr 270 := ⟨by kernel_rfl⟩
instance tfn271 : TFn Pr 271 := ⟨by kernel_rfl⟩
instance tfn272 : TFn Pr 272 := ⟨by kernel_rfl⟩
instance tfn273 : TFn Pr 273 := ⟨by kernel_rfl⟩
instance tfn274 : TFn Pr 274 := ⟨by kernel_rfl⟩
instance tfn275 : TFn Pr 275 := ⟨by kernel_rfl⟩
instance tfn276 : TFn Pr 276 := ⟨by kernel_rfl⟩
instance tfn277 : TFn Pr 277 := ⟨by kernel_rfl⟩
instance tfn278 : TFn Pr 278 := ⟨by kernel_rfl⟩
instance tfn279 : TFn Pr 279 := ⟨by kernel_rfl⟩
instance tfn310 : TFn Pr 310 := ⟨by kernel_rfl⟩
instance tfn311 : TFn Pr 311 := ⟨by kernel_rfl⟩
instance tfn312 : TFn Pr 312 := ⟨by kernel_rfl⟩
instance tfn313 : TFn Pr 313 := ⟨by kernel_rfl⟩
instance tfn314 : TFn Pr 314 := ⟨by kernel_rfl⟩
instance tfn315 : TFn Pr 315 := ⟨by kernel_rfl⟩
instance tfn329 : TFn Pr 329 := ⟨by kernel_rfl⟩

theorem k315 {a : Int} (h : K (.bool false) w) : CK Pr 315 #[.int .u64 a] w K := by
  refine c315 ?_
  unfold t315
  (repeat (first | (refine go ?_; intros) | (refine gon ?_; intros)))
  simpa using h

theorem k275 {a b : Int} (h : K (.bool (decide (a < b))) w) : CK Pr 275 #[.int .u64 a, .int .u64 b] w K := by
  refine c275 ?_
  unfold t275
  refine cl_fn (k315 ?_)
  (repeat (first | (refine go ?_; intros) | (refine gon ?_; intros)))
  exact h

/-- What sorting leaves. -/
def So (te : Nat) (v : Value) (xs : List Int) (w : World) (w' : World) (xs' : List Int) : Prop :=
  Up (sb v) [te + 2] w w' ∧ w.heap.size ≤ w'.heap.size ∧ xs'.Perm xs ∧ Nm te v xs' w'
theorem So.refl (h : Nm te v xs w) : So te v xs w w xs := ⟨.refl _ _ _, Nat.le_refl _, .refl _, h⟩
theorem So.nm {w' : World} {xs' : List Int} (h : So te v xs w w' xs') : Nm te v xs' w' := h.2.2.2
theorem So.len {w' : World} {xs' : List Int} (h : So te v xs w w' xs') : xs'.length = xs.length := h.2.2.1.length_eq
theorem So.trans {w' w'' : World} {xs' xs'' : List Int} (h : So te v xs w w' xs') (h' : So te v xs' w' w'' xs'') : So te v xs w w'' xs'' :=
  ⟨h.1.trans h'.1, Nat.le_trans h.2.1 h'.2.1, h'.2.2.1.trans h.2.2.1, h'.2.2.2⟩
theorem So.ex {w' w'' : World} {xs' : List Int} (h : So te v xs w w' xs') (e : Ex w' w'') (z : w''.heap.size = w'.heap.size) : So te v xs w w'' xs' :=
  ⟨h.1.ex e, Nat.le_trans h.2.1 e.size, h.2.2.1, h.2.2.2.ex e⟩
theorem So.new {w' w'' : World} {xs' : List Int} (h : So te v xs w w' xs') (e : Ex w' w'') : So te v xs w w'' xs' :=
  ⟨h.1.ex e, Nat.le_trans h.2.1 e.size, h.2.2.1, h.2.2.2.ex e⟩

/-- Two elements change places: the two stores. -/
theorem So.swap {w1 w2 w3 : World} {i j : Nat} {a b : Int} (ha : xs[i]? = some a) (hb : xs[j]? = some b) (h1 : Up (sb v) [te + 2] w w2) (z1 : w2.heap.size = w.heap.size) (h2 : Up (sb v) [te + 2] w2 w3) (z2 : w3.heap.size = w2.heap.size)
    (hn : Nm te v ((xs.set i b).set j a) w3) : So te v xs w w3 ((xs.set i b).set j a) := ⟨h1.trans h2, Nat.le_trans h1.size h2.size, perm_swap ha hb, hn⟩

theorem q_ldNI {t : Nat} [TCell Pr t] {K : Value → Prop} {j : Nat} {x : Int} (h : Nm te v xs w) (hx : xs[j]? = some x) (kk : K (.int .u64 x)) : Qu Pr (Is w) (Instr.loadAt t (ea v j)) K :=
  q_ldN (te := te) (S := Is w) (fun w' u => by cases u; exact h) hx kk
theorem q_ldNE {t : Nat} [TCell Pr t] {K : Value → Prop} {j : Nat} {x : Int} (h : Nm te v xs w) (hx : xs[j]? = some x) (kk : K (.int .u64 x)) : Qu Pr (Ex w) (Instr.loadAt t (ea v j)) K :=
  q_ldN (te := te) (S := Ex w) (fun w' u => h.ex u) hx kk

theorem get_of {xs : List Int} {j : Nat} (h : j < xs.length) : ∃ x, xs[j]? = some x := ⟨_, List.getElem?_eq_getElem h⟩

theorem k269 {a b : Nat} (hn : Nm te v xs w) (hb : b ≤ xs.length) (hl : xs.length ≤ 1000000) (hab : a ≤ 1000000) (h : ∀ w' xs', So te v xs w w' xs' → K (.tuple #[]) w') :
    CK Pr 269 #[v, .int .i64 a, .int .i64 b] w K := by
  refine c269 ?_
  unfold t269
  (repeat (first | (refine go ?_; intros) | (refine gon ?_; intros)))
  rw [wrapS (by omega)]
  refine loop_n (α := Nat × List Int) (fun p τ w' => g τ 0 = .int .i64 (p.1 : Nat) ∧ a < p.1 ∧ p.1 ≤ 1000002 ∧ So te v xs w w' p.2) (fun p => 1000003 - p.1) (a + 1, xs) ⟨rfl, by simp, by simp; omega, So.refl hn⟩ ?_
  rintro ⟨i, ys⟩ τ w' R ⟨hi, hai, hile, hs⟩ hR
  simp only at hi hai hile hs hR
  rw [hi]
  (repeat (first | (refine go ?_; intros) | (refine gon ?_; intros)))
  refine if_split (fun hlt => ?_) (fun _ => h _ _ hs)
  have hlt := of_decide_eq_true hlt
  have hib : i < b := by omega
  refine loop_n (α := Nat × List Int) (fun p τ w' => g τ 0 = .int .i64 (p.1 : Nat) ∧ a ≤ p.1 ∧ p.1 ≤ i ∧ So te v xs w w' p.2) (fun p => p.1) (i, ys) ⟨rfl, by simp; omega, by simp, hs⟩ ?_
  rintro ⟨j, zs⟩ τ2 w2 R2 ⟨hj, haj, hji, hs2⟩ hR2
  simp only at hj haj hji hs2 hR2
  rw [hj]
  have hzl := hs2.len
  refine dr_rule No [] fun w3 x3 z3 => ?_
  have hs3 := hs2.ex x3 z3
  by_cases hja : (a : Int) < j
  · obtain ⟨x, hx⟩ := get_of (xs := zs) (j := j) (by omega)
    obtain ⟨y, hy⟩ := get_of (xs := zs) (j := j - 1) (by omega)
    have hj1 : IntKind.i64.wrap ((j : Int) - 1) = ((j - 1 : Nat) : Int) := by rw [wrap64 (by omega) (by omega)]; omega
    (repeat (first | (refine go ?_; intros) | (refine gon ?_; intros)))
    rw [decide_eq_true hja]
    (repeat (first | (refine go ?_; intros) | (refine gon ?_; intros)))
    (try simp only [hj1])
    refine q_ixN j hs3.nm rfl (by omega) ?_
    (repeat (first | (refine go ?_; intros) | (refine gon ?_; intros)))
    refine q_ldNE (t := 22) hs3.nm hx ?_
    (repeat (first | (refine go ?_; intros) | (refine gon ?_; intros)))
    (try simp only [hj1])
    refine q_ixN (j - 1) hs3.nm rfl (by omega) ?_
    (repeat (first | (refine go ?_; intros) | (refine gon ?_; intros)))
    refine q_ldNE (t := 22) hs3.nm hy ?_
    (repeat (first | (refine go ?_; intros) | (refine gon ?_; intros)))
    refine cl_fn (k275 ⟨.refl _ _ _, ?_⟩)
    (repeat (first | (refine go ?_; intros) | (refine gon ?_; intros)))
    refine if_split (fun hxy => ?_) (fun hxy => ?_)
    · refine dr_top fun wA xA zA => ?_
      have hs3a := hs3.ex xA zA
      (repeat (first | (refine go ?_; intros) | (refine gon ?_; intros)))
      (try simp only [hj1])
      refine q_ixN (j - 1) hs3a.nm rfl (by omega) ?_
      refine q_ldNI (t := 22) hs3a.nm hy ?_
      refine q_ixN j hs3a.nm rfl (by omega) ?_
      refine q_ldNI (t := 22) hs3a.nm hx ?_
      refine q_ixN j hs3a.nm rfl (by omega) ?_
      refine u_stN hs3a.nm (by omega) fun wb ub nb zb => ⟨trivial, ?_⟩
      refine q_ixN (j - 1) hs3a.nm rfl (by omega) ?_
      refine u_stN nb (by simp; omega) fun wc uc nc zc => ⟨trivial, ?_⟩
      have hs5 := hs3a.trans (So.swap (w1 := wb) hx hy ub zb uc zc nc)
      (repeat (first | (refine go ?_; intros) | (refine gon ?_; intros)))
      rw [hj1]
      exact hR2 (j - 1, _) _ _ ⟨rfl, by simp; omega, by simp; omega, hs5⟩ (by simp; omega)
    · (repeat (first | (refine go ?_; intros) | (refine gon ?_; intros)))
      rw [wrapS (by omega)]
      exact hR (i + 1, zs) _ _ ⟨rfl, by simp; omega, by simp; omega, hs3⟩ (by simp; omega)
  · (repeat (first | (refine go ?_; intros) | (refine gon ?_; intros)))
    rw [decide_eq_false hja]
    (repeat (first | (refine go ?_; intros) | (refine gon ?_; intros)))
    rw [wrapS (by omega)]
    exact hR (i + 1, zs) _ _ ⟨rfl, by simp; omega, by simp; omega, hs3⟩ (by simp; omega)

end Go.Proofs.YtmmpogfbhelioaaGreat
/-
  Contracts: the pattern defeating sort's parts.
  Conditions: each one's own.
-/
namespace Go.Proofs.YtmmpogfbhelioaaGreat
set_option maxRecDepth 10000
set_option linter.unusedVariables false
set_option linter.unusedSimpArgs false
set_option linter.unusedVariables false
set_option linter.unusedSimpArgs false
attribute [local irreducible] Instr.box Instr.alloc Instr.loadAt Instr.storeAt Instr.fieldAt Instr.indexAt Instr.build Instr.buildSlice Instr.makeSlice Instr.makeMap Instr.mapUpdate Instr.lookup Instr.range Instr.next Instr.entry Instr.extract Instr.makeInterface Instr.makeFunc Instr.sliceAt Instr.typeAssert Instr.field Instr.index Builtin.len_ Builtin.cap_ Builtin.max_ Builtin.min_ Builtin.append_ Builtin.copy_ Builtin.delete_ convert binS pickS nilS callV callM Op.unary Own Mp It Cu

attribute [local irreducible] Nm

variable {K : Value → World → Prop} {w : World} {te : Nat} {v : Value} {xs : List Int}

theorem q_quo {P : Program} {S : World → Prop} {t : TypeId} {x y : Operand} {K : Value → Prop} {k : IntKind} {a b : Int} (hb : b ≠ 0) (h : K (.int k (k.wrap (a.tdiv b)))) : Qu P S (binS .quo t x y (.int k a) (.int k b)) K :=
  q_bin (fun _ => guard_int) (fun w => by simp [binOp, Op.intDiv, hb]) h

theorem k329 {i j : Nat} {pb : Nat} {n : Int} (hn : Nm te v xs w) (hi : i < xs.length) (hj : j < xs.length) (hb : Bk w pb (.cells #[.int .i64 n] 3 (0, 0)))
    (h : ∀ w' i' j' n', Up (fun x => x = pb) [5] w w' → w'.heap.size = w.heap.size → Bk w' pb (.cells #[.int .i64 n'] 3 (0, 0)) → (i' = i ∧ j' = j ∨ i' = j ∧ j' = i) → K (.tuple #[.int .i64 (i' : Nat), .int .i64 (j' : Nat)]) w') :
    CK Pr 329 #[v, .int .i64 i, .int .i64 j, .pointer (some ⟨pb, 0, none⟩)] w K := by
  refine c329 ?_
  unfold t329
  obtain ⟨x, hx⟩ := get_of hi
  obtain ⟨y, hy⟩ := get_of hj
  refine dr_rule No [] fun w1 x1 z1 => ?_
  have n1 := hn.ex x1
  refine q_ixN j n1 rfl (by omega) ?_
  refine q_ldNE (t := 22) n1 hy ?_
  refine q_ixN i n1 rfl (by omega) ?_
  refine q_ldNE (t := 22) n1 hx ?_
  refine cl_fn (k275 ⟨.refl _ _ _, ?_⟩)
  have hb1 : Bk w1 pb _ := x1.at_ hb
  refine if_split (fun _ => ?_) (fun _ => ?_)
  · (repeat (first | (refine go ?_; intros) | (refine gon ?_; intros)))
    rename_i w2 u2 hb2 z2
    exact h w2 j i _ ((Up.of_ex x1).trans u2) (by omega) hb2 (.inr ⟨rfl, rfl⟩)
  · (repeat (first | (refine go ?_; intros) | (refine gon ?_; intros)))
    exact h w1 i j _ (.of_ex x1) z1 hb1 (.inl ⟨rfl, rfl⟩)

theorem Nm.off {pb : Nat} {w' : World} (hn : Nm te v xs w) (u : Up (fun x => x = pb) [5] w w') (hv : ¬ sb v pb) : Nm te v xs w' :=
  hn.up u (.inr fun b hb hx => hv (hx ▸ hb))

theorem k314 {i j m : Nat} {pb : Nat} {n : Int} (hn : Nm te v xs w) (hi : i < xs.length) (hj : j < xs.length) (hm : m < xs.length) (hb : Bk w pb (.cells #[.int .i64 n] 3 (0, 0))) (hv : ¬ sb v pb)
    (h : ∀ w' (r : Nat) n', Up (fun x => x = pb) [5] w w' → w'.heap.size = w.heap.size → Bk w' pb (.cells #[.int .i64 n'] 3 (0, 0)) → (r = i ∨ r = j ∨ r = m) → K (.int .i64 (r : Nat)) w') :
    CK Pr 314 #[v, .int .i64 i, .int .i64 j, .int .i64 m, .pointer (some ⟨pb, 0, none⟩)] w K := by
  refine c314 ?_
  unfold t314
  refine cl_fn (k329 hn hi hj hb fun w1 i1 j1 n1 u1 z1 b1 h1 => ?_)
  (repeat (first | (refine go ?_; intros) | (refine gon ?_; intros)))
  have hn1 := hn.off u1 hv
  refine cl_fn (k329 hn1 (by rcases h1 with ⟨_, rfl⟩ | ⟨_, rfl⟩ <;> assumption) hm b1 fun w2 i2 j2 n2 u2 z2 b2 h2 => ?_)
  (repeat (first | (refine go ?_; intros) | (refine gon ?_; intros)))
  refine cl_fn (k329 (hn1.off u2 hv) (by rcases h1 with ⟨rfl, _⟩ | ⟨rfl, _⟩ <;> assumption) (by rcases h1 with ⟨_, rfl⟩ | ⟨_, rfl⟩ <;> rcases h2 with ⟨rfl, _⟩ | ⟨rfl, _⟩ <;> assumption) b2 fun w3 i3 j3 n3 u3 z3 b3 h3 => ?_)
  (repeat (first | (refine go ?_; intros) | (refine gon ?_; intros)))
  refine h w3 j3 _ ((u1.trans u2).trans u3) (by omega) b3 ?_
  omega

theorem k272 (hn : Nm te v xs w) (hl : xs.length = 13) (hv : ∀ b, sb v b → b < w.heap.size) (h : ∀ w' (r : Nat) (g : Int), Ex w w' → r < 13 → (g = 0 ∨ g = 1 ∨ g = 2) → K (.tuple #[.int .i64 (r : Nat), .int .i64 g]) w') :
    CK Pr 272 #[v, .int .i64 0, .int .i64 13] w K := by
  refine c272 ?_
  unfold t272
  unfold Jo
  (repeat (first | (refine go ?_; intros) | (refine gon ?_; intros)))
  rename_i b1 w1 e1 hb1 s1 s2
  have e3 : IntKind.i64.wrap ((13 : Int).tdiv 4) = 3 := by rfl
  refine q_quo (by omega) ?_
  (repeat (first | (refine go ?_; intros) | (refine gon ?_; intros)))
  refine q_quo (by omega) ?_
  (repeat (first | (refine go ?_; intros) | (refine gon ?_; intros)))
  refine q_quo (by omega) ?_
  (repeat (first | (refine go ?_; intros) | (refine gon ?_; intros)))
  refine cl_fn (k314 (i := 3) (j := 6) (m := 9) (hn.ex e1) (by omega) (by omega) (by omega) hb1 (fun hx => by have := hv _ hx; omega) fun w2 r n2 u2 z2 b2 h2 => ?_)
  have ex : Ex w w2 := Up.no (Up.new (Up.of_ex e1 : Up No [] w w1) u2 (by intro _ h; subst h; omega)) (fun _ _ => id)
  (repeat (first | (refine go ?_; intros) | (refine gon ?_; intros)))
  refine if_split (fun _ => h w2 r 1 ex (by omega) (by omega)) (fun _ => ?_)
  (repeat (first | (refine go ?_; intros) | (refine gon ?_; intros)))
  exact if_split (fun _ => h w2 r 2 ex (by omega) (by omega)) (fun _ => h w2 r 0 ex (by omega) (by omega))

theorem k273 {a b : Nat} (hn : Nm te v xs w) (hb : b ≤ xs.length) (hl : xs.length ≤ 1000000) (hab : a < b) (h : ∀ w' xs', So te v xs w w' xs' → K (.tuple #[]) w') :
    CK Pr 273 #[v, .int .i64 a, .int .i64 b] w K := by
  refine c273 ?_
  unfold t273
  (repeat (first | (refine go ?_; intros) | (refine gon ?_; intros)))
  have hb1 : IntKind.i64.wrap ((b : Int) - 1) = ((b - 1 : Nat) : Int) := by rw [wrap64 (by omega) (by omega)]; omega
  rw [hb1]
  refine loop_n (α := Nat × Nat × List Int) (fun p τ w' => g τ 0 = .int .i64 (p.1 : Nat) ∧ g τ 1 = .int .i64 (p.2.1 : Nat) ∧ p.2.1 < b ∧ (p.1 < 1000002) ∧ So te v xs w w' p.2.2) (fun p => 1000003 - p.1) (a, b - 1, xs) ⟨rfl, rfl, by simp; omega, by simp; omega, So.refl hn⟩ ?_
  rintro ⟨i, j, ys⟩ τ w' R ⟨hi, hj, hjb, hia, hs⟩ hR
  simp only at hi hj hjb hia hs hR
  rw [hi, hj]
  (repeat (first | (refine go ?_; intros) | (refine gon ?_; intros)))
  refine if_split (fun hlt => ?_) (fun _ => h _ _ hs)
  have hlt := of_decide_eq_true hlt
  have hyl := hs.len
  obtain ⟨x, hx⟩ := get_of (xs := ys) (j := i) (by omega)
  obtain ⟨y, hy⟩ := get_of (xs := ys) (j := j) (by omega)
  have hj1 : IntKind.i64.wrap ((j : Int) - 1) = ((j - 1 : Nat) : Int) := by rw [wrap64 (by omega) (by omega)]; omega
  refine dr_top fun wA xA zA => ?_
  have hsa := hs.ex xA zA
  (repeat (first | (refine go ?_; intros) | (refine gon ?_; intros)))
  (try simp only [hj1])
  refine q_ixN j hsa.nm rfl (by omega) ?_
  refine q_ldNI (t := 22) hsa.nm hy ?_
  refine q_ixN i hsa.nm rfl (by omega) ?_
  refine q_ldNI (t := 22) hsa.nm hx ?_
  refine q_ixN i hsa.nm rfl (by omega) ?_
  refine u_stN hsa.nm (by omega) fun wb ub nb zb => ⟨trivial, ?_⟩
  refine q_ixN j hsa.nm rfl (by omega) ?_
  refine u_stN nb (by simp; omega) fun wc uc nc zc => ⟨trivial, ?_⟩
  have hs5 := hsa.trans (So.swap (w1 := wb) hx hy ub zb uc zc nc)
  (repeat (first | (refine go ?_; intros) | (refine gon ?_; intros)))
  rw [hj1, wrapS (by omega)]
  exact hR (i + 1, j - 1, _) _ _ ⟨rfl, rfl, by simp; omega, by simp; omega, hs5⟩ (by simp; omega)

theorem k274 {a b : Nat} (hn : Nm te v xs w) (hb : b ≤ xs.length) (hl : xs.length ≤ 1000000) (hab : a < b) (h50 : b - a < 50) (h : ∀ w' r, Ex w w' → w'.heap.size = w.heap.size → K (.bool r) w') :
    CK Pr 274 #[v, .int .i64 a, .int .i64 b] w K := by
  refine c274 ?_
  unfold t274
  (repeat (first | (refine go ?_; intros) | (refine gon ?_; intros)))
  rw [wrapS (by omega)]
  refine loop_n (α := Unit) (fun p τ w' => g τ 1 = .int .i64 (a + 1 : Nat) ∧ g τ 2 = .int .i64 0 ∧ w' = w) (fun _ => 0) () ⟨rfl, rfl, rfl⟩ ?_
  rintro _ τ w' R ⟨h1, h2, rfl⟩ hR
  rw [h2]
  (repeat (first | (refine go ?_; intros) | (refine gon ?_; intros)))
  unfold t274_5
  refine loop_n (α := Nat) (fun i τ1 w1 => g τ1 0 = .int .i64 i ∧ a < i ∧ i ≤ b ∧ Ex w' w1 ∧ w1.heap.size = w'.heap.size) (fun i => b - i) (a + 1) ⟨h1, by omega, by omega, .refl _ _ _, rfl⟩ ?_
  rintro i τ1 w1 R1 ⟨hi, hai, hib, e1, z1⟩ hR1
  rw [hi]
  refine dr_rule No [] fun w3 x3 z3 => ?_
  have n3 : Nm te v xs w3 := (hn.ex e1).ex x3
  have ex3 : Ex w' w3 := e1.trans x3
  have fin : t274_4 = t274_4 := rfl
  have hd : IntKind.i64.wrap ((b : Int) - a) = ((b - a : Nat) : Int) := by rw [wrap64 (by omega) (by omega)]; omega
  by_cases hlt : (i : Int) < b
  · obtain ⟨x, hx⟩ := get_of (xs := xs) (j := i) (by omega)
    obtain ⟨y, hy⟩ := get_of (xs := xs) (j := i - 1) (by omega)
    have hj1 : IntKind.i64.wrap ((i : Int) - 1) = ((i - 1 : Nat) : Int) := by rw [wrap64 (by omega) (by omega)]; omega
    (repeat (first | (refine go ?_; intros) | (refine gon ?_; intros)))
    rw [decide_eq_true hlt]
    (repeat (first | (refine go ?_; intros) | (refine gon ?_; intros)))
    refine q_ixN i n3 rfl (by omega) ?_
    (repeat (first | (refine go ?_; intros) | (refine gon ?_; intros)))
    refine q_ldNE (t := 22) n3 hx ?_
    (repeat (first | (refine go ?_; intros) | (refine gon ?_; intros)))
    rw [hj1]
    refine q_ixN (i - 1) n3 rfl (by omega) ?_
    (repeat (first | (refine go ?_; intros) | (refine gon ?_; intros)))
    refine q_ldNE (t := 22) n3 hy ?_
    (repeat (first | (refine go ?_; intros) | (refine gon ?_; intros)))
    refine cl_fn (k275 ⟨.refl _ _ _, ?_⟩)
    (repeat (first | (refine go ?_; intros) | (refine gon ?_; intros)))
    refine if_split (fun hxy => ?_) (fun hxy => ?_)
    · (repeat (first | (refine go ?_; intros) | (refine gon ?_; intros)))
      rw [wrapS (by omega)]
      exact hR1 (i + 1) _ _ ⟨rfl, by omega, by omega, ex3, by omega⟩ (by omega)
    · unfold t274_4
      rw [hi]
      (repeat (first | (refine go ?_; intros) | (refine gon ?_; intros)))
      refine if_split (fun _ => h _ _ ex3 (by omega)) (fun _ => ?_)
      unfold t274_3
      (repeat (first | (refine go ?_; intros) | (refine gon ?_; intros)))
      rw [hd]
      refine if_split (fun _ => h _ _ ex3 (by omega)) (fun hc => ?_)
      have := of_decide_eq_false hc
      omega
  · (repeat (first | (refine go ?_; intros) | (refine gon ?_; intros)))
    rw [decide_eq_false hlt]
    (repeat (first | (refine go ?_; intros) | (refine gon ?_; intros)))
    unfold t274_4
    rw [hi]
    (repeat (first | (refine go ?_; intros) | (refine gon ?_; intros)))
    refine if_split (fun _ => h _ _ ex3 (by omega)) (fun hc => ?_)
    have := of_decide_eq_false hc
    omega

end Go.Proofs.YtmmpogfbhelioaaGreat
/-
  Contracts: the pattern defeating sort's partition.
  Conditions: each one's own.
-/
namespace Go.Proofs.YtmmpogfbhelioaaGreat
set_option maxRecDepth 10000
set_option linter.unusedVariables false
set_option linter.unusedSimpArgs false
set_option linter.unusedVariables false
set_option linter.unusedSimpArgs false
attribute [local irreducible] Instr.box Instr.alloc Instr.loadAt Instr.storeAt Instr.fieldAt Instr.indexAt Instr.build Instr.buildSlice Instr.makeSlice Instr.makeMap Instr.mapUpdate Instr.lookup Instr.range Instr.next Instr.entry Instr.extract Instr.makeInterface Instr.makeFunc Instr.sliceAt Instr.typeAssert Instr.field Instr.index Builtin.len_ Builtin.cap_ Builtin.max_ Builtin.min_ Builtin.append_ Builtin.copy_ Builtin.delete_ convert binS pickS nilS callV callM Op.unary Own Mp It Cu

attribute [local irreducible] Nm

variable {K : Value → World → Prop} {w : World} {te : Nat} {v : Value} {xs : List Int}

theorem pt_1 {w0 w6 : World} {zs : List Int} {a b i j : Nat} {τ3 τ4 : List Value} {R3 : List Value → World → Prop} (hl : xs.length ≤ 1000000) (hb : b ≤ xs.length) (hs : So te v xs w0 w6 zs) (hai : a < i) (hib : i ≤ b + 1) (haj : a ≤ j) (hjb : j < b)
    (h : ∀ w' xs' (m : Nat) r, So te v xs w0 w' xs' → a ≤ m → m < b → K (.tuple #[.int .i64 (m : Nat), .bool r]) w')
    (hi4 : g τ4 0 = .int .i64 i) (hj3 : g τ3 1 = .int .i64 j)
    (hR : ∀ (i' j' : Nat) zs' τ w', g τ 0 = .int .i64 i' → g τ 1 = .int .i64 j' → i < i' → i' ≤ b + 1 → a ≤ j' → j' < b → So te v xs w0 w' zs' → R3 τ w') (q1 q2 q3 q4 q5 q6 q7 q8 q9 q10 q11 : Value) :
    t277_1 τ3 τ4 v (.int .i64 a) K R3 q1 q2 q3 q4 q5 q6 q7 q8 q9 q10 q11 w6 := by
  unfold t277_1
  have hzl := hs.len
  obtain ⟨za, hza⟩ := get_of (xs := zs) (j := a) (by omega)
  refine loop_n (α := Nat) (fun j' τ' w' => g τ' 0 = .int .i64 j' ∧ a ≤ j' ∧ j' < b ∧ So te v xs w0 w' zs) (fun j' => j') j ⟨hj3, by omega, by omega, hs⟩ ?_
  rintro j' τ5 w10 R5 ⟨hj5, haj5, hj5b, hs10⟩ hR5
  rw [hi4, hj5]
  refine dr_rule No [] fun w11 x11 z11 => ?_
  have hs11 := hs10.ex x11 z11
  obtain ⟨zj, hzj⟩ := get_of (xs := zs) (j := j') (by omega)
  by_cases hle : (i : Int) ≤ j'
  · obtain ⟨zi, hzi⟩ := get_of (xs := zs) (j := i) (by omega)
    have hj1 : IntKind.i64.wrap ((j' : Int) - 1) = ((j' - 1 : Nat) : Int) := by rw [wrap64 (by omega) (by omega)]; omega
    (repeat (first | (refine go ?_; intros) | (refine gon ?_; intros)))
    rw [decide_eq_true hle]
    (repeat (first | (refine go ?_; intros) | (refine gon ?_; intros)))
    (try simp only [hj1])
    refine q_ixN j' hs11.nm rfl (by omega) ?_
    (repeat (first | (refine go ?_; intros) | (refine gon ?_; intros)))
    refine q_ldNE (t := 22) hs11.nm hzj ?_
    (repeat (first | (refine go ?_; intros) | (refine gon ?_; intros)))
    (try simp only [hj1])
    refine q_ixN a hs11.nm rfl (by omega) ?_
    (repeat (first | (refine go ?_; intros) | (refine gon ?_; intros)))
    refine q_ldNE (t := 22) hs11.nm hza ?_
    (repeat (first | (refine go ?_; intros) | (refine gon ?_; intros)))
    refine cl_fn (k275 ⟨.refl _ _ _, ?_⟩)
    (repeat (first | (refine go ?_; intros) | (refine gon ?_; intros)))
    refine if_split (fun _ => ?_) (fun _ => ?_)
    · (repeat (first | (refine go ?_; intros) | (refine gon ?_; intros)))
      rw [hj1]
      exact hR5 (j' - 1) _ _ ⟨rfl, by omega, by omega, hs11⟩ (by omega)
    · (repeat (first | (refine go ?_; intros) | (refine gon ?_; intros)))
      refine if_split (fun hc => by have := of_decide_eq_true hc; omega) (fun _ => ?_)
      refine dr_top fun wA xA zA => ?_
      have hs11a := hs11.ex xA zA
      (repeat (first | (refine go ?_; intros) | (refine gon ?_; intros)))
      (try simp only [hj1])
      refine q_ixN j' hs11a.nm rfl (by omega) ?_
      refine q_ldNI (t := 22) hs11a.nm hzj ?_
      refine q_ixN i hs11a.nm rfl (by omega) ?_
      refine q_ldNI (t := 22) hs11a.nm hzi ?_
      refine q_ixN i hs11a.nm rfl (by omega) ?_
      refine u_stN hs11a.nm (by omega) fun wb ub nb zb => ⟨trivial, ?_⟩
      refine q_ixN j' hs11a.nm rfl (by omega) ?_
      refine u_stN nb (by simp; omega) fun wc uc nc zc => ⟨trivial, ?_⟩
      have hs12 := hs11a.trans (So.swap (w1 := wb) hzi hzj ub zb uc zc nc)
      (repeat (first | (refine go ?_; intros) | (refine gon ?_; intros)))
      rw [hj1, wrapS (by omega)]
      exact hR (i + 1) (j' - 1) _ _ _ rfl rfl (by omega) (by omega) (by omega) (by omega) hs12
  · (repeat (first | (refine go ?_; intros) | (refine gon ?_; intros)))
    rw [decide_eq_false hle]
    (repeat (first | (refine go ?_; intros) | (refine gon ?_; intros)))
    refine if_split (fun _ => ?_) (fun hc => by have := of_decide_eq_false hc; omega)
    refine dr_top fun wA xA zA => ?_
    have hs11a := hs11.ex xA zA
    (repeat (first | (refine go ?_; intros) | (refine gon ?_; intros)))
    (try simp only [hj1])
    refine q_ixN a hs11a.nm rfl (by omega) ?_
    refine q_ldNI (t := 22) hs11a.nm hza ?_
    refine q_ixN j' hs11a.nm rfl (by omega) ?_
    refine q_ldNI (t := 22) hs11a.nm hzj ?_
    refine q_ixN j' hs11a.nm rfl (by omega) ?_
    refine u_stN hs11a.nm (by omega) fun wb ub nb zb => ⟨trivial, ?_⟩
    refine q_ixN a hs11a.nm rfl (by omega) ?_
    refine u_stN nb (by simp; omega) fun wc uc nc zc => ⟨trivial, ?_⟩
    have hs12 := hs11a.trans (So.swap (w1 := wb) hzj hza ub zb uc zc nc)
    exact h _ _ j' false hs12 haj5 hj5b

theorem pt_2 {w0 w6 : World} {ys : List Int} {a b i j : Nat} {τ τ2 : List Value} (hl : xs.length ≤ 1000000) (hb : b ≤ xs.length) (hs : So te v xs w0 w6 ys) (hai : a < i) (hij : i ≤ j) (hjb : j < b)
    (h : ∀ w' xs' (m : Nat) r, So te v xs w0 w' xs' → a ≤ m → m < b → K (.tuple #[.int .i64 (m : Nat), .bool r]) w')
    (hi : g τ 0 = .int .i64 i) (hj : g τ2 0 = .int .i64 j) : t277_2 w6 v τ2 τ (.int .i64 a) K := by
  unfold t277_2
  rw [hi, hj]
  have hyl := hs.len
  obtain ⟨yj, hyj⟩ := get_of (xs := ys) (j := j) (by omega)
  obtain ⟨yi, hyi⟩ := get_of (xs := ys) (j := i) (by omega)
  have hj1 : IntKind.i64.wrap ((j : Int) - 1) = ((j - 1 : Nat) : Int) := by rw [wrap64 (by omega) (by omega)]; omega
  refine dr_top fun wA xA zA => ?_
  have hsa := hs.ex xA zA
  (repeat (first | (refine go ?_; intros) | (refine gon ?_; intros)))
  (try simp only [hj1])
  refine q_ixN j hsa.nm rfl (by omega) ?_
  refine q_ldNI (t := 22) hsa.nm hyj ?_
  refine q_ixN i hsa.nm rfl (by omega) ?_
  refine q_ldNI (t := 22) hsa.nm hyi ?_
  refine q_ixN i hsa.nm rfl (by omega) ?_
  refine u_stN hsa.nm (by omega) fun wb ub nb zb => ⟨trivial, ?_⟩
  refine q_ixN j hsa.nm rfl (by omega) ?_
  refine u_stN nb (by simp; omega) fun wc uc nc zc => ⟨trivial, ?_⟩
  have hs7 := hsa.trans (So.swap (w1 := wb) hyi hyj ub zb uc zc nc)
  (repeat (first | (refine go ?_; intros) | (refine gon ?_; intros)))
  rw [hj1, wrapS (by omega)]
  refine loop_n (α := Nat × Nat × List Int) (fun q τ' w' => g τ' 0 = .int .i64 (q.1 : Nat) ∧ g τ' 1 = .int .i64 (q.2.1 : Nat) ∧ a < q.1 ∧ q.1 ≤ b + 1 ∧ a ≤ q.2.1 ∧ q.2.1 < b ∧ So te v xs w0 w' q.2.2) (fun q => b + 2 - q.1) (i + 1, j - 1, _) ⟨rfl, rfl, by simp; omega, by simp; omega, by simp; omega, by simp; omega, hs7⟩ ?_
  clear hs7 hsa hyj hyi hs hi hj hij hjb hai hj1 hyl nb ub uc nc
  rintro ⟨i, j, zs⟩ τ3 w7 R3 ⟨hi3, hj3, ha3, hi3b, haj3, hj3b, hs⟩ hR3
  simp only at hi3 hj3 ha3 hi3b haj3 hj3b hs hR3
  have hzl := hs.len
  refine loop_n (α := Nat) (fun i' τ' w' => g τ' 0 = .int .i64 i' ∧ i ≤ i' ∧ i' ≤ b + 1 ∧ So te v xs w0 w' zs) (fun i' => b + 2 - i') i ⟨hi3, by omega, by omega, hs⟩ ?_
  rintro i' τ4 w8 R4 ⟨hi4, hii, hi4b, hs8⟩ hR4
  rw [hi4, hj3]
  refine dr_rule No [] fun w9 x9 z9 => ?_
  have hs9 := hs8.ex x9 z9
  obtain ⟨za, hza⟩ := get_of (xs := zs) (j := a) (by omega)
  by_cases hle : (i' : Int) ≤ j
  · obtain ⟨zi, hzi⟩ := get_of (xs := zs) (j := i') (by omega)
    have hj1 : True := trivial
    (repeat (first | (refine go ?_; intros) | (refine gon ?_; intros)))
    rw [decide_eq_true hle]
    (repeat (first | (refine go ?_; intros) | (refine gon ?_; intros)))
    (try simp only [hj1])
    refine q_ixN i' hs9.nm rfl (by omega) ?_
    (repeat (first | (refine go ?_; intros) | (refine gon ?_; intros)))
    refine q_ldNE (t := 22) hs9.nm hzi ?_
    (repeat (first | (refine go ?_; intros) | (refine gon ?_; intros)))
    (try simp only [hj1])
    refine q_ixN a hs9.nm rfl (by omega) ?_
    (repeat (first | (refine go ?_; intros) | (refine gon ?_; intros)))
    refine q_ldNE (t := 22) hs9.nm hza ?_
    (repeat (first | (refine go ?_; intros) | (refine gon ?_; intros)))
    refine cl_fn (k275 ⟨.refl _ _ _, ?_⟩)
    (repeat (first | (refine go ?_; intros) | (refine gon ?_; intros)))
    refine if_split (fun _ => ?_) (fun _ => ?_)
    · (repeat (first | (refine go ?_; intros) | (refine gon ?_; intros)))
      rw [wrapS (by omega)]
      exact hR4 (i' + 1) _ _ ⟨rfl, by omega, by omega, hs9⟩ (by omega)
    · exact pt_1 hl hb hs9 (by omega) hi4b haj3 hj3b h hi4 hj3 (fun i2 j2 zs' τ w' h1 h2 h3 h4 h5 h6 h7 => hR3 (i2, j2, zs') τ w' ⟨h1, h2, by simp; omega, h4, h5, h6, h7⟩ (by simp; omega)) _ _ _ _ _ _ _ _ _ _ _
  · (repeat (first | (refine go ?_; intros) | (refine gon ?_; intros)))
    rw [decide_eq_false hle]
    (repeat (first | (refine go ?_; intros) | (refine gon ?_; intros)))
    exact pt_1 hl hb hs9 (by omega) hi4b haj3 hj3b h hi4 hj3 (fun i2 j2 zs' τ w' h1 h2 h3 h4 h5 h6 h7 => hR3 (i2, j2, zs') τ w' ⟨h1, h2, by simp; omega, h4, h5, h6, h7⟩ (by simp; omega)) _ _ _ _ _ _ _ _ _ _ _

theorem pt_3 {w0 w6 : World} {ys : List Int} {a b i j : Nat} {τ τ2 : List Value} (hl : xs.length ≤ 1000000) (hb : b ≤ xs.length) (hs : So te v xs w0 w6 ys) (hai : a < i) (haj : a ≤ j) (hjb : j < b)
    (h : ∀ w' xs' (m : Nat) r, So te v xs w0 w' xs' → a ≤ m → m < b → K (.tuple #[.int .i64 (m : Nat), .bool r]) w')
    (hi : g τ 0 = .int .i64 i) (hj : g τ2 0 = .int .i64 j) : t277_3 w6 τ τ2 v (.int .i64 a) K := by
  unfold t277_3
  rw [hi, hj]
  have hyl := hs.len
  have hj1 : True := trivial
  obtain ⟨yj, hyj⟩ := get_of (xs := ys) (j := j) (by omega)
  obtain ⟨ya, hya⟩ := get_of (xs := ys) (j := a) (by omega)
  (repeat (first | (refine go ?_; intros) | (refine gon ?_; intros)))
  refine if_split (fun _ => ?_) (fun hgt => ?_)
  · refine dr_top fun wA xA zA => ?_
    have hsa := hs.ex xA zA
    (repeat (first | (refine go ?_; intros) | (refine gon ?_; intros)))
    (try simp only [hj1])
    refine q_ixN a hsa.nm rfl (by omega) ?_
    refine q_ldNI (t := 22) hsa.nm hya ?_
    refine q_ixN j hsa.nm rfl (by omega) ?_
    refine q_ldNI (t := 22) hsa.nm hyj ?_
    refine q_ixN j hsa.nm rfl (by omega) ?_
    refine u_stN hsa.nm (by omega) fun wb ub nb zb => ⟨trivial, ?_⟩
    refine q_ixN a hsa.nm rfl (by omega) ?_
    refine u_stN nb (by simp; omega) fun wc uc nc zc => ⟨trivial, ?_⟩
    have hs7 := hsa.trans (So.swap (w1 := wb) hyj hya ub zb uc zc nc)
    exact h _ _ j true hs7 haj hjb
  · have hgt := of_decide_eq_false hgt
    exact pt_2 hl hb hs hai (by omega) hjb h hi hj

theorem pt_4 {w0 w6 : World} {ys : List Int} {a b i j : Nat} {τ : List Value} (hl : xs.length ≤ 1000000) (hb : b ≤ xs.length) (hs : So te v xs w0 w6 ys) (hai : a < i) (haj : a ≤ j) (hjb : j < b)
    (h : ∀ w' xs' (m : Nat) r, So te v xs w0 w' xs' → a ≤ m → m < b → K (.tuple #[.int .i64 (m : Nat), .bool r]) w')
    (hi : g τ 0 = .int .i64 i) : t277_4 (.int .i64 j) τ v (.int .i64 a) K w6 := by
  unfold t277_4
  have hyl := hs.len
  obtain ⟨ya, hya⟩ := get_of (xs := ys) (j := a) (by omega)
  refine loop_n (α := Nat) (fun j τ' w' => g τ' 0 = .int .i64 j ∧ a ≤ j ∧ j < b ∧ So te v xs w0 w' ys) (fun j => j) j ⟨rfl, by omega, by omega, hs⟩ ?_
  clear haj hjb hs
  rintro j τ2 w4 R2 ⟨hj, haj, hjb, hs4⟩ hR2
  rw [hi, hj]
  refine dr_rule No [] fun w5 x5 z5 => ?_
  have hs5 := hs4.ex x5 z5
  by_cases hle : (i : Int) ≤ j
  · obtain ⟨yj, hyj⟩ := get_of (xs := ys) (j := j) (by omega)
    have hj1 : IntKind.i64.wrap ((j : Int) - 1) = ((j - 1 : Nat) : Int) := by rw [wrap64 (by omega) (by omega)]; omega
    (repeat (first | (refine go ?_; intros) | (refine gon ?_; intros)))
    rw [decide_eq_true hle]
    (repeat (first | (refine go ?_; intros) | (refine gon ?_; intros)))
    (try simp only [hj1])
    refine q_ixN j hs5.nm rfl (by omega) ?_
    (repeat (first | (refine go ?_; intros) | (refine gon ?_; intros)))
    refine q_ldNE (t := 22) hs5.nm hyj ?_
    (repeat (first | (refine go ?_; intros) | (refine gon ?_; intros)))
    (try simp only [hj1])
    refine q_ixN a hs5.nm rfl (by omega) ?_
    (repeat (first | (refine go ?_; intros) | (refine gon ?_; intros)))
    refine q_ldNE (t := 22) hs5.nm hya ?_
    (repeat (first | (refine go ?_; intros) | (refine gon ?_; intros)))
    refine cl_fn (k275 ⟨.refl _ _ _, ?_⟩)
    (repeat (first | (refine go ?_; intros) | (refine gon ?_; intros)))
    refine if_split (fun _ => ?_) (fun _ => ?_)
    · (repeat (first | (refine go ?_; intros) | (refine gon ?_; intros)))
      rw [hj1]
      exact hR2 (j - 1) _ _ ⟨rfl, by omega, by omega, hs5⟩ (by omega)
    · exact pt_3 hl hb hs5 hai haj hjb h hi hj
  · (repeat (first | (refine go ?_; intros) | (refine gon ?_; intros)))
    rw [decide_eq_false hle]
    (repeat (first | (refine go ?_; intros) | (refine gon ?_; intros)))
    exact pt_3 hl hb hs5 hai haj hjb h hi hj

theorem k277 {a b p : Nat} (hn : Nm te v xs w) (hb : b ≤ xs.length) (hl : xs.length ≤ 1000000) (hab : a < b) (hp : p < xs.length) (h : ∀ w' xs' (m : Nat) r, So te v xs w w' xs' → a ≤ m → m < b → K (.tuple #[.int .i64 (m : Nat), .bool r]) w') :
    CK Pr 277 #[v, .int .i64 a, .int .i64 b, .int .i64 p] w K := by
  refine c277 ?_
  unfold t277
  obtain ⟨xa, hxa⟩ := get_of (xs := xs) (j := a) (by omega)
  obtain ⟨xp, hxp⟩ := get_of hp
  have hs := So.refl hn
  have hj1 : IntKind.i64.wrap ((b : Int) - 1) = ((b - 1 : Nat) : Int) := by rw [wrap64 (by omega) (by omega)]; omega
  refine dr_top fun wA xA zA => ?_
  have hsa := hs.ex xA zA
  (repeat (first | (refine go ?_; intros) | (refine gon ?_; intros)))
  (try simp only [hj1])
  refine q_ixN p hsa.nm rfl (by omega) ?_
  refine q_ldNI (t := 22) hsa.nm hxp ?_
  refine q_ixN a hsa.nm rfl (by omega) ?_
  refine q_ldNI (t := 22) hsa.nm hxa ?_
  refine q_ixN a hsa.nm rfl (by omega) ?_
  refine u_stN hsa.nm (by omega) fun wb ub nb zb => ⟨trivial, ?_⟩
  refine q_ixN p hsa.nm rfl (by omega) ?_
  refine u_stN nb (by simp; omega) fun wc uc nc zc => ⟨trivial, ?_⟩
  have hs1 := hsa.trans (So.swap (w1 := wb) hxa hxp ub zb uc zc nc)
  (repeat (first | (refine go ?_; intros) | (refine gon ?_; intros)))
  rw [hj1, wrapS (by omega)]
  clear hs hsa nb nc
  generalize (xs.set a xp).set p xa = ys at hs1
  have hyl := hs1.len
  refine loop_n (α := Nat) (fun i τ w' => g τ 0 = .int .i64 i ∧ a < i ∧ i ≤ b ∧ So te v xs w w' ys) (fun i => b - i) (a + 1) ⟨rfl, by omega, by omega, hs1⟩ ?_
  clear hs1
  rintro i τ w1 R ⟨hi, hai, hib, hs⟩ hR
  rw [hi]
  refine dr_rule No [] fun w3 x3 z3 => ?_
  have hs3 := hs.ex x3 z3
  obtain ⟨ya, hya⟩ := get_of (xs := ys) (j := a) (by omega)
  by_cases hle : (i : Int) ≤ (b - 1 : Nat)
  · obtain ⟨yi, hyi⟩ := get_of (xs := ys) (j := i) (by omega)
    (repeat (first | (refine go ?_; intros) | (refine gon ?_; intros)))
    rw [decide_eq_true hle]
    (repeat (first | (refine go ?_; intros) | (refine gon ?_; intros)))
    (try simp only [hj1])
    refine q_ixN i hs3.nm rfl (by omega) ?_
    (repeat (first | (refine go ?_; intros) | (refine gon ?_; intros)))
    refine q_ldNE (t := 22) hs3.nm hyi ?_
    (repeat (first | (refine go ?_; intros) | (refine gon ?_; intros)))
    (try simp only [hj1])
    refine q_ixN a hs3.nm rfl (by omega) ?_
    (repeat (first | (refine go ?_; intros) | (refine gon ?_; intros)))
    refine q_ldNE (t := 22) hs3.nm hya ?_
    (repeat (first | (refine go ?_; intros) | (refine gon ?_; intros)))
    refine cl_fn (k275 ⟨.refl _ _ _, ?_⟩)
    (repeat (first | (refine go ?_; intros) | (refine gon ?_; intros)))
    refine if_split (fun _ => ?_) (fun _ => ?_)
    · (repeat (first | (refine go ?_; intros) | (refine gon ?_; intros)))
      rw [wrapS (by omega)]
      exact hR (i + 1) _ _ ⟨rfl, by omega, by omega, hs3⟩ (by omega)
    · exact pt_4 hl hb hs3 hai (by omega) (by omega) h hi
  · (repeat (first | (refine go ?_; intros) | (refine gon ?_; intros)))
    rw [decide_eq_false hle]
    (repeat (first | (refine go ?_; intros) | (refine gon ?_; intros)))
    exact pt_4 hl hb hs3 hai (by omega) (by omega) h hi

end Go.Proofs.YtmmpogfbhelioaaGreat
/-
  Contracts: the sort of at most 13 numbers.
  Conditions: each one's own.
-/
namespace Go.Proofs.YtmmpogfbhelioaaGreat
set_option maxRecDepth 10000
set_option linter.unusedVariables false
set_option linter.unusedSimpArgs false
set_option linter.unusedVariables false
set_option linter.unusedSimpArgs false
attribute [local irreducible] Instr.box Instr.alloc Instr.loadAt Instr.storeAt Instr.fieldAt Instr.indexAt Instr.build Instr.buildSlice Instr.makeSlice Instr.makeMap Instr.mapUpdate Instr.lookup Instr.range Instr.next Instr.entry Instr.extract Instr.makeInterface Instr.makeFunc Instr.sliceAt Instr.typeAssert Instr.field Instr.index Builtin.len_ Builtin.cap_ Builtin.max_ Builtin.min_ Builtin.append_ Builtin.copy_ Builtin.delete_ convert binS pickS nilS callV callM Op.unary Own Mp It Cu

attribute [local irreducible] Nm

variable {K : Value → World → Prop} {w : World} {te : Nat} {v : Value} {xs : List Int}

theorem jo_id {α : Type} {R : α} {B : α → Prop} (h : B R) : Jo R B := h
theorem jo_rule {α : Type} {R : α} {B : α → Prop} (Q : α → Prop) (hR : Q R) (h : ∀ J, Q J → B J) : Jo R B := h R hR

theorem q_ixStr {P : Program} {S : World → Prop} {K : Value → Prop} {t : Nat} [hs : TUn P t .string] {s : ByteArray} {i : Int} {k : IntKind} {b : UInt8} (h0 : 0 ≤ i) (hb : s[i.toNat]? = some b) (kk : K (.int .u8 b.toNat)) : Qu P S (Instr.index t (.string s) (.int k i)) K :=
  .mk _ (fun w _ => by
    simp only [Instr.index, asIntOf, Sem.run_bind, Sem.run_pure, Result.andThen_ok, run_und hs.ok, if_pos h0, hb]) kk

theorem k208s {a b : Nat} {l : Int} (hn : Nm te v xs w) (hb : b ≤ xs.length) (hl : xs.length ≤ 1000000) (ha : a ≤ 1000000) (h12 : b ≤ a + 12) (h : ∀ w' xs', So te v xs w w' xs' → K (.tuple #[]) w') :
    CK Pr 208 #[v, .int .i64 a, .int .i64 b, .int .i64 l] w K := by
  refine c208 ?_
  unfold t208
  refine loop_n (α := Unit) (fun p τ w' => g τ 0 = .int .i64 a ∧ g τ 1 = .int .i64 b ∧ w' = w) (fun _ => 0) () ⟨rfl, rfl, rfl⟩ ?_
  rintro _ τ w' R ⟨h1, h2, rfl⟩ hR
  rw [h1, h2]
  refine jo_id ?_
  (repeat (first | (refine go ?_; intros) | (refine gon ?_; intros)))
  rw [wrap64 (by omega) (by omega)]
  refine if_split (fun _ => ?_) (fun hc => by have := of_decide_eq_false hc; omega)
  exact cl_fn (k269 hn hb hl ha h)

theorem Nm.lt (hn : Nm te v xs w) (h : xs ≠ []) : ∀ b, sb v b → b < w.heap.size := by
  unfold Nm at hn
  obtain ⟨a, c, rfl, hm, hc, hh⟩ := hn
  rcases hh with hh | ⟨b, o, cs, rfl, hb, _⟩
  · exact absurd hh h
  · intro x hx
    cases hx
    exact hb.lt

theorem So.lt {w' : World} {xs' : List Int} (h : So te v xs w w' xs') (hx : xs ≠ []) : ∀ b, sb v b → b < w'.heap.size :=
  h.nm.lt (by intro h0; have := h.len; rw [h0] at this; exact hx (List.eq_nil_of_length_eq_zero this.symm))

set_option maxHeartbeats 800000 in
theorem k208b {l : Int} (hn : Nm te v xs w) (hl : xs.length = 13) (hl0 : l ≠ 0) (h : ∀ w' xs', So te v xs w w' xs' → K (.tuple #[]) w') :
    CK Pr 208 #[v, .int .i64 0, .int .i64 13, .int .i64 l] w K := by
  refine c208 ?_
  unfold t208
  refine loop_n (α := Option (Nat × Nat × List Int)) (fun p τ w' => match p with
      | none => g τ 0 = .int .i64 0 ∧ g τ 1 = .int .i64 13 ∧ g τ 2 = .int .i64 l ∧ g τ 3 = .bool true ∧ g τ 4 = .bool true ∧ w' = w
      | some (a, b, ys) => g τ 0 = .int .i64 a ∧ g τ 1 = .int .i64 b ∧ b ≤ 13 ∧ a ≤ 13 ∧ b ≤ a + 12 ∧ So te v xs w w' ys) (fun p => match p with | none => 1 | some _ => 0) none ⟨rfl, rfl, rfl, rfl, rfl, rfl⟩ ?_
  intro p τ w' R hI hR
  have hne : xs ≠ [] := by intro h0; rw [h0] at hl; cases hl
  rcases p with _ | ⟨a, b, ys⟩
  · obtain ⟨h0, h1, h2, h3, h4, hw⟩ := hI
    refine jo_id ?_
    rw [h0, h1]
    (repeat (first | (refine go ?_; intros) | (refine gon ?_; intros)))
    unfold t208_5
    rw [h2]
    (repeat (first | (refine go ?_; intros) | (refine gon ?_; intros)))
    rw [show (l == 0) = false from by simpa using hl0]
    (repeat (first | (refine go ?_; intros) | (refine gon ?_; intros)))
    unfold t208_4
    rw [h3]
    (repeat (first | (refine go ?_; intros) | (refine gon ?_; intros)))
    refine jo_id ?_
    (repeat (first | (refine go ?_; intros) | (refine gon ?_; intros)))
    unfold t208_3
    rw [h0, h1]
    subst hw
    refine cl_fn (k272 hn hl (hn.lt hne) fun w1 r hint e1 hr hg => ?_)
    (repeat (first | (refine go ?_; intros) | (refine gon ?_; intros)))
    refine jo_rule (fun J => ∀ q1 q2 q3 q4 q5 q6 q7 q8 q9 q10 (p : Nat) (hint : Int) w2 ys, p < 13 → So te v xs w' w2 ys → J q1 q2 q3 q4 q5 q6 q7 q8 q9 q10 (.int .i64 p) (.int .i64 hint) w2) ?_ ?_
    rotate_left
    · intro J hJ
      have hs1 : So te v xs w' w1 xs := (So.refl hn).new e1
      refine if_split (fun _ => ?_) (fun _ => hJ _ _ _ _ _ _ _ _ _ _ _ _ _ _ hr hs1)
      refine cl_fn (k273 (a := 0) (b := 13) hs1.nm (by omega) (by omega) (by omega) fun w2 ys s2 => ?_)
      (repeat (first | (refine go ?_; intros) | (refine gon ?_; intros)))
      have hp : IntKind.i64.wrap (IntKind.i64.wrap (13 - 1) - IntKind.i64.wrap ((r : Int) - 0)) = ((12 - r : Nat) : Int) := by
        rw [show IntKind.i64.wrap (13 - 1) = 12 from rfl, wrap64 (n := (r : Int) - 0) (by omega) (by omega), wrap64 (by omega) (by omega)]
        omega
      rw [hp]
      exact hJ _ _ _ _ _ _ _ _ _ _ _ _ _ _ (by omega) (hs1.trans s2)
    · intro q1 q2 q3 q4 q5 q6 q7 q8 q9 q10 p hint w2 ys hp hs
      unfold t208_2
      rw [h3, h4]
      (repeat (first | (refine go ?_; intros) | (refine gon ?_; intros)))
      refine jo_rule (fun J => ∀ q1 q2 q3 q4 w2 ys, So te v xs w' w2 ys → J q1 q2 q3 q4 w2) ?_ ?_
      rotate_left
      · intro J hJ
        refine if_split (fun _ => ?_) (fun _ => hJ _ _ _ _ _ _ hs)
        rw [h0, h1]
        have hyl := hs.len
        refine cl_fn (k274 (a := 0) (b := 13) hs.nm (by omega) (by omega) (by omega) (by omega) fun w3 r e3 z3 => ?_)
        have hs3 := hs.ex e3 z3
        cases r
        · (repeat (first | (refine go ?_; intros) | (refine gon ?_; intros)))
          exact hJ _ _ _ _ _ _ hs3
        · (repeat (first | (refine go ?_; intros) | (refine gon ?_; intros)))
          exact h _ _ hs3
      · clear hs
        intro q1 q2 q3 q4 w2 ys hs
        have hyl := hs.len
        unfold t208_1
        refine dr_rule No [] fun w3 x3 z3 => ?_
        have hs3 := hs.ex x3 z3
        rw [h0, h1, h2]
        (repeat (first | (refine go ?_; intros) | (refine gon ?_; intros)))
        refine cl_fn (k277 (a := 0) (b := 13) hs3.nm (by omega) (by omega) (by omega) (by omega) fun w4 zs m r s4 hm1 hm2 => ?_)
        have hs4 := hs3.trans s4
        have hzl := hs4.len
        (repeat (first | (refine go ?_; intros) | (refine gon ?_; intros)))
        refine q_quo (by omega) ?_
        (repeat (first | (refine go ?_; intros) | (refine gon ?_; intros)))
        rw [wrap64 (n := (m : Int) - 0) (by omega) (by omega), wrap64 (n := 13 - (m : Int)) (by omega) (by omega)]
        refine jo_id ?_
        refine if_split (fun _ => ?_) (fun _ => ?_)
        · (repeat (first | (refine go ?_; intros) | (refine gon ?_; intros)))
          refine cl_fn (k208s (a := 0) (b := m) hs4.nm (by omega) (by omega) (by omega) (by omega) fun w5 us s5 => ?_)
          have hs5 := hs4.trans s5
          (repeat (first | (refine go ?_; intros) | (refine gon ?_; intros)))
          rw [wrapS (by omega)]
          exact hR (some (m + 1, 13, us)) _ _ ⟨rfl, rfl, by omega, by omega, by omega, hs5⟩ (by simp)
        · (repeat (first | (refine go ?_; intros) | (refine gon ?_; intros)))
          rw [wrapS (by omega)]
          refine cl_fn (k208s (a := m + 1) (b := 13) hs4.nm (by omega) (by omega) (by omega) (by omega) fun w5 us s5 => ?_)
          have hs5 := hs4.trans s5
          exact hR (some (0, m, us)) _ _ ⟨rfl, rfl, by omega, by omega, by omega, hs5⟩ (by simp)
  · obtain ⟨h0, h1, hb, ha, h12, hs⟩ := hI
    refine jo_id ?_
    rw [h0, h1]
    (repeat (first | (refine go ?_; intros) | (refine gon ?_; intros)))
    rw [wrap64 (by omega) (by omega)]
    have hyl := hs.len
    refine if_split (fun _ => ?_) (fun hc => by have := of_decide_eq_false hc; omega)
    exact cl_fn (k269 hs.nm (by omega) (by omega) (by omega) fun w2 zs s2 => h _ _ (hs.trans s2))

end Go.Proofs.YtmmpogfbhelioaaGreat
/-
  Contract: slices.Sort of at most 13 numbers: they stay, in some order.
  Conditions: each one's own.
-/
namespace Go.Proofs.YtmmpogfbhelioaaGreat
set_option maxRecDepth 10000
set_option linter.unusedVariables false
set_option linter.unusedSimpArgs false
set_option linter.unusedVariables false
set_option linter.unusedSimpArgs false
attribute [local irreducible] Instr.box Instr.alloc Instr.loadAt Instr.storeAt Instr.fieldAt Instr.indexAt Instr.build Instr.buildSlice Instr.makeSlice Instr.makeMap Instr.mapUpdate Instr.lookup Instr.range Instr.next Instr.entry Instr.extract Instr.makeInterface Instr.makeFunc Instr.sliceAt Instr.typeAssert Instr.field Instr.index Builtin.len_ Builtin.cap_ Builtin.max_ Builtin.min_ Builtin.append_ Builtin.copy_ Builtin.delete_ convert binS pickS nilS callV callM Op.unary Own Mp It Cu

attribute [local irreducible] Nm

variable {K : Value → World → Prop} {w : World} {te : Nat} {v : Value} {xs : List Int}

instance tun305 : TUn Pr 305 (.int .u64) := ⟨by kernel_rfl⟩

set_option maxHeartbeats 1000000 in
theorem k279 {n : Nat} (hn : n ≤ 13) (h : ∀ l : Int, (n ≠ 0 → l ≠ 0) → K (.int .i64 l) w) : CK Pr 279 #[.int .u64 n] w K := by
  refine c279 ?_
  unfold t279
  unfold Jo
  have hc : n = 0 ∨ n = 1 ∨ n = 2 ∨ n = 3 ∨ n = 4 ∨ n = 5 ∨ n = 6 ∨ n = 7 ∨ n = 8 ∨ n = 9 ∨ n = 10 ∨ n = 11 ∨ n = 12 ∨ n = 13 := by omega
  rcases hc with rfl | rfl | rfl | rfl | rfl | rfl | rfl | rfl | rfl | rfl | rfl | rfl | rfl | rfl
  all_goals
    (repeat (first | (refine go ?_; intros) | (refine gon ?_; intros)))
    refine q_ixStr (by decide) rfl ?_
    (repeat (first | (refine go ?_; intros) | (refine gon ?_; intros)))
    exact h _ (by decide)

theorem k209 {n : Nat} (hn : n ≤ 13) (h : ∀ l : Int, (n ≠ 0 → l ≠ 0) → K (.int .i64 l) w) : CK Pr 209 #[.int .u64 n] w K := by
  refine c209 ?_
  unfold t209
  (repeat (first | (refine go ?_; intros) | (refine gon ?_; intros)))
  exact cl_fn (k279 hn h)

theorem k131 (hn : Nm te v xs w) (hl : xs.length ≤ 13) (h : ∀ w' xs', So te v xs w w' xs' → K (.tuple #[]) w') : CK Pr 131 #[v] w K := by
  refine c131 ?_
  unfold t131
  refine q_lenSl hn.sl ?_
  rw [show (nums xs).length = xs.length by simp [nums]]
  (repeat (first | (refine go ?_; intros) | (refine gon ?_; intros)))
  rw [wrapU (by omega) (by omega)]
  refine cl_fn (k209 hl fun l hl0 => ?_)
  by_cases h13 : xs.length = 13
  · rw [h13]
    exact cl_fn (k208b hn h13 (hl0 (by omega)) h)
  · exact cl_fn (k208s (a := 0) (b := xs.length) hn (by omega) (by omega) (by omega) (by omega) h)

end Go.Proofs.YtmmpogfbhelioaaGreat
