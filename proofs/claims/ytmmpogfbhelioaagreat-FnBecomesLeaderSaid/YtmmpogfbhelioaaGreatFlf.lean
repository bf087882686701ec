/-
  PARTS: T6 S0 S1 S2 S3 S4 K17 K18 K19 K20 K21.
-/
import Derived.Test.YtmmpogfbhelioaaGreatFla
import Derived.Test.YtmmpogfbhelioaaGreatFld
import Derived.Test.YtmmpogfbhelioaaGreatFle
/-
  The readable texts of the sorting functions, printed by gen.py, and their links with the program.
  Conditions: none.
-/
namespace Go.Proofs.YtmmpogfbhelioaaGreat
set_option maxRecDepth 10000
set_option linter.unusedVariables false
set_option linter.unusedSimpArgs false
set_option linter.unusedVariables false
/-- slices.Sort[[]uint64,uint64] -/
def t131 (a0 : Value) (K : Value → World → Prop) (w : World) : Prop :=
  Qu Pr (Is w) (Builtin.len_ #[23] 3 #[a0]) fun v1 =>
  Qu Pr (Is w) (convert 3 305 v1) fun v2 =>
  Cl Pr (callV (fn 209) #[v2]) w fun v4 w3 => 
  Cl Pr (callV (fn 208) #[a0, (Value.int .i64 0), v1, v4]) w3 fun _ w5 => 
  K (.tuple #[]) w5
theorem c131 {a0 : Value} {K : Value → World → Prop} {w : World} (h : t131 a0 K w) : CK Pr 131 #[a0] w K := by
  refine calls_of_RF [] Tryz.func131 rfl ?_ ?_ ?_
  · kernel_rfl
  · exact Nat.le_of_ble_eq_true rfl
  · exact cast (by kernel_rfl) h

@[irreducible] def t208_1 (w187 : World) (τ2 : List Value) (a0 : Value) (p167 : Value) (J134 : Value → Value → Value → Value → Value → Value → Value → Value → Value → Value → Value → Value → Value → Value → Value → Value → Value → Value → Value → Value → Value → Value → Value → Value → Value → Value → Value → Value → Value → Value → Value → Value → Value → Value → Value → Value → Value → Value → Value → Value → Value → Value → Value → Value → Value → Value → Value → Value → Value → Value → Value → Value → Value → Value → Value → Value → Value → Value → Value → Value → Value → Value → Value → Value → Value → Value → Value → Value → Value → Value → Value → Value → Value → Value → Value → Value → Value → Value → Value → Value → Value → Value → Value → Value → Value → Value → Value → Value → Value → Value → Value → Value → Value → Value → Value → Value → Value → Value → Value → Value → Value → Value → Value → Value → Value → Value → Value → Value → Value → Value → Value → Value → Value → Value → Value → Value → Value → Value → Value → Value → Value → Value → Value → Value → Value → Value → Value → Value → Value → World → Prop) (v135 : Value) (v136 : Value) (v139 : Value) (v142 : Value) (p143 : Value) (p144 : Value) (p145 : Value) (p146 : Value) (p147 : Value) (p148 : Value) (p149 : Value) (v153 : Value) (v154 : Value) (v155 : Value) (v156 : Value) (p157 : Value) (p158 : Value) (p159 : Value) (p160 : Value) (p161 : Value) (p162 : Value) (p163 : Value) (p164 : Value) (p165 : Value) (p166 : Value) (p168 : Value) (v172 : Value) (v174 : Value) (v176 : Value) (v179 : Value) (v182 : Value) (p183 : Value) (p184 : Value) (p185 : Value) (p186 : Value) : Prop :=
                    Dr w187 fun S189 w190 =>
                    Qu Pr (S189) (binS .gtr 3 (.tmp 73) (.const (Value.int .i64 0)) (g τ2 0) (Value.int .i64 0)) fun v191 =>
                    Gd v191 true (fun k192 => k192 a0 w190) w190 fun v193 w194 =>
                    Gd v191 true (fun k195 => k195 (g τ2 0) w194) w194 fun v196 w197 =>
                    Gd v191 true (fun k198 => Qu Pr (S189) (binS .sub 3 (.tmp 77) (.const (Value.int .i64 1)) v196 (Value.int .i64 1)) fun v201 => k198 v201 w197) w197 fun v199 w200 =>
                    Gd v191 true (fun k202 => Qu Pr (S189) (Instr.indexAt 23 v193 v199) fun v205 => k202 v205 w200) w200 fun v203 w204 =>
                    Gd v191 true (fun k206 => Qu Pr (S189) (Instr.loadAt 22 v203) fun v209 => k206 v209 w204) w204 fun v207 w208 =>
                    Gd v191 true (fun k210 => k210 a0 w208) w208 fun v211 w212 =>
                    Gd v191 true (fun k213 => k213 p167 w212) w212 fun v214 w215 =>
                    Gd v191 true (fun k216 => Qu Pr (S189) (Instr.indexAt 23 v211 v214) fun v219 => k216 v219 w215) w215 fun v217 w218 =>
                    Gd v191 true (fun k220 => Qu Pr (S189) (Instr.loadAt 22 v217) fun v223 => k220 v223 w218) w218 fun v221 w222 =>
                    Gd v191 true (fun k224 => Cl Pr (callV (fn 275) #[v207, v221]) w222 fun v225x w226x => S189 w226x ∧ k224 v225x w226x) w222 fun v225 w226 =>
                    Gd v191 true (fun k227 => Qu Pr (S189) (Op.unary .not v225) fun v230 => k227 v230 w226) w226 fun v228 w229 =>
                    Qu Pr (S189) (pickS v191 v228 (Value.bool false)) fun v231 =>
                    If v231 (
                      Cl Pr (callV (fn 276) #[a0, (g τ2 0), (g τ2 1), p167]) w229 fun v233 w232 => 
                      J134 (g τ2 1) (g τ2 0) v135 v135 v135 v136 (g τ2 19) (g τ2 20) (g τ2 21) (g τ2 22) (g τ2 2) v139 (g τ2 25) (g τ2 26) (g τ2 27) (g τ2 28) (g τ2 3) v142 p143 p144 p145 p146 p147 p148 p149 a0 (g τ2 0) (g τ2 1) v153 v153 v154 v155 v155 v156 p157 p158 p159 p160 p161 p162 p163 p164 p165 p166 p167 p168 (g τ2 3) (g τ2 3) v172 v174 v174 v176 v179 v182 p183 p184 p185 p186 (g τ2 0) v191 v191 v193 v196 v199 v203 v207 v211 v214 v217 v221 v225 v228 v231 a0 (g τ2 0) (g τ2 1) p167 v233 v233 v233 (g τ2 90) (g τ2 91) (g τ2 92) (g τ2 93) (g τ2 94) (g τ2 89) (g τ2 95) (g τ2 96) (g τ2 9) (g τ2 10) (g τ2 97) (g τ2 4) (g τ2 98) (g τ2 99) (g τ2 100) (g τ2 101) (g τ2 102) (g τ2 103) (g τ2 11) (g τ2 12) (g τ2 104) (g τ2 105) (g τ2 13) (g τ2 106) (g τ2 107) (g τ2 108) (g τ2 109) (g τ2 110) (g τ2 111) (g τ2 112) (g τ2 113) (g τ2 114) (g τ2 115) (g τ2 116) (g τ2 117) (g τ2 118) v233 (g τ2 119) (g τ2 120) (g τ2 121) (g τ2 3) (g τ2 122) (g τ2 123) (g τ2 124) (g τ2 125) (g τ2 126) (g τ2 127) (g τ2 128) (g τ2 1) w232) (
                      Cl Pr (callV (fn 277) #[a0, (g τ2 0), (g τ2 1), p167]) w229 fun v235 w234 => 
                      Qu Pr (Is w234) (Instr.extract v235 0) fun v236 =>
                      Qu Pr (Is w234) (Instr.extract v235 1) fun v237 =>
                      Qu Pr (Is w234) (binS .sub 3 (.tmp 103) (.tmp 104) v236 (g τ2 0)) fun v238 =>
                      Qu Pr (Is w234) (binS .sub 3 (.tmp 106) (.tmp 107) (g τ2 1) v236) fun v239 =>
                      Qu Pr (Is w234) (binS .quo 3 (.tmp 109) (.const (Value.int .i64 8)) v135 (Value.int .i64 8)) fun v240 =>
                      Qu Pr (Is w234) (binS .lss 3 (.tmp 111) (.tmp 112) v238 v239) fun v241 =>
                      Jo (fun (p242 : Value) (p243 : Value) (p244 : Value) (p245 : Value) (p246 : Value) (p247 : Value) (p248 : Value) (p249 : Value) (p250 : Value) (p251 : Value) (p252 : Value) (p253 : Value) (p254 : Value) (p255 : Value) (p256 : Value) (p257 : Value) (p258 : Value) (p259 : Value) (p260 : Value) (p261 : Value) (p262 : Value) (p263 : Value) (p264 : Value) (w265 : World) => (
                          J134 (g τ2 1) (g τ2 0) v135 v135 v135 v136 (g τ2 19) (g τ2 20) (g τ2 21) (g τ2 22) (g τ2 2) v139 (g τ2 25) (g τ2 26) (g τ2 27) (g τ2 28) (g τ2 3) v142 p143 p144 p145 p146 p147 p148 p149 a0 (g τ2 0) (g τ2 1) v153 v153 v154 v155 v155 v156 p157 p158 p159 p160 p161 p162 p163 p164 p165 p166 p167 p168 (g τ2 3) (g τ2 3) v172 v174 v174 v176 v179 v182 p183 p184 p185 p186 (g τ2 0) v191 v191 v193 v196 v199 v203 v207 v211 v214 v217 v221 v225 v228 v231 (g τ2 83) (g τ2 84) (g τ2 85) (g τ2 86) (g τ2 87) (g τ2 8) (g τ2 88) a0 (g τ2 0) (g τ2 1) p167 v235 v235 v236 v237 v236 v237 v237 v237 v236 (g τ2 0) v238 (g τ2 1) v236 v239 v238 v239 v135 v240 v240 v238 v239 v241 p242 p243 p244 p245 p246 p247 p248 p249 p250 p251 p252 p253 p254 p255 p256 p257 p258 p259 p260 p261 p262 p263 p264 w265 : Prop)) fun J266 =>
                      If v241 (
                        Qu Pr (Is w234) (binS .geq 3 (.tmp 114) (.tmp 115) v238 v240) fun v267 =>
                        Cl Pr (callV (fn 208) #[a0, (g τ2 0), v236, p149]) w234 fun v269 w268 => 
                        Qu Pr (Is w268) (binS .add 3 (.tmp 122) (.const (Value.int .i64 1)) v236 (Value.int .i64 1)) fun v270 =>
                        J266 v238 v240 v267 a0 (g τ2 0) v236 p149 v269 v236 v270 v270 (g τ2 119) (g τ2 120) (g τ2 121) v267 (g τ2 122) (g τ2 123) (g τ2 124) (g τ2 125) (g τ2 126) (g τ2 127) (g τ2 128) (g τ2 1) w268) (
                        Qu Pr (Is w234) (binS .geq 3 (.tmp 124) (.tmp 125) v239 v240) fun v271 =>
                        Qu Pr (Is w234) (binS .add 3 (.tmp 128) (.const (Value.int .i64 1)) v236 (Value.int .i64 1)) fun v272 =>
                        Cl Pr (callV (fn 208) #[a0, v272, (g τ2 1), p149]) w234 fun v274 w273 => 
                        J266 (g τ2 109) (g τ2 110) (g τ2 111) (g τ2 112) (g τ2 113) (g τ2 114) (g τ2 115) (g τ2 116) (g τ2 117) (g τ2 118) (g τ2 0) v239 v240 v271 v271 a0 v236 v272 (g τ2 1) p149 v274 v236 v236 w273))
@[irreducible] def t208_2 (τ2 : List Value) (w169 : World) (p168 : Value) (a0 : Value) (p167 : Value) (J134 : Value → Value → Value → Value → Value → Value → Value → Value → Value → Value → Value → Value → Value → Value → Value → Value → Value → Value → Value → Value → Value → Value → Value → Value → Value → Value → Value → Value → Value → Value → Value → Value → Value → Value → Value → Value → Value → Value → Value → Value → Value → Value → Value → Value → Value → Value → Value → Value → Value → Value → Value → Value → Value → Value → Value → Value → Value → Value → Value → Value → Value → Value → Value → Value → Value → Value → Value → Value → Value → Value → Value → Value → Value → Value → Value → Value → Value → Value → Value → Value → Value → Value → Value → Value → Value → Value → Value → Value → Value → Value → Value → Value → Value → Value → Value → Value → Value → Value → Value → Value → Value → Value → Value → Value → Value → Value → Value → Value → Value → Value → Value → Value → Value → Value → Value → Value → Value → Value → Value → Value → Value → Value → Value → Value → Value → Value → Value → Value → Value → World → Prop) (v135 : Value) (v136 : Value) (v139 : Value) (v142 : Value) (p143 : Value) (p144 : Value) (p145 : Value) (p146 : Value) (p147 : Value) (p148 : Value) (p149 : Value) (v153 : Value) (v154 : Value) (v155 : Value) (v156 : Value) (p157 : Value) (p158 : Value) (p159 : Value) (p160 : Value) (p161 : Value) (p162 : Value) (p163 : Value) (p164 : Value) (p165 : Value) (p166 : Value) (K : Value → World → Prop) : Prop :=
                Gd (g τ2 3) true (fun k171 => k171 (g τ2 4) w169) w169 fun v172 w173 =>
                Qu Pr (Is w173) (pickS (g τ2 3) v172 (Value.bool false)) fun v174 =>
                Gd v174 true (fun k175 => k175 p168 w173) w173 fun v176 w177 =>
                Gd v174 true (fun k178 => Qu Pr (Is w177) (binS .eql 363 (.tmp 66) (.const (Value.int .i64 1)) v176 (Value.int .i64 1)) fun v181 => k178 v181 w177) w177 fun v179 w180 =>
                Qu Pr (Is w180) (pickS v174 v179 (Value.bool false)) fun v182 =>
                Jo (fun (p183 : Value) (p184 : Value) (p185 : Value) (p186 : Value) (w187 : World) => (t208_1 w187 τ2 a0 p167 J134 v135 v136 v139 v142 p143 p144 p145 p146 p147 p148 p149 v153 v154 v155 v156 p157 p158 p159 p160 p161 p162 p163 p164 p165 p166 p168 v172 v174 v176 v179 v182 p183 p184 p185 p186 : Prop)) fun J188 =>
                If v182 (
                  Cl Pr (callV (fn 274) #[a0, (g τ2 0), (g τ2 1)]) w180 fun v276 w275 => 
                  If v276 (
                    K (.tuple #[]) w275) (
                    J188 a0 (g τ2 0) (g τ2 1) v276 w275)) (
                  J188 (g τ2 64) (g τ2 65) (g τ2 66) (g τ2 67) w180)
@[irreducible] def t208_3 (a0 : Value) (τ2 : List Value) (w150 : World) (J134 : Value → Value → Value → Value → Value → Value → Value → Value → Value → Value → Value → Value → Value → Value → Value → Value → Value → Value → Value → Value → Value → Value → Value → Value → Value → Value → Value → Value → Value → Value → Value → Value → Value → Value → Value → Value → Value → Value → Value → Value → Value → Value → Value → Value → Value → Value → Value → Value → Value → Value → Value → Value → Value → Value → Value → Value → Value → Value → Value → Value → Value → Value → Value → Value → Value → Value → Value → Value → Value → Value → Value → Value → Value → Value → Value → Value → Value → Value → Value → Value → Value → Value → Value → Value → Value → Value → Value → Value → Value → Value → Value → Value → Value → Value → Value → Value → Value → Value → Value → Value → Value → Value → Value → Value → Value → Value → Value → Value → Value → Value → Value → Value → Value → Value → Value → Value → Value → Value → Value → Value → Value → Value → Value → Value → Value → Value → Value → Value → Value → World → Prop) (v135 : Value) (v136 : Value) (v139 : Value) (v142 : Value) (p143 : Value) (p144 : Value) (p145 : Value) (p146 : Value) (p147 : Value) (p148 : Value) (p149 : Value) (K : Value → World → Prop) : Prop :=
            Cl Pr (callV (fn 272) #[a0, (g τ2 0), (g τ2 1)]) w150 fun v153 w152 => 
            Qu Pr (Is w152) (Instr.extract v153 0) fun v154 =>
            Qu Pr (Is w152) (Instr.extract v153 1) fun v155 =>
            Qu Pr (Is w152) (binS .eql 363 (.tmp 49) (.const (Value.int .i64 2)) v155 (Value.int .i64 2)) fun v156 =>
            Jo (fun (p157 : Value) (p158 : Value) (p159 : Value) (p160 : Value) (p161 : Value) (p162 : Value) (p163 : Value) (p164 : Value) (p165 : Value) (p166 : Value) (p167 : Value) (p168 : Value) (w169 : World) => (t208_2 τ2 w169 p168 a0 p167 J134 v135 v136 v139 v142 p143 p144 p145 p146 p147 p148 p149 v153 v154 v155 v156 p157 p158 p159 p160 p161 p162 p163 p164 p165 p166 K : Prop)) fun J170 =>
            If v156 (
              Cl Pr (callV (fn 273) #[a0, (g τ2 0), (g τ2 1)]) w152 fun v278 w277 => 
              Qu Pr (Is w277) (binS .sub 3 (.tmp 55) (.const (Value.int .i64 1)) (g τ2 1) (Value.int .i64 1)) fun v279 =>
              Qu Pr (Is w277) (binS .sub 3 (.tmp 57) (.tmp 58) v154 (g τ2 0)) fun v280 =>
              Qu Pr (Is w277) (binS .sub 3 (.tmp 56) (.tmp 59) v279 v280) fun v281 =>
              J170 a0 (g τ2 0) (g τ2 1) v278 (g τ2 1) v279 v154 (g τ2 0) v280 v281 v281 (Value.int .i64 1) w277) (
              J170 (g τ2 46) (g τ2 47) (g τ2 48) (g τ2 49) (g τ2 50) (g τ2 51) (g τ2 52) (g τ2 53) (g τ2 54) (g τ2 55) v154 v155 w152)
@[irreducible] def t208_4 (w3 : World) (τ2 : List Value) (a0 : Value) (J134 : Value → Value → Value → Value → Value → Value → Value → Value → Value → Value → Value → Value → Value → Value → Value → Value → Value → Value → Value → Value → Value → Value → Value → Value → Value → Value → Value → Value → Value → Value → Value → Value → Value → Value → Value → Value → Value → Value → Value → Value → Value → Value → Value → Value → Value → Value → Value → Value → Value → Value → Value → Value → Value → Value → Value → Value → Value → Value → Value → Value → Value → Value → Value → Value → Value → Value → Value → Value → Value → Value → Value → Value → Value → Value → Value → Value → Value → Value → Value → Value → Value → Value → Value → Value → Value → Value → Value → Value → Value → Value → Value → Value → Value → Value → Value → Value → Value → Value → Value → Value → Value → Value → Value → Value → Value → Value → Value → Value → Value → Value → Value → Value → Value → Value → Value → Value → Value → Value → Value → Value → Value → Value → Value → Value → Value → Value → Value → Value → Value → World → Prop) (v135 : Value) (v136 : Value) (v139 : Value) (K : Value → World → Prop) : Prop :=
        Qu Pr (Is w3) (Op.unary .not (g τ2 3)) fun v142 =>
        Jo (fun (p143 : Value) (p144 : Value) (p145 : Value) (p146 : Value) (p147 : Value) (p148 : Value) (p149 : Value) (w150 : World) => (t208_3 a0 τ2 w150 J134 v135 v136 v139 v142 p143 p144 p145 p146 p147 p148 p149 K : Prop)) fun J151 =>
        If v142 (
          Cl Pr (callV (fn 271) #[a0, (g τ2 0), (g τ2 1)]) w3 fun v283 w282 => 
          Qu Pr (Is w282) (binS .sub 3 (.tmp 40) (.const (Value.int .i64 1)) (g τ2 2) (Value.int .i64 1)) fun v284 =>
          J151 a0 (g τ2 0) (g τ2 1) v283 (g τ2 2) v284 v284 w282) (
          J151 (g τ2 31) (g τ2 32) (g τ2 33) (g τ2 34) (g τ2 35) (g τ2 36) (g τ2 2) w3)
@[irreducible] def t208_5 (w3 : World) (τ2 : List Value) (a0 : Value) (K : Value → World → Prop) (J134 : Value → Value → Value → Value → Value → Value → Value → Value → Value → Value → Value → Value → Value → Value → Value → Value → Value → Value → Value → Value → Value → Value → Value → Value → Value → Value → Value → Value → Value → Value → Value → Value → Value → Value → Value → Value → Value → Value → Value → Value → Value → Value → Value → Value → Value → Value → Value → Value → Value → Value → Value → Value → Value → Value → Value → Value → Value → Value → Value → Value → Value → Value → Value → Value → Value → Value → Value → Value → Value → Value → Value → Value → Value → Value → Value → Value → Value → Value → Value → Value → Value → Value → Value → Value → Value → Value → Value → Value → Value → Value → Value → Value → Value → Value → Value → Value → Value → Value → Value → Value → Value → Value → Value → Value → Value → Value → Value → Value → Value → Value → Value → Value → Value → Value → Value → Value → Value → Value → Value → Value → Value → Value → Value → Value → Value → Value → Value → Value → Value → World → Prop) (v135 : Value) (v136 : Value) : Prop :=
      Qu Pr (Is w3) (binS .eql 3 (.tmp 28) (.const (Value.int .i64 0)) (g τ2 2) (Value.int .i64 0)) fun v139 =>
      If v139 (
        Cl Pr (callV (fn 270) #[a0, (g τ2 0), (g τ2 1)]) w3 fun _ w140 => 
        K (.tuple #[]) w140) (t208_4 w3 τ2 a0 J134 v135 v136 v139 K)
/-- slices.pdqsortOrdered[uint64] -/
def t208 (a0 a1 a2 a3 : Value) (K : Value → World → Prop) (w : World) : Prop :=
  LoopW [a1, a2, a3, (Value.bool true), (Value.bool true), undef, undef, undef, undef, undef, undef, undef, undef, undef, undef, undef, undef, undef, undef, undef, undef, undef, undef, undef, undef, undef, undef, undef, undef, undef, undef, undef, undef, undef, undef, undef, undef, undef, undef, undef, undef, undef, undef, undef, undef, undef, undef, undef, undef, undef, undef, undef, undef, undef, undef, undef, undef, undef, undef, undef, undef, undef, undef, undef, undef, undef, undef, undef, undef, undef, undef, undef, undef, undef, undef, undef, undef, undef, undef, undef, undef, undef, undef, undef, undef, undef, undef, undef, undef, undef, undef, undef, undef, undef, undef, undef, undef, undef, undef, undef, undef, undef, undef, undef, undef, undef, undef, undef, undef, undef, undef, undef, undef, undef, undef, undef, undef, undef, undef, undef, undef, undef, undef, undef, undef, undef, undef, undef, undef] (fun r1 τ2 w3 =>
    Jo (fun (p4 : Value) (p5 : Value) (p6 : Value) (p7 : Value) (p8 : Value) (p9 : Value) (p10 : Value) (p11 : Value) (p12 : Value) (p13 : Value) (p14 : Value) (p15 : Value) (p16 : Value) (p17 : Value) (p18 : Value) (p19 : Value) (p20 : Value) (p21 : Value) (p22 : Value) (p23 : Value) (p24 : Value) (p25 : Value) (p26 : Value) (p27 : Value) (p28 : Value) (p29 : Value) (p30 : Value) (p31 : Value) (p32 : Value) (p33 : Value) (p34 : Value) (p35 : Value) (p36 : Value) (p37 : Value) (p38 : Value) (p39 : Value) (p40 : Value) (p41 : Value) (p42 : Value) (p43 : Value) (p44 : Value) (p45 : Value) (p46 : Value) (p47 : Value) (p48 : Value) (p49 : Value) (p50 : Value) (p51 : Value) (p52 : Value) (p53 : Value) (p54 : Value) (p55 : Value) (p56 : Value) (p57 : Value) (p58 : Value) (p59 : Value) (p60 : Value) (p61 : Value) (p62 : Value) (p63 : Value) (p64 : Value) (p65 : Value) (p66 : Value) (p67 : Value) (p68 : Value) (p69 : Value) (p70 : Value) (p71 : Value) (p72 : Value) (p73 : Value) (p74 : Value) (p75 : Value) (p76 : Value) (p77 : Value) (p78 : Value) (p79 : Value) (p80 : Value) (p81 : Value) (p82 : Value) (p83 : Value) (p84 : Value) (p85 : Value) (p86 : Value) (p87 : Value) (p88 : Value) (p89 : Value) (p90 : Value) (p91 : Value) (p92 : Value) (p93 : Value) (p94 : Value) (p95 : Value) (p96 : Value) (p97 : Value) (p98 : Value) (p99 : Value) (p100 : Value) (p101 : Value) (p102 : Value) (p103 : Value) (p104 : Value) (p105 : Value) (p106 : Value) (p107 : Value) (p108 : Value) (p109 : Value) (p110 : Value) (p111 : Value) (p112 : Value) (p113 : Value) (p114 : Value) (p115 : Value) (p116 : Value) (p117 : Value) (p118 : Value) (p119 : Value) (p120 : Value) (p121 : Value) (p122 : Value) (p123 : Value) (p124 : Value) (p125 : Value) (p126 : Value) (p127 : Value) (p128 : Value) (p129 : Value) (p130 : Value) (p131 : Value) (p132 : Value) (w133 : World) => (
        r1 [p120, p132, p28, p124, p95, p7, p48, p49, p82, p92, p93, p102, p103, p106, p4, p5, p6, p8, p9, p10, p11, p12, p13, p14, p15, p16, p17, p18, p19, p20, p21, p22, p23, p24, p25, p26, p27, p33, p29, p30, p31, p32, p34, p35, p36, p37, p38, p39, p40, p41, p42, p43, p44, p45, p46, p47, p50, p51, p52, p53, p54, p55, p56, p57, p58, p59, p60, p61, p62, p63, p64, p65, p66, p67, p68, p69, p70, p71, p72, p73, p74, p75, p76, p77, p78, p79, p80, p81, p83, p89, p84, p85, p86, p87, p88, p90, p91, p94, p96, p97, p98, p99, p100, p101, p104, p105, p107, p108, p109, p110, p111, p112, p113, p114, p115, p116, p117, p118, p119, p121, p122, p123, p125, p126, p127, p128, p129, p130, p131] w133 : Prop)) fun J134 =>
    Qu Pr (Is w3) (binS .sub 3 (.tmp 19) (.tmp 20) (g τ2 1) (g τ2 0)) fun v135 =>
    Qu Pr (Is w3) (binS .leq 3 (.tmp 22) (.const (Value.int .i64 12)) v135 (Value.int .i64 12)) fun v136 =>
    If v136 (
      Cl Pr (callV (fn 269) #[a0, (g τ2 0), (g τ2 1)]) w3 fun _ w137 => 
      K (.tuple #[]) w137) (t208_5 w3 τ2 a0 K J134 v135 v136)) w
theorem c208 {a0 a1 a2 a3 : Value} {K : Value → World → Prop} {w : World} (h : t208 a0 a1 a2 a3 K w) : CK Pr 208 #[a0, a1, a2, a3] w K := by
  refine calls_of_RF [(2, [1, 2, 3, 8, 9, 10, 11, 12, 13, 14, 15, 16, 17, 18, 19, 20, 21, 22, 23, 24, 25, 26, 27, 28, 29, 30, 31, 32, 33, 34, 35, 36, 37, 38, 39, 40, 41, 42, 43, 44, 45, 46, 47, 48, 49, 50, 51, 52, 53, 54, 55, 56, 57, 58, 59, 60, 61, 62, 63, 64, 65, 66, 67, 68, 69, 70, 71, 72, 73, 74, 75, 76, 77, 78, 79, 80, 81, 82, 83, 84, 85, 86, 87, 88, 89, 90, 91, 92, 93, 94, 95, 96, 97, 98, 99, 100, 101, 102, 103, 104, 105, 106, 107, 108, 109, 110, 111, 112, 113, 114, 115, 116, 117, 118, 119, 120, 121, 122, 123, 124, 125, 126, 127, 128, 129, 130, 131, 132, 133])] Tryz.func208 rfl ?_ ?_ ?_
  · kernel_rfl
  · exact Nat.le_of_ble_eq_true rfl
  · exact cast (by kernel_rfl) h

/-- math/bits.Len -/
def t209 (a0 : Value) (K : Value → World → Prop) (w : World) : Prop :=
  If (Value.bool false) (
    Qu Pr (Is w) (convert 305 371 a0) fun v1 =>
    Cl Pr (callV (fn 278) #[v1]) w fun v3 w2 => 
    K v3 w2) (
    Cl Pr (callV (fn 279) #[a0]) w fun v5 w4 => 
    K v5 w4)
theorem c209 {a0 : Value} {K : Value → World → Prop} {w : World} (h : t209 a0 K w) : CK Pr 209 #[a0] w K := by
  refine calls_of_RF [] Tryz.func209 rfl ?_ ?_ ?_
  · kernel_rfl
  · exact Nat.le_of_ble_eq_true rfl
  · exact cast (by kernel_rfl) h

/-- slices.insertionSortOrdered[uint64] -/
def t269 (a0 a1 a2 : Value) (K : Value → World → Prop) (w : World) : Prop :=
  Qu Pr (Is w) (binS .add 3 (.tmp 8) (.const (Value.int .i64 1)) a1 (Value.int .i64 1)) fun v1 =>
  LoopW [v1, undef, undef, undef, undef, undef, undef, undef, undef, undef, undef, undef, undef, undef, undef, undef, undef, undef, undef, undef, undef, undef, undef, undef, undef, undef, undef, undef, undef, undef, undef, undef, undef, undef, undef, undef, undef, undef, undef, undef, undef] (fun r2 τ3 w4 =>
    Qu Pr (Is w4) (binS .lss 3 (.tmp 10) (.tmp 11) (g τ3 0) a2) fun v5 =>
    If v5 (
      LoopW [(g τ3 0), (g τ3 8), (g τ3 9), (g τ3 10), (g τ3 11), (g τ3 12), (g τ3 13), (g τ3 14), (g τ3 15), (g τ3 16), (g τ3 17), (g τ3 18), (g τ3 19), (g τ3 20), (g τ3 21), (g τ3 22), (g τ3 23), (g τ3 24), (g τ3 25), (g τ3 26), (g τ3 27), (g τ3 28), (g τ3 29), (g τ3 30), (g τ3 31), (g τ3 32), (g τ3 33), (g τ3 34), (g τ3 35), (g τ3 36), (g τ3 37), (g τ3 38), (g τ3 39), (g τ3 40)] (fun r6 τ7 w8 =>
        Dr w8 fun S9 w10 =>
        Qu Pr (S9) (binS .gtr 3 (.tmp 16) (.tmp 17) (g τ7 0) a1) fun v11 =>
        Gd v11 true (fun k12 => k12 a0 w10) w10 fun v13 w14 =>
        Gd v11 true (fun k15 => k15 (g τ7 0) w14) w14 fun v16 w17 =>
        Gd v11 true (fun k18 => Qu Pr (S9) (Instr.indexAt 23 v13 v16) fun v21 => k18 v21 w17) w17 fun v19 w20 =>
        Gd v11 true (fun k22 => Qu Pr (S9) (Instr.loadAt 22 v19) fun v25 => k22 v25 w20) w20 fun v23 w24 =>
        Gd v11 true (fun k26 => k26 a0 w24) w24 fun v27 w28 =>
        Gd v11 true (fun k29 => k29 (g τ7 0) w28) w28 fun v30 w31 =>
        Gd v11 true (fun k32 => Qu Pr (S9) (binS .sub 3 (.tmp 25) (.const (Value.int .i64 1)) v30 (Value.int .i64 1)) fun v35 => k32 v35 w31) w31 fun v33 w34 =>
        Gd v11 true (fun k36 => Qu Pr (S9) (Instr.indexAt 23 v27 v33) fun v39 => k36 v39 w34) w34 fun v37 w38 =>
        Gd v11 true (fun k40 => Qu Pr (S9) (Instr.loadAt 22 v37) fun v43 => k40 v43 w38) w38 fun v41 w42 =>
        Gd v11 true (fun k44 => Cl Pr (callV (fn 275) #[v23, v41]) w42 fun v45x w46x => S9 w46x ∧ k44 v45x w46x) w42 fun v45 w46 =>
        Qu Pr (S9) (pickS v11 v45 (Value.bool false)) fun v47 =>
        If v47 (
          Dr w46 fun S48 w49 =>
          Qu Pr (S48) (binS .sub 3 (.tmp 36) (.const (Value.int .i64 1)) (g τ7 0) (Value.int .i64 1)) fun v50 =>
          Qu Pr (Is w49) (binS .sub 3 (.tmp 39) (.const (Value.int .i64 1)) (g τ7 0) (Value.int .i64 1)) fun v51 =>
          Qu Pr (Is w49) (Instr.indexAt 23 a0 v51) fun v52 =>
          Qu Pr (Is w49) (Instr.loadAt 22 v52) fun v53 =>
          Qu Pr (Is w49) (Instr.indexAt 23 a0 (g τ7 0)) fun v54 =>
          Qu Pr (Is w49) (Instr.loadAt 22 v54) fun v55 =>
          Qu Pr (Is w49) (Instr.indexAt 23 a0 (g τ7 0)) fun v56 =>
          Eu Pr (Instr.storeAt 22 v56 v53) w49 fun w57 => S48 w57 ∧ 
          Qu Pr (S48) (Instr.indexAt 23 a0 v50) fun v58 =>
          Eu Pr (Instr.storeAt 22 v58 v55) w57 fun w59 => S48 w59 ∧ 
          Qu Pr (Is w59) (binS .sub 3 (.tmp 31) (.const (Value.int .i64 1)) (g τ7 0) (Value.int .i64 1)) fun v60 =>
          r6 [v60, (g τ7 0), a1, v11, v11, v13, v16, v19, v23, v27, v30, v33, v37, v41, v45, v47, (g τ7 0), v60, a0, (g τ7 0), a0, (g τ7 0), v50, a0, (g τ7 0), v51, v52, v53, a0, (g τ7 0), v54, v55, v56, v58] w59) (
          Qu Pr (Is w46) (binS .add 3 (.tmp 13) (.const (Value.int .i64 1)) (g τ3 0) (Value.int .i64 1)) fun v61 =>
          r2 [v61, (g τ7 0), (g τ3 0), a2, v5, (g τ3 0), v61, (g τ3 0), (g τ7 0), a1, v11, v11, v13, v16, v19, v23, v27, v30, v33, v37, v41, v45, v47, (g τ7 16), (g τ7 17), (g τ7 18), (g τ7 19), (g τ7 20), (g τ7 21), (g τ7 22), (g τ7 23), (g τ7 24), (g τ7 25), (g τ7 26), (g τ7 27), (g τ7 28), (g τ7 29), (g τ7 30), (g τ7 31), (g τ7 32), (g τ7 33)] w46)) w4) (
      K (.tuple #[]) w4)) w
theorem c269 {a0 a1 a2 : Value} {K : Value → World → Prop} {w : World} (h : t269 a0 a1 a2 K w) : CK Pr 269 #[a0, a1, a2] w K := by
  refine calls_of_RF [(1, [6, 7, 10, 11, 12, 13, 14, 15, 16, 17, 18, 19, 20, 21, 22, 23, 24, 25, 26, 27, 28, 29, 30, 31, 32, 33, 34, 35, 36, 37, 38, 39, 40, 41, 42, 43, 44, 45, 46, 47, 48]), (4, [7, 16, 17, 18, 19, 20, 21, 22, 23, 24, 25, 26, 27, 28, 29, 30, 31, 32, 33, 34, 35, 36, 37, 38, 39, 40, 41, 42, 43, 44, 45, 46, 47, 48])] Tryz.func269 rfl ?_ ?_ ?_
  · kernel_rfl
  · exact Nat.le_of_ble_eq_true rfl
  · exact cast (by kernel_rfl) h

/-- slices.choosePivotOrdered[uint64] -/
def t272 (a0 a1 a2 : Value) (K : Value → World → Prop) (w : World) : Prop :=
  Qu Pr (Is w) (binS .sub 3 (.tmp 13) (.tmp 14) a2 a1) fun v1 =>
  Ef Pr (Instr.alloc 3 true (.tuple #[])) w fun v3 w2 => 
  Qu Pr (Is w2) (binS .quo 3 (.tmp 17) (.const (Value.int .i64 4)) v1 (Value.int .i64 4)) fun v4 =>
  Qu Pr (Is w2) (binS .mul 3 (.tmp 18) (.const (Value.int .i64 1)) v4 (Value.int .i64 1)) fun v5 =>
  Qu Pr (Is w2) (binS .add 3 (.tmp 16) (.tmp 19) a1 v5) fun v6 =>
  Qu Pr (Is w2) (binS .quo 3 (.tmp 22) (.const (Value.int .i64 4)) v1 (Value.int .i64 4)) fun v7 =>
  Qu Pr (Is w2) (binS .mul 3 (.tmp 23) (.const (Value.int .i64 2)) v7 (Value.int .i64 2)) fun v8 =>
  Qu Pr (Is w2) (binS .add 3 (.tmp 21) (.tmp 24) a1 v8) fun v9 =>
  Qu Pr (Is w2) (binS .quo 3 (.tmp 27) (.const (Value.int .i64 4)) v1 (Value.int .i64 4)) fun v10 =>
  Qu Pr (Is w2) (binS .mul 3 (.tmp 28) (.const (Value.int .i64 3)) v10 (Value.int .i64 3)) fun v11 =>
  Qu Pr (Is w2) (binS .add 3 (.tmp 26) (.tmp 29) a1 v11) fun v12 =>
  Qu Pr (Is w2) (binS .geq 3 (.tmp 31) (.const (Value.int .i64 8)) v1 (Value.int .i64 8)) fun v13 =>
  Jo (fun (p32 : Value) (w33 : World) => (
      Qu Pr (Is w33) (Instr.loadAt 3 v3) fun v35 =>
      Qu Pr (Is w33) (binS .eql 3 (.tmp 49) (.const (Value.int .i64 0)) v35 (Value.int .i64 0)) fun v36 =>
      If v36 (
        K (.tuple #[p32, (Value.int .i64 1)]) w33) (
        Qu Pr (Is w33) (binS .eql 3 (.tmp 49) (.const (Value.int .i64 12)) v35 (Value.int .i64 12)) fun v37 =>
        If v37 (
          K (.tuple #[p32, (Value.int .i64 2)]) w33) (
          K (.tuple #[p32, (Value.int .i64 0)]) w33)) : Prop)) fun J34 =>
  If v13 (
    Qu Pr (Is w2) (binS .geq 3 (.tmp 33) (.const (Value.int .i64 50)) v1 (Value.int .i64 50)) fun v38 =>
    Jo (fun (p42 : Value) (p46 : Value) (p50 : Value) (w51 : World) => (
        Cl Pr (callV (fn 314) #[a0, p42, p46, p50, v3]) w51 fun v54 w53 => 
        J34 v54 w53 : Prop)) fun J52 =>
    If v38 (
      Cl Pr (callV (fn 313) #[a0, v6, v3]) w2 fun v56 w55 => 
      Cl Pr (callV (fn 313) #[a0, v9, v3]) w55 fun v58 w57 => 
      Cl Pr (callV (fn 313) #[a0, v12, v3]) w57 fun v60 w59 => 
      J52 v56 v58 v60 w59) (
      J52 v6 v9 v12 w2)) (
    J34 v9 w2)
theorem c272 {a0 a1 a2 : Value} {K : Value → World → Prop} {w : World} (h : t272 a0 a1 a2 K w) : CK Pr 272 #[a0, a1, a2] w K := by
  refine calls_of_RF [] Tryz.func272 rfl ?_ ?_ ?_
  · kernel_rfl
  · exact Nat.le_of_ble_eq_true rfl
  · exact cast (by kernel_rfl) h

/-- slices.reverseRangeOrdered[uint64] -/
def t273 (a0 a1 a2 : Value) (K : Value → World → Prop) (w : World) : Prop :=
  Qu Pr (Is w) (binS .sub 3 (.tmp 9) (.const (Value.int .i64 1)) a2 (Value.int .i64 1)) fun v1 =>
  LoopW [a1, v1, undef, undef, undef, undef, undef, undef, undef, undef, undef, undef, undef, undef, undef, undef, undef, undef, undef, undef, undef, undef, undef] (fun r2 τ3 w4 =>
    Qu Pr (Is w4) (binS .lss 3 (.tmp 11) (.tmp 12) (g τ3 0) (g τ3 1)) fun v5 =>
    If v5 (
      Dr w4 fun S6 w7 =>
      Qu Pr (Is w7) (Instr.indexAt 23 a0 (g τ3 1)) fun v8 =>
      Qu Pr (Is w7) (Instr.loadAt 22 v8) fun v9 =>
      Qu Pr (Is w7) (Instr.indexAt 23 a0 (g τ3 0)) fun v10 =>
      Qu Pr (Is w7) (Instr.loadAt 22 v10) fun v11 =>
      Qu Pr (Is w7) (Instr.indexAt 23 a0 (g τ3 0)) fun v12 =>
      Eu Pr (Instr.storeAt 22 v12 v9) w7 fun w13 => S6 w13 ∧ 
      Qu Pr (S6) (Instr.indexAt 23 a0 (g τ3 1)) fun v14 =>
      Eu Pr (Instr.storeAt 22 v14 v11) w13 fun w15 => S6 w15 ∧ 
      Qu Pr (Is w15) (binS .add 3 (.tmp 28) (.const (Value.int .i64 1)) (g τ3 0) (Value.int .i64 1)) fun v16 =>
      Qu Pr (Is w15) (binS .sub 3 (.tmp 30) (.const (Value.int .i64 1)) (g τ3 1) (Value.int .i64 1)) fun v17 =>
      r2 [v16, v17, (g τ3 0), (g τ3 1), v5, a0, (g τ3 0), a0, (g τ3 1), a0, (g τ3 1), v8, v9, a0, (g τ3 0), v10, v11, v12, v14, (g τ3 0), v16, (g τ3 1), v17] w15) (
      K (.tuple #[]) w4)) w
theorem c273 {a0 a1 a2 : Value} {K : Value → World → Prop} {w : World} (h : t273 a0 a1 a2 K w) : CK Pr 273 #[a0, a1, a2] w K := by
  refine calls_of_RF [(2, [6, 7, 11, 12, 13, 14, 15, 16, 17, 18, 19, 20, 21, 22, 23, 24, 25, 26, 27, 28, 29, 30, 31])] Tryz.func273 rfl ?_ ?_ ?_
  · kernel_rfl
  · exact Nat.le_of_ble_eq_true rfl
  · exact cast (by kernel_rfl) h

@[irreducible] def t274_1 (w104 : World) (a2 : Value) (τ7 : List Value) (τ3 : List Value) (r2 : List Value → World → Prop) (p103 : Value) (v5 : Value) (v11 : Value) (v13 : Value) (v16 : Value) (v19 : Value) (v23 : Value) (v27 : Value) (v30 : Value) (v33 : Value) (v37 : Value) (v41 : Value) (v45 : Value) (v48 : Value) (v51 : Value) (v53 : Value) (a1 : Value) (v54 : Value) (v55 : Value) (a0 : Value) (v58 : Value) (v59 : Value) (v60 : Value) (v61 : Value) (v62 : Value) (v63 : Value) (v64 : Value) (v66 : Value) (v68 : Value) (v69 : Value) (p70 : Value) (p71 : Value) (p72 : Value) (p73 : Value) (p101 : Value) (p102 : Value) (p74 : Value) (p75 : Value) (p76 : Value) (p77 : Value) (p78 : Value) (p79 : Value) (p80 : Value) (p81 : Value) (p82 : Value) (p83 : Value) (p84 : Value) (p85 : Value) (p86 : Value) (p87 : Value) (p88 : Value) (p89 : Value) (p90 : Value) (p91 : Value) (p92 : Value) (p93 : Value) (p94 : Value) (p95 : Value) (p96 : Value) (p97 : Value) (p98 : Value) (p99 : Value) (p100 : Value) : Prop :=
                  Qu Pr (Is w104) (binS .sub 3 (.tmp 95) (.tmp 96) a2 (g τ7 0)) fun v106 =>
                  Qu Pr (Is w104) (binS .geq 3 (.tmp 97) (.const (Value.int .i64 2)) v106 (Value.int .i64 2)) fun v107 =>
                  Jo (fun (p108 : Value) (p109 : Value) (p110 : Value) (p111 : Value) (p112 : Value) (p113 : Value) (p114 : Value) (p115 : Value) (p116 : Value) (p117 : Value) (p118 : Value) (p119 : Value) (p120 : Value) (p121 : Value) (p122 : Value) (p123 : Value) (p124 : Value) (p125 : Value) (p126 : Value) (p127 : Value) (p128 : Value) (p129 : Value) (p130 : Value) (p131 : Value) (p132 : Value) (p133 : Value) (p134 : Value) (p135 : Value) (p136 : Value) (p137 : Value) (p138 : Value) (p139 : Value) (p140 : Value) (p141 : Value) (p142 : Value) (w143 : World) => (
                      Qu Pr (Is w143) (binS .add 3 (.tmp 15) (.const (Value.int .i64 1)) (g τ3 2) (Value.int .i64 1)) fun v145 =>
                      r2 [(g τ3 0), (g τ7 0), v145, p103, p142, (g τ3 2), v5, (g τ3 2), v145, (g τ7 0), a2, v11, v11, v13, v16, v19, v23, v27, v30, v33, v37, v41, v45, v48, v51, (g τ7 17), (g τ7 18), (g τ7 0), a2, v53, a2, a1, v54, v55, a0, (g τ7 0), a0, (g τ7 0), v58, a0, (g τ7 0), v59, v60, v61, a0, (g τ7 0), v62, v63, v64, v66, (g τ7 0), a1, v68, v69, p70, p71, p72, p73, p101, p102, p74, p75, p76, p77, p78, p79, p80, p81, p82, p83, p84, p85, p86, p87, p88, p89, p90, p91, p92, p93, p94, p95, p96, p97, p98, p99, p100, a2, (g τ7 0), v106, v107, p108, p109, p110, p111, p112, p140, p141, p113, p114, p115, p116, p117, p118, p119, p120, p121, p122, p123, p124, p125, p126, p127, p128, p129, p130, p131, p132, p133, p134, p135, p136, p137, p138, p139] w143 : Prop)) fun J144 =>
                  If v107 (
                    Qu Pr (Is w104) (binS .add 3 (.tmp 99) (.const (Value.int .i64 1)) (g τ7 0) (Value.int .i64 1)) fun v146 =>
                    Jo (fun (p147 : Value) (p148 : Value) (p149 : Value) (p150 : Value) (p151 : Value) (p152 : Value) (p153 : Value) (p154 : Value) (p155 : Value) (p156 : Value) (p157 : Value) (p158 : Value) (p159 : Value) (p160 : Value) (p161 : Value) (p162 : Value) (p163 : Value) (p164 : Value) (p165 : Value) (p166 : Value) (p167 : Value) (p168 : Value) (p169 : Value) (p170 : Value) (p171 : Value) (p172 : Value) (p173 : Value) (p174 : Value) (p175 : Value) (p176 : Value) (p177 : Value) (p178 : Value) (p179 : Value) (w180 : World) => (
                        J144 (g τ7 0) v146 p147 p148 p149 p150 p151 p152 p153 p154 p155 p156 p157 p158 p159 p160 p161 p162 p163 p164 p165 p166 p167 p168 p169 p170 p171 p172 p173 p174 p175 p176 p177 p178 p179 w180 : Prop)) fun J181 =>
                    LoopW [v146, (g τ3 93), (g τ3 94), (g τ3 95), (g τ3 96), (g τ3 97), (g τ3 98), (g τ3 99), (g τ3 100), (g τ3 101), (g τ3 102), (g τ3 103), (g τ3 104), (g τ3 105), (g τ3 106), (g τ3 107), (g τ3 108), (g τ3 109), (g τ3 110), (g τ3 111), (g τ3 112), (g τ3 113), (g τ3 114), (g τ3 115), (g τ3 116), (g τ3 117), (g τ3 118), (g τ3 119), (g τ3 120), (g τ3 121), (g τ3 122), (g τ3 123), (g τ3 124)] (fun r182 τ183 w184 =>
                      Qu Pr (Is w184) (binS .lss 3 (.tmp 101) (.tmp 102) (g τ183 0) a2) fun v185 =>
                      If v185 (
                        Dr w184 fun S186 w187 =>
                        Qu Pr (S186) (Instr.indexAt 23 a0 (g τ183 0)) fun v188 =>
                        Qu Pr (S186) (Instr.loadAt 22 v188) fun v189 =>
                        Qu Pr (S186) (binS .sub 3 (.tmp 111) (.const (Value.int .i64 1)) (g τ183 0) (Value.int .i64 1)) fun v190 =>
                        Qu Pr (S186) (Instr.indexAt 23 a0 v190) fun v191 =>
                        Qu Pr (S186) (Instr.loadAt 22 v191) fun v192 =>
                        Cl Pr (callV (fn 275) #[v189, v192]) w187 fun v194 w193 => S186 w193 ∧ 
                        Qu Pr (S186) (Op.unary .not v194) fun v195 =>
                        If v195 (
                          J181 (g τ183 0) a2 v185 a0 (g τ183 0) v188 v189 a0 (g τ183 0) v190 v191 v192 v194 v195 (g τ183 17) (g τ183 18) (g τ183 19) (g τ183 20) (g τ183 21) (g τ183 22) (g τ183 23) (g τ183 24) (g τ183 25) (g τ183 26) (g τ183 27) (g τ183 28) (g τ183 29) (g τ183 30) (g τ183 31) (g τ183 32) (g τ183 4) (g τ183 5) (g τ183 0) w193) (
                          Dr w193 fun S196 w197 =>
                          Qu Pr (S196) (binS .sub 3 (.tmp 120) (.const (Value.int .i64 1)) (g τ183 0) (Value.int .i64 1)) fun v198 =>
                          Qu Pr (Is w197) (binS .sub 3 (.tmp 123) (.const (Value.int .i64 1)) (g τ183 0) (Value.int .i64 1)) fun v199 =>
                          Qu Pr (Is w197) (Instr.indexAt 23 a0 v199) fun v200 =>
                          Qu Pr (Is w197) (Instr.loadAt 22 v200) fun v201 =>
                          Qu Pr (Is w197) (Instr.indexAt 23 a0 (g τ183 0)) fun v202 =>
                          Qu Pr (Is w197) (Instr.loadAt 22 v202) fun v203 =>
                          Qu Pr (Is w197) (Instr.indexAt 23 a0 (g τ183 0)) fun v204 =>
                          Eu Pr (Instr.storeAt 22 v204 v201) w197 fun w205 => S196 w205 ∧ 
                          Qu Pr (S196) (Instr.indexAt 23 a0 v198) fun v206 =>
                          Eu Pr (Instr.storeAt 22 v206 v203) w205 fun w207 => S196 w207 ∧ 
                          Qu Pr (Is w207) (binS .add 3 (.tmp 104) (.const (Value.int .i64 1)) (g τ183 0) (Value.int .i64 1)) fun v208 =>
                          r182 [v208, (g τ183 0), a2, v185, (g τ183 0), v208, a0, (g τ183 0), v188, v189, a0, (g τ183 0), v190, v191, v192, v194, v195, a0, (g τ183 0), a0, (g τ183 0), v198, a0, (g τ183 0), v199, v200, v201, a0, (g τ183 0), v202, v203, v204, v206] w207)) (
                        J181 (g τ183 0) a2 v185 (g τ183 6) (g τ183 7) (g τ183 8) (g τ183 9) (g τ183 10) (g τ183 11) (g τ183 12) (g τ183 13) (g τ183 14) (g τ183 15) (g τ183 16) (g τ183 17) (g τ183 18) (g τ183 19) (g τ183 20) (g τ183 21) (g τ183 22) (g τ183 23) (g τ183 24) (g τ183 25) (g τ183 26) (g τ183 27) (g τ183 28) (g τ183 29) (g τ183 30) (g τ183 31) (g τ183 32) (g τ183 4) (g τ183 5) (g τ183 0) w184)) w104) (
                    J144 (g τ3 91) (g τ3 92) (g τ3 93) (g τ3 94) (g τ3 95) (g τ3 98) (g τ3 99) (g τ3 100) (g τ3 101) (g τ3 102) (g τ3 103) (g τ3 104) (g τ3 105) (g τ3 106) (g τ3 107) (g τ3 108) (g τ3 109) (g τ3 110) (g τ3 111) (g τ3 112) (g τ3 113) (g τ3 114) (g τ3 115) (g τ3 116) (g τ3 117) (g τ3 118) (g τ3 119) (g τ3 120) (g τ3 121) (g τ3 122) (g τ3 123) (g τ3 124) (g τ3 96) (g τ3 97) (g τ3 4) w104)
@[irreducible] def t274_2 (w49 : World) (τ7 : List Value) (a0 : Value) (a1 : Value) (a2 : Value) (τ3 : List Value) (r2 : List Value → World → Prop) (v5 : Value) (v11 : Value) (v13 : Value) (v16 : Value) (v19 : Value) (v23 : Value) (v27 : Value) (v30 : Value) (v33 : Value) (v37 : Value) (v41 : Value) (v45 : Value) (v48 : Value) (v51 : Value) (v53 : Value) (v54 : Value) (v55 : Value) : Prop :=
              Dr w49 fun S56 w57 =>
              Qu Pr (S56) (binS .sub 3 (.tmp 45) (.const (Value.int .i64 1)) (g τ7 0) (Value.int .i64 1)) fun v58 =>
              Qu Pr (Is w57) (binS .sub 3 (.tmp 48) (.const (Value.int .i64 1)) (g τ7 0) (Value.int .i64 1)) fun v59 =>
              Qu Pr (Is w57) (Instr.indexAt 23 a0 v59) fun v60 =>
              Qu Pr (Is w57) (Instr.loadAt 22 v60) fun v61 =>
              Qu Pr (Is w57) (Instr.indexAt 23 a0 (g τ7 0)) fun v62 =>
              Qu Pr (Is w57) (Instr.loadAt 22 v62) fun v63 =>
              Qu Pr (Is w57) (Instr.indexAt 23 a0 (g τ7 0)) fun v64 =>
              Eu Pr (Instr.storeAt 22 v64 v61) w57 fun w65 => S56 w65 ∧ 
              Qu Pr (S56) (Instr.indexAt 23 a0 v58) fun v66 =>
              Eu Pr (Instr.storeAt 22 v66 v63) w65 fun w67 => S56 w67 ∧ 
              Qu Pr (Is w67) (binS .sub 3 (.tmp 58) (.tmp 59) (g τ7 0) a1) fun v68 =>
              Qu Pr (Is w67) (binS .geq 3 (.tmp 60) (.const (Value.int .i64 2)) v68 (Value.int .i64 2)) fun v69 =>
              Jo (fun (p70 : Value) (p71 : Value) (p72 : Value) (p73 : Value) (p74 : Value) (p75 : Value) (p76 : Value) (p77 : Value) (p78 : Value) (p79 : Value) (p80 : Value) (p81 : Value) (p82 : Value) (p83 : Value) (p84 : Value) (p85 : Value) (p86 : Value) (p87 : Value) (p88 : Value) (p89 : Value) (p90 : Value) (p91 : Value) (p92 : Value) (p93 : Value) (p94 : Value) (p95 : Value) (p96 : Value) (p97 : Value) (p98 : Value) (p99 : Value) (p100 : Value) (p101 : Value) (p102 : Value) (p103 : Value) (w104 : World) => (t274_1 w104 a2 τ7 τ3 r2 p103 v5 v11 v13 v16 v19 v23 v27 v30 v33 v37 v41 v45 v48 v51 v53 a1 v54 v55 a0 v58 v59 v60 v61 v62 v63 v64 v66 v68 v69 p70 p71 p72 p73 p101 p102 p74 p75 p76 p77 p78 p79 p80 p81 p82 p83 p84 p85 p86 p87 p88 p89 p90 p91 p92 p93 p94 p95 p96 p97 p98 p99 p100 : Prop)) fun J105 =>
              If v69 (
                Qu Pr (Is w67) (binS .sub 3 (.tmp 62) (.const (Value.int .i64 1)) (g τ7 0) (Value.int .i64 1)) fun v209 =>
                Jo (fun (p210 : Value) (p211 : Value) (p212 : Value) (p213 : Value) (p214 : Value) (p215 : Value) (p216 : Value) (p217 : Value) (p218 : Value) (p219 : Value) (p220 : Value) (p221 : Value) (p222 : Value) (p223 : Value) (p224 : Value) (p225 : Value) (p226 : Value) (p227 : Value) (p228 : Value) (p229 : Value) (p230 : Value) (p231 : Value) (p232 : Value) (p233 : Value) (p234 : Value) (p235 : Value) (p236 : Value) (p237 : Value) (p238 : Value) (p239 : Value) (p240 : Value) (p241 : Value) (w242 : World) => (
                    J105 (g τ7 0) v209 p210 p211 p212 p213 p214 p215 p216 p217 p218 p219 p220 p221 p222 p223 p224 p225 p226 p227 p228 p229 p230 p231 p232 p233 p234 p235 p236 p237 p238 p239 p240 p241 w242 : Prop)) fun J243 =>
                LoopW [v209, (g τ3 56), (g τ3 57), (g τ3 58), (g τ3 59), (g τ3 60), (g τ3 61), (g τ3 62), (g τ3 63), (g τ3 64), (g τ3 65), (g τ3 66), (g τ3 67), (g τ3 68), (g τ3 69), (g τ3 70), (g τ3 71), (g τ3 72), (g τ3 73), (g τ3 74), (g τ3 75), (g τ3 76), (g τ3 77), (g τ3 78), (g τ3 79), (g τ3 80), (g τ3 81), (g τ3 82), (g τ3 83), (g τ3 84), (g τ3 85), (g τ3 86)] (fun r244 τ245 w246 =>
                  Qu Pr (Is w246) (binS .geq 3 (.tmp 64) (.const (Value.int .i64 1)) (g τ245 0) (Value.int .i64 1)) fun v247 =>
                  If v247 (
                    Dr w246 fun S248 w249 =>
                    Qu Pr (S248) (Instr.indexAt 23 a0 (g τ245 0)) fun v250 =>
                    Qu Pr (S248) (Instr.loadAt 22 v250) fun v251 =>
                    Qu Pr (S248) (binS .sub 3 (.tmp 73) (.const (Value.int .i64 1)) (g τ245 0) (Value.int .i64 1)) fun v252 =>
                    Qu Pr (S248) (Instr.indexAt 23 a0 v252) fun v253 =>
                    Qu Pr (S248) (Instr.loadAt 22 v253) fun v254 =>
                    Cl Pr (callV (fn 275) #[v251, v254]) w249 fun v256 w255 => S248 w255 ∧ 
                    Qu Pr (S248) (Op.unary .not v256) fun v257 =>
                    If v257 (
                      J243 (g τ245 0) v247 a0 (g τ245 0) v250 v251 a0 (g τ245 0) v252 v253 v254 v256 v257 (g τ245 16) (g τ245 17) (g τ245 18) (g τ245 19) (g τ245 20) (g τ245 21) (g τ245 22) (g τ245 23) (g τ245 24) (g τ245 25) (g τ245 26) (g τ245 27) (g τ245 28) (g τ245 29) (g τ245 30) (g τ245 31) (g τ245 3) (g τ245 4) (g τ245 0) w255) (
                      Dr w255 fun S258 w259 =>
                      Qu Pr (S258) (binS .sub 3 (.tmp 82) (.const (Value.int .i64 1)) (g τ245 0) (Value.int .i64 1)) fun v260 =>
                      Qu Pr (Is w259) (binS .sub 3 (.tmp 85) (.const (Value.int .i64 1)) (g τ245 0) (Value.int .i64 1)) fun v261 =>
                      Qu Pr (Is w259) (Instr.indexAt 23 a0 v261) fun v262 =>
                      Qu Pr (Is w259) (Instr.loadAt 22 v262) fun v263 =>
                      Qu Pr (Is w259) (Instr.indexAt 23 a0 (g τ245 0)) fun v264 =>
                      Qu Pr (Is w259) (Instr.loadAt 22 v264) fun v265 =>
                      Qu Pr (Is w259) (Instr.indexAt 23 a0 (g τ245 0)) fun v266 =>
                      Eu Pr (Instr.storeAt 22 v266 v263) w259 fun w267 => S258 w267 ∧ 
                      Qu Pr (S258) (Instr.indexAt 23 a0 v260) fun v268 =>
                      Eu Pr (Instr.storeAt 22 v268 v265) w267 fun w269 => S258 w269 ∧ 
                      Qu Pr (Is w269) (binS .sub 3 (.tmp 66) (.const (Value.int .i64 1)) (g τ245 0) (Value.int .i64 1)) fun v270 =>
                      r244 [v270, (g τ245 0), v247, (g τ245 0), v270, a0, (g τ245 0), v250, v251, a0, (g τ245 0), v252, v253, v254, v256, v257, a0, (g τ245 0), a0, (g τ245 0), v260, a0, (g τ245 0), v261, v262, v263, a0, (g τ245 0), v264, v265, v266, v268] w269)) (
                    J243 (g τ245 0) v247 (g τ245 5) (g τ245 6) (g τ245 7) (g τ245 8) (g τ245 9) (g τ245 10) (g τ245 11) (g τ245 12) (g τ245 13) (g τ245 14) (g τ245 15) (g τ245 16) (g τ245 17) (g τ245 18) (g τ245 19) (g τ245 20) (g τ245 21) (g τ245 22) (g τ245 23) (g τ245 24) (g τ245 25) (g τ245 26) (g τ245 27) (g τ245 28) (g τ245 29) (g τ245 30) (g τ245 31) (g τ245 3) (g τ245 4) (g τ245 0) w246)) w67) (
                J105 (g τ3 54) (g τ3 55) (g τ3 56) (g τ3 57) (g τ3 60) (g τ3 61) (g τ3 62) (g τ3 63) (g τ3 64) (g τ3 65) (g τ3 66) (g τ3 67) (g τ3 68) (g τ3 69) (g τ3 70) (g τ3 71) (g τ3 72) (g τ3 73) (g τ3 74) (g τ3 75) (g τ3 76) (g τ3 77) (g τ3 78) (g τ3 79) (g τ3 80) (g τ3 81) (g τ3 82) (g τ3 83) (g τ3 84) (g τ3 85) (g τ3 86) (g τ3 58) (g τ3 59) (g τ3 3) w67)
@[irreducible] def t274_3 (w49 : World) (a2 : Value) (a1 : Value) (K : Value → World → Prop) (τ7 : List Value) (a0 : Value) (τ3 : List Value) (r2 : List Value → World → Prop) (v5 : Value) (v11 : Value) (v13 : Value) (v16 : Value) (v19 : Value) (v23 : Value) (v27 : Value) (v30 : Value) (v33 : Value) (v37 : Value) (v41 : Value) (v45 : Value) (v48 : Value) (v51 : Value) (v53 : Value) : Prop :=
            Qu Pr (Is w49) (binS .sub 3 (.tmp 38) (.tmp 39) a2 a1) fun v54 =>
            Qu Pr (Is w49) (binS .lss 3 (.tmp 40) (.const (Value.int .i64 50)) v54 (Value.int .i64 50)) fun v55 =>
            If v55 (
              K (Value.bool false) w49) (t274_2 w49 τ7 a0 a1 a2 τ3 r2 v5 v11 v13 v16 v19 v23 v27 v30 v33 v37 v41 v45 v48 v51 v53 v54 v55)
@[irreducible] def t274_4 (w49 : World) (τ7 : List Value) (a2 : Value) (K : Value → World → Prop) (a1 : Value) (a0 : Value) (τ3 : List Value) (r2 : List Value → World → Prop) (v5 : Value) (v11 : Value) (v13 : Value) (v16 : Value) (v19 : Value) (v23 : Value) (v27 : Value) (v30 : Value) (v33 : Value) (v37 : Value) (v41 : Value) (v45 : Value) (v48 : Value) (v51 : Value) : Prop :=
          Qu Pr (Is w49) (binS .eql 3 (.tmp 35) (.tmp 36) (g τ7 0) a2) fun v53 =>
          If v53 (
            K (Value.bool true) w49) (t274_3 w49 a2 a1 K τ7 a0 τ3 r2 v5 v11 v13 v16 v19 v23 v27 v30 v33 v37 v41 v45 v48 v51 v53)
@[irreducible] def t274_5 (τ3 : List Value) (a2 : Value) (a0 : Value) (K : Value → World → Prop) (a1 : Value) (r2 : List Value → World → Prop) (v5 : Value) (w4 : World) : Prop :=
      LoopW [(g τ3 1), (g τ3 9), (g τ3 10), (g τ3 11), (g τ3 12), (g τ3 13), (g τ3 14), (g τ3 15), (g τ3 16), (g τ3 17), (g τ3 18), (g τ3 19), (g τ3 20), (g τ3 21), (g τ3 22), (g τ3 23), (g τ3 24), (g τ3 25), (g τ3 26)] (fun r6 τ7 w8 =>
        Dr w8 fun S9 w10 =>
        Qu Pr (S9) (binS .lss 3 (.tmp 17) (.tmp 18) (g τ7 0) a2) fun v11 =>
        Gd v11 true (fun k12 => k12 a0 w10) w10 fun v13 w14 =>
        Gd v11 true (fun k15 => k15 (g τ7 0) w14) w14 fun v16 w17 =>
        Gd v11 true (fun k18 => Qu Pr (S9) (Instr.indexAt 23 v13 v16) fun v21 => k18 v21 w17) w17 fun v19 w20 =>
        Gd v11 true (fun k22 => Qu Pr (S9) (Instr.loadAt 22 v19) fun v25 => k22 v25 w20) w20 fun v23 w24 =>
        Gd v11 true (fun k26 => k26 a0 w24) w24 fun v27 w28 =>
        Gd v11 true (fun k29 => k29 (g τ7 0) w28) w28 fun v30 w31 =>
        Gd v11 true (fun k32 => Qu Pr (S9) (binS .sub 3 (.tmp 26) (.const (Value.int .i64 1)) v30 (Value.int .i64 1)) fun v35 => k32 v35 w31) w31 fun v33 w34 =>
        Gd v11 true (fun k36 => Qu Pr (S9) (Instr.indexAt 23 v27 v33) fun v39 => k36 v39 w34) w34 fun v37 w38 =>
        Gd v11 true (fun k40 => Qu Pr (S9) (Instr.loadAt 22 v37) fun v43 => k40 v43 w38) w38 fun v41 w42 =>
        Gd v11 true (fun k44 => Cl Pr (callV (fn 275) #[v23, v41]) w42 fun v45x w46x => S9 w46x ∧ k44 v45x w46x) w42 fun v45 w46 =>
        Gd v11 true (fun k47 => Qu Pr (S9) (Op.unary .not v45) fun v50 => k47 v50 w46) w46 fun v48 w49 =>
        Qu Pr (S9) (pickS v11 v48 (Value.bool false)) fun v51 =>
        If v51 (
          Qu Pr (Is w49) (binS .add 3 (.tmp 33) (.const (Value.int .i64 1)) (g τ7 0) (Value.int .i64 1)) fun v52 =>
          r6 [v52, (g τ7 0), a2, v11, v11, v13, v16, v19, v23, v27, v30, v33, v37, v41, v45, v48, v51, (g τ7 0), v52] w49) (t274_4 w49 τ7 a2 K a1 a0 τ3 r2 v5 v11 v13 v16 v19 v23 v27 v30 v33 v37 v41 v45 v48 v51)) w4
/-- slices.partialInsertionSortOrdered[uint64] -/
def t274 (a0 a1 a2 : Value) (K : Value → World → Prop) (w : World) : Prop :=
  Qu Pr (Is w) (binS .add 3 (.tmp 11) (.const (Value.int .i64 1)) a1 (Value.int .i64 1)) fun v1 =>
  LoopW [(Value.bool false), v1, (Value.int .i64 0), undef, undef, undef, undef, undef, undef, undef, undef, undef, undef, undef, undef, undef, undef, undef, undef, undef, undef, undef, undef, undef, undef, undef, undef, undef, undef, undef, undef, undef, undef, undef, undef, undef, undef, undef, undef, undef, undef, undef, undef, undef, undef, undef, undef, undef, undef, undef, undef, undef, undef, undef, undef, undef, undef, undef, undef, undef, undef, undef, undef, undef, undef, undef, undef, undef, undef, undef, undef, undef, undef, undef, undef, undef, undef, undef, undef, undef, undef, undef, undef, undef, undef, undef, undef, undef, undef, undef, undef, undef, undef, undef, undef, undef, undef, undef, undef, undef, undef, undef, undef, undef, undef, undef, undef, undef, undef, undef, undef, undef, undef, undef, undef, undef, undef, undef, undef, undef, undef, undef, undef, undef, undef] (fun r2 τ3 w4 =>
    Qu Pr (Is w4) (binS .lss 3 (.tmp 13) (.const (Value.int .i64 5)) (g τ3 2) (Value.int .i64 5)) fun v5 =>
    If v5 (t274_5 τ3 a2 a0 K a1 r2 v5 w4) (
      K (Value.bool false) w4)) w
theorem c274 {a0 a1 a2 : Value} {K : Value → World → Prop} {w : World} (h : t274 a0 a1 a2 K w) : CK Pr 274 #[a0, a1, a2] w K := by
  refine calls_of_RF [(3, [6, 7, 8, 9, 10, 13, 14, 15, 16, 17, 18, 19, 20, 21, 22, 23, 24, 25, 26, 27, 28, 29, 30, 31, 32, 33, 34, 35, 36, 37, 38, 39, 40, 41, 42, 43, 44, 45, 46, 47, 48, 49, 50, 51, 52, 53, 54, 55, 56, 57, 58, 59, 60, 61, 62, 63, 64, 65, 66, 67, 68, 69, 70, 71, 72, 73, 74, 75, 76, 77, 78, 79, 80, 81, 82, 83, 84, 85, 86, 87, 88, 89, 90, 91, 92, 93, 94, 95, 96, 97, 98, 99, 100, 101, 102, 103, 104, 105, 106, 107, 108, 109, 110, 111, 112, 113, 114, 115, 116, 117, 118, 119, 120, 121, 122, 123, 124, 125, 126, 127, 128, 129, 130, 131, 132]), (5, [7, 17, 18, 19, 20, 21, 22, 23, 24, 25, 26, 27, 28, 29, 30, 31, 32, 33, 34]), (14, [9, 64, 65, 66, 67, 68, 69, 70, 71, 72, 73, 74, 75, 76, 77, 78, 79, 80, 81, 82, 83, 84, 85, 86, 87, 88, 89, 90, 91, 92, 93, 94]), (20, [10, 101, 102, 103, 104, 105, 106, 107, 108, 109, 110, 111, 112, 113, 114, 115, 116, 117, 118, 119, 120, 121, 122, 123, 124, 125, 126, 127, 128, 129, 130, 131, 132])] Tryz.func274 rfl ?_ ?_ ?_
  · kernel_rfl
  · exact Nat.le_of_ble_eq_true rfl
  · exact cast (by kernel_rfl) h

/-- cmp.Less[uint64] -/
def t275 (a0 a1 : Value) (K : Value → World → Prop) (w : World) : Prop :=
  Cl Pr (callV (fn 315) #[a0]) w fun v2 w1 => 
  Gd v2 true (fun k3 => k3 a1 w1) w1 fun v4 w5 =>
  Gd v2 true (fun k6 => Cl Pr (callV (fn 315) #[v4]) w5 fun v7x w8x => k6 v7x w8x) w5 fun v7 w8 =>
  Gd v2 true (fun k9 => Qu Pr (Is w8) (Op.unary .not v7) fun v12 => k9 v12 w8) w8 fun v10 w11 =>
  Qu Pr (Is w11) (pickS v2 v10 (Value.bool false)) fun v13 =>
  Gd v13 false (fun k14 => k14 a0 w11) w11 fun v15 w16 =>
  Gd v13 false (fun k17 => k17 a1 w16) w16 fun v18 w19 =>
  Gd v13 false (fun k20 => Qu Pr (Is w19) (binS .lss 22 (.tmp 13) (.tmp 14) v15 v18) fun v23 => k20 v23 w19) w19 fun v21 w22 =>
  Qu Pr (Is w22) (pickS v13 (Value.bool true) v21) fun v24 =>
  K v24 w22
theorem c275 {a0 a1 : Value} {K : Value → World → Prop} {w : World} (h : t275 a0 a1 K w) : CK Pr 275 #[a0, a1] w K := by
  refine calls_of_RF [] Tryz.func275 rfl ?_ ?_ ?_
  · kernel_rfl
  · exact Nat.le_of_ble_eq_true rfl
  · exact cast (by kernel_rfl) h

@[irreducible] def t277_1 (τ119 : List Value) (τ122 : List Value) (a0 : Value) (a1 : Value) (K : Value → World → Prop) (r118 : List Value → World → Prop) (v126 : Value) (v128 : Value) (v131 : Value) (v134 : Value) (v138 : Value) (v142 : Value) (v145 : Value) (v148 : Value) (v152 : Value) (v156 : Value) (v158 : Value) (w157 : World) : Prop :=
                  LoopW [(g τ119 1), (g τ119 18), (g τ119 19), (g τ119 20), (g τ119 21), (g τ119 22), (g τ119 23), (g τ119 24), (g τ119 25), (g τ119 26), (g τ119 27), (g τ119 28), (g τ119 29), (g τ119 30), (g τ119 31), (g τ119 32), (g τ119 33), (g τ119 34)] (fun r160 τ161 w162 =>
                    Dr w162 fun S163 w164 =>
                    Qu Pr (S163) (binS .leq 3 (.tmp 115) (.tmp 116) (g τ122 0) (g τ161 0)) fun v165 =>
                    Gd v165 true (fun k166 => k166 a0 w164) w164 fun v167 w168 =>
                    Gd v165 true (fun k169 => k169 (g τ161 0) w168) w168 fun v170 w171 =>
                    Gd v165 true (fun k172 => Qu Pr (S163) (Instr.indexAt 23 v167 v170) fun v175 => k172 v175 w171) w171 fun v173 w174 =>
                    Gd v165 true (fun k176 => Qu Pr (S163) (Instr.loadAt 22 v173) fun v179 => k176 v179 w174) w174 fun v177 w178 =>
                    Gd v165 true (fun k180 => k180 a0 w178) w178 fun v181 w182 =>
                    Gd v165 true (fun k183 => k183 a1 w182) w182 fun v184 w185 =>
                    Gd v165 true (fun k186 => Qu Pr (S163) (Instr.indexAt 23 v181 v184) fun v189 => k186 v189 w185) w185 fun v187 w188 =>
                    Gd v165 true (fun k190 => Qu Pr (S163) (Instr.loadAt 22 v187) fun v193 => k190 v193 w188) w188 fun v191 w192 =>
                    Gd v165 true (fun k194 => Cl Pr (callV (fn 275) #[v177, v191]) w192 fun v195x w196x => S163 w196x ∧ k194 v195x w196x) w192 fun v195 w196 =>
                    Gd v165 true (fun k197 => Qu Pr (S163) (Op.unary .not v195) fun v200 => k197 v200 w196) w196 fun v198 w199 =>
                    Qu Pr (S163) (pickS v165 v198 (Value.bool false)) fun v201 =>
                    If v201 (
                      Qu Pr (Is w199) (binS .sub 3 (.tmp 130) (.const (Value.int .i64 1)) (g τ161 0) (Value.int .i64 1)) fun v202 =>
                      r160 [v202, (g τ122 0), (g τ161 0), v165, v165, v167, v170, v173, v177, v181, v184, v187, v191, v195, v198, v201, (g τ161 0), v202] w199) (
                      Qu Pr (Is w199) (binS .gtr 3 (.tmp 132) (.tmp 133) (g τ122 0) (g τ161 0)) fun v203 =>
                      If v203 (
                        Dr w199 fun S204 w205 =>
                        Qu Pr (Is w205) (Instr.indexAt 23 a0 a1) fun v206 =>
                        Qu Pr (Is w205) (Instr.loadAt 22 v206) fun v207 =>
                        Qu Pr (Is w205) (Instr.indexAt 23 a0 (g τ161 0)) fun v208 =>
                        Qu Pr (Is w205) (Instr.loadAt 22 v208) fun v209 =>
                        Qu Pr (Is w205) (Instr.indexAt 23 a0 (g τ161 0)) fun v210 =>
                        Eu Pr (Instr.storeAt 22 v210 v207) w205 fun w211 => S204 w211 ∧ 
                        Qu Pr (S204) (Instr.indexAt 23 a0 a1) fun v212 =>
                        Eu Pr (Instr.storeAt 22 v212 v209) w211 fun w213 => S204 w213 ∧ 
                        K (.tuple #[(g τ161 0), (Value.bool false)]) w213) (
                        Dr w199 fun S214 w215 =>
                        Qu Pr (Is w215) (Instr.indexAt 23 a0 (g τ161 0)) fun v216 =>
                        Qu Pr (Is w215) (Instr.loadAt 22 v216) fun v217 =>
                        Qu Pr (Is w215) (Instr.indexAt 23 a0 (g τ122 0)) fun v218 =>
                        Qu Pr (Is w215) (Instr.loadAt 22 v218) fun v219 =>
                        Qu Pr (Is w215) (Instr.indexAt 23 a0 (g τ122 0)) fun v220 =>
                        Eu Pr (Instr.storeAt 22 v220 v217) w215 fun w221 => S214 w221 ∧ 
                        Qu Pr (S214) (Instr.indexAt 23 a0 (g τ161 0)) fun v222 =>
                        Eu Pr (Instr.storeAt 22 v222 v219) w221 fun w223 => S214 w223 ∧ 
                        Qu Pr (Is w223) (binS .add 3 (.tmp 149) (.const (Value.int .i64 1)) (g τ122 0) (Value.int .i64 1)) fun v224 =>
                        Qu Pr (Is w223) (binS .sub 3 (.tmp 151) (.const (Value.int .i64 1)) (g τ161 0) (Value.int .i64 1)) fun v225 =>
                        r118 [v224, v225, (g τ122 0), (g τ119 1), v126, v126, v128, v131, v134, v138, v142, v145, v148, v152, v156, v158, (g τ122 15), (g τ122 16), (g τ122 0), (g τ161 0), v165, v165, v167, v170, v173, v177, v181, v184, v187, v191, v195, v198, v201, (g τ161 16), (g τ161 17), (g τ122 0), (g τ161 0), v203, a0, (g τ122 0), a0, (g τ161 0), a0, (g τ161 0), v216, v217, a0, (g τ122 0), v218, v219, v220, v222, (g τ122 0), v224, (g τ161 0), v225] w223))) w157
@[irreducible] def t277_2 (w91 : World) (a0 : Value) (τ53 : List Value) (τ14 : List Value) (a1 : Value) (K : Value → World → Prop) : Prop :=
            Dr w91 fun S106 w107 =>
            Qu Pr (Is w107) (Instr.indexAt 23 a0 (g τ53 0)) fun v108 =>
            Qu Pr (Is w107) (Instr.loadAt 22 v108) fun v109 =>
            Qu Pr (Is w107) (Instr.indexAt 23 a0 (g τ14 0)) fun v110 =>
            Qu Pr (Is w107) (Instr.loadAt 22 v110) fun v111 =>
            Qu Pr (Is w107) (Instr.indexAt 23 a0 (g τ14 0)) fun v112 =>
            Eu Pr (Instr.storeAt 22 v112 v109) w107 fun w113 => S106 w113 ∧ 
            Qu Pr (S106) (Instr.indexAt 23 a0 (g τ53 0)) fun v114 =>
            Eu Pr (Instr.storeAt 22 v114 v111) w113 fun w115 => S106 w115 ∧ 
            Qu Pr (Is w115) (binS .add 3 (.tmp 95) (.const (Value.int .i64 1)) (g τ14 0) (Value.int .i64 1)) fun v116 =>
            Qu Pr (Is w115) (binS .sub 3 (.tmp 97) (.const (Value.int .i64 1)) (g τ53 0) (Value.int .i64 1)) fun v117 =>
            LoopW [v116, v117, undef, undef, undef, undef, undef, undef, undef, undef, undef, undef, undef, undef, undef, undef, undef, undef, undef, undef, undef, undef, undef, undef, undef, undef, undef, undef, undef, undef, undef, undef, undef, undef, undef, undef, undef, undef, undef, undef, undef, undef, undef, undef, undef, undef, undef, undef, undef, undef, undef, undef, undef, undef, undef, undef] (fun r118 τ119 w120 =>
              LoopW [(g τ119 0), (g τ119 2), (g τ119 3), (g τ119 4), (g τ119 5), (g τ119 6), (g τ119 7), (g τ119 8), (g τ119 9), (g τ119 10), (g τ119 11), (g τ119 12), (g τ119 13), (g τ119 14), (g τ119 15), (g τ119 16), (g τ119 17)] (fun r121 τ122 w123 =>
                Dr w123 fun S124 w125 =>
                Qu Pr (S124) (binS .leq 3 (.tmp 99) (.tmp 100) (g τ122 0) (g τ119 1)) fun v126 =>
                Gd v126 true (fun k127 => k127 a0 w125) w125 fun v128 w129 =>
                Gd v126 true (fun k130 => k130 (g τ122 0) w129) w129 fun v131 w132 =>
                Gd v126 true (fun k133 => Qu Pr (S124) (Instr.indexAt 23 v128 v131) fun v136 => k133 v136 w132) w132 fun v134 w135 =>
                Gd v126 true (fun k137 => Qu Pr (S124) (Instr.loadAt 22 v134) fun v140 => k137 v140 w135) w135 fun v138 w139 =>
                Gd v126 true (fun k141 => k141 a0 w139) w139 fun v142 w143 =>
                Gd v126 true (fun k144 => k144 a1 w143) w143 fun v145 w146 =>
                Gd v126 true (fun k147 => Qu Pr (S124) (Instr.indexAt 23 v142 v145) fun v150 => k147 v150 w146) w146 fun v148 w149 =>
                Gd v126 true (fun k151 => Qu Pr (S124) (Instr.loadAt 22 v148) fun v154 => k151 v154 w149) w149 fun v152 w153 =>
                Gd v126 true (fun k155 => Cl Pr (callV (fn 275) #[v138, v152]) w153 fun v156x w157x => S124 w157x ∧ k155 v156x w157x) w153 fun v156 w157 =>
                Qu Pr (S124) (pickS v126 v156 (Value.bool false)) fun v158 =>
                If v158 (
                  Qu Pr (Is w157) (binS .add 3 (.tmp 113) (.const (Value.int .i64 1)) (g τ122 0) (Value.int .i64 1)) fun v159 =>
                  r121 [v159, (g τ122 0), (g τ119 1), v126, v126, v128, v131, v134, v138, v142, v145, v148, v152, v156, v158, (g τ122 0), v159] w157) (t277_1 τ119 τ122 a0 a1 K r118 v126 v128 v131 v134 v138 v142 v145 v148 v152 v156 v158 w157)) w120) w115
@[irreducible] def t277_3 (w91 : World) (τ14 : List Value) (τ53 : List Value) (a0 : Value) (a1 : Value) (K : Value → World → Prop) : Prop :=
          Qu Pr (Is w91) (binS .gtr 3 (.tmp 63) (.tmp 64) (g τ14 0) (g τ53 0)) fun v95 =>
          If v95 (
            Dr w91 fun S96 w97 =>
            Qu Pr (Is w97) (Instr.indexAt 23 a0 a1) fun v98 =>
            Qu Pr (Is w97) (Instr.loadAt 22 v98) fun v99 =>
            Qu Pr (Is w97) (Instr.indexAt 23 a0 (g τ53 0)) fun v100 =>
            Qu Pr (Is w97) (Instr.loadAt 22 v100) fun v101 =>
            Qu Pr (Is w97) (Instr.indexAt 23 a0 (g τ53 0)) fun v102 =>
            Eu Pr (Instr.storeAt 22 v102 v99) w97 fun w103 => S96 w103 ∧ 
            Qu Pr (S96) (Instr.indexAt 23 a0 a1) fun v104 =>
            Eu Pr (Instr.storeAt 22 v104 v101) w103 fun w105 => S96 w105 ∧ 
            K (.tuple #[(g τ53 0), (Value.bool true)]) w105) (t277_2 w91 a0 τ53 τ14 a1 K)
@[irreducible] def t277_4 (v12 : Value) (τ14 : List Value) (a0 : Value) (a1 : Value) (K : Value → World → Prop) (w49 : World) : Prop :=
      LoopW [v12, undef, undef, undef, undef, undef, undef, undef, undef, undef, undef, undef, undef, undef, undef, undef, undef, undef] (fun r52 τ53 w54 =>
        Dr w54 fun S55 w56 =>
        Qu Pr (S55) (binS .leq 3 (.tmp 46) (.tmp 47) (g τ14 0) (g τ53 0)) fun v57 =>
        Gd v57 true (fun k58 => k58 a0 w56) w56 fun v59 w60 =>
        Gd v57 true (fun k61 => k61 (g τ53 0) w60) w60 fun v62 w63 =>
        Gd v57 true (fun k64 => Qu Pr (S55) (Instr.indexAt 23 v59 v62) fun v67 => k64 v67 w63) w63 fun v65 w66 =>
        Gd v57 true (fun k68 => Qu Pr (S55) (Instr.loadAt 22 v65) fun v71 => k68 v71 w66) w66 fun v69 w70 =>
        Gd v57 true (fun k72 => k72 a0 w70) w70 fun v73 w74 =>
        Gd v57 true (fun k75 => k75 a1 w74) w74 fun v76 w77 =>
        Gd v57 true (fun k78 => Qu Pr (S55) (Instr.indexAt 23 v73 v76) fun v81 => k78 v81 w77) w77 fun v79 w80 =>
        Gd v57 true (fun k82 => Qu Pr (S55) (Instr.loadAt 22 v79) fun v85 => k82 v85 w80) w80 fun v83 w84 =>
        Gd v57 true (fun k86 => Cl Pr (callV (fn 275) #[v69, v83]) w84 fun v87x w88x => S55 w88x ∧ k86 v87x w88x) w84 fun v87 w88 =>
        Gd v57 true (fun k89 => Qu Pr (S55) (Op.unary .not v87) fun v92 => k89 v92 w88) w88 fun v90 w91 =>
        Qu Pr (S55) (pickS v57 v90 (Value.bool false)) fun v93 =>
        If v93 (
          Qu Pr (Is w91) (binS .sub 3 (.tmp 61) (.const (Value.int .i64 1)) (g τ53 0) (Value.int .i64 1)) fun v94 =>
          r52 [v94, (g τ14 0), (g τ53 0), v57, v57, v59, v62, v65, v69, v73, v76, v79, v83, v87, v90, v93, (g τ53 0), v94] w91) (t277_3 w91 τ14 τ53 a0 a1 K)) w49
/-- slices.partitionOrdered[uint64] -/
def t277 (a0 a1 a2 a3 : Value) (K : Value → World → Prop) (w : World) : Prop :=
  Dr w fun S1 w2 =>
  Qu Pr (Is w2) (Instr.indexAt 23 a0 a3) fun v3 =>
  Qu Pr (Is w2) (Instr.loadAt 22 v3) fun v4 =>
  Qu Pr (Is w2) (Instr.indexAt 23 a0 a1) fun v5 =>
  Qu Pr (Is w2) (Instr.loadAt 22 v5) fun v6 =>
  Qu Pr (Is w2) (Instr.indexAt 23 a0 a1) fun v7 =>
  Eu Pr (Instr.storeAt 22 v7 v4) w2 fun w8 => S1 w8 ∧ 
  Qu Pr (S1) (Instr.indexAt 23 a0 a3) fun v9 =>
  Eu Pr (Instr.storeAt 22 v9 v6) w8 fun w10 => S1 w10 ∧ 
  Qu Pr (Is w10) (binS .add 3 (.tmp 26) (.const (Value.int .i64 1)) a1 (Value.int .i64 1)) fun v11 =>
  Qu Pr (Is w10) (binS .sub 3 (.tmp 28) (.const (Value.int .i64 1)) a2 (Value.int .i64 1)) fun v12 =>
  LoopW [v11, undef, undef, undef, undef, undef, undef, undef, undef, undef, undef, undef, undef, undef, undef, undef, undef] (fun r13 τ14 w15 =>
    Dr w15 fun S16 w17 =>
    Qu Pr (S16) (binS .leq 3 (.tmp 30) (.tmp 31) (g τ14 0) v12) fun v18 =>
    Gd v18 true (fun k19 => k19 a0 w17) w17 fun v20 w21 =>
    Gd v18 true (fun k22 => k22 (g τ14 0) w21) w21 fun v23 w24 =>
    Gd v18 true (fun k25 => Qu Pr (S16) (Instr.indexAt 23 v20 v23) fun v28 => k25 v28 w24) w24 fun v26 w27 =>
    Gd v18 true (fun k29 => Qu Pr (S16) (Instr.loadAt 22 v26) fun v32 => k29 v32 w27) w27 fun v30 w31 =>
    Gd v18 true (fun k33 => k33 a0 w31) w31 fun v34 w35 =>
    Gd v18 true (fun k36 => k36 a1 w35) w35 fun v37 w38 =>
    Gd v18 true (fun k39 => Qu Pr (S16) (Instr.indexAt 23 v34 v37) fun v42 => k39 v42 w38) w38 fun v40 w41 =>
    Gd v18 true (fun k43 => Qu Pr (S16) (Instr.loadAt 22 v40) fun v46 => k43 v46 w41) w41 fun v44 w45 =>
    Gd v18 true (fun k47 => Cl Pr (callV (fn 275) #[v30, v44]) w45 fun v48x w49x => S16 w49x ∧ k47 v48x w49x) w45 fun v48 w49 =>
    Qu Pr (S16) (pickS v18 v48 (Value.bool false)) fun v50 =>
    If v50 (
      Qu Pr (Is w49) (binS .add 3 (.tmp 44) (.const (Value.int .i64 1)) (g τ14 0) (Value.int .i64 1)) fun v51 =>
      r13 [v51, (g τ14 0), v12, v18, v18, v20, v23, v26, v30, v34, v37, v40, v44, v48, v50, (g τ14 0), v51] w49) (t277_4 v12 τ14 a0 a1 K w49)) w10
theorem c277 {a0 a1 a2 a3 : Value} {K : Value → World → Prop} {w : World} (h : t277 a0 a1 a2 a3 K w) : CK Pr 277 #[a0, a1, a2, a3] w K := by
  refine calls_of_RF [(3, [10, 30, 31, 32, 33, 34, 35, 36, 37, 38, 39, 40, 41, 42, 43, 44, 45]), (5, [11, 46, 47, 48, 49, 50, 51, 52, 53, 54, 55, 56, 57, 58, 59, 60, 61, 62]), (13, [10, 99, 100, 101, 102, 103, 104, 105, 106, 107, 108, 109, 110, 111, 112, 113, 114]), (15, [11, 115, 116, 117, 118, 119, 120, 121, 122, 123, 124, 125, 126, 127, 128, 129, 130, 131]), (100013, [10, 11, 99, 100, 101, 102, 103, 104, 105, 106, 107, 108, 109, 110, 111, 112, 113, 114, 115, 116, 117, 118, 119, 120, 121, 122, 123, 124, 125, 126, 127, 128, 129, 130, 131, 132, 133, 134, 135, 136, 137, 138, 139, 140, 141, 142, 143, 144, 145, 146, 147, 148, 149, 150, 151, 152])] Tryz.func277 rfl ?_ ?_ ?_
  · kernel_rfl
  · exact Nat.le_of_ble_eq_true rfl
  · exact cast (by kernel_rfl) h

/-- math/bits.Len64 -/
def t279 (a0 : Value) (K : Value → World → Prop) (w : World) : Prop :=
  Qu Pr (Is w) (binS .geq 22 (.tmp 3) (.const (Value.int .u64 4294967296)) a0 (Value.int .u64 4294967296)) fun v1 =>
  Jo (fun (p4 : Value) (p5 : Value) (w6 : World) => (
      Qu Pr (Is w6) (binS .geq 22 (.tmp 7) (.const (Value.int .u64 65536)) p4 (Value.int .u64 65536)) fun v8 =>
      Jo (fun (p11 : Value) (p14 : Value) (w15 : World) => (
          Qu Pr (Is w15) (binS .geq 22 (.tmp 13) (.const (Value.int .u64 256)) p11 (Value.int .u64 256)) fun v17 =>
          Jo (fun (p20 : Value) (p23 : Value) (w24 : World) => (
              Qu Pr (Is w24) (convert 22 5 p20) fun v26 =>
              Qu Pr (Is w24) (Instr.index 9 (Value.string (ByteArray.mk #[0, 1, 2, 2, 3, 3, 3, 3, 4, 4, 4, 4, 4, 4, 4, 4, 5, 5, 5, 5, 5, 5, 5, 5, 5, 5, 5, 5, 5, 5, 5, 5, 6, 6, 6, 6, 6, 6, 6, 6, 6, 6, 6, 6, 6, 6, 6, 6, 6, 6, 6, 6, 6, 6, 6, 6, 6, 6, 6, 6, 6, 6, 6, 6, 7, 7, 7, 7, 7, 7, 7, 7, 7, 7, 7, 7, 7, 7, 7, 7, 7, 7, 7, 7, 7, 7, 7, 7, 7, 7, 7, 7, 7, 7, 7, 7, 7, 7, 7, 7, 7, 7, 7, 7, 7, 7, 7, 7, 7, 7, 7, 7, 7, 7, 7, 7, 7, 7, 7, 7, 7, 7, 7, 7, 7, 7, 7, 7, 8, 8, 8, 8, 8, 8, 8, 8, 8, 8, 8, 8, 8, 8, 8, 8, 8, 8, 8, 8, 8, 8, 8, 8, 8, 8, 8, 8, 8, 8, 8, 8, 8, 8, 8, 8, 8, 8, 8, 8, 8, 8, 8, 8, 8, 8, 8, 8, 8, 8, 8, 8, 8, 8, 8, 8, 8, 8, 8, 8, 8, 8, 8, 8, 8, 8, 8, 8, 8, 8, 8, 8, 8, 8, 8, 8, 8, 8, 8, 8, 8, 8, 8, 8, 8, 8, 8, 8, 8, 8, 8, 8, 8, 8, 8, 8, 8, 8, 8, 8, 8, 8, 8, 8, 8, 8, 8, 8, 8, 8, 8, 8, 8, 8, 8, 8, 8, 8, 8, 8, 8, 8, 8, 8, 8, 8, 8, 8])) v26) fun v27 =>
              Qu Pr (Is w24) (convert 5 3 v27) fun v28 =>
              Qu Pr (Is w24) (binS .add 3 (.tmp 19) (.tmp 23) p23 v28) fun v29 =>
              K v29 w24 : Prop)) fun J25 =>
          If v17 (
            Qu Pr (Is w15) (binS .shr 22 (.tmp 15) (.const (Value.int .u64 8)) p11 (Value.int .u64 8)) fun v30 =>
            Qu Pr (Is w15) (binS .add 3 (.tmp 17) (.const (Value.int .i64 8)) p14 (Value.int .i64 8)) fun v31 =>
            J25 v30 v31 w15) (
            J25 p11 p14 w15) : Prop)) fun J16 =>
      If v8 (
        Qu Pr (Is w6) (binS .shr 22 (.tmp 9) (.const (Value.int .u64 16)) p4 (Value.int .u64 16)) fun v32 =>
        Qu Pr (Is w6) (binS .add 3 (.tmp 11) (.const (Value.int .i64 16)) p5 (Value.int .i64 16)) fun v33 =>
        J16 v32 v33 w6) (
        J16 p4 p5 w6) : Prop)) fun J7 =>
  If v1 (
    Qu Pr (Is w) (binS .shr 22 (.tmp 5) (.const (Value.int .u64 32)) a0 (Value.int .u64 32)) fun v34 =>
    J7 v34 (Value.int .i64 32) w) (
    J7 a0 (Value.int .i64 0) w)
theorem c279 {a0 : Value} {K : Value → World → Prop} {w : World} (h : t279 a0 K w) : CK Pr 279 #[a0] w K := by
  refine calls_of_RF [] Tryz.func279 rfl ?_ ?_ ?_
  · kernel_rfl
  · exact Nat.le_of_ble_eq_true rfl
  · exact cast (by kernel_rfl) h

/-- slices.medianOrdered[uint64] -/
def t314 (a0 a1 a2 a3 a4 : Value) (K : Value → World → Prop) (w : World) : Prop :=
  Cl Pr (callV (fn 329) #[a0, a1, a2, a4]) w fun v2 w1 => 
  Qu Pr (Is w1) (Instr.extract v2 0) fun v3 =>
  Qu Pr (Is w1) (Instr.extract v2 1) fun v4 =>
  Cl Pr (callV (fn 329) #[a0, v4, a3, a4]) w1 fun v6 w5 => 
  Qu Pr (Is w5) (Instr.extract v6 0) fun v7 =>
  Qu Pr (Is w5) (Instr.extract v6 1) fun _ =>
  Cl Pr (callV (fn 329) #[a0, v3, v7, a4]) w5 fun v10 w9 => 
  Qu Pr (Is w9) (Instr.extract v10 0) fun _ =>
  Qu Pr (Is w9) (Instr.extract v10 1) fun v12 =>
  K v12 w9
theorem c314 {a0 a1 a2 a3 a4 : Value} {K : Value → World → Prop} {w : World} (h : t314 a0 a1 a2 a3 a4 K w) : CK Pr 314 #[a0, a1, a2, a3, a4] w K := by
  refine calls_of_RF [] Tryz.func314 rfl ?_ ?_ ?_
  · kernel_rfl
  · exact Nat.le_of_ble_eq_true rfl
  · exact cast (by kernel_rfl) h

/-- cmp.isNaN[uint64] -/
def t315 (a0 : Value) (K : Value → World → Prop) (w : World) : Prop :=
  Qu Pr (Is w) (binS .neq 22 (.tmp 3) (.tmp 4) a0 a0) fun v1 =>
  K v1 w
theorem c315 {a0 : Value} {K : Value → World → Prop} {w : World} (h : t315 a0 K w) : CK Pr 315 #[a0] w K := by
  refine calls_of_RF [] Tryz.func315 rfl ?_ ?_ ?_
  · kernel_rfl
  · exact Nat.le_of_ble_eq_true rfl
  · exact cast (by kernel_rfl) h

/-- slices.order2Ordered[uint64] -/
def t329 (a0 a1 a2 a3 : Value) (K : Value → World → Prop) (w : World) : Prop :=
  Dr w fun S1 w2 =>
  Qu Pr (S1) (Instr.indexAt 23 a0 a2) fun v3 =>
  Qu Pr (S1) (Instr.loadAt 22 v3) fun v4 =>
  Qu Pr (S1) (Instr.indexAt 23 a0 a1) fun v5 =>
  Qu Pr (S1) (Instr.loadAt 22 v5) fun v6 =>
  Cl Pr (callV (fn 275) #[v4, v6]) w2 fun v8 w7 => S1 w7 ∧ 
  If v8 (
    Qu Pr (Is w7) (nilS a3) fun v9 =>
    Qu Pr (Is w7) (Instr.loadAt 3 v9) fun v10 =>
    Qu Pr (Is w7) (binS .add 3 (.tmp 21) (.const (Value.int .i64 1)) v10 (Value.int .i64 1)) fun v11 =>
    Qu Pr (Is w7) (nilS a3) fun v12 =>
    Eu Pr (Instr.storeAt 3 v12 v11) w7 fun w13 => 
    K (.tuple #[a2, a1]) w13) (
    K (.tuple #[a1, a2]) w7)
theorem c329 {a0 a1 a2 a3 : Value} {K : Value → World → Prop} {w : World} (h : t329 a0 a1 a2 a3 K w) : CK Pr 329 #[a0, a1, a2, a3] w K := by
  refine calls_of_RF [] Tryz.func329 rfl ?_ ?_ ?_
  · kernel_rfl
  · exact Nat.le_of_ble_eq_true rfl
  · exact cast (by kernel_rfl) h

end Go.Proofs.YtmmpogfbhelioaaGreat
/-
  Contracts: sorting numbers in place; what is told is that the numbers stay, in some order.
  Conditions: each one's own.
-/
namespace Go.Proofs.YtmmpogfbhelioaaGreat
set_option maxRecDepth 10000
set_option linter.unusedVariables false
set_option linter.unusedSimpArgs false
set_option linter.unusedVariables false
set_option linter.unusedSimpArgs false
attribute [local irreducible] Instr.box Instr.alloc Instr.loadAt Instr.storeAt Instr.fieldAt Instr.indexAt Instr.build Instr.buildSlice Instr.makeSlice Instr.makeMap Instr.mapUpdate Instr.lookup Instr.range Instr.next Instr.entry Instr.extract Instr.makeInterface Instr.makeFunc Instr.sliceAt Instr.typeAssert Instr.field Instr.index Builtin.len_ Builtin.cap_ Builtin.max_ Builtin.min_ Builtin.append_ Builtin.copy_ Builtin.delete_ convert binS pickS nilS callV callM Op.unary Own Mp It Cu

attribute [local irreducible] Nm

variable {K : Value → World → Prop} {w : World} {te : Nat} {v : Value} {xs : List Int}

/-- A drawn region of stores to places that hang on no world. -/
theorem dr_top {F : (World → Prop) → World → Prop} (h : ∀ w1, Ex w w1 → w1.heap.size = w.heap.size → F (fun _ => True) w1) : Dr w F :=
  .mk (fun _ => True) trivial (h _ (Up.drew _ _ _) rfl)

instance tfn208 : TFn Pr 208 := ⟨by kernel_rfl⟩
instance tfn209 : TFn Pr 209 := ⟨by kernel_rfl⟩
instance tfn269 : TFn Pr 269 := ⟨by kernel_rfl⟩
instance tfn270 : TFn Pr 270 := ⟨by kernel_rfl⟩
instance tfn271 : TFn Pr 271 := ⟨by kernel_rfl⟩
instance tfn272 : TFn Pr 272 := ⟨by kernel_rfl⟩
instance tfn273 : TFn Pr 273 := ⟨by kernel_rfl⟩
instance tfn274 : TFn Pr 274 := ⟨by kernel_rfl⟩
instance tfn275 : TFn Pr 275 := ⟨by kernel_rfl⟩
instance tfn276 : TFn Pr 276 := ⟨by kernel_rfl⟩
instance tfn277 : TFn Pr 277 := ⟨by kernel_rfl⟩
instance tfn278 : TFn Pr 278 := ⟨by kernel_rfl⟩
instance tfn279 : TFn Pr 279 := ⟨by kernel_rfl⟩
instance tfn310 : TFn Pr 310 := ⟨by kernel_rfl⟩
instance tfn311 : TFn Pr 311 := ⟨by kernel_rfl⟩
instance tfn312 : TFn Pr 312 := ⟨by kernel_rfl⟩
instance tfn313 : TFn Pr 313 := ⟨by kernel_rfl⟩
instance tfn314 : TFn Pr 314 := ⟨by kernel_rfl⟩
instance tfn315 : TFn Pr 315 := ⟨by kernel_rfl⟩
instance tfn329 : TFn Pr 329 := ⟨by kernel_rfl⟩

theorem k315 {a : Int} (h : K (.bool false) w) : CK Pr 315 #[.int .u64 a] w K := by
  refine c315 ?_
  unfold t315
  (repeat (first | (refine go ?_; intros) | (refine gon ?_; intros)))
  simpa using h

theorem k275 {a b : Int} (h : K (.bool (decide (a < b))) w) : CK Pr 275 #[.int .u64 a, .int .u64 b] w K := by
  refine c275 ?_
  unfold t275
  refine cl_fn (k315 ?_)
  (repeat (first | (refine go ?_; intros) | (refine gon ?_; intros)))
  exact h

/-- What sorting leaves. -/
def So (te : Nat) (v : Value) (xs : List Int) (w : World) (w' : World) (xs' : List Int) : Prop :=
  Up (sb v) [te + 2] w w' ∧ w.heap.size ≤ w'.heap.size ∧ xs'.Perm xs ∧ Nm te v xs' w'
theorem So.refl (h : Nm te v xs w) : So te v xs w w xs := ⟨.refl _ _ _, Nat.le_refl _, .refl _, h⟩
theorem So.nm {w' : World} {xs' : List Int} (h : So te v xs w w' xs') : Nm te v xs' w' := h.2.2.2
theorem So.len {w' : World} {xs' : List Int} (h : So te v xs w w' xs') : xs'.length = xs.length := h.2.2.1.length_eq
theorem So.trans {w' w'' : World} {xs' xs'' : List Int} (h : So te v xs w w' xs') (h' : So te v xs' w' w'' xs'') : So te v xs w w'' xs'' :=
  ⟨h.1.trans h'.1, Nat.le_trans h.2.1 h'.2.1, h'.2.2.1.trans h.2.2.1, h'.2.2.2⟩
theorem So.ex {w' w'' : World} {xs' : List Int} (h : So te v xs w w' xs') (e : Ex w' w'') (z : w''.heap.size = w'.heap.size) : So te v xs w w'' xs' :=
  ⟨h.1.ex e, Nat.le_trans h.2.1 e.size, h.2.2.1, h.2.2.2.ex e⟩
theorem So.new {w' w'' : World} {xs' : List Int} (h : So te v xs w w' xs') (e : Ex w' w'') : So te v xs w w'' xs' :=
  ⟨h.1.ex e, Nat.le_trans h.2.1 e.size, h.2.2.1, h.2.2.2.ex e⟩

/-- Two elements change places: the two stores. -/
theorem So.swap {w1 w2 w3 : World} {i j : Nat} {a b : Int} (ha : xs[i]? = some a) (hb : xs[j]? = some b) (h1 : Up (sb v) [te + 2] w w2) (z1 : w2.heap.size = w.heap.size) (h2 : Up (sb v) [te + 2] w2 w3) (z2 : w3.heap.size = w2.heap.size)
    (hn : Nm te v ((xs.set i b).set j a) w3) : So te v xs w w3 ((xs.set i b).set j a) := ⟨h1.trans h2, Nat.le_trans h1.size h2.size, perm_swap ha hb, hn⟩

theorem q_ldNI {t : Nat} [TCell Pr t] {K : Value → Prop} {j : Nat} {x : Int} (h : Nm te v xs w) (hx : xs[j]? = some x) (kk : K (.int .u64 x)) : Qu Pr (Is w) (Instr.loadAt t (ea v j)) K :=
  q_ldN (te := te) (S := Is w) (fun w' u => by cases u; exact h) hx kk
theorem q_ldNE {t : Nat} [TCell Pr t] {K : Value → Prop} {j : Nat} {x : Int} (h : Nm te v xs w) (hx : xs[j]? = some x) (kk : K (.int .u64 x)) : Qu Pr (Ex w) (Instr.loadAt t (ea v j)) K :=
  q_ldN (te := te) (S := Ex w) (fun w' u => h.ex u) hx kk

theorem get_of {xs : List Int} {j : Nat} (h : j < xs.length) : ∃ x, xs[j]? = some x := ⟨_, List.getElem?_eq_getElem h⟩

theorem k269 {a b : Nat} (hn : Nm te v xs w) (hb : b ≤ xs.length) (hl : xs.length ≤ 1000000) (hab : a ≤ 1000000) (h : ∀ w' xs', So te v xs w w' xs' → K (.tuple #[]) w') :
    CK Pr 269 #[v, .int .i64 a, .int .i64 b] w K := by
  refine c269 ?_
  unfold t269
  (repeat (first | (refine go ?_; intros) | (refine gon ?_; intros)))
  rw [wrapS (by omega)]
  refine loop_n (α := Nat × List Int) (fun p τ w' => g τ 0 = .int .i64 (p.1 : Nat) ∧ a < p.1 ∧ p.1 ≤ 1000002 ∧ So te v xs w w' p.2) (fun p => 1000003 - p.1) (a + 1, xs) ⟨rfl, by simp, by simp; omega, So.refl hn⟩ ?_
  rintro ⟨i, ys⟩ τ w' R ⟨hi, hai, hile, hs⟩ hR
  simp only at hi hai hile hs hR
  rw [hi]
  (repeat (first | (refine go ?_; intros) | (refine gon ?_; intros)))
  refine if_split (fun hlt => ?_) (fun _ => h _ _ hs)
  have hlt := of_decide_eq_true hlt
  have hib : i < b := by omega
  refine loop_n (α := Nat × List Int) (fun p τ w' => g τ 0 = .int .i64 (p.1 : Nat) ∧ a ≤ p.1 ∧ p.1 ≤ i ∧ So te v xs w w' p.2) (fun p => p.1) (i, ys) ⟨rfl, by simp; omega, by simp, hs⟩ ?_
  rintro ⟨j, zs⟩ τ2 w2 R2 ⟨hj, haj, hji, hs2⟩ hR2
  simp only at hj haj hji hs2 hR2
  rw [hj]
  have hzl := hs2.len
  refine dr_rule No [] fun w3 x3 z3 => ?_
  have hs3 := hs2.ex x3 z3
  by_cases hja : (a : Int) < j
  · obtain ⟨x, hx⟩ := get_of (xs := zs) (j := j) (by omega)
    obtain ⟨y, hy⟩ := get_of (xs := zs) (j := j - 1) (by omega)
    have hj1 : IntKind.i64.wrap ((j : Int) - 1) = ((j - 1 : Nat) : Int) := by rw [wrap64 (by omega) (by omega)]; omega
    (repeat (first | (refine go ?_; intros) | (refine gon ?_; intros)))
    rw [decide_eq_true hja]
    (repeat (first | (refine go ?_; intros) | (refine gon ?_; intros)))
    (try simp only [hj1])
    refine q_ixN j hs3.nm rfl (by omega) ?_
    (repeat (first | (refine go ?_; intros) | (refine gon ?_; intros)))
    refine q_ldNE (t := 22) hs3.nm hx ?_
    (repeat (first | (refine go ?_; intros) | (refine gon ?_; intros)))
    (try simp only [hj1])
    refine q_ixN (j - 1) hs3.nm rfl (by omega) ?_
    (repeat (first | (refine go ?_; intros) | (refine gon ?_; intros)))
    refine q_ldNE (t := 22) hs3.nm hy ?_
    (repeat (first | (refine go ?_; intros) | (refine gon ?_; intros)))
    refine cl_fn (k275 ⟨.refl _ _ _, ?_⟩)
    (repeat (first | (refine go ?_; intros) | (refine gon ?_; intros)))
    refine if_split (fun hxy => ?_) (fun hxy => ?_)
    · refine dr_top fun wA xA zA => ?_
      have hs3a := hs3.ex xA zA
      (repeat (first | (refine go ?_; intros) | (refine gon ?_; intros)))
      (try simp only [hj1])
      refine q_ixN (j - 1) hs3a.nm rfl (by omega) ?_
      refine q_ldNI (t := 22) hs3a.nm hy ?_
      refine q_ixN j hs3a.nm rfl (by omega) ?_
      refine q_ldNI (t := 22) hs3a.nm hx ?_
      refine q_ixN j hs3a.nm rfl (by omega) ?_
      refine u_stN hs3a.nm (by omega) fun wb ub nb zb => ⟨trivial, ?_⟩
      refine q_ixN (j - 1) hs3a.nm rfl (by omega) ?_
      refine u_stN nb (by simp; omega) fun wc uc nc zc => ⟨trivial, ?_⟩
      have hs5 := hs3a.trans (So.swap (w1 := wb) hx hy ub zb uc zc nc)
      (repeat (first | (refine go ?_; intros) | (refine gon ?_; intros)))
      rw [hj1]
      exact hR2 (j - 1, _) _ _ ⟨rfl, by simp; omega, by simp; omega, hs5⟩ (by simp; omega)
    · (repeat (first | (refine go ?_; intros) | (refine gon ?_; intros)))
      rw [wrapS (by omega)]
      exact hR (i + 1, zs) _ _ ⟨rfl, by simp; omega, by simp; omega, hs3⟩ (by simp; omega)
  · (repeat (first | (refine go ?_; intros) | (refine gon ?_; intros)))
    rw [decide_eq_false hja]
    (repeat (first | (refine go ?_; intros) | (refine gon ?_; intros)))
    rw [wrapS (by omega)]
    exact hR (i + 1, zs) _ _ ⟨rfl, by simp; omega, by simp; omega, hs3⟩ (by simp; omega)

end Go.Proofs.YtmmpogfbhelioaaGreat
/-
  Contracts: the pattern defeating sort's parts.
  Conditions: each one's own.
-/
namespace Go.Proofs.YtmmpogfbhelioaaGreat
set_option maxRecDepth 10000
set_option linter.unusedVariables false
set_option linter.unusedSimpArgs false
set_option linter.unusedVariables false
set_option linter.unusedSimpArgs false
attribute [local irreducible] Instr.box Instr.alloc Instr.loadAt Instr.storeAt Instr.fieldAt Instr.indexAt Instr.build Instr.buildSlice Instr.makeSlice Instr.makeMap Instr.mapUpdate Instr.lookup Instr.range Instr.next Instr.entry Instr.extract Instr.makeInterface Instr.makeFunc Instr.sliceAt Instr.typeAssert Instr.field Instr.index Builtin.len_ Builtin.cap_ Builtin.max_ Builtin.min_ Builtin.append_ Builtin.copy_ Builtin.delete_ convert binS pickS nilS callV callM Op.unary Own Mp It Cu

attribute [local irreducible] Nm

variable {K : Value → World → Prop} {w : World} {te : Nat} {v : Value} {xs : List Int}

theorem q_quo {P : Program} {S : World → Prop} {t : TypeId} {x y : Operand} {K : Value → Prop} {k : IntKind} {a b : Int} (hb : b ≠ 0) (h : K (.int k (k.wrap (a.tdiv b)))) : Qu P S (binS .quo t x y (.int k a) (.int k b)) K :=
  q_bin (fun _ => guard_int) (fun w => by simp [binOp, Op.intDiv, hb]) h

theorem k329 {i j : Nat} {pb : Nat} {n : Int} (hn : Nm te v xs w) (hi : i < xs.length) (hj : j < xs.length) (hb : Bk w pb (.cells #[.int .i64 n] 3 (0, 0)))
    (h : ∀ w' i' j' n', Up (fun x => x = pb) [5] w w' → w'.heap.size = w.heap.size → Bk w' pb (.cells #[.int .i64 n'] 3 (0, 0)) → (i' = i ∧ j' = j ∨ i' = j ∧ j' = i) → K (.tuple #[.int .i64 (i' : Nat), .int .i64 (j' : Nat)]) w') :
    CK Pr 329 #[v, .int .i64 i, .int .i64 j, .pointer (some ⟨pb, 0, none⟩)] w K := by
  refine c329 ?_
  unfold t329
  obtain ⟨x, hx⟩ := get_of hi
  obtain ⟨y, hy⟩ := get_of hj
  refine dr_rule No [] fun w1 x1 z1 => ?_
  have n1 := hn.ex x1
  refine q_ixN j n1 rfl (by omega) ?_
  refine q_ldNE (t := 22) n1 hy ?_
  refine q_ixN i n1 rfl (by omega) ?_
  refine q_ldNE (t := 22) n1 hx ?_
  refine cl_fn (k275 ⟨.refl _ _ _, ?_⟩)
  have hb1 : Bk w1 pb _ := x1.at_ hb
  refine if_split (fun _ => ?_) (fun _ => ?_)
  · (repeat (first | (refine go ?_; intros) | (refine gon ?_; intros)))
    rename_i w2 u2 hb2 z2
    exact h w2 j i _ ((Up.of_ex x1).trans u2) (by omega) hb2 (.inr ⟨rfl, rfl⟩)
  · (repeat (first | (refine go ?_; intros) | (refine gon ?_; intros)))
    exact h w1 i j _ (.of_ex x1) z1 hb1 (.inl ⟨rfl, rfl⟩)

theorem Nm.off {pb : Nat} {w' : World} (hn : Nm te v xs w) (u : Up (fun x => x = pb) [5] w w') (hv : ¬ sb v pb) : Nm te v xs w' :=
  hn.up u (.inr fun b hb hx => hv (hx ▸ hb))

theorem k314 {i j m : Nat} {pb : Nat} {n : Int} (hn : Nm te v xs w) (hi : i < xs.length) (hj : j < xs.length) (hm : m < xs.length) (hb : Bk w pb (.cells #[.int .i64 n] 3 (0, 0))) (hv : ¬ sb v pb)
    (h : ∀ w' (r : Nat) n', Up (fun x => x = pb) [5] w w' → w'.heap.size = w.heap.size → Bk w' pb (.cells #[.int .i64 n'] 3 (0, 0)) → (r = i ∨ r = j ∨ r = m) → K (.int .i64 (r : Nat)) w') :
    CK Pr 314 #[v, .int .i64 i, .int .i64 j, .int .i64 m, .pointer (some ⟨pb, 0, none⟩)] w K := by
  refine c314 ?_
  unfold t314
  refine cl_fn (k329 hn hi hj hb fun w1 i1 j1 n1 u1 z1 b1 h1 => ?_)
  (repeat (first | (refine go ?_; intros) | (refine gon ?_; intros)))
  have hn1 := hn.off u1 hv
  refine cl_fn (k329 hn1 (by rcases h1 with ⟨_, rfl⟩ | ⟨_, rfl⟩ <;> assumption) hm b1 fun w2 i2 j2 n2 u2 z2 b2 h2 => ?_)
  (repeat (first | (refine go ?_; intros) | (refine gon ?_; intros)))
  refine cl_fn (k329 (hn1.off u2 hv) (by rcases h1 with ⟨rfl, _⟩ | ⟨rfl, _⟩ <;> assumption) (by rcases h1 with ⟨_, rfl⟩ | ⟨_, rfl⟩ <;> rcases h2 with ⟨rfl, _⟩ | ⟨rfl, _⟩ <;> assumption) b2 fun w3 i3 j3 n3 u3 z3 b3 h3 => ?_)
  (repeat (first | (refine go ?_; intros) | (refine gon ?_; intros)))
  refine h w3 j3 _ ((u1.trans u2).trans u3) (by omega) b3 ?_
  omega

theorem k272 (hn : Nm te v xs w) (hl : xs.length = 13) (hv : ∀ b, sb v b → b < w.heap.size) (h : ∀ w' (r : Nat) (g : Int), Ex w w' → r < 13 → (g = 0 ∨ g = 1 ∨ g = 2) → K (.tuple #[.int .i64 (r : Nat), .int .i64 g]) w') :
    CK Pr 272 #[v, .int .i64 0, .int .i64 13] w K := by
  refine c272 ?_
  unfold t272
  unfold Jo
  (repeat (first | (refine go ?_; intros) | (refine gon ?_; intros)))
  rename_i b1 w1 e1 hb1 s1 s2
  have e3 : IntKind.i64.wrap ((13 : Int).tdiv 4) = 3 := by rfl
  refine q_quo (by omega) ?_
  (repeat (first | (refine go ?_; intros) | (refine gon ?_; intros)))
  refine q_quo (by omega) ?_
  (repeat (first | (refine go ?_; intros) | (refine gon ?_; intros)))
  refine q_quo (by omega) ?_
  (repeat (first | (refine go ?_; intros) | (refine gon ?_; intros)))
  refine cl_fn (k314 (i := 3) (j := 6) (m := 9) (hn.ex e1) (by omega) (by omega) (by omega) hb1 (fun hx => by have := hv _ hx; omega) fun w2 r n2 u2 z2 b2 h2 => ?_)
  have ex : Ex w w2 := Up.no (Up.new (Up.of_ex e1 : Up No [] w w1) u2 (by intro _ h; subst h; omega)) (fun _ _ => id)
  (repeat (first | (refine go ?_; intros) | (refine gon ?_; intros)))
  refine if_split (fun _ => h w2 r 1 ex (by omega) (by omega)) (fun _ => ?_)
  (repeat (first | (refine go ?_; intros) | (refine gon ?_; intros)))
  exact if_split (fun _ => h w2 r 2 ex (by omega) (by omega)) (fun _ => h w2 r 0 ex (by omega) (by omega))

theorem k273 {a b : Nat} (hn : Nm te v xs w) (hb : b ≤ xs.length) (hl : xs.length ≤ 1000000) (hab : a < b) (h : ∀ w' xs', So te v xs w w' xs' → K (.tuple #[]) w') :
    CK Pr 273 #[v, .int .i64 a, .int .i64 b] w K := by
  refine c273 ?_
  unfold t273
  (repeat (first | (refine go ?_; intros) | (refine gon ?_; intros)))
  have hb1 : IntKind.i64.wrap ((b : Int) - 1) = ((b - 1 : Nat) : Int) := by rw [wrap64 (by omega) (by omega)]; omega
  rw [hb1]
  refine loop_n (α := Nat × Nat × List Int) (fun p τ w' => g τ 0 = .int .i64 (p.1 : Nat) ∧ g τ 1 = .int .i64 (p.2.1 : Nat) ∧ p.2.1 < b ∧ (p.1 < 1000002) ∧ So te v xs w w' p.2.2) (fun p => 1000003 - p.1) (a, b - 1, xs) ⟨rfl, rfl, by simp; omega, by simp; omega, So.refl hn⟩ ?_
  rintro ⟨i, j, ys⟩ τ w' R ⟨hi, hj, hjb, hia, hs⟩ hR
  simp only at hi hj hjb hia hs hR
  rw [hi, hj]
  (repeat (first | (refine go ?_; intros) | (refine gon ?_; intros)))
  refine if_split (fun hlt => ?_) (fun _ => h _ _ hs)
  have hlt := of_decide_eq_true hlt
  have hyl := hs.len
  obtain ⟨x, hx⟩ := get_of (xs := ys) (j := i) (by omega)
  obtain ⟨y, hy⟩ := get_of (xs := ys) (j := j) (by omega)
  have hj1 : IntKind.i64.wrap ((j : Int) - 1) = ((j - 1 : Nat) : Int) := by rw [wrap64 (by omega) (by omega)]; omega
  refine dr_top fun wA xA zA => ?_
  have hsa := hs.ex xA zA
  (repeat (first | (refine go ?_; intros) | (refine gon ?_; intros)))
  (try simp only [hj1])
  refine q_ixN j hsa.nm rfl (by omega) ?_
  refine q_ldNI (t := 22) hsa.nm hy ?_
  refine q_ixN i hsa.nm rfl (by omega) ?_
  refine q_ldNI (t := 22) hsa.nm hx ?_
  refine q_ixN i hsa.nm rfl (by omega) ?_
  refine u_stN hsa.nm (by omega) fun wb ub nb zb => ⟨trivial, ?_⟩
  refine q_ixN j hsa.nm rfl (by omega) ?_
  refine u_stN nb (by simp; omega) fun wc uc nc zc => ⟨trivial, ?_⟩
  have hs5 := hsa.trans (So.swap (w1 := wb) hx hy ub zb uc zc nc)
  (repeat (first | (refine go ?_; intros) | (refine gon ?_; intros)))
  rw [hj1, wrapS (by omega)]
  exact hR (i + 1, j - 1, _) _ _ ⟨rfl, rfl, by simp; omega, by simp; omega, hs5⟩ (by simp; omega)

theorem k274 {a b : Nat} (hn : Nm te v xs w) (hb : b ≤ xs.length) (hl : xs.length ≤ 1000000) (hab : a < b) (h50 : b - a < 50) (h : ∀ w' r, Ex w w' → w'.heap.size = w.heap.size → K (.bool r) w') :
    CK Pr 274 #[v, .int .i64 a, .int .i64 b] w K := by
  refine c274 ?_
  unfold t274
  (repeat (first | (refine go ?_; intros) | (refine gon ?_; intros)))
  rw [wrapS (by omega)]
  refine loop_n (α := Unit) (fun p τ w' => g τ 1 = .int .i64 (a + 1 : Nat) ∧ g τ 2 = .int .i64 0 ∧ w' = w) (fun _ => 0) () ⟨rfl, rfl, rfl⟩ ?_
  rintro _ τ w' R ⟨h1, h2, rfl⟩ hR
  rw [h2]
  (repeat (first | (refine go ?_; intros) | (refine gon ?_; intros)))
  unfold t274_5
  refine loop_n (α := Nat) (fun i τ1 w1 => g τ1 0 = .int .i64 i ∧ a < i ∧ i ≤ b ∧ Ex w' w1 ∧ w1.heap.size = w'.heap.size) (fun i => b - i) (a + 1) ⟨h1, by omega, by omega, .refl _ _ _, rfl⟩ ?_
  rintro i τ1 w1 R1 ⟨hi, hai, hib, e1, z1⟩ hR1
  rw [hi]
  refine dr_rule No [] fun w3 x3 z3 => ?_
  have n3 : Nm te v xs w3 := (hn.ex e1).ex x3
  have ex3 : Ex w' w3 := e1.trans x3
  have fin : t274_4 = t274_4 := rfl
  have hd : IntKind.i64.wrap ((b : Int) - a) = ((b - a : Nat) : Int) := by rw [wrap64 (by omega) (by omega)]; omega
  by_cases hlt : (i : Int) < b
  · obtain ⟨x, hx⟩ := get_of (xs := xs) (j := i) (by omega)
    obtain ⟨y, hy⟩ := get_of (xs := xs) (j := i - 1) (by omega)
    have hj1 : IntKind.i64.wrap ((i : Int) - 1) = ((i - 1 : Nat) : Int) := by rw [wrap64 (by omega) (by omega)]; omega
    (repeat (first | (refine go ?_; intros) | (refine gon ?_; intros)))
    rw [decide_eq_true hlt]
    (repeat (first | (refine go ?_; intros) | (refine gon ?_; intros)))
    refine q_ixN i n3 rfl (by omega) ?_
    (repeat (first | (refine go ?_; intros) | (refine gon ?_; intros)))
    refine q_ldNE (t := 22) n3 hx ?_
    (repeat (first | (refine go ?_; intros) | (refine gon ?_; intros)))
    rw [hj1]
    refine q_ixN (i - 1) n3 rfl (by omega) ?_
    (repeat (first | (refine go ?_; intros) | (refine gon ?_; intros)))
    refine q_ldNE (t := 22) n3 hy ?_
    (repeat (first | (refine go ?_; intros) | (refine gon ?_; intros)))
    refine cl_fn (k275 ⟨.refl _ _ _, ?_⟩)
    (repeat (first | (refine go ?_; intros) | (refine gon ?_; intros)))
    refine if_split (fun hxy => ?_) (fun hxy => ?_)
    · (repeat (first | (refine go ?_; intros) | (refine gon ?_; intros)))
      rw [wrapS (by omega)]
      exact hR1 (i + 1) _ _ ⟨rfl, by omega, by omega, ex3, by omega⟩ (by omega)
    · unfold t274_4
      rw [hi]
      (repeat (first | (refine go ?_; intros) | (refine gon ?_; intros)))
      refine if_split (fun _ => h _ _ ex3 (by omega)) (fun _ => ?_)
      unfold t274_3
      (repeat (first | (refine go ?_; intros) | (refine gon ?_; intros)))
      rw [hd]
      refine if_split (fun _ => h _ _ ex3 (by omega)) (fun hc => ?_)
      have := of_decide_eq_false hc
      omega
  · (repeat (first | (refine go ?_; intros) | (refine gon ?_; intros)))
    rw [decide_eq_false hlt]
    (repeat (first | (refine go ?_; intros) | (refine gon ?_; intros)))
    unfold t274_4
    rw [hi]
    (repeat (first | (refine go ?_; intros) | (refine gon ?_; intros)))
    refine if_split (fun _ => h _ _ ex3 (by omega)) (fun hc => ?_)
    have := of_decide_eq_false hc
    omega

end Go.Proofs.YtmmpogfbhelioaaGreat
/-
  Contracts: the pattern defeating sort's partition.
  Conditions: each one's own.
-/
namespace Go.Proofs.YtmmpogfbhelioaaGreat
set_option maxRecDepth 10000
set_option linter.unusedVariables false
set_option linter.unusedSimpArgs false
set_option linter.unusedVariables false
set_option linter.unusedSimpArgs false
attribute [local irreducible] Instr.box Instr.alloc Instr.loadAt Instr.storeAt Instr.fieldAt Instr.indexAt Instr.build Instr.buildSlice Instr.makeSlice Instr.makeMap Instr.mapUpdate Instr.lookup Instr.range Instr.next Instr.entry Instr.extract Instr.makeInterface Instr.makeFunc Instr.sliceAt Instr.typeAssert Instr.field Instr.index Builtin.len_ Builtin.cap_ Builtin.max_ Builtin.min_ Builtin.append_ Builtin.copy_ Builtin.delete_ convert binS pickS nilS callV callM Op.unary Own Mp It Cu

attribute [local irreducible] Nm

variable {K : Value → World → Prop} {w : World} {te : Nat} {v : Value} {xs : List Int}

theorem pt_1 {w0 w6 : World} {zs : List Int} {a b i j : Nat} {τ3 τ4 : List Value} {R3 : List Value → World → Prop} (hl : xs.length ≤ 1000000) (hb : b ≤ xs.length) (hs : So te v xs w0 w6 zs) (hai : a < i) (hib : i ≤ b + 1) (haj : a ≤ j) (hjb : j < b)
    (h : ∀ w' xs' (m : Nat) r, So te v xs w0 w' xs' → a ≤ m → m < b → K (.tuple #[.int .i64 (m : Nat), .bool r]) w')
    (hi4 : g τ4 0 = .int .i64 i) (hj3 : g τ3 1 = .int .i64 j)
    (hR : ∀ (i' j' : Nat) zs' τ w', g τ 0 = .int .i64 i' → g τ 1 = .int .i64 j' → i < i' → i' ≤ b + 1 → a ≤ j' → j' < b → So te v xs w0 w' zs' → R3 τ w') (q1 q2 q3 q4 q5 q6 q7 q8 q9 q10 q11 : Value) :
    t277_1 τ3 τ4 v (.int .i64 a) K R3 q1 q2 q3 q4 q5 q6 q7 q8 q9 q10 q11 w6 := by
  unfold t277_1
  have hzl := hs.len
  obtain ⟨za, hza⟩ := get_of (xs := zs) (j := a) (by omega)
  refine loop_n (α := Nat) (fun j' τ' w' => g τ' 0 = .int .i64 j' ∧ a ≤ j' ∧ j' < b ∧ So te v xs w0 w' zs) (fun j' => j') j ⟨hj3, by omega, by omega, hs⟩ ?_
  rintro j' τ5 w10 R5 ⟨hj5, haj5, hj5b, hs10⟩ hR5
  rw [hi4, hj5]
  refine dr_rule No [] fun w11 x11 z11 => ?_
  have hs11 := hs10.ex x11 z11
  obtain ⟨zj, hzj⟩ := get_of (xs := zs) (j := j') (by omega)
  by_cases hle : (i : Int) ≤ j'
  · obtain ⟨zi, hzi⟩ := get_of (xs := zs) (j := i) (by omega)
    have hj1 : IntKind.i64.wrap ((j' : Int) - 1) = ((j' - 1 : Nat) : Int) := by rw [wrap64 (by omega) (by omega)]; omega
    (repeat (first | (refine go ?_; intros) | (refine gon ?_; intros)))
    rw [decide_eq_true hle]
    (repeat (first | (refine go ?_; intros) | (refine gon ?_; intros)))
    (try simp only [hj1])
    refine q_ixN j' hs11.nm rfl (by omega) ?_
    (repeat (first | (refine go ?_; intros) | (refine gon ?_; intros)))
    refine q_ldNE (t := 22) hs11.nm hzj ?_
    (repeat (first | (refine go ?_; intros) | (refine gon ?_; intros)))
    (try simp only [hj1])
    refine q_ixN a hs11.nm rfl (by omega) ?_
    (repeat (first | (refine go ?_; intros) | (refine gon ?_; intros)))
    refine q_ldNE (t := 22) hs11.nm hza ?_
    (repeat (first | (refine go ?_; intros) | (refine gon ?_; intros)))
    refine cl_fn (k275 ⟨.refl _ _ _, ?_⟩)
    (repeat (first | (refine go ?_; intros) | (refine gon ?_; intros)))
    refine if_split (fun _ => ?_) (fun _ => ?_)
    · (repeat (first | (refine go ?_; intros) | (refine gon ?_; intros)))
      rw [hj1]
      exact hR5 (j' - 1) _ _ ⟨rfl, by omega, by omega, hs11⟩ (by omega)
    · (repeat (first | (refine go ?_; intros) | (refine gon ?_; intros)))
      refine if_split (fun hc => by have := of_decide_eq_true hc; omega) (fun _ => ?_)
      refine dr_top fun wA xA zA => ?_
      have hs11a := hs11.ex xA zA
      (repeat (first | (refine go ?_; intros) | (refine gon ?_; intros)))
      (try simp only [hj1])
      refine q_ixN j' hs11a.nm rfl (by omega) ?_
      refine q_ldNI (t := 22) hs11a.nm hzj ?_
      refine q_ixN i hs11a.nm rfl (by omega) ?_
      refine q_ldNI (t := 22) hs11a.nm hzi ?_
      refine q_ixN i hs11a.nm rfl (by omega) ?_
      refine u_stN hs11a.nm (by omega) fun wb ub nb zb => ⟨trivial, ?_⟩
      refine q_ixN j' hs11a.nm rfl (by omega) ?_
      refine u_stN nb (by simp; omega) fun wc uc nc zc => ⟨trivial, ?_⟩
      have hs12 := hs11a.trans (So.swap (w1 := wb) hzi hzj ub zb uc zc nc)
      (repeat (first | (refine go ?_; intros) | (refine gon ?_; intros)))
      rw [hj1, wrapS (by omega)]
      exact hR (i + 1) (j' - 1) _ _ _ rfl rfl (by omega) (by omega) (by omega) (by omega) hs12
  · (repeat (first | (refine go ?_; intros) | (refine gon ?_; intros)))
    rw [decide_eq_false hle]
    (repeat (first | (refine go ?_; intros) | (refine gon ?_; intros)))
    refine if_split (fun _ => ?_) (fun hc => by have := of_decide_eq_false hc; omega)
    refine dr_top fun wA xA zA => ?_
    have hs11a := hs11.ex xA zA
    (repeat (first | (refine go ?_; intros) | (refine gon ?_; intros)))
    (try simp only [hj1])
    refine q_ixN a hs11a.nm rfl (by omega) ?_
    refine q_ldNI (t := 22) hs11a.nm hza ?_
    refine q_ixN j' hs11a.nm rfl (by omega) ?_
    refine q_ldNI (t := 22) hs11a.nm hzj ?_
    refine q_ixN j' hs11a.nm rfl (by omega) ?_
    refine u_stN hs11a.nm (by omega) fun wb ub nb zb => ⟨trivial, ?_⟩
    refine q_ixN a hs11a.nm rfl (by omega) ?_
    refine u_stN nb (by simp; omega) fun wc uc nc zc => ⟨trivial, ?_⟩
    have hs12 := hs11a.trans (So.swap (w1 := wb) hzj hza ub zb uc zc nc)
    exact h _ _ j' false hs12 haj5 hj5b

theorem pt_2 {w0 w6 : World} {ys : List Int} {a b i j : Nat} {τ τ2 : List Value} (hl : xs.length ≤ 1000000) (hb : b ≤ xs.length) (hs : So te v xs w0 w6 ys) (hai : a < i) (hij : i ≤ j) (hjb : j < b)
    (h : ∀ w' xs' (m : Nat) r, So te v xs w0 w' xs' → a ≤ m → m < b → K (.tuple #[.int .i64 (m : Nat), .bool r]) w')
    (hi : g τ 0 = .int .i64 i) (hj : g τ2 0 = .int .i64 j) : t277_2 w6 v τ2 τ (.int .i64 a) K := by
  unfold t277_2
  rw [hi, hj]
  have hyl := hs.len
  obtain ⟨yj, hyj⟩ := get_of (xs := ys) (j := j) (by omega)
  obtain ⟨yi, hyi⟩ := get_of (xs := ys) (j := i) (by omega)
  have hj1 : IntKind.i64.wrap ((j : Int) - 1) = ((j - 1 : Nat) : Int) := by rw [wrap64 (by omega) (by omega)]; omega
  refine dr_top fun wA xA zA => ?_
  have hsa := hs.ex xA zA
  (repeat (first | (refine go ?_; intros) | (refine gon ?_; intros)))
  (try simp only [hj1])
  refine q_ixN j hsa.nm rfl (by omega) ?_
  refine q_ldNI (t := 22) hsa.nm hyj ?_
  refine q_ixN i hsa.nm rfl (by omega) ?_
  refine q_ldNI (t := 22) hsa.nm hyi ?_
  refine q_ixN i hsa.nm rfl (by omega) ?_
  refine u_stN hsa.nm (by omega) fun wb ub nb zb => ⟨trivial, ?_⟩
  refine q_ixN j hsa.nm rfl (by omega) ?_
  refine u_stN nb (by simp; omega) fun wc uc nc zc => ⟨trivial, ?_⟩
  have hs7 := hsa.trans (So.swap (w1 := wb) hyi hyj ub zb uc zc nc)
  (repeat (first | (refine go ?_; intros) | (refine gon ?_; intros)))
  rw [hj1, wrapS (by omega)]
  refine loop_n (α := Nat × Nat × List Int) (fun q τ' w' => g τ' 0 = .int .i64 (q.1 : Nat) ∧ g τ' 1 = .int .i64 (q.2.1 : Nat) ∧ a < q.1 ∧ q.1 ≤ b + 1 ∧ a ≤ q.2.1 ∧ q.2.1 < b ∧ So te v xs w0 w' q.2.2) (fun q => b + 2 - q.1) (i + 1, j - 1, _) ⟨rfl, rfl, by simp; omega, by simp; omega, by simp; omega, by simp; omega, hs7⟩ ?_
  clear hs7 hsa hyj hyi hs hi hj hij hjb hai hj1 hyl nb ub uc nc
  rintro ⟨i, j, zs⟩ τ3 w7 R3 ⟨hi3, hj3, ha3, hi3b, haj3, hj3b, hs⟩ hR3
  simp only at hi3 hj3 ha3 hi3b haj3 hj3b hs hR3
  have hzl := hs.len
  refine loop_n (α := Nat) (fun i' τ' w' => g τ' 0 = .int .i64 i' ∧ i ≤ i' ∧ i' ≤ b + 1 ∧ So te v xs w0 w' zs) (fun i' => b + 2 - i') i ⟨hi3, by omega, by omega, hs⟩ ?_
  rintro i' τ4 w8 R4 ⟨hi4, hii, hi4b, hs8⟩ hR4
  rw [hi4, hj3]
  refine dr_rule No [] fun w9 x9 z9 => ?_
  have hs9 := hs8.ex x9 z9
  obtain ⟨za, hza⟩ := get_of (xs := zs) (j := a) (by omega)
  by_cases hle : (i' : Int) ≤ j
  · obtain ⟨zi, hzi⟩ := get_of (xs := zs) (j := i') (by omega)
    have hj1 : True := trivial
    (repeat (first | (refine go ?_; intros) | (refine gon ?_; intros)))
    rw [decide_eq_true hle]
    (repeat (first | (refine go ?_; intros) | (refine gon ?_; intros)))
    (try simp only [hj1])
    refine q_ixN i' hs9.nm rfl (by omega) ?_
    (repeat (first | (refine go ?_; intros) | (refine gon ?_; intros)))
    refine q_ldNE (t := 22) hs9.nm hzi ?_
    (repeat (first | (refine go ?_; intros) | (refine gon ?_; intros)))
    (try simp only [hj1])
    refine q_ixN a hs9.nm rfl (by omega) ?_
    (repeat (first | (refine go ?_; intros) | (refine gon ?_; intros)))
    refine q_ldNE (t := 22) hs9.nm hza ?_
    (repeat (first | (refine go ?_; intros) | (refine gon ?_; intros)))
    refine cl_fn (k275 ⟨.refl _ _ _, ?_⟩)
    (repeat (first | (refine go ?_; intros) | (refine gon ?_; intros)))
    refine if_split (fun _ => ?_) (fun _ => ?_)
    · (repeat (first | (refine go ?_; intros) | (refine gon ?_; intros)))
      rw [wrapS (by omega)]
      exact hR4 (i' + 1) _ _ ⟨rfl, by omega, by omega, hs9⟩ (by omega)
    · exact pt_1 hl hb hs9 (by omega) hi4b haj3 hj3b h hi4 hj3 (fun i2 j2 zs' τ w' h1 h2 h3 h4 h5 h6 h7 => hR3 (i2, j2, zs') τ w' ⟨h1, h2, by simp; omega, h4, h5, h6, h7⟩ (by simp; omega)) _ _ _ _ _ _ _ _ _ _ _
  · (repeat (first | (refine go ?_; intros) | (refine gon ?_; intros)))
    rw [decide_eq_false hle]
    (repeat (first | (refine go ?_; intros) | (refine gon ?_; intros)))
    exact pt_1 hl hb hs9 (by omega) hi4b haj3 hj3b h hi4 hj3 (fun i2 j2 zs' τ w' h1 h2 h3 h4 h5 h6 h7 => hR3 (i2, j2, zs') τ w' ⟨h1, h2, by simp; omega, h4, h5, h6, h7⟩ (by simp; omega)) _ _ _ _ _ _ _ _ _ _ _

theorem pt_3 {w0 w6 : World} {ys : List Int} {a b i j : Nat} {τ τ2 : List Value} (hl : xs.length ≤ 1000000) (hb : b ≤ xs.length) (hs : So te v xs w0 w6 ys) (hai : a < i) (haj : a ≤ j) (hjb : j < b)
    (h : ∀ w' xs' (m : Nat) r, So te v xs w0 w' xs' → a ≤ m → m < b → K (.tuple #[.int .i64 (m : Nat), .bool r]) w')
    (hi : g τ 0 = .int .i64 i) (hj : g τ2 0 = .int .i64 j) : t277_3 w6 τ τ2 v (.int .i64 a) K := by
  unfold t277_3
  rw [hi, hj]
  have hyl := hs.len
  have hj1 : True := trivial
  obtain ⟨yj, hyj⟩ := get_of (xs := ys) (j := j) (by omega)
  obtain ⟨ya, hya⟩ := get_of (xs := ys) (j := a) (by omega)
  (repeat (first | (refine go ?_; intros) | (refine gon ?_; intros)))
  refine if_split (fun _ => ?_) (fun hgt => ?_)
  · refine dr_top fun wA xA zA => ?_
    have hsa := hs.ex xA zA
    (repeat (first | (refine go ?_; intros) | (refine gon ?_; intros)))
    (try simp only [hj1])
    refine q_ixN a hsa.nm rfl (by omega) ?_
    refine q_ldNI (t := 22) hsa.nm hya ?_
    refine q_ixN j hsa.nm rfl (by omega) ?_
    refine q_ldNI (t := 22) hsa.nm hyj ?_
    refine q_ixN j hsa.nm rfl (by omega) ?_
    refine u_stN hsa.nm (by omega) fun wb ub nb zb => ⟨trivial, ?_⟩
    refine q_ixN a hsa.nm rfl (by omega) ?_
    refine u_stN nb (by simp; omega) fun wc uc nc zc => ⟨trivial, ?_⟩
    have hs7 := hsa.trans (So.swap (w1 := wb) hyj hya ub zb uc zc nc)
    exact h _ _ j true hs7 haj hjb
  · have hgt := of_decide_eq_false hgt
    exact pt_2 hl hb hs hai (by omega) hjb h hi hj

theorem pt_4 {w0 w6 : World} {ys : List Int} {a b i j : Nat} {τ : List Value} (hl : xs.length ≤ 1000000) (hb : b ≤ xs.length) (hs : So te v xs w0 w6 ys) (hai : a < i) (haj : a ≤ j) (hjb : j < b)
    (h : ∀ w' xs' (m : Nat) r, So te v xs w0 w' xs' → a ≤ m → m < b → K (.tuple #[.int .i64 (m : Nat), .bool r]) w')
    (hi : g τ 0 = .int .i64 i) : t277_4 (.int .i64 j) τ v (.int .i64 a) K w6 := by
  unfold t277_4
  have hyl := hs.len
  obtain ⟨ya, hya⟩ := get_of (xs := ys) (j := a) (by omega)
  refine loop_n (α := Nat) (fun j τ' w' => g τ' 0 = .int .i64 j ∧ a ≤ j ∧ j < b ∧ So te v xs w0 w' ys) (fun j => j) j ⟨rfl, by omega, by omega, hs⟩ ?_
  clear haj hjb hs
  rintro j τ2 w4 R2 ⟨hj, haj, hjb, hs4⟩ hR2
  rw [hi, hj]
  refine dr_rule No [] fun w5 x5 z5 => ?_
  have hs5 := hs4.ex x5 z5
  by_cases hle : (i : Int) ≤ j
  · obtain ⟨yj, hyj⟩ := get_of (xs := ys) (j := j) (by omega)
    have hj1 : IntKind.i64.wrap ((j : Int) - 1) = ((j - 1 : Nat) : Int) := by rw [wrap64 (by omega) (by omega)]; omega
    (repeat (first | (refine go ?_; intros) | (refine gon ?_; intros)))
    rw [decide_eq_true hle]
    (repeat (first | (refine go ?_; intros) | (refine gon ?_; intros)))
    (try simp only [hj1])
    refine q_ixN j hs5.nm rfl (by omega) ?_
    (repeat (first | (refine go ?_; intros) | (refine gon ?_; intros)))
    refine q_ldNE (t := 22) hs5.nm hyj ?_
    (repeat (first | (refine go ?_; intros) | (refine gon ?_; intros)))
    (try simp only [hj1])
    refine q_ixN a hs5.nm rfl (by omega) ?_
    (repeat (first | (refine go ?_; intros) | (refine gon ?_; intros)))
    refine q_ldNE (t := 22) hs5.nm hya ?_
    (repeat (first | (refine go ?_; intros) | (refine gon ?_; intros)))
    refine cl_fn (k275 ⟨.refl _ _ _, ?_⟩)
    (repeat (first | (refine go ?_; intros) | (refine gon ?_; intros)))
    refine if_split (fun _ => ?_) (fun _ => ?_)
    · (repeat (first | (refine go ?_; intros) | (refine gon ?_; intros)))
      rw [hj1]
      exact hR2 (j - 1) _ _ ⟨rfl, by omega, by omega, hs5⟩ (by omega)
    · exact pt_3 hl hb hs5 hai haj hjb h hi hj
  · (repeat (first | (refine go ?_; intros) | (refine gon ?_; intros)))
    rw [decide_eq_false hle]
    (repeat (first | (refine go ?_; intros) | (refine gon ?_; intros)))
    exact pt_3 hl hb hs5 hai haj hjb h hi hj

theorem k277 {a b p : Nat} (hn : Nm te v xs w) (hb : b ≤ xs.length) (hl : xs.length ≤ 1000000) (hab : a < b) (hp : p < xs.length) (h : ∀ w' xs' (m : Nat) r, So te v xs w w' xs' → a ≤ m → m < b → K (.tuple #[.int .i64 (m : Nat), .bool r]) w') :
    CK Pr 277 #[v, .int .i64 a, .int .i64 b, .int .i64 p] w K := by
  refine c277 ?_
  unfold t277
  obtain ⟨xa, hxa⟩ := get_of (xs := xs) (j := a) (by omega)
  obtain ⟨xp, hxp⟩ := get_of hp
  have hs := So.refl hn
  have hj1 : IntKind.i64.wrap ((b : Int) - 1) = ((b - 1 : Nat) : Int) := by rw [wrap64 (by omega) (by omega)]; omega
  refine dr_top fun wA xA zA => ?_
  have hsa := hs.ex xA zA
  (repeat (first | (refine go ?_; intros) | (refine gon ?_; intros)))
  (try simp only [hj1])
  refine q_ixN p hsa.nm rfl (by omega) ?_
  refine q_ldNI (t := 22) hsa.nm hxp ?_
  refine q_ixN a hsa.nm rfl (by omega) ?_
  refine q_ldNI (t := 22) hsa.nm hxa ?_
  refine q_ixN a hsa.nm rfl (by omega) ?_
  refine u_stN hsa.nm (by omega) fun wb ub nb zb => ⟨trivial, ?_⟩
  refine q_ixN p hsa.nm rfl (by omega) ?_
  refine u_stN nb (by simp; omega) fun wc uc nc zc => ⟨trivial, ?_⟩
  have hs1 := hsa.trans (So.swap (w1 := wb) hxa hxp ub zb uc zc nc)
  (repeat (first | (refine go ?_; intros) | (refine gon ?_; intros)))
  rw [hj1, wrapS (by omega)]
  clear hs hsa nb nc
  generalize (xs.set a xp).set p xa = ys at hs1
  have hyl := hs1.len
  refine loop_n (α := Nat) (fun i τ w' => g τ 0 = .int .i64 i ∧ a < i ∧ i ≤ b ∧ So te v xs w w' ys) (fun i => b - i) (a + 1) ⟨rfl, by omega, by omega, hs1⟩ ?_
  clear hs1
  rintro i τ w1 R ⟨hi, hai, hib, hs⟩ hR
  rw [hi]
  refine dr_rule No [] fun w3 x3 z3 => ?_
  have hs3 := hs.ex x3 z3
  obtain ⟨ya, hya⟩ := get_of (xs := ys) (j := a) (by omega)
  by_cases hle : (i : Int) ≤ (b - 1 : Nat)
  · obtain ⟨yi, hyi⟩ := get_of (xs := ys) (j := i) (by omega)
    (repeat (first | (refine go ?_; intros) | (refine gon ?_; intros)))
    rw [decide_eq_true hle]
    (repeat (first | (refine go ?_; intros) | (refine gon ?_; intros)))
    (try simp only [hj1])
    refine q_ixN i hs3.nm rfl (by omega) ?_
    (repeat (first | (refine go ?_; intros) | (refine gon ?_; intros)))
    refine q_ldNE (t := 22) hs3.nm hyi ?_
    (repeat (first | (refine go ?_; intros) | (refine gon ?_; intros)))
    (try simp only [hj1])
    refine q_ixN a hs3.nm rfl (by omega) ?_
    (repeat (first | (refine go ?_; intros) | (refine gon ?_; intros)))
    refine q_ldNE (t := 22) hs3.nm hya ?_
    (repeat (first | (refine go ?_; intros) | (refine gon ?_; intros)))
    refine cl_fn (k275 ⟨.refl _ _ _, ?_⟩)
    (repeat (first | (refine go ?_; intros) | (refine gon ?_; intros)))
    refine if_split (fun _ => ?_) (fun _ => ?_)
    · (repeat (first | (refine go ?_; intros) | (refine gon ?_; intros)))
      rw [wrapS (by omega)]
      exact hR (i + 1) _ _ ⟨rfl, by omega, by omega, hs3⟩ (by omega)
    · exact pt_4 hl hb hs3 hai (by omega) (by omega) h hi
  · (repeat (first | (refine go ?_; intros) | (refine gon ?_; intros)))
    rw [decide_eq_false hle]
    (repeat (first | (refine go ?_; intros) | (refine gon ?_; intros)))
    exact pt_4 hl hb hs3 hai (by omega) (by omega) h hi

end Go.Proofs.YtmmpogfbhelioaaGreat
/-
  Contracts: the sort of at most 13 numbers.
  Conditions: each one's own.
-/
namespace Go.Proofs.YtmmpogfbhelioaaGreat
set_option maxRecDepth 10000
set_option linter.unusedVariables false
set_option linter.unusedSimpArgs false
set_option linter.unusedVariables false
set_option linter.unusedSimpArgs false
attribute [local irreducible] Instr.box Instr.alloc Instr.loadAt Instr.storeAt Instr.fieldAt Instr.indexAt Instr.build Instr.buildSlice Instr.makeSlice Instr.makeMap Instr.mapUpdate Instr.lookup Instr.range Instr.next Instr.entry Instr.extract Instr.makeInterface Instr.makeFunc Instr.sliceAt Instr.typeAssert Instr.field Instr.index Builtin.len_ Builtin.cap_ Builtin.max_ Builtin.min_ Builtin.append_ Builtin.copy_ Builtin.delete_ convert binS pickS nilS callV callM Op.unary Own Mp It Cu

attribute [local irreducible] Nm

variable {K : Value → World → Prop} {w : World} {te : Nat} {v : Value} {xs : List Int}

theorem jo_id {α : Type} {R : α} {B : α → Prop} (h : B R) : Jo R B := h
theorem jo_rule {α : Type} {R : α} {B : α → Prop} (Q : α → Prop) (hR : Q R) (h : ∀ J, Q J → B J) : Jo R B := h R hR

theorem q_ixStr {P : Program} {S : World → Prop} {K : Value → Prop} {t : Nat} [hs : TUn P t .string] {s : ByteArray} {i : Int} {k : IntKind} {b : UInt8} (h0 : 0 ≤ i) (hb : s[i.toNat]? = some b) (kk : K (.int .u8 b.toNat)) : Qu P S (Instr.index t (.string s) (.int k i)) K :=
  .mk _ (fun w _ => by
    simp only [Instr.index, asIntOf, Sem.run_bind, Sem.run_pure, Result.andThen_ok, run_und hs.ok, if_pos h0, hb]) kk

theorem k208s {a b : Nat} {l : Int} (hn : Nm te v xs w) (hb : b ≤ xs.length) (hl : xs.length ≤ 1000000) (ha : a ≤ 1000000) (h12 : b ≤ a + 12) (h : ∀ w' xs', So te v xs w w' xs' → K (.tuple #[]) w') :
    CK Pr 208 #[v, .int .i64 a, .int .i64 b, .int .i64 l] w K := by
  refine c208 ?_
  unfold t208
  refine loop_n (α := Unit) (fun p τ w' => g τ 0 = .int .i64 a ∧ g τ 1 = .int .i64 b ∧ w' = w) (fun _ => 0) () ⟨rfl, rfl, rfl⟩ ?_
  rintro _ τ w' R ⟨h1, h2, rfl⟩ hR
  rw [h1, h2]
  refine jo_id ?_
  (repeat (first | (refine go ?_; intros) | (refine gon ?_; intros)))
  rw [wrap64 (by omega) (by omega)]
  refine if_split (fun _ => ?_) (fun hc => by have := of_decide_eq_false hc; omega)
  exact cl_fn (k269 hn hb hl ha h)

theorem Nm.lt (hn : Nm te v xs w) (h : xs ≠ []) : ∀ b, sb v b → b < w.heap.size := by
  unfold Nm at hn
  obtain ⟨a, c, rfl, hm, hc, hh⟩ := hn
  rcases hh with hh | ⟨b, o, cs, rfl, hb, _⟩
  · exact absurd hh h
  · intro x hx
    cases hx
    exact hb.lt

theorem So.lt {w' : World} {xs' : List Int} (h : So te v xs w w' xs') (hx : xs ≠ []) : ∀ b, sb v b → b < w'.heap.size :=
  h.nm.lt (by intro h0; have := h.len; rw [h0] at this; exact hx (List.eq_nil_of_length_eq_zero this.symm))

set_option maxHeartbeats 800000 in
theorem k208b {l : Int} (hn : Nm te v xs w) (hl : xs.length = 13) (hl0 : l ≠ 0) (h : ∀ w' xs', So te v xs w w' xs' → K (.tuple #[]) w') :
    CK Pr 208 #[v, .int .i64 0, .int .i64 13, .int .i64 l] w K := by
  refine c208 ?_
  unfold t208
  refine loop_n (α := Option (Nat × Nat × List Int)) (fun p τ w' => match p with
      | none => g τ 0 = .int .i64 0 ∧ g τ 1 = .int .i64 13 ∧ g τ 2 = .int .i64 l ∧ g τ 3 = .bool true ∧ g τ 4 = .bool true ∧ w' = w
      | some (a, b, ys) => g τ 0 = .int .i64 a ∧ g τ 1 = .int .i64 b ∧ b ≤ 13 ∧ a ≤ 13 ∧ b ≤ a + 12 ∧ So te v xs w w' ys) (fun p => match p with | none => 1 | some _ => 0) none ⟨rfl, rfl, rfl, rfl, rfl, rfl⟩ ?_
  intro p τ w' R hI hR
  have hne : xs ≠ [] := by intro h0; rw [h0] at hl; cases hl
  rcases p with _ | ⟨a, b, ys⟩
  · obtain ⟨h0, h1, h2, h3, h4, hw⟩ := hI
    refine jo_id ?_
    rw [h0, h1]
    (repeat (first | (refine go ?_; intros) | (refine gon ?_; intros)))
    unfold t208_5
    rw [h2]
    (repeat (first | (refine go ?_; intros) | (refine gon ?_; intros)))
    rw [show (l == 0) = false from by simpa using hl0]
    (repeat (first | (refine go ?_; intros) | (refine gon ?_; intros)))
    unfold t208_4
    rw [h3]
    (repeat (first | (refine go ?_; intros) | (refine gon ?_; intros)))
    refine jo_id ?_
    (repeat (first | (refine go ?_; intros) | (refine gon ?_; intros)))
    unfold t208_3
    rw [h0, h1]
    subst hw
    refine cl_fn (k272 hn hl (hn.lt hne) fun w1 r hint e1 hr hg => ?_)
    (repeat (first | (refine go ?_; intros) | (refine gon ?_; intros)))
    refine jo_rule (fun J => ∀ q1 q2 q3 q4 q5 q6 q7 q8 q9 q10 (p : Nat) (hint : Int) w2 ys, p < 13 → So te v xs w' w2 ys → J q1 q2 q3 q4 q5 q6 q7 q8 q9 q10 (.int .i64 p) (.int .i64 hint) w2) ?_ ?_
    rotate_left
    · intro J hJ
      have hs1 : So te v xs w' w1 xs := (So.refl hn).new e1
      refine if_split (fun _ => ?_) (fun _ => hJ _ _ _ _ _ _ _ _ _ _ _ _ _ _ hr hs1)
      refine cl_fn (k273 (a := 0) (b := 13) hs1.nm (by omega) (by omega) (by omega) fun w2 ys s2 => ?_)
      (repeat (first | (refine go ?_; intros) | (refine gon ?_; intros)))
      have hp : IntKind.i64.wrap (IntKind.i64.wrap (13 - 1) - IntKind.i64.wrap ((r : Int) - 0)) = ((12 - r : Nat) : Int) := by
        rw [show IntKind.i64.wrap (13 - 1) = 12 from rfl, wrap64 (n := (r : Int) - 0) (by omega) (by omega), wrap64 (by omega) (by omega)]
        omega
      rw [hp]
      exact hJ _ _ _ _ _ _ _ _ _ _ _ _ _ _ (by omega) (hs1.trans s2)
    · intro q1 q2 q3 q4 q5 q6 q7 q8 q9 q10 p hint w2 ys hp hs
      unfold t208_2
      rw [h3, h4]
      (repeat (first | (refine go ?_; intros) | (refine gon ?_; intros)))
      refine jo_rule (fun J => ∀ q1 q2 q3 q4 w2 ys, So te v xs w' w2 ys → J q1 q2 q3 q4 w2) ?_ ?_
      rotate_left
      · intro J hJ
        refine if_split (fun _ => ?_) (fun _ => hJ _ _ _ _ _ _ hs)
        rw [h0, h1]
        have hyl := hs.len
        refine cl_fn (k274 (a := 0) (b := 13) hs.nm (by omega) (by omega) (by omega) (by omega) fun w3 r e3 z3 => ?_)
        have hs3 := hs.ex e3 z3
        cases r
        · (repeat (first | (refine go ?_; intros) | (refine gon ?_; intros)))
          exact hJ _ _ _ _ _ _ hs3
        · (repeat (first | (refine go ?_; intros) | (refine gon ?_; intros)))
          exact h _ _ hs3
      · clear hs
        intro q1 q2 q3 q4 w2 ys hs
        have hyl := hs.len
        unfold t208_1
        refine dr_rule No [] fun w3 x3 z3 => ?_
        have hs3 := hs.ex x3 z3
        rw [h0, h1, h2]
        (repeat (first | (refine go ?_; intros) | (refine gon ?_; intros)))
        refine cl_fn (k277 (a := 0) (b := 13) hs3.nm (by omega) (by omega) (by omega) (by omega) fun w4 zs m r s4 hm1 hm2 => ?_)
        have hs4 := hs3.trans s4
        have hzl := hs4.len
        (repeat (first | (refine go ?_; intros) | (refine gon ?_; intros)))
        refine q_quo (by omega) ?_
        (repeat (first | (refine go ?_; intros) | (refine gon ?_; intros)))
        rw [wrap64 (n := (m : Int) - 0) (by omega) (by omega), wrap64 (n := 13 - (m : Int)) (by omega) (by omega)]
        refine jo_id ?_
        refine if_split (fun _ => ?_) (fun _ => ?_)
        · (repeat (first | (refine go ?_; intros) | (refine gon ?_; intros)))
          refine cl_fn (k208s (a := 0) (b := m) hs4.nm (by omega) (by omega) (by omega) (by omega) fun w5 us s5 => ?_)
          have hs5 := hs4.trans s5
          (repeat (first | (refine go ?_; intros) | (refine gon ?_; intros)))
          rw [wrapS (by omega)]
          exact hR (some (m + 1, 13, us)) _ _ ⟨rfl, rfl, by omega, by omega, by omega, hs5⟩ (by simp)
        · (repeat (first | (refine go ?_; intros) | (refine gon ?_; intros)))
          rw [wrapS (by omega)]
          refine cl_fn (k208s (a := m + 1) (b := 13) hs4.nm (by omega) (by omega) (by omega) (by omega) fun w5 us s5 => ?_)
          have hs5 := hs4.trans s5
          exact hR (some (0, m, us)) _ _ ⟨rfl, rfl, by omega, by omega, by omega, hs5⟩ (by simp)
  · obtain ⟨h0, h1, hb, ha, h12, hs⟩ := hI
    refine jo_id ?_
    rw [h0, h1]
    (repeat (first | (refine go ?_; intros) | (refine gon ?_; intros)))
    rw [wrap64 (by omega) (by omega)]
    have hyl := hs.len
    refine if_split (fun _ => ?_) (fun hc => by have := of_decide_eq_false hc; omega)
    exact cl_fn (k269 hs.nm (by omega) (by omega) (by omega) fun w2 zs s2 => h _ _ (hs.trans s2))

end Go.Proofs.YtmmpogfbhelioaaGreat
/-
  Contract: slices.Sort of at most 13 numbers: they stay, in some order.
  Conditions: each one's own.
-/
namespace Go.Proofs.YtmmpogfbhelioaaGreat
set_option maxRecDepth 10000
set_option linter.unusedVariables false
set_option linter.unusedSimpArgs false
set_option linter.unusedVariables false
set_option linter.unusedSimpArgs false
attribute [local irreducible] Instr.box Instr.alloc Instr.loadAt Instr.storeAt Instr.fieldAt Instr.indexAt Instr.build Instr.buildSlice Instr.makeSlice Instr.makeMap Instr.mapUpdate Instr.lookup Instr.range Instr.next Instr.entry Instr.extract Instr.makeInterface Instr.makeFunc Instr.sliceAt Instr.typeAssert Instr.field Instr.index Builtin.len_ Builtin.cap_ Builtin.max_ Builtin.min_ Builtin.append_ Builtin.copy_ Builtin.delete_ convert binS pickS nilS callV callM Op.unary Own Mp It Cu

attribute [local irreducible] Nm

variable {K : Value → World → Prop} {w : World} {te : Nat} {v : Value} {xs : List Int}

instance tun305 : TUn Pr 305 (.int .u64) := ⟨by kernel_rfl⟩

set_option maxHeartbeats 1000000 in
theorem k279 {n : Nat} (hn : n ≤ 13) (h : ∀ l : Int, (n ≠ 0 → l ≠ 0) → K (.int .i64 l) w) : CK Pr 279 #[.int .u64 n] w K := by
  refine c279 ?_
  unfold t279
  unfold Jo
  have hc : n = 0 ∨ n = 1 ∨ n = 2 ∨ n = 3 ∨ n = 4 ∨ n = 5 ∨ n = 6 ∨ n = 7 ∨ n = 8 ∨ n = 9 ∨ n = 10 ∨ n = 11 ∨ n = 12 ∨ n = 13 := by omega
  rcases hc with rfl | rfl | rfl | rfl | rfl | rfl | rfl | rfl | rfl | rfl | rfl | rfl | rfl | rfl
  all_goals
    (repeat (first | (refine go ?_; intros) | (refine gon ?_; intros)))
    refine q_ixStr (by decide) rfl ?_
    (repeat (first | (refine go ?_; intros) | (refine gon ?_; intros)))
    exact h _ (by decide)

theorem k209 {n : Nat} (hn : n ≤ 13) (h : ∀ l : Int, (n ≠ 0 → l ≠ 0) → K (.int .i64 l) w) : CK Pr 209 #[.int .u64 n] w K := by
  refine c209 ?_
  unfold t209
  (repeat (first | (refine go ?_; intros) | (refine gon ?_; intros)))
  exact cl_fn (k279 hn h)

theorem k131 (hn : Nm te v xs w) (hl : xs.length ≤ 13) (h : ∀ w' xs', So te v xs w w' xs' → K (.tuple #[]) w') : CK Pr 131 #[v] w K := by
  refine c131 ?_
  unfold t131
  refine q_lenSl hn.sl ?_
  rw [show (nums xs).length = xs.length by simp [nums]]
  (repeat (first | (refine go ?_; intros) | (refine gon ?_; intros)))
  rw [wrapU (by omega) (by omega)]
  refine cl_fn (k209 hl fun l hl0 => ?_)
  by_cases h13 : xs.length = 13
  · rw [h13]
    exact cl_fn (k208b hn h13 (hl0 (by omega)) h)
  · exact cl_fn (k208s (a := 0) (b := xs.length) hn (by omega) (by omega) (by omega) (by omega) h)

end Go.Proofs.YtmmpogfbhelioaaGreat
/-
  Contracts: sets as lists; the visit of all progress.
  Conditions: at most 13 members.
-/
namespace Go.Proofs.YtmmpogfbhelioaaGreat
set_option maxRecDepth 10000
set_option linter.unusedVariables false
set_option linter.unusedSimpArgs false
theorem nmK17 {p : Prop} (h : p := by (try simp only [List.getElem?_toArray, List.getElem?_cons_zero, List.getElem?_cons_succ, List.setIfInBounds_toArray, List.set_cons_zero, List.set_cons_succ, List.toList_toArray, List.drop_zero, List.drop_succ_cons, List.take_zero, List.take_succ_cons, Nat.zero_add, Nat.add_zero, Nat.reduceAdd, putCells, Rf.cells]) <;> rfl) : p := h
theorem goK17 {G H : Prop} (h : H) (s : Stp G H := by (apply Stp.of; intro hS; (first | (refine q_ld bk_ nmK17 ?_) | (refine q_ldU bk_ rfl nmK17 ?_) | (refine q_ldW bk_ (by rfl) ?_) | (refine q_ldWU bk_ rfl (by rfl) ?_) | (refine q_ldP bk_ (Nat.le_of_ble_eq_true rfl) nmK17 ?_) | (refine q_ldPU bk_ rfl (Nat.le_of_ble_eq_true rfl) nmK17 ?_) | (refine q_ext nmK17 ?_) | (refine u_st bk_ (Nat.le_of_ble_eq_true rfl) (by first | rfl | assumption) nmK17 ?_) | (refine u_stA bk_ (Nat.le_of_ble_eq_true rfl) (by rfl) (by rfl) nmK17 ?_) | (refine q_field nmK17 ?_)); exact hS.out)) : G := s.f h
set_option linter.unusedVariables false
set_option linter.unusedSimpArgs false
attribute [local irreducible] Instr.box Instr.alloc Instr.loadAt Instr.storeAt Instr.fieldAt Instr.indexAt Instr.build Instr.buildSlice Instr.makeSlice Instr.makeMap Instr.mapUpdate Instr.lookup Instr.range Instr.next Instr.entry Instr.extract Instr.makeInterface Instr.makeFunc Instr.sliceAt Instr.typeAssert Instr.field Instr.index Builtin.len_ Builtin.cap_ Builtin.max_ Builtin.min_ Builtin.append_ Builtin.copy_ Builtin.delete_ convert binS pickS nilS callV callM Op.unary Own Mp It Cu

attribute [local irreducible] Nm

variable {K : Value → World → Prop} {w : World} {te : Option Nat}

theorem Own.sb {base e n : Nat} {v : Value} {xs : List (List Value)} (h : Own w base e n v xs) : ∀ b, sb v b → base ≤ b := by
  unfold Own at h
  obtain ⟨⟨hl, hx⟩, hn⟩ := h
  intro b hb
  rcases hx with ⟨rfl, h0⟩ | ⟨g, cap, cur, rfl, h1, _⟩
  · cases hb
  · cases hb; exact h1

theorem k87 {o : Option Nat} {l : KV} (hm : MpO w o l) (hl : l.length ≤ 13) (h : ∀ v w' xs, Ex w w' → xs.Perm (l.map (·.1)) → Sl w' (some 22) 1 v (nums xs) → K v w') : CK Pr 87 #[.map o] w K := by
  refine c87 ?_
  unfold t87
  cases o with
  | none =>
    cases (show l = [] from hm)
    refine e_range0 fun w1 e1 i1 s1 => ?_
    refine loop_n (α := Unit) (fun _ τ w' => g τ 0 = .slice none 0 0 ∧ w' = w1) (fun _ => 0) () ⟨rfl, rfl⟩ ?_
    rintro _ τ w' R ⟨hg, rfl⟩ hR
    refine e_next0 i1 ?_
    (repeat (first | (refine go ?_; intros) | (refine goK17 ?_; intros)))
    rw [hg]
    refine cl_fn (k131 (te := 22) (xs := []) (Own.nm (Own.nil w' 0 22 1)) (by simp) fun w2 xs s2 => ?_)
    have hp := s2.2.2.1
    have : xs = [] := List.perm_nil.1 hp
    subst this
    refine h _ _ [] (e1.new s2.1 (by intro b hb; cases hb)) (.refl _) (.nil _ _)
  | some b =>
    refine e_range hm fun w1 e1 i1 s1 => ?_
    refine loop_n (α := KV × List Int) (fun a τ w' => It w' w.heap.size b l a.1 ∧ Own w' (w.heap.size + 1) 22 1 (g τ 0) (nums a.2) ∧ (a.2 ++ a.1.map (·.1)).Perm (l.map (·.1)) ∧ Ex w w' ∧ w.heap.size + 1 ≤ w'.heap.size) (fun a => a.1.length) (l, []) ⟨i1, Own.nil _ _ _ _, .refl _, e1, by omega⟩ ?_
    rintro ⟨rem, acc⟩ τ w' R ⟨hi, ho, hp, ex, hz⟩ hR
    simp only at hi ho hp hR
    have hlen := hp.length_eq
    simp only [List.length_append, List.length_map] at hlen
    refine e_next hi (fun h0 => ?_) (fun p l1 l2 w2 hrem u2 hi2 hc hpl hz2 => ?_)
    · (repeat (first | (refine go ?_; intros) | (refine goK17 ?_; intros)))
      subst h0
      refine cl_fn (k131 (te := 22) (xs := acc) ho.nm (by omega) fun w3 xs s3 => ?_)
      have hp3 := s3.2.2.1
      refine h _ _ xs (ex.new s3.1 fun b hb => by have := ho.sb b hb; omega) (hp3.trans (by simpa using hp)) s3.nm.sl
    · (repeat (first | (refine go ?_; intros) | (refine goK17 ?_; intros)))
      refine q_entry hc ?_
      (repeat (first | (refine go ?_; intros) | (refine goK17 ?_; intros)))
      have ho2 : Own w2 (w.heap.size + 1) 22 1 (g τ 0) (nums acc) := ho.up u2 fun _ _ => .inl rfl
      refine e_push1 ho2 rfl (by simp [nums]; omega) (by simp [nums]; omega) (by omega) fun s3 v3 w3 u3 ho3 hb3 hz3 => ?_
      have hrl : rem.length = l1.length + l2.length + 1 := by rw [hrem]; simp; omega
      refine hR (l1 ++ l2, acc ++ [p.1]) _ _ ⟨?_, ?_, ?_, ?_, by omega⟩ (by simp; omega)
      · exact hi2.up u3 (.inl rfl) (.inl rfl)
      · show Own w3 _ 22 1 v3 _
        simpa [nums] using ho3
      · refine List.Perm.trans ?_ hp
        rw [hrem]
        simp only [List.map_append, List.map_cons, List.append_assoc, List.singleton_append]
        exact List.Perm.append_left _ List.perm_middle.symm
      · refine (ex.new u2 (by intro x hx; subst hx; exact Nat.le_refl _)).new u3 ?_
        intro x hx
        have := (ho2.lt x hx).1
        omega

theorem k88 {o : Option Nat} {l : KV} (hm : MpO w o l) (hl : l.length ≤ 13) (h : ∀ v w' xs, Ex w w' → xs.Perm (l.map (·.1)) → Sl w' (some 22) 1 v (nums xs) → K v w') : CK Pr 88 #[.map o] w K := by
  refine c88 ?_
  unfold t88
  exact cl_fn (k87 hm hl h)

theorem lk_mem {l : KV} {x : Int} (h : x ∈ l.map (·.1)) : ∃ v, lk l x = some v := by
  induction l with
  | nil => cases h
  | cons p r ih =>
    obtain ⟨k, v⟩ := p
    simp only [lk]
    by_cases hk : k = x
    · exact ⟨v, by simp [hk]⟩
    · rw [if_neg hk]
      refine ih ?_
      simp only [List.map_cons, List.mem_cons] at h
      exact h.resolve_left fun e => hk e.symm

theorem drop_set {xs : List Int} {k : Nat} {y : Int} (h : k < xs.length) : (xs.set k y).drop k = y :: xs.drop (k + 1) := by
  induction xs generalizing k with
  | nil => simp at h
  | cons x r ih =>
    cases k with
    | zero => rfl
    | succ k => simpa using ih (by simpa using h)

theorem k91 {b : Nat} {R : Rf} {l : KV} (hb : Bk w b (.cells R.cells 187 (0, 0))) (hm : Mp w R.pm l) (hnd : (l.map (·.1)).Nodup) (hl : l.length ≤ 13) {fn : Nat} [TFn Pr fn] {cap : Array Value} {C : Nat → Prop} {T : List Nat}
    (I : List Int → World → Prop) (h0 : ∀ w', Ex w w' → I [] w') (hI : ∀ done w', I done w' → Bk w' b (.cells R.cells 187 (0, 0)) ∧ Mp w' R.pm l) (hT1 : T.contains 24 = false) (hT2 : T.contains 240 = false)
    (hc : ∀ done x v w1 (K' : Value → World → Prop), I done w1 → lk l x = some v → x ∉ done → (∀ w2, I (done ++ [x]) w2 → Up C T w1 w2 → K' (.tuple #[]) w2) → CK Pr fn (#[.int .u64 x, v] ++ cap) w1 K')
    (h : ∀ done w', I done w' → done.Perm (l.map (·.1)) → K (.tuple #[]) w') : CK Pr 91 #[.pointer (some ⟨b, 7, none⟩), .func (.func fn) #[] cap] w K := by
  refine c91 ?_
  unfold t91
  (repeat (first | (refine go ?_; intros) | (refine goK17 ?_; intros)))
  refine q_lenM (b := R.pm) (l := l) (fun w' hw => by cases hw; exact hm) ?_
  refine e_allocA fun ab w1 e1 hb1 s1 s2 => ?_
  refine q_geq ?_
  have hb' : ∀ w', Ex w w' → Bk w' b (.cells R.cells 187 (0, 0)) := fun w' e => e.at_ hb
  refine jo_rule (fun J => ∀ te v (xs : List Int) w2, (te = 22 ∨ te = 238) → Ex w w2 → Nm te v xs w2 → xs.length = l.length → (∀ x, sb v x → w.heap.size ≤ x) → J v w2) ?_ ?_
  rotate_left
  · intro J hJ
    refine if_split (fun h7 => ?_) (fun h7 => ?_)
    · have h7 := of_decide_eq_true h7
      refine q_slArr l.length rfl (by omega) (by omega) ?_
      refine hJ 238 _ (List.replicate l.length 0) w1 (.inr rfl) e1 ?_ (by simp) (by intro x hx; cases hx; omega)
      unfold Nm
      refine ⟨_, 7, by simp, by simp [maxLen]; omega, by simp; omega, .inr ⟨ab, 0, _, rfl, hb1, by simp; omega, ?_⟩⟩
      have : l.length = 0 ∨ l.length = 1 ∨ l.length = 2 ∨ l.length = 3 ∨ l.length = 4 ∨ l.length = 5 ∨ l.length = 6 ∨ l.length = 7 := by omega
      rcases this with h | h | h | h | h | h | h | h <;> rw [h] <;> rfl
    · refine e_make (m := l.length) rfl rfl rfl (by omega) (by omega) fun w2 e2 ho z2 => ?_
      refine hJ 22 _ (List.replicate l.length 0) w2 (.inl rfl) (e1.trans e2) ?_ (by simp) (by intro x hx; have := ho.sb x hx; omega)
      refine Own.nm (base := w1.heap.size) ?_
      have : nums (List.replicate l.length 0) = List.replicate l.length [Value.int .u64 0] := by simp [nums]
      rw [this]; exact ho
  · intro te v xs w2 hte e2 hn hxl hsb
    have hb2 := hb' w2 e2
    (repeat (first | (refine go ?_; intros) | (refine goK17 ?_; intros)))
    refine e_range (hm.ex e2) fun w3 e3 i3 s3 => ?_
    refine loop_n (α := KV × List Int) (fun a τ w' => g τ 0 = .int .i64 (a.1.length : Nat) ∧ It w' w2.heap.size R.pm l a.1 ∧ Nm te v a.2 w' ∧ a.2.length = l.length ∧ (a.1.map (·.1) ++ a.2.drop a.1.length).Perm (l.map (·.1)) ∧ Ex w w') (fun a => a.1.length) (l, xs)
      ⟨rfl, i3, hn.ex e3, hxl, by rw [← hxl, List.drop_length, List.append_nil], e2.trans e3⟩ ?_
    rintro ⟨rem, ys⟩ τ w' R1 ⟨hτ, hi, hny, hyl, hp, ex⟩ hR
    simp only at hτ hi hny hyl hp hR
    have hlen := hp.length_eq
    simp only [List.length_append, List.length_map, List.length_drop] at hlen
    refine e_next hi (fun h0' => ?_) (fun p l1 l2 w4 hrem u4 hi4 hcu hpl hz4 => ?_)
    · (repeat (first | (refine go ?_; intros) | (refine goK17 ?_; intros)))
      subst h0'
      refine cl_fn (k131 (te := te) (xs := ys) hny (by omega) fun w5 zs s5 => ?_)
      have hpz : zs.Perm (l.map (·.1)) := s5.2.2.1.trans (by simpa using hp)
      have hzl : zs.length = l.length := by simpa using hpz.length_eq
      have hzn : zs.Nodup := hpz.nodup_iff.2 hnd
      have ex5 : Ex w w5 := ex.new s5.1 hsb
      have hn5 : Nm te v zs w5 := s5.nm
      refine q_lenSl hn5.sl ?_
      rw [nums_len, hzl]
      refine loop_n (α := Nat) (fun j τ w' => g τ 1 = .int .i64 j ∧ j ≤ l.length ∧ I (zs.take j) w' ∧ Nm te v zs w') (fun j => l.length - j) 0 ⟨rfl, Nat.zero_le _, h0 _ ex5, hn5⟩ ?_
      rintro j τ2 w6 R2 ⟨hj, hle, hi6, hn6⟩ hR2
      rw [hj]
      (repeat (first | (refine go ?_; intros) | (refine goK17 ?_; intros)))
      refine if_split (fun hbj => ?_) (fun hbj => ?_)
      · have hj' : j < zs.length := by
          have := of_decide_eq_true hbj
          omega
        obtain ⟨x, hx⟩ : ∃ x, zs[j]? = some x := ⟨_, List.getElem?_eq_getElem hj'⟩
        obtain ⟨hb6, hm6⟩ := hI _ _ hi6
        refine q_ixs (x := .int .u64 x) j hn6.sl rfl (by simp [nums, hx]) fun _ => ?_
        (repeat (first | (refine go ?_; intros) | (refine goK17 ?_; intros)))
        obtain ⟨y, hy⟩ := lk_mem (hpz.mem_iff.1 (List.mem_of_getElem? hx))
        refine q_look hm6 ?_
        rw [hy]
        refine cl_clo (hc _ x y w6 _ hi6 hy (notin_take hzn hx) fun w7 hi7 u7 => ?_)
        (repeat (first | (refine go ?_; intros) | (refine goK17 ?_; intros)))
        rw [wrapS (by omega)]
        refine hR2 (j + 1) _ _ ⟨rfl, by omega, by rw [take_snoc hx]; exact hi7, ?_⟩ (by omega)
        refine hn6.up u7 (.inl ?_)
        rcases hte with rfl | rfl
        · exact hT1
        · exact hT2
      · refine h zs w6 ?_ hpz
        have : j = zs.length := by
          have := of_decide_eq_false hbj
          omega
        rw [this, List.take_length] at hi6
        exact hi6
    · (repeat (first | (refine go ?_; intros) | (refine goK17 ?_; intros)))
      refine q_entry hcu ?_
      (repeat (first | (refine go ?_; intros) | (refine goK17 ?_; intros)))
      rw [hτ]
      have hrl : rem.length = l1.length + l2.length + 1 := by rw [hrem]; simp; omega
      (repeat (first | (refine go ?_; intros) | (refine goK17 ?_; intros)))
      have hw1 : IntKind.i64.wrap ((rem.length : Int) - 1) = ((rem.length - 1 : Nat) : Int) := by rw [wrap64 (by omega) (by omega)]; omega
      rw [hw1]
      have hn4 : Nm te v ys w4 := hny.up u4 (.inl (by rcases hte with rfl | rfl <;> rfl))
      refine q_ixN (rem.length - 1) hn4 rfl (by omega) ?_
      refine u_stN hn4 (by omega) fun w5 u5 n5 z5 => ?_
      refine hR (l1 ++ l2, _) _ _ ⟨?_, ?_, n5, by simp; omega, ?_, ?_⟩ (by simp; omega)
      · show Value.int .i64 ((rem.length - 1 : Nat) : Int) = _
        simp
        omega
      · refine hi4.up u5 (.inl ?_) (.inl ?_) <;> rcases hte with rfl | rfl <;> rfl
      · refine List.Perm.trans ?_ hp
        have h1 : (l1 ++ l2).length = rem.length - 1 := by simp; omega
        have h2 : rem.length - 1 + 1 = rem.length := by omega
        simp only [h1]
        rw [drop_set (by omega), h2, hrem]
        simp only [List.map_append, List.map_cons]
        rw [List.append_assoc, List.append_assoc]
        refine List.Perm.append_left _ ?_
        simp only [List.cons_append]
        exact List.perm_middle
      · have := e2.size
        exact (ex.new u4 (by intro x hx; subst hx; omega)).new u5 hsb

end Go.Proofs.YtmmpogfbhelioaaGreat
/-
  Contracts: the machine's parts as plain data.
  Conditions: each one's own.
-/
namespace Go.Proofs.YtmmpogfbhelioaaGreat
set_option maxRecDepth 10000
set_option linter.unusedVariables false
set_option linter.unusedSimpArgs false
theorem nmK18 {p : Prop} (h : p := by (try simp only [List.getElem?_toArray, List.getElem?_cons_zero, List.getElem?_cons_succ, List.setIfInBounds_toArray, List.set_cons_zero, List.set_cons_succ, List.toList_toArray, List.drop_zero, List.drop_succ_cons, List.take_zero, List.take_succ_cons, Nat.zero_add, Nat.add_zero, Nat.reduceAdd, putCells, Rf.cells, Pg.cells, Mac.cells, Pe.pcells]) <;> rfl) : p := h
theorem goK18 {G H : Prop} (h : H) (s : Stp G H := by (apply Stp.of; intro hS; (first | (refine q_ld bk_ nmK18 ?_) | (refine q_ldU bk_ rfl nmK18 ?_) | (refine q_ldW bk_ (by rfl) ?_) | (refine q_ldWU bk_ rfl (by rfl) ?_) | (refine q_ldP bk_ (Nat.le_of_ble_eq_true rfl) nmK18 ?_) | (refine q_ldPU bk_ rfl (Nat.le_of_ble_eq_true rfl) nmK18 ?_) | (refine q_ext nmK18 ?_) | (refine u_st bk_ (Nat.le_of_ble_eq_true rfl) (by first | rfl | assumption) nmK18 ?_) | (refine u_stA bk_ (Nat.le_of_ble_eq_true rfl) (by rfl) (by rfl) nmK18 ?_) | (refine q_field nmK18 ?_)); exact hS.out)) : G := s.f h
set_option linter.unusedVariables false
set_option linter.unusedSimpArgs false
attribute [local irreducible] Instr.box Instr.alloc Instr.loadAt Instr.storeAt Instr.fieldAt Instr.indexAt Instr.build Instr.buildSlice Instr.makeSlice Instr.makeMap Instr.mapUpdate Instr.lookup Instr.range Instr.next Instr.entry Instr.extract Instr.makeInterface Instr.makeFunc Instr.sliceAt Instr.typeAssert Instr.field Instr.index Builtin.len_ Builtin.cap_ Builtin.max_ Builtin.min_ Builtin.append_ Builtin.copy_ Builtin.delete_ convert binS pickS nilS callV callM Op.unary Own Mp It Cu


variable {K : Value → World → Prop} {w : World} {te : Option Nat}

theorem RM.ex {base b : Nat} {R : Rf} {L : Lg} {ps : Ps} {vo le : List Int} {w' : World} (e : Ex w w') (r : RM base b R L ps vo le w) : RM base b R L ps vo le w' :=
  ⟨e.at_ r.bk, r.b0, r.lg.ex e, r.lok, r.pr.ex e, r.vo.ex e, r.le.ex e, r.vt.ex e, r.ro.ex e⟩
theorem k81 {b : Nat} {R : Rf} (hb : Bk w b (.cells R.cells 187 (0, 0)))
    (h : ∀ w', Ex w w' → K (.agg #[.int .u64 R.id, .int .u64 R.term, .int .u64 R.vote, .int .u64 R.lead, .int .u64 R.tr, .int .u64 R.st, .bool R.il, .bool R.pv, .bool R.cq, .int .i64 R.et, .int .i64 R.ht, .int .i64 R.rt, .int .i64 R.ee, .int .i64 R.he, .int .u64 R.mm, .int .u64 R.mu, .int .u64 R.us]) w') : CK Pr 81 #[.pointer (some ⟨b, 0, none⟩)] w K := by
  refine c81 ?_
  unfold t81
  refine e_allocA fun b1 w1 e1 hb1 s1 s2 => ?_
  refine dr_rule (fun x => x = b1) [163] fun w2 e2 z2 => ?_
  have hb2 : Bk w2 b _ := e2.at_ (e1.at_ hb)
  have hb12 := e2.at_ hb1
  (repeat (first | (refine go ?_; intros) | (refine goK18 ?_; intros) | refine b161_0_1_2_3_4_5_6_7_8_9_10_11_12_13_14_15_16 (by first | rfl | assumption) (by first | rfl | assumption) (by first | rfl | assumption) (by first | rfl | assumption) (by first | rfl | assumption) (by first | rfl | assumption) (by first | rfl | assumption) (by first | rfl | assumption) (by first | rfl | assumption) (by first | rfl | assumption) (by first | rfl | assumption) (by first | rfl | assumption) (by first | rfl | assumption) (by first | rfl | assumption) (by first | rfl | assumption) (by first | rfl | assumption) (by first | rfl | assumption) ?_))
  rename_i w3 u3 hb3 z3
  refine ⟨u3, ?_⟩
  (repeat (first | (refine go ?_; intros) | (refine goK18 ?_; intros)))
  exact h w3 ((e1.trans e2).new u3 (by intro x hx; subst hx; omega))

theorem k82 {b : Nat} {R : Rf} (hb : Bk w b (.cells R.cells 187 (0, 0))) (h : K (.pointer (some ⟨R.lb, 0, none⟩)) w) : CK Pr 82 #[.pointer (some ⟨b, 0, none⟩)] w K := by
  refine c82 ?_
  unfold t82
  (repeat (first | (refine go ?_; intros) | (refine goK18 ?_; intros)))
  exact h

theorem k83 {b : Nat} (h : K (.pointer (some ⟨b, 7, none⟩)) w) : CK Pr 83 #[.pointer (some ⟨b, 0, none⟩)] w K := by
  refine c83 ?_
  unfold t83
  (repeat (first | (refine go ?_; intros) | (refine goK18 ?_; intros)))
  exact h

theorem k134 {ib : Nat} {size mx : Int} (hi : Inf ib size mx w) (h : ∀ w', Ex w w' → w'.heap.size = w.heap.size → K (.tuple #[.int .i64 size, .int .u64 mx, .slice none 0 0, .slice none 0 0]) w') : CK Pr 134 #[.pointer (some ⟨ib, 0, none⟩)] w K := by
  refine c134 ?_
  unfold t134
  refine loop_n (α := Unit) (fun _ τ w' => g τ 0 = .slice none 0 0 ∧ g τ 1 = .slice none 0 0 ∧ g τ 2 = .int .i64 0 ∧ w' = w) (fun _ => 0) () ⟨rfl, rfl, rfl, rfl⟩ ?_
  rintro _ τ w' R ⟨h0, h1, h2, rfl⟩ hR
  unfold Inf at hi
  rw [h0, h1, h2]
  (repeat (first | (refine go ?_; intros) | (refine goK18 ?_; intros)))
  refine dr_rule No [] fun w1 e1 z1 => ?_
  have hi1 : Bk w1 ib _ := e1.at_ hi
  (repeat (first | (refine go ?_; intros) | (refine goK18 ?_; intros)))
  exact h w1 e1 z1

def peOf (id : Int) (q : Pg) : Pe := ⟨id, q.ma, q.ne, IntKind.i64.wrap q.st, q.pend, q.act, q.pau, q.le, q.size, q.mx, .slice none 0 0, .slice none 0 0, [], []⟩

theorem k93 {base pb : Nat} {q : Pg} (hp : PG base pb q w) (id : Int) (h : ∀ w', Ex w w' → K (.agg (peOf id q).pcells.toArray) w') : CK Pr 93 #[.pointer (some ⟨pb, 0, none⟩)] w K := by
  refine c93 ?_
  unfold t93
  obtain ⟨_, ib, _, hpb, hinf⟩ := hp
  refine e_allocA fun b1 w1 e1 hb1 s1 s2 => ?_
  refine dr_rule No [] fun w2 e2 z2 => ?_
  have hp2 : Bk w2 pb _ := e2.at_ (e1.at_ hpb)
  have hb12 := e2.at_ hb1
  (repeat (first | (refine go ?_; intros) | (refine goK18 ?_; intros) | refine b58_0_1_2_3_4_5_6 (by first | rfl | assumption) (by first | rfl | assumption) (by first | rfl | assumption) (by first | rfl | assumption) (by first | rfl | assumption) (by first | rfl | assumption) (by first | rfl | assumption) ?_))
  rename_i b3 w3 e3 hb3 s3 s4
  refine ⟨e3, ?_⟩
  have hp3 := e3.at_ hp2
  refine u_stA hb3 (Nat.le_of_ble_eq_true rfl) (by rfl) (by rfl) nmK18 fun w4 u4 hb4 z4 => ⟨e3.new u4 (by intro x hx; subst hx; omega), ?_⟩
  have hp4 := u4.at_ hp3 rfl
  have hb14 := u4.off (e3.at_ hb12) (by intro h; have := e3.size; omega)
  have hinf4 : Inf ib q.size q.mx w4 := u4.at_ (e3.at_ (e2.at_ (e1.at_ hinf))) rfl
  clear hb3 hp2 hp3 hb12
  have z13 := e3.size
  have z12 := e1.size
  have ew4 : Ex w w4 := ((e1.trans e2).trans e3).new u4 (by intro x hx; subst hx; omega)
  (repeat (first | (refine go ?_; intros) | (refine goK18 ?_; intros)))
  refine cl_fn (k134 hinf4 fun w5 e5 z5 => ?_)
  have hb5 := e5.at_ hb4
  have hb15 := e5.at_ hb14
  clear hb4 hb14 hp4
  (repeat (first | (refine go ?_; intros) | (refine goK18 ?_; intros)))
  rename_i wa ua ba za wb ub bb zb wc uc bc zc wd ud bd zd we ue be ze
  refine h we ?_
  have x5 := ew4.trans e5
  have x9 : Ex w wd := x5.new (((ua.trans ub).trans uc).trans ud) (by intro x hx; subst hx; omega)
  exact x9.new ue (by intro x hx; subst hx; omega)

theorem k92 {base pb ob bb : Nat} {q : Pg} {mo : Mac} {id : Int} {pl : List Pe} (hb : Bk w ob (.cells mo.cells 32 (0, 0))) (hp : PG base pb q w) (ho : Own w bb 60 12 mo.peV (pl.map Pe.cells)) (hl : pl.length ≤ 100) (hbb : bb ≤ w.heap.size)
    (h : ∀ v w', Up (fun x => x = ob ∨ bb ≤ x) [34, 62] w w' → Bk w' ob (.cells { mo with peV := v }.cells 32 (0, 0)) → Own w' bb 60 12 v ((pl ++ [peOf id q]).map Pe.cells) → K (.tuple #[]) w') : CK Pr 92 #[.int .u64 id, .pointer (some ⟨pb, 0, none⟩), .pointer (some ⟨ob, 0, none⟩)] w K := by
  refine c92 ?_
  unfold t92
  refine dr2_rule (fun x => bb ≤ x) [62] (fun x => x = ob ∨ bb ≤ x) [34, 62] fun w1 e1 z1 => ?_
  have hb1 := e1.at_ hb
  have ho1 := ho.ex e1
  (repeat (first | (refine go ?_; intros) | (refine goK18 ?_; intros)))
  have up : ∀ {w'}, Up (fun x => bb ≤ x) [62] w1 w' → Up (fun x => x = ob ∨ bb ≤ x) [34, 62] w1 w' := fun u => u.mono (fun _ _ h => .inr h) (fun k hk => by simp at hk; simp [hk])
  refine cl_fn (k93 (hp.ex e1) id fun w2 e2 => ⟨⟨.of_ex e2, .of_ex e2⟩, ?_⟩)
  refine b60_0_1 rfl ?_
  have z2 := e2.size
  refine e_bs1 (n := 12) (by rfl) (by omega) fun w3 e3 o3 z3 => ⟨⟨(Up.of_ex e2).ex e3, (Up.of_ex e2).ex e3⟩, ?_⟩
  have lt1 := ho1.lt
  refine e_app (base := bb) ((ho1.ex e2).ex e3) o3.sl (by
    intro y hy u hu
    rw [List.mem_singleton.1 hy] at hu
    have : (Value.agg #[.int .u64 id, .int .u64 q.ma, .int .u64 q.ne, .int .i64 (IntKind.i64.wrap q.st), .int .u64 q.pend, .bool q.act, .bool q.pau, .bool q.le, .int .i64 q.size, .int .u64 q.mx, .slice none 0 0, .slice none 0 0]).cells.toList.all one = true := by rfl
    exact List.all_eq_true.1 this u hu) (by simp; omega) (by simp; omega) (by omega) fun v4 w4 u4 o4 hbl z4 => ?_
  have U4 : Up (fun x => bb ≤ x) [62] w1 w4 := ((Up.of_ex e2).ex e3).step u4 (fun y _ hy => (lt1 y hy).1) (fun k hk => by simp at hk; simp [hk])
  refine ⟨⟨U4, up U4⟩, ?_⟩
  have hb4 : Bk w4 ob (.cells mo.cells 32 (0, 0)) := U4.at_ hb1 rfl
  have o44 := o4.sl.one
  (repeat (first | (refine go ?_; intros) | (refine goK18 ?_; intros)))
  rename_i w5 u5 hb5 z5
  have U5 : Up (fun x => x = ob ∨ bb ≤ x) [34, 62] w1 w5 := (up U4).step u5 (fun y _ hy => .inl hy) (fun k hk => by simp at hk; simp [hk])
  refine ⟨U5, ?_⟩
  refine h v4 w5 ((Up.of_ex e1).trans U5) hb5 ?_
  have o5 : Own w5 bb 60 12 v4 _ := o4.up u5 fun _ _ => .inl rfl
  rw [List.map_append]
  exact o5

end Go.Proofs.YtmmpogfbhelioaaGreat
/-
  Contract: a machine as plain data again.
  Conditions: at most 13 members.
-/
namespace Go.Proofs.YtmmpogfbhelioaaGreat
set_option maxRecDepth 10000
set_option linter.unusedVariables false
set_option linter.unusedSimpArgs false
theorem nmK19 {p : Prop} (h : p := by (try simp only [List.getElem?_toArray, List.getElem?_cons_zero, List.getElem?_cons_succ, List.setIfInBounds_toArray, List.set_cons_zero, List.set_cons_succ, List.toList_toArray, List.drop_zero, List.drop_succ_cons, List.take_zero, List.take_succ_cons, Nat.zero_add, Nat.add_zero, Nat.reduceAdd, putCells, Mac.cells, Rf.cells, snCells, En.cells]) <;> rfl) : p := h
theorem goK19 {G H : Prop} (h : H) (s : Stp G H := by (apply Stp.of; intro hS; (first | (refine q_ld bk_ nmK19 ?_) | (refine q_ldU bk_ rfl nmK19 ?_) | (refine q_ldW bk_ (by rfl) ?_) | (refine q_ldWU bk_ rfl (by rfl) ?_) | (refine q_ldP bk_ (Nat.le_of_ble_eq_true rfl) nmK19 ?_) | (refine q_ldPU bk_ rfl (Nat.le_of_ble_eq_true rfl) nmK19 ?_) | (refine q_ext nmK19 ?_) | (refine u_st bk_ (Nat.le_of_ble_eq_true rfl) (by first | rfl | assumption) nmK19 ?_) | (refine u_stA bk_ (Nat.le_of_ble_eq_true rfl) (by rfl) (by rfl) nmK19 ?_) | (refine q_field nmK19 ?_)); exact hS.out)) : G := s.f h
set_option linter.unusedVariables false
set_option linter.unusedSimpArgs false
attribute [local irreducible] Instr.box Instr.alloc Instr.loadAt Instr.storeAt Instr.fieldAt Instr.indexAt Instr.build Instr.buildSlice Instr.makeSlice Instr.makeMap Instr.mapUpdate Instr.lookup Instr.range Instr.next Instr.entry Instr.extract Instr.makeInterface Instr.makeFunc Instr.sliceAt Instr.typeAssert Instr.field Instr.index Builtin.len_ Builtin.cap_ Builtin.max_ Builtin.min_ Builtin.append_ Builtin.copy_ Builtin.delete_ convert binS pickS nilS callV callM Op.unary Own Mp It Cu


variable {K : Value → World → Prop} {w : World} {te : Option Nat}

theorem RM.mt {base b : Nat} {R : Rf} {L : Lg} {ps : Ps} {vo le : List Int} {w' : World} {C : Nat → Prop} {T : List Nat} (o : okT T = true) (hT : (T.contains 189 || T.contains 198 || T.contains 227 || T.contains 214 || T.contains 0 || T.contains 154 || T.contains 232 || T.contains 267) = false) (u : Up C T w w') (r : RM base b R L ps vo le w) : RM base b R L ps vo le w' := by
  simp only [Bool.or_eq_false_iff] at hT
  obtain ⟨⟨⟨⟨⟨⟨⟨h1, h2⟩, h3⟩, h4⟩, h5⟩, h6⟩, h7⟩, h8⟩ := hT
  exact ⟨u.at_ r.bk h1, r.b0, r.lg.mt o h2 h3 h4 u, r.lok, r.pr.up u (.inl h5) (.inl h6) h7, r.vo.up u (.inl h5), r.le.up u (.inl h5), r.vt.up u (.inl h5), r.ro.mt u h8⟩

theorem kvP_keys (ps : Ps) : (kvP ps).map (·.1) = ps.map (·.1) := by simp [kvP]
theorem lk_kvP {ps : Ps} {x : Int} {v : Value} (h : lk (kvP ps) x = some v) : ∃ y ∈ ps, y.1 = x ∧ v = .pointer (some ⟨y.2.1, 0, none⟩) := by
  induction ps with
  | nil => cases h
  | cons y l ih =>
    simp only [kvP, List.map_cons, lk] at h ih
    by_cases hy : y.1 = x
    · rw [if_pos hy] at h
      cases h
      exact ⟨y, List.mem_cons_self .., hy, rfl⟩
    · rw [if_neg hy] at h
      obtain ⟨z, hz, h1, h2⟩ := ih h
      exact ⟨z, List.mem_cons_of_mem _ hz, h1, h2⟩

theorem nodup_len : ∀ {l m : List Int}, l.Nodup → (∀ x ∈ l, x ∈ m) → l.length ≤ m.length
  | [], _, _, _ => Nat.zero_le _
  | x :: l, m, hn, hs => by
    have hn' := List.nodup_cons.1 hn
    have hx := hs x (List.mem_cons_self ..)
    have := nodup_len (l := l) (m := m.erase x) hn'.2 (fun y hy => by
      have hne : y ≠ x := fun e => hn'.1 (e ▸ hy)
      exact (List.mem_erase_of_ne hne).2 (hs y (List.mem_cons_of_mem _ hy)))
    rw [List.length_erase_of_mem hx] at this
    have hpos : 0 < m.length := List.length_pos_of_mem hx
    simp only [List.length_cons]
    omega

theorem putCells_tl : ∀ (l : List Value) (pre : List Value) (cs : Array Value), cs.size = pre.length + l.length → cs.toList.take pre.length = pre → (putCells cs pre.length l).toList = pre ++ l := by
  intro l
  induction l with
  | nil =>
    intro pre cs hs ht
    rw [putCells, List.append_nil, ← ht, List.take_of_length_le]
    simpa using hs ▸ Nat.le_refl _
  | cons x l ih =>
    intro pre cs hs ht
    simp only [List.length_cons] at hs
    have := ih (pre ++ [x]) (cs.setIfInBounds pre.length x) (by simp; omega) (by
      rw [Array.toList_setIfInBounds, List.length_append, List.length_singleton]
      have hl : pre.length < cs.toList.length := by simp; omega
      rw [List.take_add_one, List.take_set, List.getElem?_set_self hl, List.set_eq_of_length_le (by simp; omega), ht]
      rfl)
    simpa [putCells] using this
theorem putCells_all {zs : Array Value} {l : List Value} (h : zs.size = l.length) : putCells zs 0 l = l.toArray := by
  have := putCells_tl l [] zs (by simpa using h) rfl
  exact Array.toList_inj.1 (by simpa using this)

theorem mf_1 {base b : Nat} {R : Rf} {L : Lg} {ps : Ps} {vo le : List Int} {ob rb : Nat} {mo : Mac} {zs : Array Value} {w0 : World} (r : RM base b R L ps vo le w) (ex : Ex w0 w) (hob : w0.heap.size ≤ ob) (hrb : w0.heap.size ≤ rb) (hb : Bk w ob (.cells mo.cells 32 (0, 0))) (hr : Bk w rb (.cells zs 32 (0, 0))) (hzs : zs.size = 32) (hne : ob ≠ rb)
    (hps : ps.length ≤ 13) (hnd : (ps.map (·.1)).Nodup) (hpe : mo.peV = .slice none 0 0) (o1 : one mo.cvV = true ∧ one mo.clV = true ∧ one mo.coV = true ∧ one mo.cnV = true ∧ one mo.stV = true ∧ one mo.frV = true ∧ one mo.voV = true ∧ one mo.leV = true ∧ one mo.vsV = true)
    (h : ∀ (v : Value) (pl : List Pe) (w' : World), Up (fun x => w0.heap.size ≤ x) [34, 62] w w' → Ex w0 w' → Own w' w.heap.size 60 12 v (pl.map Pe.cells) → (pl.map (·.id)).Perm (ps.map (·.1)) → (∀ p ∈ pl, ∃ x ∈ ps, p = peOf x.1 x.2.2) → RM base b R L ps vo le w' → K (.agg { mo with peV := v }.cells) w') :
    t51_1 w (.pointer (some ⟨ob, 0, none⟩)) (.pointer (some ⟨b, 7, none⟩)) (.pointer (some ⟨rb, 0, none⟩)) K := by
  unfold t51_1
  (repeat (first | (refine go ?_; intros) | (refine goK19 ?_; intros)))
  have zw := ex.size
  refine cl_fn (k91 (R := R) (l := kvP ps) r.bk r.pr.mp (by rw [kvP_keys]; exact hnd) (by simpa [kvP] using hps) (C := fun x => x = ob ∨ w.heap.size ≤ x) (T := [34, 62])
    (fun done w' => ∃ (pl : List Pe) (v : Value), pl.map (·.id) = done ∧ pl.length ≤ ps.length ∧ Bk w' ob (.cells { mo with peV := v }.cells 32 (0, 0)) ∧ Bk w' rb (.cells zs 32 (0, 0)) ∧ Own w' w.heap.size 60 12 v (pl.map Pe.cells) ∧ (∀ p ∈ pl, ∃ x ∈ ps, p = peOf x.1 x.2.2) ∧ RM base b R L ps vo le w' ∧ Ex w0 w' ∧ Up (fun x => w0.heap.size ≤ x) [34, 62] w w' ∧ done.Nodup ∧ ∀ x ∈ done, x ∈ ps.map (·.1))
    ?_ ?_ rfl rfl ?_ ?_)
  · intro w' e
    refine ⟨[], .slice none 0 0, rfl, Nat.zero_le _, ?_, e.at_ hr, Own.nil _ _ _ _, (by intro p hp; cases hp), r.ex e, ex.trans e, .of_ex e, List.nodup_nil, (by intro x hx; cases hx)⟩
    have : { mo with peV := .slice none 0 0 } = mo := by rw [← hpe]
    rw [this]
    exact e.at_ hb
  · rintro done w' ⟨pl, v, _, _, _, _, _, _, r', _⟩
    exact ⟨r'.bk, r'.pr.mp⟩
  · rintro done x y w1 K' ⟨pl, v, hd, hl, hb1, hr1, ho1, hp1, r1, ex1, u1, hdn, hdk⟩ hy hx hk
    obtain ⟨z, hz, hzx, rfl⟩ := lk_kvP hy
    have zz := ex1.size
    have hrl := hr.lt
    refine k92 (base := base) (mo := { mo with peV := v }) (pl := pl) (q := z.2.2) (bb := w.heap.size) hb1 (r1.pr.pg z hz) ho1 (by omega) u1.size fun v' w2 u2 hb2 ho2 => ?_
    have u2' : Up (fun x => w0.heap.size ≤ x) [34, 62] w1 w2 := u2.mono (fun y _ hy => by rcases hy with rfl | hy <;> omega) (fun k hk => hk)
    have hdn' : (done ++ [x]).Nodup := by
      rw [List.nodup_append]
      refine ⟨hdn, by simp, ?_⟩
      intro a ha b hb
      rw [List.mem_singleton.1 hb]
      rintro rfl
      exact hx ha
    have hdk' : ∀ y ∈ done ++ [x], y ∈ ps.map (·.1) := by
      intro y hy
      rcases List.mem_append.1 hy with hy | hy
      · exact hdk y hy
      · rw [List.mem_singleton.1 hy, ← hzx]
        exact List.mem_map.2 ⟨z, hz, rfl⟩
    have hlen : (done ++ [x]).length ≤ (ps.map (·.1)).length := nodup_len hdn' hdk'
    refine hk w2 ⟨pl ++ [peOf x z.2.2], v', ?_, ?_, hb2, ?_, ho2, ?_, ?_, ?_, u1.trans u2', hdn', hdk'⟩ u2
    · rw [List.map_append, hd]; rfl
    · simp only [List.length_append, List.length_map, List.length_singleton] at hlen ⊢
      rw [← hd, List.length_map] at hlen
      exact hlen
    · exact u2.off hr1 (by rintro (h | h) <;> omega)
    · intro p hp
      rcases List.mem_append.1 hp with hp | hp
      · exact hp1 p hp
      · rw [List.mem_singleton.1 hp, ← hzx]
        exact ⟨z, hz, rfl⟩
    · exact r1.mt rfl rfl u2'
    · exact ex1.new u2' (fun _ h => h)
  · rintro done w1 ⟨pl, v, hd, hl, hb1, hr1, ho1, hp1, r1, ex1, u1, hdn, hdk⟩ hperm
    refine e_mkmap (by intro v hv; cases hv) fun w2 e2 m2 s2 => ?_
    have r2 := r1.ex e2
    have rb2 := r2.bk
    (repeat (first | (refine go ?_; intros) | (refine goK19 ?_; intros)))
    refine e_range r2.vt fun w3 e3 i3 s3 => ?_
    refine loop_n (α := Unit) (fun _ τ w' => w' = w3) (fun _ => 0) () rfl ?_
    rintro _ τ w' R' rfl hR
    refine e_next i3 (fun _ => ?_) (fun p l1 l2 w2 hrem _ _ _ _ _ => by cases l1 <;> cases hrem)
    (repeat (first | (refine go ?_; intros) | (refine goK19 ?_; intros)))
    refine cl_fn (k88 (o := some w1.heap.size) (l := []) (show Mp _ _ _ from m2.ex e3) (by simp) fun v4 w4 xs e4 hp hs => ?_)
    have hx : xs = [] := List.perm_nil.1 hp
    subst hx
    refine q_lenSl hs ?_
    refine loop_n (α := Unit) (fun _ τ w' => g τ 1 = .int .i64 0 ∧ w' = w4) (fun _ => 0) () ⟨rfl, rfl⟩ ?_
    rintro _ τ' w'' R'' ⟨hj, rfl⟩ hR'
    rw [hj]
    refine q_lss ?_
    refine if_f ?_
    have hb4 : Bk w'' ob _ := e4.at_ (e3.at_ (e2.at_ hb1))
    have hr4 : Bk w'' rb _ := e4.at_ (e3.at_ (e2.at_ hr1))
    refine q_ldW hb4 (by rfl) ?_
    have o4 := ho1.sl.one
    obtain ⟨p1, p2, p3, p4, p5, p6, p7, p8, p9⟩ := o1
    refine u_stA hr4 (by omega) (by rfl) (by simp only [Mac.cells, List.toList_toArray, List.all_cons, List.all_nil, p1, p2, p3, p4, p5, p6, p7, p8, p9, o4]; rfl) (putCells_all (by rw [hzs]; rfl)) fun w5 u5 hb5 z5 => ?_
    refine q_ldW hb5 (by simp; rfl) ?_
    have eW : Ex w1 w'' := (e2.trans e3).trans e4
    have u5' : Up (fun x => w0.heap.size ≤ x) [34, 62] w'' w5 := u5.mono (fun y _ hy => by subst hy; exact hrb) (fun k hk => by simp at hk; simp [hk])
    refine h v pl w5 ((u1.ex eW).trans u5') ((ex1.trans eW).new u5' (fun _ h => h)) ((ho1.ex eW).up u5 fun _ _ => .inl rfl) (hd ▸ (by rw [kvP_keys] at hperm; exact hperm)) hp1 ((r1.ex eW).mt rfl rfl u5')


/-- What a plain machine that was just told stands: what is older than a stays, and so does what is of other kinds than those that are stored to behind it; elder blocks of entries than z may turn. -/
structure Kp (a z : Nat) (w w' : World) : Prop where
  size : w.heap.size ≤ w'.heap.size
  os : w'.os = w.os
  tape : w'.tape = w.tape
  output : w'.output = w.output
  keep : ∀ b o, Bk w b o → b < a ∨ ([40, 6, 45].contains (kd o) = false ∧ (z ≤ b ∨ kd o ≠ 58)) → Bk w' b o

theorem Kp.old {a z : Nat} {w0 w' : World} (e : Ex w0 w) (k : Kp a z w w') (ha : w0.heap.size ≤ a) : Ex w0 w' :=
  ⟨Nat.le_trans e.size k.size, by rw [k.os, e.os], by rw [k.tape, e.tape], by rw [k.output, e.output], fun b o hb _ => k.keep b o (e.at_ hb) (.inl (Nat.lt_of_lt_of_le hb.lt ha))⟩
theorem Up.kp {a z : Nat} {w' : World} (u : Up (fun x => a ≤ x) [40, 6, 45] w w') : Kp a z w w' :=
  ⟨u.size, u.os, u.tape, u.output, fun b o hb h => u.keep b o hb (by
    rcases h with h | h
    · exact .inr (by omega)
    · exact .inl h.1)⟩
theorem Up.kp58 {a z : Nat} {C : Nat → Prop} {w' : World} (u : Up C [58] w w') (hC : ∀ b, C b → a ≤ b ∧ b < z) : Kp a z w w' :=
  ⟨u.size, u.os, u.tape, u.output, fun b o hb h => u.keep b o hb (by
    by_cases hc : C b
    · have := hC b hc
      rcases h with h | ⟨_, h | h⟩
      · omega
      · omega
      · exact .inl (by simpa using h)
    · exact .inr hc)⟩
theorem Kp.trans {a z : Nat} {w' w'' : World} (k : Kp a z w w') (k' : Kp a z w' w'') : Kp a z w w'' :=
  ⟨Nat.le_trans k.size k'.size, by rw [k'.os, k.os], by rw [k'.tape, k.tape], by rw [k'.output, k.output], fun b o hb h => k'.keep b o (k.keep b o hb h) h⟩
theorem Kp.mono {a z z' : Nat} {w' : World} (k : Kp a z w w') (h : z ≤ z') : Kp a z' w w' :=
  ⟨k.size, k.os, k.tape, k.output, fun b o hb hh => k.keep b o hb (hh.imp id fun hh => ⟨hh.1, hh.2.imp (fun h' => by omega) id⟩)⟩
theorem Kp.lower {a a' z : Nat} {w' : World} (k : Kp a z w w') (h : a' ≤ a) : Kp a' z w w' :=
  ⟨k.size, k.os, k.tape, k.output, fun b o hb hh => k.keep b o hb (hh.imp (fun h' => by omega) id)⟩
theorem Sl.kp {a z e n : Nat} {v : Value} {xs : List (List Value)} {w' : World} (k : Kp a z w w') (h : Sl w (some e) n v xs) (h1 : [40, 6, 45].contains (e + 2) = false) (h2 : e + 2 ≠ 58) : Sl w' (some e) n v xs := by
  cases h with
  | nil => exact .nil _ _
  | row b o c cs et fz _ hb hc hm hs hx hn ht =>
    have := ht e rfl
    subst this
    exact .row b o c cs et fz xs (k.keep b _ hb (.inr ⟨h1, .inr h2⟩)) hc hm hs hx hn ht
theorem Own.kp {a z z' n : Nat} {v : Value} {xs : List (List Value)} {w' : World} (k : Kp a z w w') (h : Own w z' 56 n v xs) (hz : z ≤ z') : Sl w' (some 56) n v xs := by
  unfold Own at h
  obtain ⟨⟨hl, hx⟩, hn⟩ := h
  rcases hx with ⟨rfl, h0⟩ | ⟨g, cap, cur, rfl, h1, hg, hnc, hmx, hcs, htake⟩
  · have : xs = [] := List.eq_nil_of_length_eq_zero h0
    subst this
    exact .nil _ _
  · exact .row g 0 cap cur 56 (0, 0) xs (k.keep g _ hg (.inr ⟨rfl, .inl (by omega)⟩)) hnc (Nat.le_trans hnc hmx) (by rw [hcs, Nat.zero_add]; exact Nat.mul_le_mul_right _ hnc) (by simpa using htake) hn (fun t h => Option.some.inj h)
theorem IsCf.kp {a z : Nat} {v1 v2 v3 v4 : Value} {c : Cf} {w' : World} (u : Kp a z w w') (h1 : Sl w (some 22) 1 v1 (nums c.v)) (h2 : Sl w (some 22) 1 v2 (nums c.l)) (h3 : Sl w (some 22) 1 v3 (nums c.o)) (h4 : Sl w (some 22) 1 v4 (nums c.n)) : IsCf w' v1 v2 v3 v4 c :=
  ⟨(h1.kp u rfl (by decide)).any, (h2.kp u rfl (by decide)).any, (h3.kp u rfl (by decide)).any, (h4.kp u rfl (by decide)).any⟩

/-- What the last parts of machineFrom give. -/
def MF1 (wm w0 w : World) (base b : Nat) (R : Rf) (L : Lg) (ps : Ps) (vo le : List Int) (mo : Mac) (K : Value → World → Prop) : Prop :=
  ∀ (v : Value) (pl : List Pe) (w' : World) (c1 c2 c3 c4 : Value), Up (fun x => w0.heap.size ≤ x) [34, 62] w w' → Ex w0 w' → Own w' w.heap.size 60 12 v (pl.map Pe.cells) → (pl.map (·.id)).Perm (ps.map (·.1)) → (∀ p ∈ pl, ∃ x ∈ ps, p = peOf x.1 x.2.2) → RM base b R L ps vo le w' →
    (∀ w'', Kp wm.heap.size w0.heap.size w' w'' → IsCf w'' c1 c2 c3 c4 (L.us.getD mo.base).c) → K (.agg { mo with base := L.us.getD mo.base, cvV := c1, clV := c2, coV := c3, cnV := c4, peV := v }.cells) w'

theorem mf_2 {base b : Nat} {R : Rf} {L : Lg} {ps : Ps} {vo le : List Int} {ob rb : Nat} {mo : Mac} {zs : Array Value} {w0 : World} {vu : Value} (hu : US vu L.us w) (hsm : ∀ s, L.us = some s → CfSm s.c) {wm : World} (em : Ex wm w0) (hcf : IsCf wm mo.cvV mo.clV mo.coV mo.cnV mo.base.c) (r : RM base b R L ps vo le w) (ex : Ex w0 w) (hob : w0.heap.size ≤ ob) (hrb : w0.heap.size ≤ rb) (hb : Bk w ob (.cells mo.cells 32 (0, 0))) (hr : Bk w rb (.cells zs 32 (0, 0))) (hzs : zs.size = 32) (hne : ob ≠ rb)
    (hps : ps.length ≤ 13) (hnd : (ps.map (·.1)).Nodup) (hpe : mo.peV = .slice none 0 0) (o1 : one mo.cvV = true ∧ one mo.clV = true ∧ one mo.coV = true ∧ one mo.cnV = true ∧ one mo.stV = true ∧ one mo.frV = true ∧ one mo.voV = true ∧ one mo.leV = true ∧ one mo.vsV = true)
    (h : MF1 wm w0 w base b R L ps vo le mo K) : t51_2 w vu (.pointer (some ⟨ob, 0, none⟩)) (.pointer (some ⟨b, 7, none⟩)) (.pointer (some ⟨rb, 0, none⟩)) K := by
  unfold t51_2
  cases hus : L.us with
  | none =>
    rw [hus] at hu
    cases (show vu = .pointer none from hu)
    unfold Jo
    (repeat (first | (refine go ?_; intros) | (refine goK19 ?_; intros)))
    refine mf_1 r ex hob hrb hb hr hzs hne hps hnd hpe o1 fun v pl w' u e o p1 p2 r' => ?_
    have := h v pl w' mo.cvV mo.clV mo.coV mo.cnV u e o p1 p2 r' (by rw [hus]; exact fun w'' u'' => hcf.ex (Kp.old (em.trans e) u'' (Nat.le_refl _)))
    rw [hus] at this
    exact this
  | some sn =>
    rw [hus] at hu
    have hu' : PS vu sn w := hu
    obtain ⟨a, hva, _⟩ := US.sh (o := some sn) hu
    have hu2 := hu'
    obtain ⟨ba, _, _, hva2, _⟩ := hu2
    subst hva2
    unfold Jo
    (repeat (first | (refine go ?_; intros) | (refine goK19 ?_; intros)))
    have sm := hsm sn hus
    refine cl_fn (k90 hu' sm.v sm.l sm.o sm.n fun v1 v2 v3 v4 w1 e1 q1 q2 q3 q4 => ?_)
    have hb1 := e1.at_ hb
    have hr1 := e1.at_ hr
    have n1 := q1.sl.one
    have n2 := q2.sl.one
    have n3 := q3.sl.one
    have n4 := q4.sl.one
    (repeat (first | (refine go ?_; intros) | (refine goK19 ?_; intros)))
    refine u_stA hb1 (Nat.le_of_ble_eq_true rfl) (by rfl) (by simp only [snCells, List.toList_toArray, List.all_cons, List.all_nil, n1, n2, n3, n4]; rfl) nmK19 fun w2 u2 hb2' z2 => ?_
    have hb2 : Bk w2 ob (.cells ({ mo with base := sn, cvV := v1, clV := v2, coV := v3, cnV := v4 } : Mac).cells 32 (0, 0)) := hb2'
    have hr2 := u2.off hr1 (fun h => hne h.symm)
    have u2' : Up (fun x => w0.heap.size ≤ x) [34, 62] w1 w2 := u2.mono (fun y _ hy => by subst hy; exact hob) (fun k hk => by simp at hk; simp [hk])
    have e2 : Ex w0 w2 := (ex.trans e1).new u2' (fun _ h => h)
    have z1 := e1.size
    refine mf_1 ((r.ex e1).mt rfl rfl u2') e2 hob hrb hb2 hr2 hzs hne hps hnd hpe ⟨n1, n2, n3, n4, o1.2.2.2.2⟩ fun v pl w' u e o p1 p2 r' => ?_
    have U : Up (fun x => w0.heap.size ≤ x) [34, 62] w w' := ((Up.of_ex e1).trans u2').trans u
    have := h v pl w' v1 v2 v3 v4 U e (o.mono (by omega)) p1 p2 r' (by
      rw [hus]
      have U2 := u2'.trans u
      exact fun w'' u'' => IsCf.kp u'' (q1.sl.typ U2 rfl) (q2.sl.typ U2 rfl) (q3.sl.typ U2 rfl) (q4.sl.typ U2 rfl))
    rw [hus] at this
    exact this

theorem mf_3 {base b : Nat} {R : Rf} {L : Lg} {ps : Ps} {vo le : List Int} {ob rb b2 : Nat} {m mo : Mac} {zs : Array Value} {w0 : World} {vu : Value}
    (hm : IsMac w0 m) (hml : m.st.length ≤ 1000) (hb2 : Bk w b2 (.cells m.cells 32 (0, 0))) (hne2 : b2 ≠ ob) (hoff : L.us = none → ∀ e ∈ m.st, e.i < L.off) (hob2 : ob < w.heap.size)
    (hu : US vu L.us w) (hsm : ∀ s, L.us = some s → CfSm s.c) {wm : World} (em : Ex wm w0) (hcf : IsCf wm mo.cvV mo.clV mo.coV mo.cnV mo.base.c) (r : RM base b R L ps vo le w) (ex : Ex w0 w) (hob : w0.heap.size ≤ ob) (hrb : w0.heap.size ≤ rb) (hb : Bk w ob (.cells mo.cells 32 (0, 0))) (hr : Bk w rb (.cells zs 32 (0, 0))) (hzs : zs.size = 32) (hne : ob ≠ rb)
    (hps : ps.length ≤ 13) (hnd : (ps.map (·.1)).Nodup) (hpe : mo.peV = .slice none 0 0) (hst : mo.stV = .slice none 0 0) (o1 : one mo.cvV = true ∧ one mo.clV = true ∧ one mo.coV = true ∧ one mo.cnV = true ∧ one mo.stV = true ∧ one mo.frV = true ∧ one mo.voV = true ∧ one mo.leV = true ∧ one mo.vsV = true)
    (h : ∀ (v : Value) w1, Up (fun x => w0.heap.size ≤ x) [34] w w1 → Own w1 w0.heap.size 56 4 v ((if L.us = none then m.st else []).map En.cells) → MF1 wm w0 w1 base b R L ps vo le { mo with commit := L.cm, applied := L.ap, stV := v } K) :
    t51_3 (.pointer (some ⟨R.lb, 0, none⟩)) w (.pointer (some ⟨ob, 0, none⟩)) (.pointer (some ⟨b2, 0, none⟩)) vu (.int .u64 L.off) (.pointer (some ⟨b, 7, none⟩)) (.pointer (some ⟨rb, 0, none⟩)) K := by
  unfold t51_3
  refine cl_fn (k89 r.lg fun w1 e1 z1 => ?_)
  have hb1 := e1.at_ hb
  (repeat (first | (refine go ?_; intros) | (refine goK19 ?_; intros)))
  rename_i wa ua hba za wb ub hbb zb
  have U : Up (fun x => x = ob) [34] w wb := ((Up.of_ex e1).trans ua).trans ub
  have hbm : Bk wb b2 (.cells m.cells 32 (0, 0)) := U.off hb2 hne2
  clear hb1 hba
  have up' : ∀ {a c : World}, Up (fun x => x = ob) [34] a c → Up (fun x => w0.heap.size ≤ x) [34] a c := fun u => u.mono (fun y _ hy => by subst hy; exact hob) (fun k hk => hk)
  have up2 : ∀ {a c : World}, Up (fun x => x = ob) [34] a c → Up (fun x => w0.heap.size ≤ x) [34, 62] a c := fun u => u.mono (fun y _ hy => by subst hy; exact hob) (fun k hk => by simp at hk; simp [hk])
  have exb : Ex w0 wb := ex.new (up' U) (fun _ h => h)
  have hmb := (hm.ex exb).st
  refine q_lenSl hmb ?_
  rw [List.length_map]
  refine loop_n (α := Nat × Value) (fun a τ w' => g τ 1 = .int .i64 (a.1 : Nat) ∧ a.1 ≤ m.st.length ∧ Up (fun x => x = ob) [34] wb w' ∧ Bk w' ob (.cells ({ mo with commit := L.cm, applied := L.ap, stV := a.2 } : Mac).cells 32 (0, 0)) ∧ Own w' wb.heap.size 56 4 a.2 ((if L.us = none then m.st.take a.1 else []).map En.cells)) (fun a => m.st.length - a.1) (0, .slice none 0 0)
    ⟨rfl, Nat.zero_le _, .refl _ _ _, ?_, ?_⟩ ?_
  · have : ({ mo with commit := L.cm, applied := L.ap, stV := .slice none 0 0 } : Mac) = { mo with commit := L.cm, applied := L.ap } := by rw [← hst]
    rw [this]
    exact hbb
  · have : (if L.us = none then m.st.take 0 else []) = [] := by split <;> rfl
    simp only [this]
    exact Own.nil _ _ _ _
  clear hbb
  rintro ⟨j, v⟩ τ w' R' ⟨hj, hle, u, hbo, ho⟩ hR
  simp only at hj hle hbo ho hR
  rw [hj]
  (repeat (first | (refine go ?_; intros) | (refine goK19 ?_; intros)))
  have zu := u.size
  have zU := U.size
  have exw : Ex w0 w' := exb.new (up' u) (fun _ h => h)
  refine if_split (fun hbj => ?_) (fun hbj => ?_)
  · have hj' : j < m.st.length := by simpa using hbj
    obtain ⟨e, he⟩ : ∃ e, m.st[j]? = some e := ⟨_, List.getElem?_eq_getElem hj'⟩
    refine q_ixa j (hm.ex exw).st rfl (by rw [List.getElem?_map, he]; rfl) fun _ => ?_
    refine e_allocA fun b3 w3 e3 hb3 s3a s3b => ?_
    refine u_stA hb3 (Nat.le_of_ble_eq_true rfl) (by rfl) (by rfl) nmK19 fun w4 u4 hb4 z4 => ?_
    clear hb3
    have ew4 : Ex w' w4 := by exact ex_
    have hbo4 := ew4.at_ hbo
    have ho4 := ho.ex ew4
    clear hbo ho
    have z3 := e3.size
    unfold Jo
    cases hus : L.us with
    | none =>
      rw [hus] at hu
      cases (show vu = .pointer none from hu)
      have hlt := hoff hus e (List.mem_of_getElem? he)
      (repeat (first | (refine go ?_; intros) | (refine goK19 ?_; intros)))
      rw [decide_eq_true hlt]
      (repeat (first | (refine go ?_; intros) | (refine goK19 ?_; intros)))
      simp only [hus, if_true] at ho4
      refine e_push (v := .agg #[.int .u64 e.t, .int .u64 e.i, .int .i64 e.k, .string e.d]) ho4 (by rfl) (by omega) (by
        intro x hx
        have : (Value.agg #[.int .u64 e.t, .int .u64 e.i, .int .i64 e.k, .string e.d]).cells.toList.all one = true := by rfl
        exact List.all_eq_true.1 this x hx) (by simp; omega) (by simp; omega) (by omega) fun s5 v5 w5 u5 ho5 hown5 z5 => ?_
      have lt4 := ho4.lt
      have e5 : Up (fun x => x = ob) [34] wb w5 := (u.ex ew4).new u5 (fun x hx => (lt4 x hx).1)
      have hbo5 : Bk w5 ob (.cells ({ mo with commit := L.cm, applied := L.ap, stV := v } : Mac).cells 32 (0, 0)) := u5.at_ hbo4 rfl
      clear hbo4
      have hv5 := ho5.sl.one
      (repeat (first | (refine go ?_; intros) | (refine goK19 ?_; intros)))
      rename_i w6 u6 hb6 z6
      rw [wrapS (by omega)]
      refine hR (j + 1, v5) _ _ ⟨rfl, by simp; omega, e5.trans u6, hb6, ?_⟩ (by simp; omega)
      have : (if L.us = none then m.st.take (j + 1) else []).map En.cells = (m.st.take j).map En.cells ++ [e.cells] := by
        rw [if_pos hus, take_snoc he, List.map_append]; rfl
      simp only [this]
      exact ho5.up u6 fun _ _ => .inl rfl
    | some sn =>
      have hu2 := hu
      rw [hus] at hu2
      obtain ⟨ba, _, _, hva2, _⟩ := (show PS vu sn w from hu2)
      subst hva2
      (repeat (first | (refine go ?_; intros) | (refine goK19 ?_; intros)))
      rw [wrapS (by omega)]
      have hne0 : ¬ L.us = none := by rw [hus]; intro h; cases h
      refine hR (j + 1, v) _ _ ⟨rfl, by simp; omega, u.ex ew4, hbo4, ?_⟩ (by simp; omega)
      simp only [if_neg hne0] at ho4 ⊢
      exact ho4
  · have hjl : j = m.st.length := by
      have := of_decide_eq_false hbj
      omega
    subst hjl
    have U2 := U.trans u
    have hrl := hr.lt
    have hr' : Bk w' rb (.cells zs 32 (0, 0)) := U2.off hr (fun h => hne h.symm)
    have ho' := ho.mono (base' := w0.heap.size) (by have := exb.size; omega)
    have hv5 := ho.sl.one
    refine mf_2 (mo := { mo with commit := L.cm, applied := L.ap, stV := v }) (hu.mt rfl U2) hsm em hcf (r.mt rfl rfl U2) exw hob hrb hbo hr' hzs hne hps hnd hpe ⟨o1.1, o1.2.1, o1.2.2.1, o1.2.2.2.1, hv5, o1.2.2.2.2.2⟩ ?_
    refine h v w' (up' U2) ?_
    have : (if L.us = none then m.st.take m.st.length else []) = (if L.us = none then m.st else []) := by rw [List.take_length]
    rw [this] at ho'
    exact ho'

end Go.Proofs.YtmmpogfbhelioaaGreat
/-
  Contract: a machine as plain data again.
  Conditions: at most 13 members.
-/
namespace Go.Proofs.YtmmpogfbhelioaaGreat
set_option maxRecDepth 10000
set_option linter.unusedVariables false
set_option linter.unusedSimpArgs false
theorem nmK20 {p : Prop} (h : p := by (try simp only [List.getElem?_toArray, List.getElem?_cons_zero, List.getElem?_cons_succ, List.setIfInBounds_toArray, List.set_cons_zero, List.set_cons_succ, List.toList_toArray, List.drop_zero, List.drop_succ_cons, List.take_zero, List.take_succ_cons, Nat.zero_add, Nat.add_zero, Nat.reduceAdd, putCells, Mac.cells, Rf.cells]) <;> rfl) : p := h
theorem goK20 {G H : Prop} (h : H) (s : Stp G H := by (apply Stp.of; intro hS; (first | (refine q_ld bk_ nmK20 ?_) | (refine q_ldU bk_ rfl nmK20 ?_) | (refine q_ldW bk_ (by rfl) ?_) | (refine q_ldWU bk_ rfl (by rfl) ?_) | (refine q_ldP bk_ (Nat.le_of_ble_eq_true rfl) nmK20 ?_) | (refine q_ldPU bk_ rfl (Nat.le_of_ble_eq_true rfl) nmK20 ?_) | (refine q_ext nmK20 ?_) | (refine u_st bk_ (Nat.le_of_ble_eq_true rfl) (by first | rfl | assumption) nmK20 ?_) | (refine u_stA bk_ (Nat.le_of_ble_eq_true rfl) (by rfl) (by rfl) nmK20 ?_) | (refine q_field nmK20 ?_)); exact hS.out)) : G := s.f h
set_option linter.unusedVariables false
set_option linter.unusedSimpArgs false
attribute [local irreducible] Instr.box Instr.alloc Instr.loadAt Instr.storeAt Instr.fieldAt Instr.indexAt Instr.build Instr.buildSlice Instr.makeSlice Instr.makeMap Instr.mapUpdate Instr.lookup Instr.range Instr.next Instr.entry Instr.extract Instr.makeInterface Instr.makeFunc Instr.sliceAt Instr.typeAssert Instr.field Instr.index Builtin.len_ Builtin.cap_ Builtin.max_ Builtin.min_ Builtin.append_ Builtin.copy_ Builtin.delete_ convert binS pickS nilS callV callM Op.unary Own Mp It Cu


variable {K : Value → World → Prop} {w : World} {te : Option Nat}

/-- What the machine as plain data says of the one in memory; m is what it was made of. -/
structure MF (m : Mac) (R : Rf) (L : Lg) (ps : Ps) (vo le : List Int) (mo : Mac) : Prop where
  id : mo.id = R.id
  term : mo.term = R.term
  vote : mo.vote = R.vote
  lead : mo.lead = R.lead
  role : mo.role = R.st
  base : mo.base = L.us.getD m.base
  st : mo.st = if L.us = none then m.st else []
  fr : mo.fr = L.un
  commit : mo.commit = L.cm
  vo : mo.vo.Perm vo
  le : mo.le.Perm le
  ids : (mo.pe.map (·.id)).Perm (ps.map (·.1))
  pe : ∀ p ∈ mo.pe, ∃ x ∈ ps, p = peOf x.1 x.2.2
  vs : mo.vs = []

set_option maxHeartbeats 2000000 in
theorem k51 {m : Mac} {base b : Nat} {R : Rf} {L : Lg} {ps : Ps} {vo le : List Int} {wm : World} (hm0 : IsMac wm m) (em : Ex wm w) (r : RM base b R L ps vo le w) (hml : m.st.length ≤ 1000) (hoff : L.us = none → ∀ e ∈ m.st, e.i < L.off) (hst : 0 ≤ R.st ∧ R.st ≤ 3)
    (hkk : ∀ e ∈ L.un, i64 e.k) (hsm : ∀ s, L.us = some s → CfSm s.c) (hps : ps.length ≤ 13) (hnd : (ps.map (·.1)).Nodup) (hvo : vo.length ≤ 13) (hle : le.length ≤ 13)
    (h : ∀ mo w', Ex w w' → MF m R L ps vo le mo → (∀ w'', Kp wm.heap.size w.heap.size w' w'' → IsMac w'' mo) → K (.agg mo.cells) w') : CK Pr 51 #[.agg m.cells, .pointer (some ⟨b, 0, none⟩)] w K := by
  refine c51 ?_
  unfold t51
  have hm := hm0.ex em
  refine e_boxA fun b2 w1 e1 hb1 s1 s2 => ?_
  refine e_allocA fun rb w2 e2 hb2 s3 s4 => ?_
  refine cl_fn (k81 ((r.ex e1).ex e2).bk fun w3 e3 => ?_)
  refine e_allocA fun sb w4 e4 hb4 s5 s6 => ?_
  refine u_stA hb4 (Nat.le_of_ble_eq_true rfl) (by rfl) (by rfl) nmK20 fun w5 u5 hb5 z5 => ?_
  clear hb4
  have z1 := e1.size
  have z2 := e2.size
  have z3 := e3.size
  have z4 := e4.size
  have e5 : Ex w w5 := ((((e1.trans e2).trans e3).trans e4)).new u5 (by intro x hx; subst hx; omega)
  have r5 := r.ex e5
  refine cl_fn (k82 r5.bk ?_)
  refine cl_fn (k83 ?_)
  refine cl_fn (k85 ?_)
  refine cl_fn (k84 r5.lg fun vu ve qs w6 e6 z6 hu hve hqs => ?_)
  have r6 := r5.ex e6
  have hbm : Bk w6 b2 (.cells m.cells 32 (0, 0)) := e6.at_ (u5.at_ (e4.at_ (e3.at_ (e2.at_ hb1))) rfl)
  have hbr := e6.at_ (u5.at_ (e4.at_ (e3.at_ hb2)) rfl)
  have hbs := e6.at_ hb5
  have ew6 := e5.trans e6
  clear hb1 hb2 hb5 r5
  (repeat (first | (refine go ?_; intros) | (refine goK20 ?_; intros)))
  refine jo_rule (fun J => ∀ ob v1 v2 v3 xs ys w', Ex w6 w' → w6.heap.size ≤ ob → ob < w'.heap.size → Own w' w.heap.size 56 4 v1 (L.un.map En.cells) → Sl w' (some 22) 1 v2 (nums xs) → Sl w' (some 22) 1 v3 (nums ys) → xs.Perm vo → ys.Perm le →
      Bk w' ob (.cells (Mac.cells ⟨R.id, R.term, R.vote, R.lead, R.st, m.base, m.cvV, m.clV, m.coV, m.cnV, .slice none 0 0, v1, [], L.un, 0, 0, v2, v3, .slice none 0 0, .slice none 0 0, xs, ys, [], [], R.pv, R.cq, R.et, R.ht, R.rt, R.ee, R.he, R.mm, R.mu, R.us, R.tr⟩) 32 (0, 0)) → J (.pointer (some ⟨ob, 0, none⟩)) w') ?_ ?_
  · intro ob v1 v2 v3 xs ys w' ex hob hobl h1 h2 h3 px py hbo
    have o1 := hm.one1
    have n1 := h1.sl.one
    have n2 := h2.one
    have n3 := h3.one
    have zex := ex.size
    refine mf_3 (mo := ⟨R.id, R.term, R.vote, R.lead, R.st, m.base, m.cvV, m.clV, m.coV, m.cnV, .slice none 0 0, v1, [], L.un, 0, 0, v2, v3, .slice none 0 0, .slice none 0 0, xs, ys, [], [], R.pv, R.cq, R.et, R.ht, R.rt, R.ee, R.he, R.mm, R.mu, R.us, R.tr⟩)
      (w0 := w) (b2 := b2) hm hml (ex.at_ hbm) (by omega) hoff hobl (hu.ex ex) hsm em hm0.cf (r6.ex ex) (ew6.trans ex) (by omega) (by omega) hbo (ex.at_ hbr) (by rfl) (by omega) hps hnd rfl rfl ⟨o1.1, o1.2.1, o1.2.2.1, o1.2.2.2.1, rfl, n1, n2, n3, rfl⟩ ?_
    intro v w7 u7 hs7 pv pl w8 c1 c2 c3 c4 u8 e8 ho8 hpi hpp r8 hcf
    refine h ⟨R.id, R.term, R.vote, R.lead, R.st, L.us.getD m.base, c1, c2, c3, c4, v, v1, (if L.us = none then m.st else []), L.un, L.cm, L.ap, v2, v3, pv, .slice none 0 0, xs, ys, pl, [], R.pv, R.cq, R.et, R.ht, R.rt, R.ee, R.he, R.mm, R.mu, R.us, R.tr⟩ w8 e8
      ⟨rfl, rfl, rfl, rfl, rfl, rfl, rfl, rfl, rfl, px, py, hpi, hpp, rfl⟩ ?_
    intro w9 u9
    refine ⟨hcf w9 u9, ((hs7.up u8 fun _ _ => .inl rfl).kp u9 (Nat.le_refl _)).any, (((h1.up u7 fun _ _ => .inl rfl).up u8 fun _ _ => .inl rfl).kp u9 (Nat.le_refl _)).any, (((h2.typ u7 rfl).typ u8 rfl).kp u9 rfl (by decide)).any, (((h3.typ u7 rfl).typ u8 rfl).kp u9 rfl (by decide)).any, (ho8.sl.kp u9 rfl (by decide)).any, fun p hp => ?_, .nil _ _⟩
    obtain ⟨x, _, rfl⟩ := hpp p hp
    exact ⟨.nil _ _, .nil _ _⟩
  · intro J hJ
    refine dr_rule No [] fun wA eA zA => ?_
    have hbmA := eA.at_ hbm
    have hbsA := eA.at_ hbs
    have rA := r6.ex eA
    have rbA := rA.bk
    have hveA := hve.ex eA
    have hqsA := hqs.ex eA
    have o1 := hm.one1
    (repeat (first | (refine go ?_; intros) | (refine goK20 ?_; intros)))
    refine q_ia 0 rfl (by omega) ?_
    (repeat (first | (refine go ?_; intros) | (refine goK20 ?_; intros)))
    rw [wrap64 (n := R.st) (by omega) (by omega)]
    have hmvo := rA.vo
    have hmle := rA.le
    have hkv : (ms vo).length ≤ 13 := by simpa [ms] using hvo
    have hkl : (ms le).length ≤ 13 := by simpa [ms] using hle
    have keyv : (ms vo).map (·.1) = vo := by simp [ms, Function.comp_def]
    have keyl : (ms le).map (·.1) = le := by simp [ms, Function.comp_def]
    have hunl := r.lok.un
    have al : ∀ (w' : World) (v1 v2 v3 : Value) xs ys, Ex wA w' → Own w' w.heap.size 56 4 v1 (L.un.map En.cells) → Sl w' (some 22) 1 v2 (nums xs) → Sl w' (some 22) 1 v3 (nums ys) → xs.Perm vo → ys.Perm le → ∀ ob w2, Ex w' w2 → wA.heap.size ≤ ob → 
      Bk w2 ob (.cells (Mac.cells ⟨R.id, R.term, R.vote, R.lead, R.st, m.base, m.cvV, m.clV, m.coV, m.cnV, .slice none 0 0, v1, [], L.un, 0, 0, v2, v3, .slice none 0 0, .slice none 0 0, xs, ys, [], [], R.pv, R.cq, R.et, R.ht, R.rt, R.ee, R.he, R.mm, R.mu, R.us, R.tr⟩) 32 (0, 0)) → J (.pointer (some ⟨ob, 0, none⟩)) w2 := by
      intro w' v1 v2 v3 xs ys e q1 q2 q3 p1 p2 ob w2 e2 hob hbo
      exact hJ ob v1 v2 v3 xs ys w2 ((eA.trans e).trans e2) (by omega) hbo.lt (q1.ex e2) (q2.ex e2) (q3.ex e2) p1 p2 hbo
    refine ⟨cl_fn (k86 hveA hqsA (by omega) hkk fun v1 wB eB oB => ⟨eB, ⟨cl_fn (k87 (hmvo.ex eB) hkv fun v2 wC xs eC px q2 => ⟨eB.trans eC, ⟨?_, ?_⟩⟩), ?_⟩⟩), ?_⟩
    · have q1 := oB.mono (base' := w.heap.size) (by have := (ew6.trans eA).size; omega)
      have n1 := q1.sl.one
      rw [keyv] at px
      have n2 := q2.one
      have zB := eB.size
      have zC := eC.size
      refine cl_fn (k88 (hmle.ex (eB.trans eC)) hkl fun v3 wP1 ys eP1 py q3 => ⟨(eB.trans eC).trans eP1, ?_⟩)
      rw [keyl] at py
      have n3 := q3.one
      have zz1 := eP1.size
      refine b32_0_1_2_3_4_5_7_10_11_14_15_16_17_18_19_20_21_22_23_24 rfl rfl rfl rfl rfl (by exact n1) (by exact n2) (by exact n3) rfl rfl rfl rfl rfl rfl rfl rfl rfl rfl rfl ?_
      refine e_allocA fun ob wP3 eP3 hb3 sa sb' => ⟨((eB.trans eC).trans eP1).trans eP3, ?_⟩
      have zz3 := eP3.size
      refine u_stA hb3 (Nat.le_of_ble_eq_true rfl) (by rfl) (by simp only [List.all_cons, List.all_nil, o1.1, o1.2.1, o1.2.2.1, o1.2.2.2.1, n1, n2, n3]; rfl) nmK20 fun wF uF hbF zF => ⟨(((eB.trans eC).trans eP1).trans eP3).new uF (by intro x hx; subst hx; have := (((eB.trans eC).trans eP1).trans eP3).size; omega), ?_⟩
      exact al wF v1 v2 v3 xs ys ((((eB.trans eC).trans eP1).trans eP3).new uF (by intro x hx; subst hx; have := (((eB.trans eC).trans eP1).trans eP3).size; omega)) (((((q1.ex eC).ex eP1).ex eP3).up uF fun _ _ => .inl rfl)) (((q2.ex eP1).ex eP3).typ uF rfl) ((q3.ex eP3).typ uF rfl) px py ob wF (.refl _ _ _) (by omega) hbF
    · have q1 := oB.mono (base' := w.heap.size) (by have := (ew6.trans eA).size; omega)
      have n1 := q1.sl.one
      rw [keyv] at px
      have n2 := q2.one
      have zB := eB.size
      have zC := eC.size
      refine e_allocA fun ob wP1 eP1 hb1 sa sb' => ⟨(eB.trans eC).trans eP1, ?_⟩
      have zz1 := eP1.size
      refine cl_fn (k88 (hmle.ex ((eB.trans eC).trans eP1)) hkl fun v3 wP2 ys eP2 py q3 => ⟨((eB.trans eC).trans eP1).trans eP2, ?_⟩)
      rw [keyl] at py
      have n3 := q3.one
      have hb2 := eP2.at_ hb1
      have zz2 := eP2.size
      refine b32_0_1_2_3_4_5_7_10_11_14_15_16_17_18_19_20_21_22_23_24 rfl rfl rfl rfl rfl (by exact n1) (by exact n2) (by exact n3) rfl rfl rfl rfl rfl rfl rfl rfl rfl rfl rfl ?_
      refine u_stA hb2 (Nat.le_of_ble_eq_true rfl) (by rfl) (by simp only [List.all_cons, List.all_nil, o1.1, o1.2.1, o1.2.2.1, o1.2.2.2.1, n1, n2, n3]; rfl) nmK20 fun wF uF hbF zF => ⟨(((eB.trans eC).trans eP1).trans eP2).new uF (by intro x hx; subst hx; have := (((eB.trans eC).trans eP1).trans eP2).size; omega), ?_⟩
      exact al wF v1 v2 v3 xs ys ((((eB.trans eC).trans eP1).trans eP2).new uF (by intro x hx; subst hx; have := (((eB.trans eC).trans eP1).trans eP2).size; omega)) (((((q1.ex eC).ex eP1).ex eP2).up uF fun _ _ => .inl rfl)) (((q2.ex eP1).ex eP2).typ uF rfl) (q3.typ uF rfl) px py ob wF (.refl _ _ _) (by omega) hbF
    · have q1 := oB.mono (base' := w.heap.size) (by have := (ew6.trans eA).size; omega)
      have n1 := q1.sl.one
      have zB := eB.size
      refine e_allocA fun ob wP1 eP1 hb1 sa sb' => ⟨(eB).trans eP1, ?_⟩
      have zz1 := eP1.size
      refine cl_fn (k87 (hmvo.ex ((eB).trans eP1)) hkv fun v2 wP2 xs eP2 px q2 => ⟨((eB).trans eP1).trans eP2, ?_⟩)
      rw [keyv] at px
      have n2 := q2.one
      have hb2 := eP2.at_ hb1
      have zz2 := eP2.size
      refine cl_fn (k88 (hmle.ex (((eB).trans eP1).trans eP2)) hkl fun v3 wP3 ys eP3 py q3 => ⟨(((eB).trans eP1).trans eP2).trans eP3, ?_⟩)
      rw [keyl] at py
      have n3 := q3.one
      have hb3 := eP3.at_ hb2
      have zz3 := eP3.size
      refine b32_0_1_2_3_4_5_7_10_11_14_15_16_17_18_19_20_21_22_23_24 rfl rfl rfl rfl rfl (by exact n1) (by exact n2) (by exact n3) rfl rfl rfl rfl rfl rfl rfl rfl rfl rfl rfl ?_
      refine u_stA hb3 (Nat.le_of_ble_eq_true rfl) (by rfl) (by simp only [List.all_cons, List.all_nil, o1.1, o1.2.1, o1.2.2.1, o1.2.2.2.1, n1, n2, n3]; rfl) nmK20 fun wF uF hbF zF => ⟨((((eB).trans eP1).trans eP2).trans eP3).new uF (by intro x hx; subst hx; have := ((((eB).trans eP1).trans eP2).trans eP3).size; omega), ?_⟩
      exact al wF v1 v2 v3 xs ys (((((eB).trans eP1).trans eP2).trans eP3).new uF (by intro x hx; subst hx; have := ((((eB).trans eP1).trans eP2).trans eP3).size; omega)) (((((q1.ex eP1).ex eP2).ex eP3).up uF fun _ _ => .inl rfl)) ((q2.ex eP3).typ uF rfl) (q3.typ uF rfl) px py ob wF (.refl _ _ _) (by omega) hbF
    · refine e_allocA fun ob wP1 eP1 hb1 sa sb' => ⟨(Up.refl No [] wA).trans eP1, ?_⟩
      have zz1 := eP1.size
      refine cl_fn (k86 (hveA.ex ((Up.refl No [] wA).trans eP1)) (hqsA.ex ((Up.refl No [] wA).trans eP1)) (by omega) hkk fun v1 wP2 eP2 oP => ⟨((Up.refl No [] wA).trans eP1).trans eP2, ?_⟩)
      have q1 := oP.mono (base' := w.heap.size) (by have := (ew6.trans eA).size; have := eP1.size; omega)
      have n1 := q1.sl.one
      have hb2 := eP2.at_ hb1
      have zz2 := eP2.size
      refine cl_fn (k87 (hmvo.ex (((Up.refl No [] wA).trans eP1).trans eP2)) hkv fun v2 wP3 xs eP3 px q2 => ⟨(((Up.refl No [] wA).trans eP1).trans eP2).trans eP3, ?_⟩)
      rw [keyv] at px
      have n2 := q2.one
      have hb3 := eP3.at_ hb2
      have zz3 := eP3.size
      refine cl_fn (k88 (hmle.ex ((((Up.refl No [] wA).trans eP1).trans eP2).trans eP3)) hkl fun v3 wP4 ys eP4 py q3 => ⟨((((Up.refl No [] wA).trans eP1).trans eP2).trans eP3).trans eP4, ?_⟩)
      rw [keyl] at py
      have n3 := q3.one
      have hb4 := eP4.at_ hb3
      have zz4 := eP4.size
      refine b32_0_1_2_3_4_5_7_10_11_14_15_16_17_18_19_20_21_22_23_24 rfl rfl rfl rfl rfl (by exact n1) (by exact n2) (by exact n3) rfl rfl rfl rfl rfl rfl rfl rfl rfl rfl rfl ?_
      refine u_stA hb4 (Nat.le_of_ble_eq_true rfl) (by rfl) (by simp only [List.all_cons, List.all_nil, o1.1, o1.2.1, o1.2.2.1, o1.2.2.2.1, n1, n2, n3]; rfl) nmK20 fun wF uF hbF zF => ⟨(((((Up.refl No [] wA).trans eP1).trans eP2).trans eP3).trans eP4).new uF (by intro x hx; subst hx; have := (((((Up.refl No [] wA).trans eP1).trans eP2).trans eP3).trans eP4).size; omega), ?_⟩
      exact al wF v1 v2 v3 xs ys ((((((Up.refl No [] wA).trans eP1).trans eP2).trans eP3).trans eP4).new uF (by intro x hx; subst hx; have := (((((Up.refl No [] wA).trans eP1).trans eP2).trans eP3).trans eP4).size; omega)) (((q1.ex eP3).ex eP4).up uF fun _ _ => .inl rfl) ((q2.ex eP4).typ uF rfl) (q3.typ uF rfl) px py ob wF (.refl _ _ _) (by omega) hbF

end Go.Proofs.YtmmpogfbhelioaaGreat
/-
  Contracts: the machine is set back.
  Conditions: each one's own.
-/
namespace Go.Proofs.YtmmpogfbhelioaaGreat
set_option maxRecDepth 10000
set_option linter.unusedVariables false
set_option linter.unusedSimpArgs false
theorem nmK21 {p : Prop} (h : p := by (try simp only [List.getElem?_toArray, List.getElem?_cons_zero, List.getElem?_cons_succ, List.setIfInBounds_toArray, List.set_cons_zero, List.set_cons_succ, List.toList_toArray, List.drop_zero, List.drop_succ_cons, List.take_zero, List.take_succ_cons, Nat.zero_add, Nat.add_zero, Nat.reduceAdd, putCells, Rf.cells, Pg.cells]) <;> rfl) : p := h
theorem goK21 {G H : Prop} (h : H) (s : Stp G H := by (apply Stp.of; intro hS; (first | (refine q_ld bk_ nmK21 ?_) | (refine q_ldU bk_ rfl nmK21 ?_) | (refine q_ldW bk_ (by rfl) ?_) | (refine q_ldWU bk_ rfl (by rfl) ?_) | (refine q_ldP bk_ (Nat.le_of_ble_eq_true rfl) nmK21 ?_) | (refine q_ldPU bk_ rfl (Nat.le_of_ble_eq_true rfl) nmK21 ?_) | (refine q_ext nmK21 ?_) | (refine u_st bk_ (Nat.le_of_ble_eq_true rfl) (by first | rfl | assumption) nmK21 ?_) | (refine u_stA bk_ (Nat.le_of_ble_eq_true rfl) (by rfl) (by rfl) nmK21 ?_) | (refine q_field nmK21 ?_)); exact hS.out)) : G := s.f h
set_option linter.unusedVariables false
set_option linter.unusedSimpArgs false
attribute [local irreducible] Instr.box Instr.alloc Instr.loadAt Instr.storeAt Instr.fieldAt Instr.indexAt Instr.build Instr.buildSlice Instr.makeSlice Instr.makeMap Instr.mapUpdate Instr.lookup Instr.range Instr.next Instr.entry Instr.extract Instr.makeInterface Instr.makeFunc Instr.sliceAt Instr.typeAssert Instr.field Instr.index Builtin.len_ Builtin.cap_ Builtin.max_ Builtin.min_ Builtin.append_ Builtin.copy_ Builtin.delete_ convert binS pickS nilS callV callM Op.unary Own Mp It Cu


variable {K : Value → World → Prop} {w : World} {te : Option Nat}

/-- A drawn region that keeps more than its world's blocks. -/
theorem dr_ruleG (C : Nat → Prop) (T : List Nat) (G : World → Prop) {F : (World → Prop) → World → Prop} (hG : ∀ w1, Ex w w1 → G w1) (h : ∀ w1, Ex w w1 → w1.heap.size = w.heap.size → F (fun x => Up C T w1 x ∧ G x) w1) : Dr w F :=
  .mk (fun x => Up C T w.drew x ∧ G x) ⟨Up.refl _ _ _, hG _ (Up.drew _ _ _)⟩ (h _ (Up.drew _ _ _) rfl)
theorem q_ldG {P : Program} {G : World → Prop} {K : Value → Prop} {C : Nat → Prop} {T : List Nat} {t b o : Nat} {cs : Array Value} {et : TypeId} {fz : Nat × Nat} {x : Value} [TCell P t] (hb : Bk w b (.cells cs et fz)) (hT : T.contains (et + 2) = false) (hx : cs[o]? = some x) (k : K x) :
    Qu P (fun x => Up C T w x ∧ G x) (Instr.loadAt t (.pointer (some ⟨b, o, none⟩))) K := q_ldS (fun w' s => s.1.at_ hb hT) hx k
theorem q_ldX {P : Program} {S : World → Prop} {K : Value → Prop} {t b o : Nat} {x : Value} [TCell P t] (hb : ∀ w, S w → ∃ cs et fz, Bk w b (.cells cs et fz) ∧ cs[o]? = some x) (k : K x) : Qu P S (Instr.loadAt t (.pointer (some ⟨b, o, none⟩))) K := by
  refine .mk x (fun w' hw => ?_) k
  obtain ⟨cs, et, fz, h1, h2⟩ := hb w' hw
  simp only [Instr.loadAt, Instr.sureAddr]
  refine run_loadVar_cell ?_
  rw [h1.cell]; exact h2

theorem k116 {base b : Nat} {R : Rf} (hb : Bk w b (.cells R.cells 187 (0, 0))) (h : ∀ vt w', Up (fun x => x = b) [189] w w' → w.heap.size ≤ vt → Mp w' vt [] → Bk w' b (.cells { R with vt := vt }.cells 187 (0, 0)) → K (.tuple #[]) w') : CK Pr 116 #[.pointer (some ⟨b, 7, none⟩)] w K := by
  refine c116 ?_
  unfold t116
  refine e_mkmap (by intro v hv; cases hv) fun w1 e1 m1 s1 => ?_
  have hb1 := e1.at_ hb
  (repeat (first | (refine go ?_; intros) | (refine goK21 ?_; intros)))
  rename_i w2 u2 hb2 z2
  exact h w.heap.size w2 ((Up.of_ex e1).trans u2) (Nat.le_refl _) (m1.up u2 (.inl rfl)) hb2

theorem k166 {b : Nat} {R : Rf} (hb : Bk w b (.cells R.cells 187 (0, 0))) (h : ∀ w', Up (fun x => x = b) [189] w w' → Bk w' b (.cells { R with tr := 0 }.cells 187 (0, 0)) → K (.tuple #[]) w') : CK Pr 166 #[.pointer (some ⟨b, 0, none⟩)] w K := by
  refine c166 ?_
  unfold t166
  (repeat (first | (refine go ?_; intros) | (refine goK21 ?_; intros)))
  rename_i w2 u2 hb2 z2
  exact h w2 u2 hb2

theorem k241 {b : Nat} {R : Rf} {n : Int} (hb : Bk w b (.cells R.cells 187 (0, 0))) (h : K (.int .i64 0) w) : CK Pr 241 #[.pointer (some ⟨b, 0, none⟩), .int .i64 n] w K := by
  refine c241 ?_
  unfold t241
  (repeat (first | (refine go ?_; intros) | (refine goK21 ?_; intros)))
  exact h

theorem k170 {b : Nat} {R : Rf} (hb : Bk w b (.cells R.cells 187 (0, 0))) (he : i64 R.et) (h : ∀ w', Up (fun x => x = b) [189] w w' → Bk w' b (.cells { R with rt := R.et }.cells 187 (0, 0)) → K (.tuple #[]) w') : CK Pr 170 #[.pointer (some ⟨b, 0, none⟩)] w K := by
  refine c170 ?_
  unfold t170
  refine dr_ruleG (fun x => x = b) [189] (fun x => ∃ cs et fz, Bk x b (.cells cs et fz) ∧ cs[31]? = some (.int .i64 R.et)) (fun w1 e => ⟨_, _, _, e.at_ hb, rfl⟩) fun w1 e1 z1 => ?_
  have hb1 := e1.at_ hb
  have hG : ∃ cs et fz, Bk w1 b (.cells cs et fz) ∧ cs[31]? = some (.int .i64 R.et) := ⟨_, _, _, hb1, rfl⟩
  (repeat (first | (refine go ?_; intros) | (refine goK21 ?_; intros)))
  refine q_ldX (fun w' s => s.2) ?_
  (repeat (first | (refine go ?_; intros) | (refine goK21 ?_; intros)))
  refine q_ldX (fun w' s => s.2) ?_
  refine cl_fn (k241 hb1 ⟨⟨.refl _ _ _, hG⟩, ?_⟩)
  (repeat (first | (refine go ?_; intros) | (refine goK21 ?_; intros)))
  rename_i w2 u2 hb2 z2
  rw [show IntKind.i64.wrap (R.et + 0) = R.et by rw [show R.et + 0 = R.et by omega, wrap64 he.1 he.2]] at hb2
  exact ⟨⟨u2, _, _, _, hb2, rfl⟩, h w2 ((Up.of_ex e1).trans u2) hb2⟩

/-- A progress that is set back. -/
def nq (id : Int) (last mi mb : Int) (x : Int × Nat × Pg) : Int × Nat × Pg := (x.1, x.2.1, ⟨if x.1 = id then last else 0, last + 1, 0, 0, 0, false, false, x.2.2.le, mi, mb⟩)
def rs (id last mi mb : Int) (done : List Int) (ps : Ps) : Ps := ps.map fun x => if x.1 ∈ done then nq id last mi mb x else x
theorem rs_kv {id last mi mb : Int} {done : List Int} {ps : Ps} : kvP (rs id last mi mb done ps) = kvP ps := by
  simp only [kvP, rs, List.map_map]
  apply List.map_congr_left
  intro x _
  simp only [Function.comp_def]
  split <;> rfl
theorem rs_keys {id last mi mb : Int} {done : List Int} {ps : Ps} : (rs id last mi mb done ps).map (·.1) = ps.map (·.1) := by
  simp only [rs, List.map_map]
  apply List.map_congr_left
  intro x _
  simp only [Function.comp_def]
  split <;> rfl
theorem rs_blocks {id last mi mb : Int} {done : List Int} {ps : Ps} : (rs id last mi mb done ps).map (·.2.1) = ps.map (·.2.1) := by
  simp only [rs, List.map_map]
  apply List.map_congr_left
  intro x _
  simp only [Function.comp_def]
  split <;> rfl

theorem k171 {base pb b vb : Nat} {R : Rf} {L : Lg} {ps : Ps} {vo le : List Int} {q : Pg} {id : Int} (r : RM base b R L ps vo le w) (hv : Bk w vb (.cells #[.pointer (some ⟨b, 0, none⟩)] 73 (0, 0))) (hp : PG base pb q w)
    (h : ∀ w', Up (fun x => x = L.sb ∨ x = pb) [227, 154] w w' → LG base R.lb L w' → PG base pb ⟨if id = R.id then L.last else 0, L.last + 1, 0, 0, 0, false, false, q.le, R.mi, R.mb⟩ w' → K (.tuple #[]) w') :
    CK Pr 171 #[.int .u64 id, .pointer (some ⟨pb, 0, none⟩), .pointer (some ⟨vb, 0, none⟩)] w K := by
  refine c171 ?_
  unfold t171
  obtain ⟨hb0, ib, hib, hpb, hinf⟩ := hp
  refine dr_ruleG (fun x => x = L.sb ∨ x = pb) [227, 154] (fun x => ∃ cs et fz, Bk x pb (.cells cs et fz) ∧ cs[8]? = some (.bool q.le)) (fun w1 e => ⟨_, _, _, e.at_ hpb, rfl⟩) fun w1 e1 z1 => ?_
  have r1 := r.ex e1
  have rb1 := r1.bk
  have hv1 := e1.at_ hv
  have hp1 := e1.at_ hpb
  (repeat (first | (refine go ?_; intros) | (refine goK21 ?_; intros) | refine q_ldG bk_ rfl nmK21 ?_ | refine q_ldGW bk_ rfl (by rfl) ?_))
  have hmono : ∀ {a c : World}, Up (fun x => x = L.sb) [227] a c → Up (fun x => x = L.sb ∨ x = pb) [227, 154] a c := fun u => u.mono (fun _ _ h => .inl h) (fun k hk => by simp at hk; simp [hk])
  have hmono2 : ∀ {a c : World}, Up (fun x => x = pb) [154] a c → Up (fun x => x = L.sb ∨ x = pb) [227, 154] a c := fun u => u.mono (fun _ _ h => .inr h) (fun k hk => by simp at hk; simp [hk])
  refine cl_fn (k104 r1.lg r1.lok fun w2 u2 z2 lg2 => ⟨⟨hmono u2, _, _, _, u2.at_ hp1 rfl, rfl⟩, ?_⟩)
  have hp2 := u2.at_ hp1 rfl
  have rb2 := u2.at_ rb1 rfl
  have hv2 := u2.at_ hv1 rfl
  (repeat (first | (refine go ?_; intros) | (refine goK21 ?_; intros) | refine q_ldG bk_ rfl nmK21 ?_ | refine q_ldGW bk_ rfl (by rfl) ?_))
  have hlast := r.lok.last
  rw [wrapU (n := L.last + 1) (by omega) (by omega)]
  (repeat (first | (refine go ?_; intros) | (refine goK21 ?_; intros) | refine q_ldG bk_ rfl nmK21 ?_ | refine q_ldGW bk_ rfl (by rfl) ?_))
  refine cl_fn (k78 fun ib3 w3 e3 s3 hinf3 => ⟨⟨(hmono u2).ex e3, _, _, _, e3.at_ hp2, rfl⟩, ?_⟩)
  have hp3 := e3.at_ hp2
  have rb3 := e3.at_ rb2
  have hv3 := e3.at_ hv2
  (repeat (first | (refine go ?_; intros) | (refine goK21 ?_; intros) | refine q_ldG bk_ rfl nmK21 ?_ | refine q_ldGW bk_ rfl (by rfl) ?_))
  refine q_ldX (fun w' s => s.2) ?_
  (repeat (first | (refine go ?_; intros) | (refine goK21 ?_; intros) | refine b152_0_1_7_8 (by first | rfl | assumption) (by first | rfl | assumption) (by first | rfl | assumption) (by first | rfl | assumption) ?_))
  rename_i w4 u4 hb4 z4
  have U4 : Up (fun x => x = L.sb ∨ x = pb) [227, 154] w1 w4 := ((hmono u2).ex e3).trans (hmono2 u4)
  refine ⟨⟨U4, _, _, _, hb4, rfl⟩, ?_⟩
  have rb4 := u4.at_ rb3 rfl
  have hv4 := u4.at_ hv3 rfl
  have lg4 : LG base R.lb L w4 := (lg2.ex e3).mt rfl rfl rfl rfl u4
  have hinf4 : Inf ib3 R.mi R.mb w4 := u4.at_ hinf3 rfl
  clear hp1 hp2 hp3 rb1 rb2 rb3 hv1 hv2 hv3
  have z0 := e1.size
  have hbase : base ≤ ib3 := by
    have := r1.pr.mp.lt
    have := r1.pr.b0
    have := u2.size
    omega
  (repeat (first | (refine go ?_; intros) | (refine goK21 ?_; intros)))
  unfold Jo
  have heq : (id == R.id) = decide (id = R.id) := by by_cases h : id = R.id <;> simp [h]
  rw [heq]
  refine if_split (fun hid => ?_) (fun hid => ?_)
  · have hid := of_decide_eq_true hid
    (repeat (first | (refine go ?_; intros) | (refine goK21 ?_; intros)))
    refine cl_fn (k104 lg4 r.lok fun w5 u5 z5 lg5 => ?_)
    have hb5 := u5.at_ hb4 rfl
    (repeat (first | (refine go ?_; intros) | (refine goK21 ?_; intros)))
    rename_i w6 u6 hb6 z6
    refine h w6 (((Up.of_ex e1).trans U4).trans ((hmono u5).trans (hmono2 u6))) (lg5.mt rfl rfl rfl rfl u6) ⟨hb0, ib3, hbase, ?_, u6.at_ (u5.at_ hinf4 rfl) rfl⟩
    rw [if_pos hid]
    exact hb6
  · have hid := of_decide_eq_false hid
    refine h w4 ((Up.of_ex e1).trans U4) lg4 ⟨hb0, ib3, hbase, ?_, hinf4⟩
    rw [if_neg hid]
    exact hb4

end Go.Proofs.YtmmpogfbhelioaaGreat
