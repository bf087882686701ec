/-
  PARTS: T3 K0 T4 Db K6 T5.
-/
import Derived.Test.YtmmpogfbhelioaaGreatFoa
import Derived.Test.YtmmpogfbhelioaaGreatFob
import Derived.Test.YtmmpogfbhelioaaGreatFod
import Derived.Test.YtmmpogfbhelioaaGreatFoe
/-
  The readable texts of the program's functions, printed by gen.py, and their links with the program.
  Conditions: none.
-/
namespace Go.Proofs.YtmmpogfbhelioaaGreat
set_option maxRecDepth 10000
set_option linter.unusedVariables false
set_option linter.unusedSimpArgs false
def t117 (a0 : Value) (K : Value → World → Prop) (w : World) : Prop :=
 Qu Pr (Is w) (binS .neq 86 (.tmp 3) (.const (Value.pointer none)) a0 (Value.pointer none)) fun v1 =>
 If v1 (
  Qu Pr (Is w) (nilS a0) fun v2 =>
  Qu Pr (Is w) (Instr.fieldAt 119 v2 9) fun v3 =>
  Qu Pr (Is w) (Instr.loadAt 75 v3) fun v4 =>
  K v4 w) (
  K (Value.pointer none) w)
theorem c117 {a0 : Value} {K : Value → World → Prop} {w : World} (h : t117 a0 K w) : CK Pr 117 #[a0] w K := by
  refine calls_of_RF [] Tryz.func117 rfl ?_ ?_ ?_
  · kernel_rfl
  · exact Nat.le_of_ble_eq_true rfl
  · exact cast (by kernel_rfl) h

def t118 (a0 : Value) (K : Value → World → Prop) (w : World) : Prop :=
 Qu Pr (Is w) (binS .eql 75 (.tmp 4) (.const (Value.pointer none)) a0 (Value.pointer none)) fun v1 =>
 Jo (fun (p3 : Value) (w4 : World) => (
   Qu Pr (Is w4) (nilS p3) fun v6 =>
   Qu Pr (Is w4) (Instr.fieldAt 108 v6 1) fun v7 =>
   Qu Pr (Is w4) (Instr.loadAt 101 v7) fun v8 =>
   Cl Pr (callV (fn 203) #[v8]) w4 fun v10 w9 =>
   Qu Pr (Is w9) (nilS p3) fun v11 =>
   Qu Pr (Is w9) (Instr.fieldAt 108 v11 1) fun v12 =>
   Qu Pr (Is w9) (Instr.loadAt 101 v12) fun v13 =>
   Qu Pr (Is w9) (binS .eql 101 (.tmp 15) (.const (Value.pointer none)) v13 (Value.pointer none)) fun v14 =>
   Jo (fun  (w19 : World) => (
     K p3 w19 : Prop)) fun J20 =>
   If v14 (
    Qu Pr (Is w9) (nilS p3) fun v21 =>
    Qu Pr (Is w9) (Instr.fieldAt 108 v21 1) fun v22 =>
    Eu Pr (Instr.storeAt 101 v22 v10) w9 fun w23 =>
    J20 w23) (
    J20 w9) : Prop)) fun J5 =>
 If v1 (
  Ef Pr (Instr.alloc 108 true (.tuple #[])) w fun v25 w24 =>
  J5 v25 w24) (
  J5 a0 w)
theorem c118 {a0 : Value} {K : Value → World → Prop} {w : World} (h : t118 a0 K w) : CK Pr 118 #[a0] w K := by
  refine calls_of_RF [] Tryz.func118 rfl ?_ ?_ ?_
  · kernel_rfl
  · exact Nat.le_of_ble_eq_true rfl
  · exact cast (by kernel_rfl) h

@[irreducible] def t119_1 (a1 : Value) (w74 : World) (K : Value → World → Prop) (a0 : Value) : Prop :=
     Cl Pr (callV (fn 135) #[a1]) w74 fun v77 w76 =>
     Qu Pr (Is w76) (binS .eql 113 (.tmp 58) (.const (Value.int .i32 4)) v77 (Value.int .i32 4)) fun v78 =>
     Gd v78 false (fun k79 => k79 a1 w76) w76 fun v80 w81 =>
     Gd v78 false (fun k82 => Cl Pr (callV (fn 135) #[v80]) w81 fun v83x w84x => k82 v83x w84x) w81 fun v83 w84 =>
     Gd v78 false (fun k85 => Qu Pr (Is w84) (binS .eql 113 (.tmp 62) (.const (Value.int .i32 6)) v83 (Value.int .i32 6)) fun v88 => k85 v88 w84) w84 fun v86 w87 =>
     Qu Pr (Is w87) (pickS v78 (Value.bool true) v86) fun v89 =>
     Gd v89 false (fun k90 => k90 a1 w87) w87 fun v91 w92 =>
     Gd v89 false (fun k93 => Cl Pr (callV (fn 135) #[v91]) w92 fun v94x w95x => k93 v94x w95x) w92 fun v94 w95 =>
     Gd v89 false (fun k96 => Qu Pr (Is w95) (binS .eql 113 (.tmp 67) (.const (Value.int .i32 18)) v94 (Value.int .i32 18)) fun v99 => k96 v99 w95) w95 fun v97 w98 =>
     Qu Pr (Is w98) (pickS v89 (Value.bool true) v97) fun v100 =>
     Jo (fun  (w129 : World) => (
       K (.tuple #[]) w129 : Prop)) fun J130 =>
     If v100 (
      Qu Pr (Is w98) (nilS a0) fun v131 =>
      Qu Pr (Is w98) (Instr.fieldAt 187 v131 11) fun v132 =>
      Qu Pr (Is w98) (Instr.loadAt 94 v132) fun v133 =>
      Ef Pr (Instr.buildSlice 94 1 #[(0, a1)]) w98 fun v135 w134 =>
      Ef Pr (Builtin.append_ #[94, 94] 94 #[v133, v135]) w134 fun v137 w136 =>
      Qu Pr (Is w136) (nilS a0) fun v138 =>
      Qu Pr (Is w136) (Instr.fieldAt 187 v138 11) fun v139 =>
      Eu Pr (Instr.storeAt 94 v139 v137) w136 fun w140 =>
      J130 w140) (
      Dr w98 fun S141 w142 =>
      Cl Pr (callV (fn 136) #[a1]) w142 fun v144 w143 => S141 w143 ∧
      Qu Pr (S141) (nilS a0) fun v145 =>
      Qu Pr (S141) (Instr.fieldAt 187 v145 0) fun v146 =>
      Qu Pr (S141) (Instr.loadAt 22 v146) fun v147 =>
      Qu Pr (S141) (binS .eql 22 (.tmp 81) (.tmp 85) v144 v147) fun v148 =>
      If v148 (
       Qu Pr (Is w143) (Instr.makeInterface 9 (Value.string (ByteArray.mk #[109, 101, 115, 115, 97, 103, 101, 32, 115, 104, 111, 117, 108, 100, 32, 110, 111, 116, 32, 98, 101, 32, 115, 101, 108, 102, 45, 97, 100, 100, 114, 101, 115, 115, 101, 100, 32, 119, 104, 101, 110, 32, 115, 101, 110, 100, 105, 110, 103]))) fun _ =>
       False) (
       Qu Pr (Is w143) (nilS a0) fun v150 =>
       Qu Pr (Is w143) (Instr.fieldAt 187 v150 10) fun v151 =>
       Qu Pr (Is w143) (Instr.loadAt 94 v151) fun v152 =>
       Ef Pr (Instr.buildSlice 94 1 #[(0, a1)]) w143 fun v154 w153 =>
       Ef Pr (Builtin.append_ #[94, 94] 94 #[v152, v154]) w153 fun v156 w155 =>
       Qu Pr (Is w155) (nilS a0) fun v157 =>
       Qu Pr (Is w155) (Instr.fieldAt 187 v157 10) fun v158 =>
       Eu Pr (Instr.storeAt 94 v158 v156) w155 fun w159 =>
       J130 w159))
@[irreducible] def t119_2 (a1 : Value) (w12 : World) (K : Value → World → Prop) (a0 : Value) : Prop :=
   Cl Pr (callV (fn 135) #[a1]) w12 fun v15 w14 =>
   Qu Pr (Is w14) (binS .eql 113 (.tmp 16) (.const (Value.int .i32 5)) v15 (Value.int .i32 5)) fun v16 =>
   Gd v16 false (fun k17 => k17 a1 w14) w14 fun v18 w19 =>
   Gd v16 false (fun k20 => Cl Pr (callV (fn 135) #[v18]) w19 fun v21x w22x => k20 v21x w22x) w19 fun v21 w22 =>
   Gd v16 false (fun k23 => Qu Pr (Is w22) (binS .eql 113 (.tmp 20) (.const (Value.int .i32 6)) v21 (Value.int .i32 6)) fun v26 => k23 v26 w22) w22 fun v24 w25 =>
   Qu Pr (Is w25) (pickS v16 (Value.bool true) v24) fun v27 =>
   Gd v27 false (fun k28 => k28 a1 w25) w25 fun v29 w30 =>
   Gd v27 false (fun k31 => Cl Pr (callV (fn 135) #[v29]) w30 fun v32x w33x => k31 v32x w33x) w30 fun v32 w33 =>
   Gd v27 false (fun k34 => Qu Pr (Is w33) (binS .eql 113 (.tmp 25) (.const (Value.int .i32 17)) v32 (Value.int .i32 17)) fun v37 => k34 v37 w33) w33 fun v35 w36 =>
   Qu Pr (Is w36) (pickS v27 (Value.bool true) v35) fun v38 =>
   Gd v38 false (fun k39 => k39 a1 w36) w36 fun v40 w41 =>
   Gd v38 false (fun k42 => Cl Pr (callV (fn 135) #[v40]) w41 fun v43x w44x => k42 v43x w44x) w41 fun v43 w44 =>
   Gd v38 false (fun k45 => Qu Pr (Is w44) (binS .eql 113 (.tmp 30) (.const (Value.int .i32 18)) v43 (Value.int .i32 18)) fun v48 => k45 v48 w44) w44 fun v46 w47 =>
   Qu Pr (Is w47) (pickS v38 (Value.bool true) v46) fun v49 =>
   Jo (fun  (w74 : World) => (t119_1 a1 w74 K a0 : Prop)) fun J75 =>
   If v49 (
    Cl Pr (callV (fn 138) #[a1]) w47 fun v161 w160 =>
    Qu Pr (Is w160) (binS .eql 22 (.tmp 34) (.const (Value.int .u64 0)) v161 (Value.int .u64 0)) fun v162 =>
    If v162 (
     Qu Pr (Is w160) (Instr.makeInterface 9 (Value.string (ByteArray.mk #[116, 101, 114, 109, 32, 115, 104, 111, 117, 108, 100, 32, 98, 101, 32, 115, 101, 116, 32, 119, 104, 101, 110, 32, 115, 101, 110, 100, 105, 110, 103]))) fun _ =>
     False) (
     J75 w160)) (
    Cl Pr (callV (fn 138) #[a1]) w47 fun v165 w164 =>
    Qu Pr (Is w164) (binS .neq 22 (.tmp 38) (.const (Value.int .u64 0)) v165 (Value.int .u64 0)) fun v166 =>
    If v166 (
     Qu Pr (Is w164) (Instr.makeInterface 9 (Value.string (ByteArray.mk #[116, 101, 114, 109, 32, 115, 104, 111, 117, 108, 100, 32, 110, 111, 116, 32, 98, 101, 32, 115, 101, 116, 32, 119, 104, 101, 110, 32, 115, 101, 110, 100, 105, 110, 103, 32, 40, 119, 97, 115]))) fun _ =>
     False) (
     Cl Pr (callV (fn 135) #[a1]) w164 fun v169 w168 =>
     Qu Pr (Is w168) (binS .neq 113 (.tmp 42) (.const (Value.int .i32 2)) v169 (Value.int .i32 2)) fun v170 =>
     Gd v170 true (fun k171 => k171 a1 w168) w168 fun v172 w173 =>
     Gd v170 true (fun k174 => Cl Pr (callV (fn 135) #[v172]) w173 fun v175x w176x => k174 v175x w176x) w173 fun v175 w176 =>
     Gd v170 true (fun k177 => Qu Pr (Is w176) (binS .neq 113 (.tmp 46) (.const (Value.int .i32 15)) v175 (Value.int .i32 15)) fun v180 => k177 v180 w176) w176 fun v178 w179 =>
     Qu Pr (Is w179) (pickS v170 v178 (Value.bool false)) fun v181 =>
     Jo (fun  (w190 : World) => (
       J75 w190 : Prop)) fun J191 =>
     If v181 (
      Qu Pr (Is w179) (nilS a0) fun v192 =>
      Qu Pr (Is w179) (Instr.fieldAt 187 v192 1) fun v193 =>
      Qu Pr (Is w179) (Instr.loadAt 22 v193) fun v194 =>
      Ef Pr (Instr.box 22 v194) w179 fun v196 w195 =>
      Qu Pr (Is w195) (nilS a1) fun v197 =>
      Qu Pr (Is w195) (Instr.fieldAt 119 v197 3) fun v198 =>
      Eu Pr (Instr.storeAt 104 v198 v196) w195 fun w199 =>
      J191 w199) (
      J191 w179)))
def t119 (a0 a1 : Value) (K : Value → World → Prop) (w : World) : Prop :=
 Cl Pr (callV (fn 137) #[a1]) w fun v2 w1 =>
 Qu Pr (Is w1) (binS .eql 22 (.tmp 5) (.const (Value.int .u64 0)) v2 (Value.int .u64 0)) fun v3 =>
 Jo (fun  (w12 : World) => (t119_2 a1 w12 K a0 : Prop)) fun J13 =>
 If v3 (
  Qu Pr (Is w1) (nilS a0) fun v200 =>
  Qu Pr (Is w1) (Instr.fieldAt 187 v200 0) fun v201 =>
  Qu Pr (Is w1) (Instr.loadAt 22 v201) fun v202 =>
  Ef Pr (Instr.box 22 v202) w1 fun v204 w203 =>
  Qu Pr (Is w203) (nilS a1) fun v205 =>
  Qu Pr (Is w203) (Instr.fieldAt 119 v205 2) fun v206 =>
  Eu Pr (Instr.storeAt 104 v206 v204) w203 fun w207 =>
  J13 w207) (
  J13 w1)
theorem c119 {a0 a1 : Value} {K : Value → World → Prop} {w : World} (h : t119 a0 a1 K w) : CK Pr 119 #[a0, a1] w K := by
  refine calls_of_RF [] Tryz.func119 rfl ?_ ?_ ?_
  · kernel_rfl
  · exact Nat.le_of_ble_eq_true rfl
  · exact cast (by kernel_rfl) h

def t120 (a0 : Value) (K : Value → World → Prop) (w : World) : Prop :=
 Ef Pr (Instr.alloc 113 true (.tuple #[])) w fun v2 w1 =>
 Qu Pr (Is w1) (nilS v2) fun v3 =>
 Eu Pr (Instr.storeAt 113 v3 a0) w1 fun w4 =>
 K v2 w4
theorem c120 {a0 : Value} {K : Value → World → Prop} {w : World} (h : t120 a0 K w) : CK Pr 120 #[a0] w K := by
  refine calls_of_RF [] Tryz.func120 rfl ?_ ?_ ?_
  · kernel_rfl
  · exact Nat.le_of_ble_eq_true rfl
  · exact cast (by kernel_rfl) h

def t121 (a0 : Value) (K : Value → World → Prop) (w : World) : Prop :=
 Ef Pr (Instr.box 56 a0) w fun v2 w1 =>
 Qu Pr (Is w1) (Instr.fieldAt 56 v2 0) fun v3 =>
 Qu Pr (Is w1) (Instr.loadAt 22 v3) fun v4 =>
 Ef Pr (Instr.box 22 v4) w1 fun v6 w5 =>
 Qu Pr (Is w5) (Instr.fieldAt 56 v2 1) fun v7 =>
 Qu Pr (Is w5) (Instr.loadAt 22 v7) fun v8 =>
 Ef Pr (Instr.box 22 v8) w5 fun v10 w9 =>
 Qu Pr (Is w9) (Instr.fieldAt 56 v2 3) fun v11 =>
 Qu Pr (Is w9) (Instr.loadAt 9 v11) fun v12 =>
 Cl Pr (callV (fn 55) #[v12]) w9 fun v14 w13 =>
 Qu Pr (Is w13) (Instr.build 215 #[(0, v6), (1, v10), (3, v14)]) fun v15 =>
 Ef Pr (Instr.box 215 v15) w13 fun v17 w16 =>
 Qu Pr (Is w16) (Instr.fieldAt 56 v2 2) fun v18 =>
 Qu Pr (Is w16) (Instr.loadAt 3 v18) fun v19 =>
 Qu Pr (Is w16) (binS .neq 3 (.tmp 16) (.const (Value.int .i64 0)) v19 (Value.int .i64 0)) fun v20 =>
 Jo (fun  (w28 : World) => (
   K v17 w28 : Prop)) fun J29 =>
 If v20 (
  Qu Pr (Is w16) (Instr.fieldAt 56 v2 2) fun v30 =>
  Qu Pr (Is w16) (Instr.loadAt 3 v30) fun v31 =>
  Qu Pr (Is w16) (convert 3 233 v31) fun v32 =>
  Ef Pr (Instr.box 233 v32) w16 fun v34 w33 =>
  Qu Pr (Is w33) (nilS v17) fun v35 =>
  Qu Pr (Is w33) (Instr.fieldAt 215 v35 2) fun v36 =>
  Eu Pr (Instr.storeAt 213 v36 v34) w33 fun w37 =>
  J29 w37) (
  J29 w16)
theorem c121 {a0 : Value} {K : Value → World → Prop} {w : World} (h : t121 a0 K w) : CK Pr 121 #[a0] w K := by
  refine calls_of_RF [] Tryz.func121 rfl ?_ ?_ ?_
  · kernel_rfl
  · exact Nat.le_of_ble_eq_true rfl
  · exact cast (by kernel_rfl) h

def t122 (a0 : Value) (K : Value → World → Prop) (w : World) : Prop :=
 Qu Pr (Is w) (binS .eql 75 (.tmp 3) (.const (Value.pointer none)) a0 (Value.pointer none)) fun v1 =>
 If v1 (
  K (Value.pointer none) w) (
  Dr w fun S2 w3 =>
  Qu Pr (S2) (nilS a0) fun v4 =>
  Qu Pr (S2) (Instr.fieldAt 108 v4 0) fun v5 =>
  Qu Pr (S2) (Instr.loadAt 99 v5) fun v6 =>
  Cl Pr (callV (fn 204) #[v6]) w3 fun v8 w7 => S2 w7 ∧
  Qu Pr (S2) (nilS a0) fun v9 =>
  Qu Pr (S2) (Instr.fieldAt 108 v9 1) fun v10 =>
  Qu Pr (S2) (Instr.loadAt 101 v10) fun v11 =>
  Cl Pr (callV (fn 205) #[v11]) w7 fun v13 w12 => S2 w12 ∧
  Qu Pr (S2) (Instr.build 108 #[(0, v8), (1, v13)]) fun v14 =>
  Ef Pr (Instr.box 108 v14) w12 fun v16 w15 => S2 w15 ∧
  K v16 w15)
theorem c122 {a0 : Value} {K : Value → World → Prop} {w : World} (h : t122 a0 K w) : CK Pr 122 #[a0] w K := by
  refine calls_of_RF [] Tryz.func122 rfl ?_ ?_ ?_
  · kernel_rfl
  · exact Nat.le_of_ble_eq_true rfl
  · exact cast (by kernel_rfl) h

def t123 (a0 : Value) (K : Value → World → Prop) (w : World) : Prop :=
 Qu Pr (Is w) (nilS a0) fun v1 =>
 Qu Pr (Is w) (Instr.fieldAt 225 v1 2) fun v2 =>
 Qu Pr (Is w) (Instr.loadAt 115 v2) fun v3 =>
 Qu Pr (Is w) (Instr.indexAt 115 v3 (Value.int .i64 0)) fun v4 =>
 Qu Pr (Is w) (Instr.loadAt 212 v4) fun v5 =>
 Cl Pr (callV (fn 124) #[v5]) w fun v7 w6 =>
 Qu Pr (Is w6) (binS .add 22 (.tmp 9) (.const (Value.int .u64 1)) v7 (Value.int .u64 1)) fun v8 =>
 K v8 w6
theorem c123 {a0 : Value} {K : Value → World → Prop} {w : World} (h : t123 a0 K w) : CK Pr 123 #[a0] w K := by
  refine calls_of_RF [] Tryz.func123 rfl ?_ ?_ ?_
  · kernel_rfl
  · exact Nat.le_of_ble_eq_true rfl
  · exact cast (by kernel_rfl) h

def t124 (a0 : Value) (K : Value → World → Prop) (w : World) : Prop :=
 Qu Pr (Is w) (binS .neq 212 (.tmp 3) (.const (Value.pointer none)) a0 (Value.pointer none)) fun v1 =>
 Gd v1 true (fun k2 => k2 a0 w) w fun v3 w4 =>
 Gd v1 true (fun k5 => Qu Pr (Is w4) (nilS v3) fun v8 => k5 v8 w4) w4 fun v6 w7 =>
 Gd v1 true (fun k9 => Qu Pr (Is w7) (Instr.fieldAt 215 v6 1) fun v12 => k9 v12 w7) w7 fun v10 w11 =>
 Gd v1 true (fun k13 => Qu Pr (Is w11) (Instr.loadAt 104 v10) fun v16 => k13 v16 w11) w11 fun v14 w15 =>
 Gd v1 true (fun k17 => Qu Pr (Is w15) (binS .neq 104 (.tmp 9) (.const (Value.pointer none)) v14 (Value.pointer none)) fun v20 => k17 v20 w15) w15 fun v18 w19 =>
 Qu Pr (Is w19) (pickS v1 v18 (Value.bool false)) fun v21 =>
 If v21 (
  Qu Pr (Is w19) (nilS a0) fun v22 =>
  Qu Pr (Is w19) (Instr.fieldAt 215 v22 1) fun v23 =>
  Qu Pr (Is w19) (Instr.loadAt 104 v23) fun v24 =>
  Qu Pr (Is w19) (nilS v24) fun v25 =>
  Qu Pr (Is w19) (Instr.loadAt 22 v25) fun v26 =>
  K v26 w19) (
  K (Value.int .u64 0) w19)
theorem c124 {a0 : Value} {K : Value → World → Prop} {w : World} (h : t124 a0 K w) : CK Pr 124 #[a0] w K := by
  refine calls_of_RF [] Tryz.func124 rfl ?_ ?_ ?_
  · kernel_rfl
  · exact Nat.le_of_ble_eq_true rfl
  · exact cast (by kernel_rfl) h

def t125 (a0 a1 : Value) (K : Value → World → Prop) (w : World) : Prop :=
 Cl Pr (callM a0 "FirstIndex" #[]) w fun v2 w1 =>
 Qu Pr (Is w1) (Instr.extract v2 0) fun v3 =>
 Qu Pr (Is w1) (Instr.extract v2 1) fun v4 =>
 Qu Pr (Is w1) (binS .neq 125 (.tmp 13) (.const Value.nilIface) v4 Value.nilIface) fun v5 =>
 If v5 (
  False) (
  Cl Pr (callM a0 "LastIndex" #[]) w1 fun v7 w6 =>
  Qu Pr (Is w6) (Instr.extract v7 0) fun v8 =>
  Qu Pr (Is w6) (Instr.extract v7 1) fun v9 =>
  Qu Pr (Is w6) (binS .neq 125 (.tmp 21) (.const Value.nilIface) v9 Value.nilIface) fun v10 =>
  If v10 (
   False) (
   Qu Pr (Is w6) (binS .add 22 (.tmp 25) (.const (Value.int .u64 1)) v8 (Value.int .u64 1)) fun v11 =>
   Qu Pr (Is w6) (binS .add 22 (.tmp 27) (.const (Value.int .u64 1)) v8 (Value.int .u64 1)) fun v12 =>
   Qu Pr (Is w6) (Instr.build 194 #[(2, v11), (4, v12)]) fun v13 =>
   Qu Pr (Is w6) (binS .sub 22 (.tmp 31) (.const (Value.int .u64 1)) v3 (Value.int .u64 1)) fun v14 =>
   Qu Pr (Is w6) (binS .sub 22 (.tmp 33) (.const (Value.int .u64 1)) v3 (Value.int .u64 1)) fun v15 =>
   Qu Pr (Is w6) (binS .sub 22 (.tmp 35) (.const (Value.int .u64 1)) v3 (Value.int .u64 1)) fun v16 =>
   Qu Pr (Is w6) (Instr.build 196 #[(0, a0), (1, v13), (5, a1), (2, v14), (3, v15), (4, v16)]) fun v17 =>
   Ef Pr (Instr.box 196 v17) w6 fun v19 w18 =>
   K v19 w18))
theorem c125 {a0 a1 : Value} {K : Value → World → Prop} {w : World} (h : t125 a0 a1 K w) : CK Pr 125 #[a0, a1] w K := by
  refine calls_of_RF [] Tryz.func125 rfl ?_ ?_ ?_
  · kernel_rfl
  · exact Nat.le_of_ble_eq_true rfl
  · exact cast (by kernel_rfl) h

def t127 (a0 : Value) (K : Value → World → Prop) (w : World) : Prop :=
 Ef Pr (Instr.makeMap 262 none) w fun v2 w1 =>
 Qu Pr (Is w1) (Instr.build 265 #[(0, a0), (1, v2)]) fun v3 =>
 Ef Pr (Instr.box 265 v3) w1 fun v5 w4 =>
 K v5 w4
theorem c127 {a0 : Value} {K : Value → World → Prop} {w : World} (h : t127 a0 K w) : CK Pr 127 #[a0] w K := by
  refine calls_of_RF [] Tryz.func127 rfl ?_ ?_ ?_
  · kernel_rfl
  · exact Nat.le_of_ble_eq_true rfl
  · exact cast (by kernel_rfl) h

def t128 (a0 : Value) (K : Value → World → Prop) (w : World) : Prop :=
 Qu Pr (Is w) (binS .neq 212 (.tmp 3) (.const (Value.pointer none)) a0 (Value.pointer none)) fun v1 =>
 Gd v1 true (fun k2 => k2 a0 w) w fun v3 w4 =>
 Gd v1 true (fun k5 => Qu Pr (Is w4) (nilS v3) fun v8 => k5 v8 w4) w4 fun v6 w7 =>
 Gd v1 true (fun k9 => Qu Pr (Is w7) (Instr.fieldAt 215 v6 0) fun v12 => k9 v12 w7) w7 fun v10 w11 =>
 Gd v1 true (fun k13 => Qu Pr (Is w11) (Instr.loadAt 104 v10) fun v16 => k13 v16 w11) w11 fun v14 w15 =>
 Gd v1 true (fun k17 => Qu Pr (Is w15) (binS .neq 104 (.tmp 9) (.const (Value.pointer none)) v14 (Value.pointer none)) fun v20 => k17 v20 w15) w15 fun v18 w19 =>
 Qu Pr (Is w19) (pickS v1 v18 (Value.bool false)) fun v21 =>
 If v21 (
  Qu Pr (Is w19) (nilS a0) fun v22 =>
  Qu Pr (Is w19) (Instr.fieldAt 215 v22 0) fun v23 =>
  Qu Pr (Is w19) (Instr.loadAt 104 v23) fun v24 =>
  Qu Pr (Is w19) (nilS v24) fun v25 =>
  Qu Pr (Is w19) (Instr.loadAt 22 v25) fun v26 =>
  K v26 w19) (
  K (Value.int .u64 0) w19)
theorem c128 {a0 : Value} {K : Value → World → Prop} {w : World} (h : t128 a0 K w) : CK Pr 128 #[a0] w K := by
  refine calls_of_RF [] Tryz.func128 rfl ?_ ?_ ?_
  · kernel_rfl
  · exact Nat.le_of_ble_eq_true rfl
  · exact cast (by kernel_rfl) h

def t129 (a0 : Value) (K : Value → World → Prop) (w : World) : Prop :=
 Qu Pr (Is w) (binS .neq 212 (.tmp 3) (.const (Value.pointer none)) a0 (Value.pointer none)) fun v1 =>
 Gd v1 true (fun k2 => k2 a0 w) w fun v3 w4 =>
 Gd v1 true (fun k5 => Qu Pr (Is w4) (nilS v3) fun v8 => k5 v8 w4) w4 fun v6 w7 =>
 Gd v1 true (fun k9 => Qu Pr (Is w7) (Instr.fieldAt 215 v6 2) fun v12 => k9 v12 w7) w7 fun v10 w11 =>
 Gd v1 true (fun k13 => Qu Pr (Is w11) (Instr.loadAt 213 v10) fun v16 => k13 v16 w11) w11 fun v14 w15 =>
 Gd v1 true (fun k17 => Qu Pr (Is w15) (binS .neq 213 (.tmp 9) (.const (Value.pointer none)) v14 (Value.pointer none)) fun v20 => k17 v20 w15) w15 fun v18 w19 =>
 Qu Pr (Is w19) (pickS v1 v18 (Value.bool false)) fun v21 =>
 If v21 (
  Qu Pr (Is w19) (nilS a0) fun v22 =>
  Qu Pr (Is w19) (Instr.fieldAt 215 v22 2) fun v23 =>
  Qu Pr (Is w19) (Instr.loadAt 213 v23) fun v24 =>
  Qu Pr (Is w19) (nilS v24) fun v25 =>
  Qu Pr (Is w19) (Instr.loadAt 233 v25) fun v26 =>
  K v26 w19) (
  K (Value.int .i32 0) w19)
theorem c129 {a0 : Value} {K : Value → World → Prop} {w : World} (h : t129 a0 K w) : CK Pr 129 #[a0] w K := by
  refine calls_of_RF [] Tryz.func129 rfl ?_ ?_ ?_
  · kernel_rfl
  · exact Nat.le_of_ble_eq_true rfl
  · exact cast (by kernel_rfl) h

def t130 (a0 : Value) (K : Value → World → Prop) (w : World) : Prop :=
 Qu Pr (Is w) (binS .neq 212 (.tmp 3) (.const (Value.pointer none)) a0 (Value.pointer none)) fun v1 =>
 If v1 (
  Qu Pr (Is w) (nilS a0) fun v2 =>
  Qu Pr (Is w) (Instr.fieldAt 215 v2 3) fun v3 =>
  Qu Pr (Is w) (Instr.loadAt 99 v3) fun v4 =>
  K v4 w) (
  K (Value.slice none 0 0) w)
theorem c130 {a0 : Value} {K : Value → World → Prop} {w : World} (h : t130 a0 K w) : CK Pr 130 #[a0] w K := by
  refine calls_of_RF [] Tryz.func130 rfl ?_ ?_ ?_
  · kernel_rfl
  · exact Nat.le_of_ble_eq_true rfl
  · exact cast (by kernel_rfl) h

def t132 (a0 : Value) (K : Value → World → Prop) (w : World) : Prop :=
 Qu Pr (Is w) (binS .neq 75 (.tmp 3) (.const (Value.pointer none)) a0 (Value.pointer none)) fun v1 =>
 If v1 (
  Qu Pr (Is w) (nilS a0) fun v2 =>
  Qu Pr (Is w) (Instr.fieldAt 108 v2 0) fun v3 =>
  Qu Pr (Is w) (Instr.loadAt 99 v3) fun v4 =>
  K v4 w) (
  K (Value.slice none 0 0) w)
theorem c132 {a0 : Value} {K : Value → World → Prop} {w : World} (h : t132 a0 K w) : CK Pr 132 #[a0] w K := by
  refine calls_of_RF [] Tryz.func132 rfl ?_ ?_ ?_
  · kernel_rfl
  · exact Nat.le_of_ble_eq_true rfl
  · exact cast (by kernel_rfl) h

def t133 (a0 : Value) (K : Value → World → Prop) (w : World) : Prop :=
 Ef Pr (Instr.alloc 25 true (.tuple #[])) w fun v2 w1 =>
 Cl Pr (callV (fn 210) #[a0]) w1 fun v4 w3 =>
 Cl Pr (callV (fn 107) #[v4]) w3 fun v6 w5 =>
 Cl Pr (callV (fn 211) #[a0]) w5 fun v8 w7 =>
 Cl Pr (callV (fn 107) #[v8]) w7 fun v10 w9 =>
 Cl Pr (callV (fn 212) #[a0]) w9 fun v12 w11 =>
 Cl Pr (callV (fn 107) #[v12]) w11 fun v14 w13 =>
 Cl Pr (callV (fn 213) #[a0]) w13 fun v16 w15 =>
 Cl Pr (callV (fn 107) #[v16]) w15 fun v18 w17 =>
 Cl Pr (callV (fn 156) #[a0]) w17 fun v20 w19 =>
 Qu Pr (Is w19) (Instr.build 25 #[(0, v6), (1, v10), (2, v14), (3, v18), (4, v20)]) fun v21 =>
 Eu Pr (Instr.storeAt 25 v2 v21) w19 fun w22 =>
 Qu Pr (Is w22) (Instr.loadAt 25 v2) fun v23 =>
 K v23 w22
theorem c133 {a0 : Value} {K : Value → World → Prop} {w : World} (h : t133 a0 K w) : CK Pr 133 #[a0] w K := by
  refine calls_of_RF [] Tryz.func133 rfl ?_ ?_ ?_
  · kernel_rfl
  · exact Nat.le_of_ble_eq_true rfl
  · exact cast (by kernel_rfl) h

@[irreducible] def t134_1 (w3 : World) (a0 : Value) (τ2 : List Value) (r1 : List Value → World → Prop) (v4 : Value) (v5 : Value) (v6 : Value) (v7 : Value) : Prop :=
   Dr w3 fun S8 w9 =>
   Qu Pr (S8) (nilS a0) fun v10 =>
   Qu Pr (S8) (Instr.fieldAt 230 v10 5) fun v11 =>
   Qu Pr (S8) (Instr.loadAt 228 v11) fun v12 =>
   Qu Pr (S8) (nilS a0) fun v13 =>
   Qu Pr (S8) (Instr.fieldAt 230 v13 0) fun v14 =>
   Qu Pr (S8) (Instr.loadAt 3 v14) fun v15 =>
   Qu Pr (S8) (binS .add 3 (.tmp 23) (.tmp 24) v15 (g τ2 2)) fun v16 =>
   Qu Pr (S8) (nilS a0) fun v17 =>
   Qu Pr (S8) (Instr.fieldAt 230 v17 3) fun v18 =>
   Qu Pr (S8) (Instr.loadAt 3 v18) fun v19 =>
   Qu Pr (S8) (binS .rem 3 (.tmp 25) (.tmp 29) v16 v19) fun v20 =>
   Qu Pr (S8) (Instr.indexAt 228 v12 v20) fun v21 =>
   Qu Pr (S8) (Instr.loadAt 302 v21) fun v22 =>
   Ef Pr (Instr.alloc 302 true (.tuple #[])) w9 fun v24 w23 => S8 w23 ∧
   Eu Pr (Instr.storeAt 302 v24 v22) w23 fun w25 => S8 w25 ∧
   Jo (fun (p28 : Value) (p29 : Value) (p30 : Value) (p31 : Value) (p32 : Value) (p33 : Value) (p34 : Value) (p35 : Value) (p36 : Value) (p37 : Value) (p38 : Value) (p39 : Value) (w40 : World) => (
     Qu Pr (Is w40) (binS .add 3 (.tmp 14) (.const (Value.int .i64 1)) (g τ2 2) (Value.int .i64 1)) fun v42 =>
     r1 [p38, p39, v42, v24, (g τ2 2), a0, v4, v5, v6, v7, (g τ2 2), v42, a0, v10, v11, v12, a0, v13, v14, v15, (g τ2 2), v16, a0, v17, v18, v19, v20, v21, v22, p28, p29, p30, p31, p32, p33, p34, p35, p36, p37] w40 : Prop)) fun J41 =>
   Dr w25 fun S26 w27 =>
   Qu Pr (S26) (Instr.fieldAt 302 v24 0) fun v43 =>
   Qu Pr (S26) (Instr.loadAt 22 v43) fun v44 =>
   Qu Pr (S26) (Instr.fieldAt 302 v24 1) fun v45 =>
   Qu Pr (S26) (Instr.loadAt 22 v45) fun v46 =>
   (
    Ef Pr (Instr.buildSlice 23 1 #[(0, v44)]) w27 fun v48 w47 => S26 w47 ∧
    (
     Ef Pr (Builtin.append_ #[23, 23] 23 #[(g τ2 0), v48]) w47 fun v50 w49 => S26 w49 ∧
     Ef Pr (Instr.buildSlice 23 1 #[(0, v46)]) w49 fun v52 w51 => S26 w51 ∧
     Ef Pr (Builtin.append_ #[23, 23] 23 #[(g τ2 1), v52]) w51 fun v54 w53 => S26 w53 ∧
     J41 (g τ2 0) v43 v44 v48 v50 (g τ2 1) v45 v46 v52 v54 v50 v54 w53) ∧
    (
     Ef Pr (Instr.buildSlice 23 1 #[(0, v46)]) w47 fun v56 w55 => S26 w55 ∧
     Ef Pr (Builtin.append_ #[23, 23] 23 #[(g τ2 0), v48]) w55 fun v58 w57 => S26 w57 ∧
     Ef Pr (Builtin.append_ #[23, 23] 23 #[(g τ2 1), v56]) w57 fun v60 w59 => S26 w59 ∧
     J41 (g τ2 0) v43 v44 v48 v58 (g τ2 1) v45 v46 v56 v60 v58 v60 w59)) ∧
   (
    Ef Pr (Instr.buildSlice 23 1 #[(0, v46)]) w27 fun v62 w61 => S26 w61 ∧
    Ef Pr (Instr.buildSlice 23 1 #[(0, v44)]) w61 fun v64 w63 => S26 w63 ∧
    Ef Pr (Builtin.append_ #[23, 23] 23 #[(g τ2 0), v64]) w63 fun v66 w65 => S26 w65 ∧
    Ef Pr (Builtin.append_ #[23, 23] 23 #[(g τ2 1), v62]) w65 fun v68 w67 => S26 w67 ∧
    J41 (g τ2 0) v43 v44 v64 v66 (g τ2 1) v45 v46 v62 v68 v66 v68 w67)
def t134 (a0 : Value) (K : Value → World → Prop) (w : World) : Prop :=
 LoopW [(Value.slice none 0 0), (Value.slice none 0 0), (Value.int .i64 0), undef, undef, undef, undef, undef, undef, undef, undef, undef, undef, undef, undef, undef, undef, undef, undef, undef, undef, undef, undef, undef, undef, undef, undef, undef, undef, undef, undef, undef, undef, undef, undef, undef, undef, undef, undef] (fun r1 τ2 w3 =>
  Qu Pr (Is w3) (nilS a0) fun v4 =>
  Qu Pr (Is w3) (Instr.fieldAt 230 v4 1) fun v5 =>
  Qu Pr (Is w3) (Instr.loadAt 3 v5) fun v6 =>
  Qu Pr (Is w3) (binS .lss 3 (.tmp 8) (.tmp 12) (g τ2 2) v6) fun v7 =>
  If v7 (t134_1 w3 a0 τ2 r1 v4 v5 v6 v7) (
   Dr w3 fun S69 w70 =>
   Qu Pr (S69) (nilS a0) fun v71 =>
   Qu Pr (S69) (Instr.fieldAt 230 v71 3) fun v72 =>
   Qu Pr (S69) (Instr.loadAt 3 v72) fun v73 =>
   Qu Pr (S69) (nilS a0) fun v74 =>
   Qu Pr (S69) (Instr.fieldAt 230 v74 4) fun v75 =>
   Qu Pr (S69) (Instr.loadAt 22 v75) fun v76 =>
   K (.tuple #[v73, v76, (g τ2 0), (g τ2 1)]) w70)) w
theorem c134 {a0 : Value} {K : Value → World → Prop} {w : World} (h : t134 a0 K w) : CK Pr 134 #[a0] w K := by
  refine calls_of_RF [(2, [4, 5, 6, 7, 8, 9, 10, 11, 12, 13, 14, 15, 16, 17, 18, 19, 20, 21, 22, 23, 24, 25, 26, 27, 28, 29, 30, 31, 32, 33, 34, 35, 36, 37, 38, 39, 40, 41, 42])] Tryz.func134 rfl ?_ ?_ ?_
  · kernel_rfl
  · exact Nat.le_of_ble_eq_true rfl
  · exact cast (by kernel_rfl) h

def t135 (a0 : Value) (K : Value → World → Prop) (w : World) : Prop :=
 Qu Pr (Is w) (binS .neq 86 (.tmp 3) (.const (Value.pointer none)) a0 (Value.pointer none)) fun v1 =>
 Gd v1 true (fun k2 => k2 a0 w) w fun v3 w4 =>
 Gd v1 true (fun k5 => Qu Pr (Is w4) (nilS v3) fun v8 => k5 v8 w4) w4 fun v6 w7 =>
 Gd v1 true (fun k9 => Qu Pr (Is w7) (Instr.fieldAt 119 v6 0) fun v12 => k9 v12 w7) w7 fun v10 w11 =>
 Gd v1 true (fun k13 => Qu Pr (Is w11) (Instr.loadAt 112 v10) fun v16 => k13 v16 w11) w11 fun v14 w15 =>
 Gd v1 true (fun k17 => Qu Pr (Is w15) (binS .neq 112 (.tmp 9) (.const (Value.pointer none)) v14 (Value.pointer none)) fun v20 => k17 v20 w15) w15 fun v18 w19 =>
 Qu Pr (Is w19) (pickS v1 v18 (Value.bool false)) fun v21 =>
 If v21 (
  Qu Pr (Is w19) (nilS a0) fun v22 =>
  Qu Pr (Is w19) (Instr.fieldAt 119 v22 0) fun v23 =>
  Qu Pr (Is w19) (Instr.loadAt 112 v23) fun v24 =>
  Qu Pr (Is w19) (nilS v24) fun v25 =>
  Qu Pr (Is w19) (Instr.loadAt 113 v25) fun v26 =>
  K v26 w19) (
  K (Value.int .i32 0) w19)
theorem c135 {a0 : Value} {K : Value → World → Prop} {w : World} (h : t135 a0 K w) : CK Pr 135 #[a0] w K := by
  refine calls_of_RF [] Tryz.func135 rfl ?_ ?_ ?_
  · kernel_rfl
  · exact Nat.le_of_ble_eq_true rfl
  · exact cast (by kernel_rfl) h

def t136 (a0 : Value) (K : Value → World → Prop) (w : World) : Prop :=
 Qu Pr (Is w) (binS .neq 86 (.tmp 3) (.const (Value.pointer none)) a0 (Value.pointer none)) fun v1 =>
 Gd v1 true (fun k2 => k2 a0 w) w fun v3 w4 =>
 Gd v1 true (fun k5 => Qu Pr (Is w4) (nilS v3) fun v8 => k5 v8 w4) w4 fun v6 w7 =>
 Gd v1 true (fun k9 => Qu Pr (Is w7) (Instr.fieldAt 119 v6 1) fun v12 => k9 v12 w7) w7 fun v10 w11 =>
 Gd v1 true (fun k13 => Qu Pr (Is w11) (Instr.loadAt 104 v10) fun v16 => k13 v16 w11) w11 fun v14 w15 =>
 Gd v1 true (fun k17 => Qu Pr (Is w15) (binS .neq 104 (.tmp 9) (.const (Value.pointer none)) v14 (Value.pointer none)) fun v20 => k17 v20 w15) w15 fun v18 w19 =>
 Qu Pr (Is w19) (pickS v1 v18 (Value.bool false)) fun v21 =>
 If v21 (
  Qu Pr (Is w19) (nilS a0) fun v22 =>
  Qu Pr (Is w19) (Instr.fieldAt 119 v22 1) fun v23 =>
  Qu Pr (Is w19) (Instr.loadAt 104 v23) fun v24 =>
  Qu Pr (Is w19) (nilS v24) fun v25 =>
  Qu Pr (Is w19) (Instr.loadAt 22 v25) fun v26 =>
  K v26 w19) (
  K (Value.int .u64 0) w19)
theorem c136 {a0 : Value} {K : Value → World → Prop} {w : World} (h : t136 a0 K w) : CK Pr 136 #[a0] w K := by
  refine calls_of_RF [] Tryz.func136 rfl ?_ ?_ ?_
  · kernel_rfl
  · exact Nat.le_of_ble_eq_true rfl
  · exact cast (by kernel_rfl) h

def t137 (a0 : Value) (K : Value → World → Prop) (w : World) : Prop :=
 Qu Pr (Is w) (binS .neq 86 (.tmp 3) (.const (Value.pointer none)) a0 (Value.pointer none)) fun v1 =>
 Gd v1 true (fun k2 => k2 a0 w) w fun v3 w4 =>
 Gd v1 true (fun k5 => Qu Pr (Is w4) (nilS v3) fun v8 => k5 v8 w4) w4 fun v6 w7 =>
 Gd v1 true (fun k9 => Qu Pr (Is w7) (Instr.fieldAt 119 v6 2) fun v12 => k9 v12 w7) w7 fun v10 w11 =>
 Gd v1 true (fun k13 => Qu Pr (Is w11) (Instr.loadAt 104 v10) fun v16 => k13 v16 w11) w11 fun v14 w15 =>
 Gd v1 true (fun k17 => Qu Pr (Is w15) (binS .neq 104 (.tmp 9) (.const (Value.pointer none)) v14 (Value.pointer none)) fun v20 => k17 v20 w15) w15 fun v18 w19 =>
 Qu Pr (Is w19) (pickS v1 v18 (Value.bool false)) fun v21 =>
 If v21 (
  Qu Pr (Is w19) (nilS a0) fun v22 =>
  Qu Pr (Is w19) (Instr.fieldAt 119 v22 2) fun v23 =>
  Qu Pr (Is w19) (Instr.loadAt 104 v23) fun v24 =>
  Qu Pr (Is w19) (nilS v24) fun v25 =>
  Qu Pr (Is w19) (Instr.loadAt 22 v25) fun v26 =>
  K v26 w19) (
  K (Value.int .u64 0) w19)
theorem c137 {a0 : Value} {K : Value → World → Prop} {w : World} (h : t137 a0 K w) : CK Pr 137 #[a0] w K := by
  refine calls_of_RF [] Tryz.func137 rfl ?_ ?_ ?_
  · kernel_rfl
  · exact Nat.le_of_ble_eq_true rfl
  · exact cast (by kernel_rfl) h

def t138 (a0 : Value) (K : Value → World → Prop) (w : World) : Prop :=
 Qu Pr (Is w) (binS .neq 86 (.tmp 3) (.const (Value.pointer none)) a0 (Value.pointer none)) fun v1 =>
 Gd v1 true (fun k2 => k2 a0 w) w fun v3 w4 =>
 Gd v1 true (fun k5 => Qu Pr (Is w4) (nilS v3) fun v8 => k5 v8 w4) w4 fun v6 w7 =>
 Gd v1 true (fun k9 => Qu Pr (Is w7) (Instr.fieldAt 119 v6 3) fun v12 => k9 v12 w7) w7 fun v10 w11 =>
 Gd v1 true (fun k13 => Qu Pr (Is w11) (Instr.loadAt 104 v10) fun v16 => k13 v16 w11) w11 fun v14 w15 =>
 Gd v1 true (fun k17 => Qu Pr (Is w15) (binS .neq 104 (.tmp 9) (.const (Value.pointer none)) v14 (Value.pointer none)) fun v20 => k17 v20 w15) w15 fun v18 w19 =>
 Qu Pr (Is w19) (pickS v1 v18 (Value.bool false)) fun v21 =>
 If v21 (
  Qu Pr (Is w19) (nilS a0) fun v22 =>
  Qu Pr (Is w19) (Instr.fieldAt 119 v22 3) fun v23 =>
  Qu Pr (Is w19) (Instr.loadAt 104 v23) fun v24 =>
  Qu Pr (Is w19) (nilS v24) fun v25 =>
  Qu Pr (Is w19) (Instr.loadAt 22 v25) fun v26 =>
  K v26 w19) (
  K (Value.int .u64 0) w19)
theorem c138 {a0 : Value} {K : Value → World → Prop} {w : World} (h : t138 a0 K w) : CK Pr 138 #[a0] w K := by
  refine calls_of_RF [] Tryz.func138 rfl ?_ ?_ ?_
  · kernel_rfl
  · exact Nat.le_of_ble_eq_true rfl
  · exact cast (by kernel_rfl) h

def t139 (a0 : Value) (K : Value → World → Prop) (w : World) : Prop :=
 Qu Pr (Is w) (binS .neq 86 (.tmp 3) (.const (Value.pointer none)) a0 (Value.pointer none)) fun v1 =>
 Gd v1 true (fun k2 => k2 a0 w) w fun v3 w4 =>
 Gd v1 true (fun k5 => Qu Pr (Is w4) (nilS v3) fun v8 => k5 v8 w4) w4 fun v6 w7 =>
 Gd v1 true (fun k9 => Qu Pr (Is w7) (Instr.fieldAt 119 v6 4) fun v12 => k9 v12 w7) w7 fun v10 w11 =>
 Gd v1 true (fun k13 => Qu Pr (Is w11) (Instr.loadAt 104 v10) fun v16 => k13 v16 w11) w11 fun v14 w15 =>
 Gd v1 true (fun k17 => Qu Pr (Is w15) (binS .neq 104 (.tmp 9) (.const (Value.pointer none)) v14 (Value.pointer none)) fun v20 => k17 v20 w15) w15 fun v18 w19 =>
 Qu Pr (Is w19) (pickS v1 v18 (Value.bool false)) fun v21 =>
 If v21 (
  Qu Pr (Is w19) (nilS a0) fun v22 =>
  Qu Pr (Is w19) (Instr.fieldAt 119 v22 4) fun v23 =>
  Qu Pr (Is w19) (Instr.loadAt 104 v23) fun v24 =>
  Qu Pr (Is w19) (nilS v24) fun v25 =>
  Qu Pr (Is w19) (Instr.loadAt 22 v25) fun v26 =>
  K v26 w19) (
  K (Value.int .u64 0) w19)
theorem c139 {a0 : Value} {K : Value → World → Prop} {w : World} (h : t139 a0 K w) : CK Pr 139 #[a0] w K := by
  refine calls_of_RF [] Tryz.func139 rfl ?_ ?_ ?_
  · kernel_rfl
  · exact Nat.le_of_ble_eq_true rfl
  · exact cast (by kernel_rfl) h

def t140 (a0 : Value) (K : Value → World → Prop) (w : World) : Prop :=
 Qu Pr (Is w) (binS .neq 86 (.tmp 3) (.const (Value.pointer none)) a0 (Value.pointer none)) fun v1 =>
 Gd v1 true (fun k2 => k2 a0 w) w fun v3 w4 =>
 Gd v1 true (fun k5 => Qu Pr (Is w4) (nilS v3) fun v8 => k5 v8 w4) w4 fun v6 w7 =>
 Gd v1 true (fun k9 => Qu Pr (Is w7) (Instr.fieldAt 119 v6 5) fun v12 => k9 v12 w7) w7 fun v10 w11 =>
 Gd v1 true (fun k13 => Qu Pr (Is w11) (Instr.loadAt 104 v10) fun v16 => k13 v16 w11) w11 fun v14 w15 =>
 Gd v1 true (fun k17 => Qu Pr (Is w15) (binS .neq 104 (.tmp 9) (.const (Value.pointer none)) v14 (Value.pointer none)) fun v20 => k17 v20 w15) w15 fun v18 w19 =>
 Qu Pr (Is w19) (pickS v1 v18 (Value.bool false)) fun v21 =>
 If v21 (
  Qu Pr (Is w19) (nilS a0) fun v22 =>
  Qu Pr (Is w19) (Instr.fieldAt 119 v22 5) fun v23 =>
  Qu Pr (Is w19) (Instr.loadAt 104 v23) fun v24 =>
  Qu Pr (Is w19) (nilS v24) fun v25 =>
  Qu Pr (Is w19) (Instr.loadAt 22 v25) fun v26 =>
  K v26 w19) (
  K (Value.int .u64 0) w19)
theorem c140 {a0 : Value} {K : Value → World → Prop} {w : World} (h : t140 a0 K w) : CK Pr 140 #[a0] w K := by
  refine calls_of_RF [] Tryz.func140 rfl ?_ ?_ ?_
  · kernel_rfl
  · exact Nat.le_of_ble_eq_true rfl
  · exact cast (by kernel_rfl) h

def t141 (a0 : Value) (K : Value → World → Prop) (w : World) : Prop :=
 Qu Pr (Is w) (binS .neq 86 (.tmp 3) (.const (Value.pointer none)) a0 (Value.pointer none)) fun v1 =>
 Gd v1 true (fun k2 => k2 a0 w) w fun v3 w4 =>
 Gd v1 true (fun k5 => Qu Pr (Is w4) (nilS v3) fun v8 => k5 v8 w4) w4 fun v6 w7 =>
 Gd v1 true (fun k9 => Qu Pr (Is w7) (Instr.fieldAt 119 v6 7) fun v12 => k9 v12 w7) w7 fun v10 w11 =>
 Gd v1 true (fun k13 => Qu Pr (Is w11) (Instr.loadAt 104 v10) fun v16 => k13 v16 w11) w11 fun v14 w15 =>
 Gd v1 true (fun k17 => Qu Pr (Is w15) (binS .neq 104 (.tmp 9) (.const (Value.pointer none)) v14 (Value.pointer none)) fun v20 => k17 v20 w15) w15 fun v18 w19 =>
 Qu Pr (Is w19) (pickS v1 v18 (Value.bool false)) fun v21 =>
 If v21 (
  Qu Pr (Is w19) (nilS a0) fun v22 =>
  Qu Pr (Is w19) (Instr.fieldAt 119 v22 7) fun v23 =>
  Qu Pr (Is w19) (Instr.loadAt 104 v23) fun v24 =>
  Qu Pr (Is w19) (nilS v24) fun v25 =>
  Qu Pr (Is w19) (Instr.loadAt 22 v25) fun v26 =>
  K v26 w19) (
  K (Value.int .u64 0) w19)
theorem c141 {a0 : Value} {K : Value → World → Prop} {w : World} (h : t141 a0 K w) : CK Pr 141 #[a0] w K := by
  refine calls_of_RF [] Tryz.func141 rfl ?_ ?_ ?_
  · kernel_rfl
  · exact Nat.le_of_ble_eq_true rfl
  · exact cast (by kernel_rfl) h

def t142 (a0 : Value) (K : Value → World → Prop) (w : World) : Prop :=
 Qu Pr (Is w) (binS .neq 86 (.tmp 3) (.const (Value.pointer none)) a0 (Value.pointer none)) fun v1 =>
 Gd v1 true (fun k2 => k2 a0 w) w fun v3 w4 =>
 Gd v1 true (fun k5 => Qu Pr (Is w4) (nilS v3) fun v8 => k5 v8 w4) w4 fun v6 w7 =>
 Gd v1 true (fun k9 => Qu Pr (Is w7) (Instr.fieldAt 119 v6 8) fun v12 => k9 v12 w7) w7 fun v10 w11 =>
 Gd v1 true (fun k13 => Qu Pr (Is w11) (Instr.loadAt 104 v10) fun v16 => k13 v16 w11) w11 fun v14 w15 =>
 Gd v1 true (fun k17 => Qu Pr (Is w15) (binS .neq 104 (.tmp 9) (.const (Value.pointer none)) v14 (Value.pointer none)) fun v20 => k17 v20 w15) w15 fun v18 w19 =>
 Qu Pr (Is w19) (pickS v1 v18 (Value.bool false)) fun v21 =>
 If v21 (
  Qu Pr (Is w19) (nilS a0) fun v22 =>
  Qu Pr (Is w19) (Instr.fieldAt 119 v22 8) fun v23 =>
  Qu Pr (Is w19) (Instr.loadAt 104 v23) fun v24 =>
  Qu Pr (Is w19) (nilS v24) fun v25 =>
  Qu Pr (Is w19) (Instr.loadAt 22 v25) fun v26 =>
  K v26 w19) (
  K (Value.int .u64 0) w19)
theorem c142 {a0 : Value} {K : Value → World → Prop} {w : World} (h : t142 a0 K w) : CK Pr 142 #[a0] w K := by
  refine calls_of_RF [] Tryz.func142 rfl ?_ ?_ ?_
  · kernel_rfl
  · exact Nat.le_of_ble_eq_true rfl
  · exact cast (by kernel_rfl) h

def t143 (a0 : Value) (K : Value → World → Prop) (w : World) : Prop :=
 Qu Pr (Is w) (binS .neq 86 (.tmp 3) (.const (Value.pointer none)) a0 (Value.pointer none)) fun v1 =>
 Gd v1 true (fun k2 => k2 a0 w) w fun v3 w4 =>
 Gd v1 true (fun k5 => Qu Pr (Is w4) (nilS v3) fun v8 => k5 v8 w4) w4 fun v6 w7 =>
 Gd v1 true (fun k9 => Qu Pr (Is w7) (Instr.fieldAt 119 v6 11) fun v12 => k9 v12 w7) w7 fun v10 w11 =>
 Gd v1 true (fun k13 => Qu Pr (Is w11) (Instr.loadAt 104 v10) fun v16 => k13 v16 w11) w11 fun v14 w15 =>
 Gd v1 true (fun k17 => Qu Pr (Is w15) (binS .neq 104 (.tmp 9) (.const (Value.pointer none)) v14 (Value.pointer none)) fun v20 => k17 v20 w15) w15 fun v18 w19 =>
 Qu Pr (Is w19) (pickS v1 v18 (Value.bool false)) fun v21 =>
 If v21 (
  Qu Pr (Is w19) (nilS a0) fun v22 =>
  Qu Pr (Is w19) (Instr.fieldAt 119 v22 11) fun v23 =>
  Qu Pr (Is w19) (Instr.loadAt 104 v23) fun v24 =>
  Qu Pr (Is w19) (nilS v24) fun v25 =>
  Qu Pr (Is w19) (Instr.loadAt 22 v25) fun v26 =>
  K v26 w19) (
  K (Value.int .u64 0) w19)
theorem c143 {a0 : Value} {K : Value → World → Prop} {w : World} (h : t143 a0 K w) : CK Pr 143 #[a0] w K := by
  refine calls_of_RF [] Tryz.func143 rfl ?_ ?_ ?_
  · kernel_rfl
  · exact Nat.le_of_ble_eq_true rfl
  · exact cast (by kernel_rfl) h

def t144 (a0 : Value) (K : Value → World → Prop) (w : World) : Prop :=
 Qu Pr (Is w) (binS .neq 86 (.tmp 3) (.const (Value.pointer none)) a0 (Value.pointer none)) fun v1 =>
 If v1 (
  Qu Pr (Is w) (nilS a0) fun v2 =>
  Qu Pr (Is w) (Instr.fieldAt 119 v2 6) fun v3 =>
  Qu Pr (Is w) (Instr.loadAt 115 v3) fun v4 =>
  K v4 w) (
  K (Value.slice none 0 0) w)
theorem c144 {a0 : Value} {K : Value → World → Prop} {w : World} (h : t144 a0 K w) : CK Pr 144 #[a0] w K := by
  refine calls_of_RF [] Tryz.func144 rfl ?_ ?_ ?_
  · kernel_rfl
  · exact Nat.le_of_ble_eq_true rfl
  · exact cast (by kernel_rfl) h

def t145 (a0 : Value) (K : Value → World → Prop) (w : World) : Prop :=
 Qu Pr (Is w) (binS .neq 86 (.tmp 3) (.const (Value.pointer none)) a0 (Value.pointer none)) fun v1 =>
 Gd v1 true (fun k2 => k2 a0 w) w fun v3 w4 =>
 Gd v1 true (fun k5 => Qu Pr (Is w4) (nilS v3) fun v8 => k5 v8 w4) w4 fun v6 w7 =>
 Gd v1 true (fun k9 => Qu Pr (Is w7) (Instr.fieldAt 119 v6 10) fun v12 => k9 v12 w7) w7 fun v10 w11 =>
 Gd v1 true (fun k13 => Qu Pr (Is w11) (Instr.loadAt 117 v10) fun v16 => k13 v16 w11) w11 fun v14 w15 =>
 Gd v1 true (fun k17 => Qu Pr (Is w15) (binS .neq 117 (.tmp 9) (.const (Value.pointer none)) v14 (Value.pointer none)) fun v20 => k17 v20 w15) w15 fun v18 w19 =>
 Qu Pr (Is w19) (pickS v1 v18 (Value.bool false)) fun v21 =>
 If v21 (
  Qu Pr (Is w19) (nilS a0) fun v22 =>
  Qu Pr (Is w19) (Instr.fieldAt 119 v22 10) fun v23 =>
  Qu Pr (Is w19) (Instr.loadAt 117 v23) fun v24 =>
  Qu Pr (Is w19) (nilS v24) fun v25 =>
  Qu Pr (Is w19) (Instr.loadAt 4 v25) fun v26 =>
  K v26 w19) (
  K (Value.bool false) w19)
theorem c145 {a0 : Value} {K : Value → World → Prop} {w : World} (h : t145 a0 K w) : CK Pr 145 #[a0] w K := by
  refine calls_of_RF [] Tryz.func145 rfl ?_ ?_ ?_
  · kernel_rfl
  · exact Nat.le_of_ble_eq_true rfl
  · exact cast (by kernel_rfl) h

def t146 (a0 : Value) (K : Value → World → Prop) (w : World) : Prop :=
 Qu Pr (Is w) (binS .neq 86 (.tmp 3) (.const (Value.pointer none)) a0 (Value.pointer none)) fun v1 =>
 If v1 (
  Qu Pr (Is w) (nilS a0) fun v2 =>
  Qu Pr (Is w) (Instr.fieldAt 119 v2 12) fun v3 =>
  Qu Pr (Is w) (Instr.loadAt 99 v3) fun v4 =>
  K v4 w) (
  K (Value.slice none 0 0) w)
theorem c146 {a0 : Value} {K : Value → World → Prop} {w : World} (h : t146 a0 K w) : CK Pr 146 #[a0] w K := by
  refine calls_of_RF [] Tryz.func146 rfl ?_ ?_ ?_
  · kernel_rfl
  · exact Nat.le_of_ble_eq_true rfl
  · exact cast (by kernel_rfl) h

def t147 (a0 : Value) (K : Value → World → Prop) (w : World) : Prop :=
 Qu Pr (Is w) (binS .neq 86 (.tmp 3) (.const (Value.pointer none)) a0 (Value.pointer none)) fun v1 =>
 If v1 (
  Qu Pr (Is w) (nilS a0) fun v2 =>
  Qu Pr (Is w) (Instr.fieldAt 119 v2 13) fun v3 =>
  Qu Pr (Is w) (Instr.loadAt 94 v3) fun v4 =>
  K v4 w) (
  K (Value.slice none 0 0) w)
theorem c147 {a0 : Value} {K : Value → World → Prop} {w : World} (h : t147 a0 K w) : CK Pr 147 #[a0] w K := by
  refine calls_of_RF [] Tryz.func147 rfl ?_ ?_ ?_
  · kernel_rfl
  · exact Nat.le_of_ble_eq_true rfl
  · exact cast (by kernel_rfl) h

def t148 (a0 a1 : Value) (K : Value → World → Prop) (w : World) : Prop :=
 Qu Pr (Is w) (nilS a0) fun v1 =>
 Qu Pr (Is w) (Instr.fieldAt 196 v1 1) fun v2 =>
 Cl Pr (callV (fn 214) #[v2, a1]) w fun v4 w3 =>
 Qu Pr (Is w3) (Instr.extract v4 0) fun v5 =>
 Qu Pr (Is w3) (Instr.extract v4 1) fun v6 =>
 If v6 (
  K (.tuple #[v5, Value.nilIface]) w3) (
  Qu Pr (Is w3) (binS .add 22 (.tmp 20) (.const (Value.int .u64 1)) a1 (Value.int .u64 1)) fun v7 =>
  Cl Pr (callV (fn 192) #[a0]) w3 fun v9 w8 =>
  Qu Pr (Is w8) (binS .lss 22 (.tmp 21) (.tmp 23) v7 v9) fun v10 =>
  If v10 (
   Qu Pr (Is w8) (Instr.makeInterface 226 (Value.string (ByteArray.mk #[114, 101, 113, 117, 101, 115, 116, 101, 100, 32, 105, 110, 100, 101, 120, 32, 105, 115, 32, 117, 110, 97, 118, 97, 105, 108, 97, 98, 108, 101, 32, 100, 117, 101, 32, 116, 111, 32, 99, 111, 109, 112, 97, 99, 116, 105, 111, 110]))) fun v11 =>
   K (.tuple #[(Value.int .u64 0), v11]) w8) (
   Cl Pr (callV (fn 104) #[a0]) w8 fun v13 w12 =>
   Qu Pr (Is w12) (binS .gtr 22 (.tmp 26) (.tmp 28) a1 v13) fun v14 =>
   If v14 (
    Qu Pr (Is w12) (Instr.makeInterface 226 (Value.string (ByteArray.mk #[114, 101, 113, 117, 101, 115, 116, 101, 100, 32, 101, 110, 116, 114, 121, 32, 97, 116, 32, 105, 110, 100, 101, 120, 32, 105, 115, 32, 117, 110, 97, 118, 97, 105, 108, 97, 98, 108, 101]))) fun v15 =>
    K (.tuple #[(Value.int .u64 0), v15]) w12) (
    Qu Pr (Is w12) (nilS a0) fun v16 =>
    Qu Pr (Is w12) (Instr.fieldAt 196 v16 0) fun v17 =>
    Qu Pr (Is w12) (Instr.loadAt 192 v17) fun v18 =>
    Cl Pr (callM v18 "Term" #[a1]) w12 fun v20 w19 =>
    Qu Pr (Is w19) (Instr.extract v20 0) fun v21 =>
    Qu Pr (Is w19) (Instr.extract v20 1) fun v22 =>
    Qu Pr (Is w19) (binS .eql 125 (.tmp 40) (.const Value.nilIface) v22 Value.nilIface) fun v23 =>
    If v23 (
     K (.tuple #[v21, Value.nilIface]) w19) (
     Qu Pr (Is w19) (Instr.makeInterface 226 (Value.string (ByteArray.mk #[114, 101, 113, 117, 101, 115, 116, 101, 100, 32, 105, 110, 100, 101, 120, 32, 105, 115, 32, 117, 110, 97, 118, 97, 105, 108, 97, 98, 108, 101, 32, 100, 117, 101, 32, 116, 111, 32, 99, 111, 109, 112, 97, 99, 116, 105, 111, 110]))) fun v24 =>
     Qu Pr (Is w19) (binS .eql 125 (.tmp 43) (.tmp 44) v22 v24) fun v25 =>
     Gd v25 false (fun k26 => k26 v22 w19) w19 fun v27 w28 =>
     Gd v25 false (fun k29 => Qu Pr (Is w28) (Instr.makeInterface 226 (Value.string (ByteArray.mk #[114, 101, 113, 117, 101, 115, 116, 101, 100, 32, 101, 110, 116, 114, 121, 32, 97, 116, 32, 105, 110, 100, 101, 120, 32, 105, 115, 32, 117, 110, 97, 118, 97, 105, 108, 97, 98, 108, 101]))) fun v32 => k29 v32 w28) w28 fun v30 w31 =>
     Gd v25 false (fun k33 => Qu Pr (Is w31) (binS .eql 125 (.tmp 47) (.tmp 48) v27 v30) fun v36 => k33 v36 w31) w31 fun v34 w35 =>
     Qu Pr (Is w35) (pickS v25 (Value.bool true) v34) fun v37 =>
     If v37 (
      K (.tuple #[(Value.int .u64 0), v22]) w35) (
      False)))))
theorem c148 {a0 a1 : Value} {K : Value → World → Prop} {w : World} (h : t148 a0 a1 K w) : CK Pr 148 #[a0, a1] w K := by
  refine calls_of_RF [] Tryz.func148 rfl ?_ ?_ ?_
  · kernel_rfl
  · exact Nat.le_of_ble_eq_true rfl
  · exact cast (by kernel_rfl) h

def t149 (a0 a1 : Value) (K : Value → World → Prop) (w : World) : Prop :=
 Cl Pr (callV (fn 95) #[a1]) w fun v2 w1 =>
 Cl Pr (callV (fn 96) #[v2]) w1 fun v4 w3 =>
 Qu Pr (Is w3) (binS .add 22 (.tmp 7) (.const (Value.int .u64 1)) v4 (Value.int .u64 1)) fun v5 =>
 Qu Pr (Is w3) (nilS a0) fun v6 =>
 Qu Pr (Is w3) (Instr.fieldAt 194 v6 2) fun v7 =>
 Eu Pr (Instr.storeAt 22 v7 v5) w3 fun w8 =>
 Qu Pr (Is w8) (nilS a0) fun v9 =>
 Qu Pr (Is w8) (Instr.fieldAt 194 v9 2) fun v10 =>
 Qu Pr (Is w8) (Instr.loadAt 22 v10) fun v11 =>
 Qu Pr (Is w8) (nilS a0) fun v12 =>
 Qu Pr (Is w8) (Instr.fieldAt 194 v12 4) fun v13 =>
 Eu Pr (Instr.storeAt 22 v13 v11) w8 fun w14 =>
 Qu Pr (Is w14) (nilS a0) fun v15 =>
 Qu Pr (Is w14) (Instr.fieldAt 194 v15 1) fun v16 =>
 Eu Pr (Instr.storeAt 115 v16 (Value.slice none 0 0)) w14 fun w17 =>
 Cl Pr (callV (fn 122) #[a1]) w17 fun v19 w18 =>
 Qu Pr (Is w18) (nilS a0) fun v20 =>
 Qu Pr (Is w18) (Instr.fieldAt 194 v20 0) fun v21 =>
 Eu Pr (Instr.storeAt 75 v21 v19) w18 fun w22 =>
 Qu Pr (Is w22) (nilS a0) fun v23 =>
 Qu Pr (Is w22) (Instr.fieldAt 194 v23 3) fun v24 =>
 Eu Pr (Instr.storeAt 4 v24 (Value.bool false)) w22 fun w25 =>
 K (.tuple #[]) w25
theorem c149 {a0 a1 : Value} {K : Value → World → Prop} {w : World} (h : t149 a0 a1 K w) : CK Pr 149 #[a0, a1] w K := by
  refine calls_of_RF [] Tryz.func149 rfl ?_ ?_ ?_
  · kernel_rfl
  · exact Nat.le_of_ble_eq_true rfl
  · exact cast (by kernel_rfl) h

@[irreducible] def t150_1 (w51 : World) (a0 : Value) (τ50 : List Value) (K : Value → World → Prop) (τ6 : List Value) : Prop :=
       Qu Pr (Is w51) (nilS a0) fun v67 =>
       Qu Pr (Is w51) (Instr.fieldAt 200 v67 1) fun v68 =>
       Qu Pr (Is w51) (Instr.loadAt 23 v68) fun v69 =>
       Qu Pr (Is w51) (Builtin.len_ #[23] 3 #[v69]) fun v70 =>
       LoopW [(g τ50 0), undef, (Value.int .i64 0), undef, undef, undef, undef, undef, undef, undef, undef, undef, undef, undef, undef] (fun r71 τ72 w73 =>
        Qu Pr (Is w73) (binS .lss 3 (.tmp 73) (.tmp 72) (g τ72 2) v70) fun v74 =>
        If v74 (
         Qu Pr (Is w73) (Instr.indexAt 23 v69 (g τ72 2)) fun v75 =>
         Qu Pr (Is w73) (Instr.loadAt 22 v75) fun v76 =>
         Cl Pr (callV (fn 215) #[(Value.int .i32 3)]) w73 fun v78 w77 =>
         Ef Pr (Instr.box 22 v76) w77 fun v80 w79 =>
         Qu Pr (Is w79) (Instr.build 309 #[(0, v78), (1, v80)]) fun v81 =>
         Ef Pr (Instr.box 309 v81) w79 fun v83 w82 =>
         Ef Pr (Instr.buildSlice 247 1 #[(0, v83)]) w82 fun v85 w84 =>
         Ef Pr (Builtin.append_ #[247, 247] 247 #[(g τ72 0), v85]) w84 fun v87 w86 =>
         Qu Pr (Is w86) (binS .add 3 (.tmp 73) (.const (Value.int .i64 1)) (g τ72 2) (Value.int .i64 1)) fun v88 =>
         r71 [v87, v76, v88, v74, v75, v76, (g τ72 0), v78, v76, v80, v81, v83, v85, v87, v88] w86) (
         Qu Pr (Is w73) (nilS a0) fun v89 =>
         Qu Pr (Is w73) (Instr.fieldAt 200 v89 3) fun v90 =>
         Qu Pr (Is w73) (Instr.loadAt 23 v90) fun v91 =>
         Qu Pr (Is w73) (Builtin.len_ #[23] 3 #[v91]) fun v92 =>
         LoopW [(g τ72 0), undef, (Value.int .i64 0), undef, undef, undef, undef, undef, undef, undef, undef, undef, undef, undef, undef] (fun r93 τ94 w95 =>
          Qu Pr (Is w95) (binS .lss 3 (.tmp 91) (.tmp 90) (g τ94 2) v92) fun v96 =>
          If v96 (
           Qu Pr (Is w95) (Instr.indexAt 23 v91 (g τ94 2)) fun v97 =>
           Qu Pr (Is w95) (Instr.loadAt 22 v97) fun v98 =>
           Cl Pr (callV (fn 215) #[(Value.int .i32 3)]) w95 fun v100 w99 =>
           Ef Pr (Instr.box 22 v98) w99 fun v102 w101 =>
           Qu Pr (Is w101) (Instr.build 309 #[(0, v100), (1, v102)]) fun v103 =>
           Ef Pr (Instr.box 309 v103) w101 fun v105 w104 =>
           Ef Pr (Instr.buildSlice 247 1 #[(0, v105)]) w104 fun v107 w106 =>
           Ef Pr (Builtin.append_ #[247, 247] 247 #[(g τ94 0), v107]) w106 fun v109 w108 =>
           Qu Pr (Is w108) (binS .add 3 (.tmp 91) (.const (Value.int .i64 1)) (g τ94 2) (Value.int .i64 1)) fun v110 =>
           r93 [v109, v98, v110, v96, v97, v98, (g τ94 0), v100, v98, v102, v103, v105, v107, v109, v110] w108) (
           K (.tuple #[(g τ6 0), (g τ94 0)]) w95)) w73)) w51
@[irreducible] def t150_2 (w29 : World) (a0 : Value) (τ28 : List Value) (K : Value → World → Prop) (τ6 : List Value) : Prop :=
     Qu Pr (Is w29) (nilS a0) fun v45 =>
     Qu Pr (Is w29) (Instr.fieldAt 200 v45 0) fun v46 =>
     Qu Pr (Is w29) (Instr.loadAt 23 v46) fun v47 =>
     Qu Pr (Is w29) (Builtin.len_ #[23] 3 #[v47]) fun v48 =>
     LoopW [(g τ28 0), undef, (Value.int .i64 0), undef, undef, undef, undef, undef, undef, undef, undef, undef, undef, undef, undef] (fun r49 τ50 w51 =>
      Qu Pr (Is w51) (binS .lss 3 (.tmp 55) (.tmp 54) (g τ50 2) v48) fun v52 =>
      If v52 (
       Qu Pr (Is w51) (Instr.indexAt 23 v47 (g τ50 2)) fun v53 =>
       Qu Pr (Is w51) (Instr.loadAt 22 v53) fun v54 =>
       Cl Pr (callV (fn 215) #[(Value.int .i32 0)]) w51 fun v56 w55 =>
       Ef Pr (Instr.box 22 v54) w55 fun v58 w57 =>
       Qu Pr (Is w57) (Instr.build 309 #[(0, v56), (1, v58)]) fun v59 =>
       Ef Pr (Instr.box 309 v59) w57 fun v61 w60 =>
       Ef Pr (Instr.buildSlice 247 1 #[(0, v61)]) w60 fun v63 w62 =>
       Ef Pr (Builtin.append_ #[247, 247] 247 #[(g τ50 0), v63]) w62 fun v65 w64 =>
       Qu Pr (Is w64) (binS .add 3 (.tmp 55) (.const (Value.int .i64 1)) (g τ50 2) (Value.int .i64 1)) fun v66 =>
       r49 [v65, v54, v66, v52, v53, v54, (g τ50 0), v56, v54, v58, v59, v61, v63, v65, v66] w64) (t150_1 w51 a0 τ50 K τ6)) w29
@[irreducible] def t150_3 (w7 : World) (a0 : Value) (K : Value → World → Prop) (τ6 : List Value) : Prop :=
   Qu Pr (Is w7) (nilS a0) fun v23 =>
   Qu Pr (Is w7) (Instr.fieldAt 200 v23 2) fun v24 =>
   Qu Pr (Is w7) (Instr.loadAt 23 v24) fun v25 =>
   Qu Pr (Is w7) (Builtin.len_ #[23] 3 #[v25]) fun v26 =>
   LoopW [(Value.slice none 0 0), undef, (Value.int .i64 0), undef, undef, undef, undef, undef, undef, undef, undef, undef, undef, undef, undef] (fun r27 τ28 w29 =>
    Qu Pr (Is w29) (binS .lss 3 (.tmp 37) (.tmp 36) (g τ28 2) v26) fun v30 =>
    If v30 (
     Qu Pr (Is w29) (Instr.indexAt 23 v25 (g τ28 2)) fun v31 =>
     Qu Pr (Is w29) (Instr.loadAt 22 v31) fun v32 =>
     Cl Pr (callV (fn 215) #[(Value.int .i32 1)]) w29 fun v34 w33 =>
     Ef Pr (Instr.box 22 v32) w33 fun v36 w35 =>
     Qu Pr (Is w35) (Instr.build 309 #[(0, v34), (1, v36)]) fun v37 =>
     Ef Pr (Instr.box 309 v37) w35 fun v39 w38 =>
     Ef Pr (Instr.buildSlice 247 1 #[(0, v39)]) w38 fun v41 w40 =>
     Ef Pr (Builtin.append_ #[247, 247] 247 #[(g τ28 0), v41]) w40 fun v43 w42 =>
     Qu Pr (Is w42) (binS .add 3 (.tmp 37) (.const (Value.int .i64 1)) (g τ28 2) (Value.int .i64 1)) fun v44 =>
     r27 [v43, v32, v44, v30, v31, v32, (g τ28 0), v34, v32, v36, v37, v39, v41, v43, v44] w42) (t150_2 w29 a0 τ28 K τ6)) w7
def t150 (a0 : Value) (K : Value → World → Prop) (w : World) : Prop :=
 Qu Pr (Is w) (nilS a0) fun v1 =>
 Qu Pr (Is w) (Instr.fieldAt 200 v1 2) fun v2 =>
 Qu Pr (Is w) (Instr.loadAt 23 v2) fun v3 =>
 Qu Pr (Is w) (Builtin.len_ #[23] 3 #[v3]) fun v4 =>
 LoopW [(Value.slice none 0 0), undef, (Value.int .i64 0), undef, undef, undef, undef, undef, undef, undef, undef, undef, undef, undef, undef] (fun r5 τ6 w7 =>
  Qu Pr (Is w7) (binS .lss 3 (.tmp 19) (.tmp 18) (g τ6 2) v4) fun v8 =>
  If v8 (
   Qu Pr (Is w7) (Instr.indexAt 23 v3 (g τ6 2)) fun v9 =>
   Qu Pr (Is w7) (Instr.loadAt 22 v9) fun v10 =>
   Cl Pr (callV (fn 215) #[(Value.int .i32 0)]) w7 fun v12 w11 =>
   Ef Pr (Instr.box 22 v10) w11 fun v14 w13 =>
   Qu Pr (Is w13) (Instr.build 309 #[(0, v12), (1, v14)]) fun v15 =>
   Ef Pr (Instr.box 309 v15) w13 fun v17 w16 =>
   Ef Pr (Instr.buildSlice 247 1 #[(0, v17)]) w16 fun v19 w18 =>
   Ef Pr (Builtin.append_ #[247, 247] 247 #[(g τ6 0), v19]) w18 fun v21 w20 =>
   Qu Pr (Is w20) (binS .add 3 (.tmp 19) (.const (Value.int .i64 1)) (g τ6 2) (Value.int .i64 1)) fun v22 =>
   r5 [v21, v10, v22, v8, v9, v10, (g τ6 0), v12, v10, v14, v15, v17, v19, v21, v22] w20) (t150_3 w7 a0 K τ6)) w
theorem c150 {a0 : Value} {K : Value → World → Prop} {w : World} (h : t150 a0 K w) : CK Pr 150 #[a0] w K := by
  refine calls_of_RF [(2, [2, 5, 19, 20, 21, 22, 23, 24, 25, 26, 27, 28, 29, 30, 31]), (7, [3, 7, 37, 38, 39, 40, 41, 42, 43, 44, 45, 46, 47, 48, 49]), (12, [3, 9, 55, 56, 57, 58, 59, 60, 61, 62, 63, 64, 65, 66, 67]), (17, [3, 11, 73, 74, 75, 76, 77, 78, 79, 80, 81, 82, 83, 84, 85]), (22, [3, 13, 91, 92, 93, 94, 95, 96, 97, 98, 99, 100, 101, 102, 103])] Tryz.func150 rfl ?_ ?_ ?_
  · kernel_rfl
  · exact Nat.le_of_ble_eq_true rfl
  · exact cast (by kernel_rfl) h

end Go.Proofs.YtmmpogfbhelioaaGreat
/-
  Contracts: bytes, numbers, entries and snapshots made out of plain data.
  Conditions: each one's own.
-/
namespace Go.Proofs.YtmmpogfbhelioaaGreat
set_option maxRecDepth 10000
set_option linter.unusedVariables false
set_option linter.unusedSimpArgs false
theorem nmK0 {p : Prop} (h : p := by (try simp only [List.getElem?_toArray, List.getElem?_cons_zero, List.getElem?_cons_succ, List.setIfInBounds_toArray, List.set_cons_zero, List.set_cons_succ, List.toList_toArray, List.drop_zero, List.drop_succ_cons, List.take_zero, List.take_succ_cons, Nat.zero_add, Nat.add_zero, Nat.reduceAdd, putCells, En.cells, snCells]) <;> rfl) : p := h
theorem goK0 {G H : Prop} (h : H) (s : Stp G H := by (apply Stp.of; intro hS; (first | (refine q_ld bk_ nmK0 ?_) | (refine q_ldU bk_ rfl nmK0 ?_) | (refine q_ldW bk_ (by rfl) ?_) | (refine q_ldWU bk_ rfl (by rfl) ?_) | (refine q_ldP bk_ (Nat.le_of_ble_eq_true rfl) nmK0 ?_) | (refine q_ldPU bk_ rfl (Nat.le_of_ble_eq_true rfl) nmK0 ?_) | (refine q_ext nmK0 ?_) | (refine u_st bk_ (Nat.le_of_ble_eq_true rfl) (by first | rfl | assumption) nmK0 ?_) | (refine u_stA bk_ (Nat.le_of_ble_eq_true rfl) (by rfl) (by rfl) nmK0 ?_) | (refine q_field nmK0 ?_)); exact hS.out)) : G := s.f h
attribute [local irreducible] Instr.box Instr.alloc Instr.loadAt Instr.storeAt Instr.fieldAt Instr.indexAt Instr.build Instr.buildSlice Instr.makeSlice Instr.makeMap Instr.mapUpdate Instr.lookup Instr.range Instr.next Instr.entry Instr.extract Instr.makeInterface Instr.makeFunc Instr.sliceAt Instr.typeAssert Instr.field Instr.index Builtin.len_ Builtin.cap_ Builtin.max_ Builtin.min_ Builtin.append_ Builtin.copy_ Builtin.delete_ convert binS pickS nilS callV callM Op.unary Own Mp It Cu

variable {K : Value → World → Prop} {w : World} {te : Option Nat}

theorem k55 {s : ByteArray} (hs : s.size ≤ 9223372036854775807) (h : ∀ v w', Ex w w' → Sl w' (some 5) 1 v (byteList s) → K v w') : CK Pr 55 #[.string s] w K := by
  refine c55 ?_
  unfold t55
  (repeat (first | (refine go ?_; intros) | (refine goK0 ?_; intros)))
  refine if_split (fun hb => ?_) (fun hb => ?_)
  · refine h _ _ (.refl _ _ _) ?_
    rw [of_decide_eq_true hb]
    exact .nil none 0
  · refine e_bytes hs fun v w' c _ e hv _ => ?_
    exact h _ _ e hv

theorem nums_one {l : List Int} : ∀ y ∈ nums l, ∀ u ∈ y, one u = true := by
  intro y hy u hu
  obtain ⟨x, _, rfl⟩ := List.mem_map.1 hy
  rw [List.mem_singleton.1 hu]; rfl

theorem nums_len (l : List Int) : (nums l).length = l.length := List.length_map ..

theorem k107 {v : Value} {l : List Int} (hv : Nums w te v l) (hl : l.length ≤ 1000000) (h : ∀ v' w', Ex w w' → Own w' w.heap.size 22 1 v' (nums l) → K v' w') : CK Pr 107 #[v] w K := by
  refine c107 ?_
  unfold t107
  have hz := nums_len l
  refine e_app (base := w.heap.size) (Own.nil _ _ _ _) hv nums_one (by simp only [List.length_nil]; omega) (by simp only [List.length_nil]; omega) (Nat.le_refl _) fun v' w' u o _ _ => ?_
  exact h v' w' (u.no fun b _ hb => by cases hb) o

theorem k56 {v1 v2 v3 v4 : Value} {c : Cf} {t1 t2 t3 t4 : Option Nat} (h1 : Nums w t1 v1 c.v) (h2 : Nums w t2 v2 c.l) (h3 : Nums w t3 v3 c.o) (h4 : Nums w t4 v4 c.n)
    (l1 : c.v.length ≤ 1000000) (l2 : c.l.length ≤ 1000000) (l3 : c.o.length ≤ 1000000) (l4 : c.n.length ≤ 1000000) (h : ∀ v w', Ex w w' → PC v c w' → K v w') : CK Pr 56 #[.agg #[v1, v2, v3, v4, .bool c.a]] w K := by
  refine c56 ?_
  unfold t56
  (repeat (first | (refine go ?_; intros) | (refine goK0 ?_; intros)))
  refine dr_rule No [] fun w1 e1 z1 => ?_
  (repeat (first | (refine go ?_; intros) | (refine goK0 ?_; intros)))
  refine cl_fn (k107 (by exact lf_ : Nums w1 t1 v1 c.v) l1 fun u1 w2 e2 o1 => ⟨by exact ex_, ?_⟩)
  (repeat (first | (refine go ?_; intros) | (refine goK0 ?_; intros)))
  refine cl_fn (k107 (by exact lf_ : Nums w2 t2 v2 c.l) l2 fun u2 w3 e3 o2 => ⟨by exact ex_, ?_⟩)
  (repeat (first | (refine go ?_; intros) | (refine goK0 ?_; intros)))
  refine cl_fn (k107 (by exact lf_ : Nums w3 t3 v3 c.o) l3 fun u3 w4 e4 o3 => ⟨by exact ex_, ?_⟩)
  (repeat (first | (refine go ?_; intros) | (refine goK0 ?_; intros)))
  refine cl_fn (k107 (by exact lf_ : Nums w4 t4 v4 c.n) l4 fun u4 w5 e5 o4 => ⟨by exact ex_, ?_⟩)
  (repeat (first | (refine go ?_; intros) | (refine goK0 ?_; intros)))
  refine ⟨by exact ex_, ?_⟩
  refine b200_0_1_2_3_4 o1.sl.one o2.sl.one o3.sl.one o4.sl.one rfl ?_
  (repeat (first | (refine go ?_; intros) | (refine goK0 ?_; intros)))
  refine ⟨by exact ex_, ?_⟩
  refine h _ _ ex_ ⟨_, _, _, _, _, _, rfl, by exact bk_, ?_, ?_, ?_, ?_, ⟨_, rfl, by exact bk_⟩⟩
  · have := o1.sl; exact lf_
  · have := o2.sl; exact lf_
  · have := o3.sl; exact lf_
  · have := o4.sl; exact lf_

/-- A plain snapshot's cells. -/
def snCells (s : Sn) (v1 v2 v3 v4 : Value) : Array Value := #[.string s.d, .int .u64 s.i, .int .u64 s.t, v1, v2, v3, v4, .bool s.c.a]

theorem k32 {v1 v2 v3 v4 : Value} {s : Sn} {t1 t2 t3 t4 : Option Nat} (hd : s.d.size ≤ 9223372036854775807) (h1 : Nums w t1 v1 s.c.v) (h2 : Nums w t2 v2 s.c.l) (h3 : Nums w t3 v3 s.c.o) (h4 : Nums w t4 v4 s.c.n)
    (l1 : s.c.v.length ≤ 1000000) (l2 : s.c.l.length ≤ 1000000) (l3 : s.c.o.length ≤ 1000000) (l4 : s.c.n.length ≤ 1000000) (h : ∀ v w', Ex w w' → PS v s w' → K v w') : CK Pr 32 #[.agg (snCells s v1 v2 v3 v4)] w K := by
  refine c32 ?_
  unfold t32
  (repeat (first | (refine go ?_; intros) | (refine goK0 ?_; intros)))
  refine dr_rule No [] fun w1 e1 z1 => ?_
  (repeat (first | (refine go ?_; intros) | (refine goK0 ?_; intros)))
  refine cl_fn (k55 hd fun u1 w2 e2 o1 => ⟨by exact ex_, ?_⟩)
  (repeat (first | (refine go ?_; intros) | (refine goK0 ?_; intros)))
  refine cl_fn (k56 (by exact lf_ : Nums w2 t1 v1 s.c.v) (by exact lf_ : Nums w2 t2 v2 s.c.l) (by exact lf_ : Nums w2 t3 v3 s.c.o) (by exact lf_ : Nums w2 t4 v4 s.c.n) l1 l2 l3 l4 fun u2 w3 e3 o2 => ⟨by exact ex_, ?_⟩)
  (repeat (first | (refine go ?_; intros) | (refine goK0 ?_; intros)))
  refine ⟨by exact ex_, ?_⟩
  (repeat (first | (refine go ?_; intros) | (refine goK0 ?_; intros)))
  refine ⟨by exact ex_, ?_⟩
  refine b106_0_1_2 o2.one rfl rfl ?_
  (repeat (first | (refine go ?_; intros) | (refine goK0 ?_; intros)))
  refine ⟨by exact ex_, ?_⟩
  refine b108_0_1 o1.one rfl ?_
  (repeat (first | (refine go ?_; intros) | (refine goK0 ?_; intros)))
  refine ⟨by exact ex_, ?_⟩
  refine h _ _ ex_ ⟨_, _, _, rfl, by exact bk_, by exact lf_, _, _, _, _, rfl, by exact bk_, by exact lf_, ⟨_, rfl, by exact bk_⟩, ⟨_, rfl, by exact bk_⟩⟩

theorem k121 {e : En} (hd : e.d.size ≤ 9223372036854775807) (hk : IntKind.i32.wrap e.k = e.k) (h : ∀ v w', Ex w w' → PE v e w' → K v w') : CK Pr 121 #[.agg e.cells.toArray] w K := by
  refine c121 ?_
  unfold t121
  (repeat (first | (refine go ?_; intros) | (refine goK0 ?_; intros)))
  refine cl_fn (k55 hd fun u1 w2 e2 o1 => ?_)
  have z2 := e2.size
  (repeat (first | (refine go ?_; intros) | (refine goK0 ?_; intros)))
  refine b215_0_1_3 rfl rfl o1.one ?_
  (repeat (first | (refine go ?_; intros) | (refine goK0 ?_; intros)))
  unfold Jo
  refine if_split (fun hb => ?_) (fun hb => ?_)
  · (repeat (first | (refine go ?_; intros) | (refine goK0 ?_; intros)))
    refine h _ _ ex_ ⟨_, _, _, _, _, rfl, by exact bk_, .inr ⟨_, rfl, by exact bk_⟩, .inr ⟨_, rfl, by exact bk_⟩, .inr ⟨_, rfl, ?_⟩, by exact lf_⟩
    rw [hk] at *
    exact bk_
  · refine h _ _ ex_ ⟨_, _, _, _, _, rfl, by exact bk_, .inr ⟨_, rfl, by exact bk_⟩, .inr ⟨_, rfl, by exact bk_⟩, .inl ⟨rfl, ?_⟩, by exact lf_⟩
    simpa using hb

theorem k65 {v : Value} {l : List En} (hv : Ens w te v l) (hl : l.length ≤ 1000000) (hd : ∀ e ∈ l, e.d.size ≤ 9223372036854775807 ∧ IntKind.i32.wrap e.k = e.k)
    (h : ∀ v' w' ps, Ex w w' → Own w' w.heap.size 212 1 v' (ones ps) → PEs ps l w' → K v' w') : CK Pr 65 #[v] w K := by
  refine c65 ?_
  unfold t65
  (repeat (first | (refine go ?_; intros) | (refine goK0 ?_; intros)))
  refine loop_n (α := Nat) (fun j τ w' => ∃ ps, g τ 2 = .int .i64 j ∧ j ≤ l.length ∧ Ex w w' ∧ Own w' w.heap.size 212 1 (g τ 0) (ones ps) ∧ PEs ps (l.take j) w') (fun j => l.length - j) 0
    ⟨[], rfl, Nat.zero_le _, .refl _ _ _, Own.nil _ _ _ _, .nil _⟩ ?_
  intro j τ w' R ⟨ps, hj, hle, hex, hown, hps⟩ hR
  rw [hj]
  (repeat (first | (refine go ?_; intros) | (refine goK0 ?_; intros)))
  refine if_split (fun hb => ?_) (fun hb => ?_)
  · have hj' : j < l.length := by simpa using hb
    obtain ⟨e, he⟩ : ∃ e, l[j]? = some e := ⟨_, List.getElem?_eq_getElem hj'⟩
    refine q_ixa j (by exact lf_ : Ens w' te v l) rfl (by rw [List.getElem?_map, he]; rfl) fun _ => ?_
    (repeat (first | (refine go ?_; intros) | (refine goK0 ?_; intros)))
    have hde := hd e (List.mem_of_getElem? he)
    refine cl_fn (k121 hde.1 hde.2 fun u1 w2 e2 o1 => ?_)
    have z2 := e2.size
    have ew : Ex w' w2 := by exact ex_
    have zz := hex.size
    have hlp : (ones ps).length ≤ l.length := by rw [ones, List.length_map, hps.len, List.length_take]; omega
    refine e_push1 (hown.ex ew) o1.one (by omega) (by omega) (by omega) fun _ v' w3 u3 ow3 hbl z3 => ?_
    (repeat (first | (refine go ?_; intros) | (refine goK0 ?_; intros)))
    refine hR (j + 1) _ _ ⟨ps ++ [u1], by rw [← wrapS (by omega)]; rfl, hj', ?_, ?_, ?_⟩ (by omega)
    · exact (hex.trans ew).new u3 fun b hb => (hown.lt b hb).1
    · rw [ones, List.map_append]; exact ow3
    · rw [take_snoc he]
      exact ((hps.ex ew).app (.cons o1 (.nil _))).mt rfl u3
  · have : j = l.length := by
      have hb : ¬ ((j : Int) < ((l.map En.cells).length : Nat)) := of_decide_eq_false hb
      rw [List.length_map] at hb
      omega
    rw [this, List.take_length] at hps
    exact h _ _ _ hex hown hps

end Go.Proofs.YtmmpogfbhelioaaGreat
/-
  The readable texts of the program's functions, printed by gen.py, and their links with the program.
  Conditions: none.
-/
namespace Go.Proofs.YtmmpogfbhelioaaGreat
set_option maxRecDepth 10000
set_option linter.unusedVariables false
set_option linter.unusedSimpArgs false
def t151 (a0 a1 : Value) (K : Value → World → Prop) (w : World) : Prop :=
 Ef Pr (Instr.box 209 a0) w fun v2 w1 =>
 Ef Pr (Instr.alloc 136 true (.tuple #[])) w1 fun v4 w3 =>
 Qu Pr (Is w3) (Instr.loadAt 209 v2) fun v5 =>
 Qu Pr (Is w3) (Instr.loadAt 251 a1) fun v6 =>
 Ef Pr (Instr.buildSlice 247 1 #[(0, v6)]) w3 fun v8 w7 =>
 Cl Pr (callV (fn 152) #[v5, v8]) w7 fun v10 w9 =>
 Qu Pr (Is w9) (Instr.extract v10 0) fun v11 =>
 Qu Pr (Is w9) (Instr.extract v10 1) fun v12 =>
 Qu Pr (Is w9) (Instr.extract v10 2) fun v13 =>
 Eu Pr (Instr.storeAt 136 v4 v11) w9 fun w14 =>
 Qu Pr (Is w14) (Instr.loadAt 136 v4) fun v15 =>
 K (.tuple #[v15, v12, v13]) w14
theorem c151 {a0 a1 : Value} {K : Value → World → Prop} {w : World} (h : t151 a0 a1 K w) : CK Pr 151 #[a0, a1] w K := by
  refine calls_of_RF [] Tryz.func151 rfl ?_ ?_ ?_
  · kernel_rfl
  · exact Nat.le_of_ble_eq_true rfl
  · exact cast (by kernel_rfl) h

@[irreducible] def t152_1 (w24 : World) (v2 : Value) (v12 : Value) (v9 : Value) (a1 : Value) (v4 : Value) (K : Value → World → Prop) : Prop :=
   Qu Pr (Is w24) (Instr.loadAt 209 v2) fun v36 =>
   Cl Pr (callV (fn 220) #[v36, v12, v9, a1]) w24 fun v38 w37 =>
   Qu Pr (Is w37) (binS .neq 125 (.tmp 40) (.const Value.nilIface) v38 Value.nilIface) fun v39 =>
   If v39 (
    Qu Pr (Is w37) (Instr.loadAt 209 v2) fun v40 =>
    Cl Pr (callV (fn 217) #[v40, v38]) w37 fun v42 w41 =>
    Qu Pr (Is w41) (Instr.extract v42 0) fun v43 =>
    Qu Pr (Is w41) (Instr.extract v42 1) fun v44 =>
    Qu Pr (Is w41) (Instr.extract v42 2) fun v45 =>
    Eu Pr (Instr.storeAt 136 v4 v43) w41 fun w46 =>
    Qu Pr (Is w46) (Instr.loadAt 136 v4) fun v47 =>
    K (.tuple #[v47, v44, v45]) w46) (
    Dr w37 fun S48 w49 =>
    Qu Pr (S48) (Instr.fieldAt 209 v2 0) fun v50 =>
    Qu Pr (S48) (Instr.fieldAt 141 v50 0) fun v51 =>
    Qu Pr (S48) (Instr.fieldAt 136 v51 0) fun v52 =>
    Qu Pr (S48) (Instr.loadAt 134 v52) fun v53 =>
    Cl Pr (callV (fn 222) #[v53]) w49 fun v55 w54 => S48 w54 ∧
    Qu Pr (S48) (Instr.fieldAt 136 v12 0) fun v56 =>
    Qu Pr (S48) (Instr.loadAt 134 v56) fun v57 =>
    Cl Pr (callV (fn 222) #[v57]) w54 fun v59 w58 => S48 w58 ∧
    Cl Pr (callV (fn 221) #[v55, v59]) w58 fun v61 w60 => S48 w60 ∧
    Qu Pr (Is w60) (binS .gtr 3 (.tmp 57) (.const (Value.int .i64 1)) v61 (Value.int .i64 1)) fun v62 =>
    If v62 (
     Qu Pr (Is w60) (Instr.build 136 #[]) fun v63 =>
     Cl Pr (callV (fn 219) #[(Value.string (ByteArray.mk #[109, 111, 114, 101, 32, 116, 104, 97, 110, 32, 111, 110, 101, 32, 118, 111, 116, 101, 114, 32, 99, 104, 97, 110, 103, 101, 100, 32, 119, 105, 116, 104, 111, 117, 116, 32, 101, 110, 116, 101, 114, 105, 110, 103, 32, 106, 111, 105, 110, 116, 32, 99, 111, 110, 102, 105, 103]))]) w60 fun v65 w64 =>
     Eu Pr (Instr.storeAt 136 v4 v63) w64 fun w66 =>
     Qu Pr (Is w66) (Instr.loadAt 136 v4) fun v67 =>
     K (.tuple #[v67, (Value.map none), v65]) w66) (
     Qu Pr (Is w60) (Instr.loadAt 136 v12) fun v68 =>
     Cl Pr (callV (fn 223) #[v68, v9]) w60 fun v70 w69 =>
     Qu Pr (Is w69) (Instr.extract v70 0) fun v71 =>
     Qu Pr (Is w69) (Instr.extract v70 1) fun v72 =>
     Qu Pr (Is w69) (Instr.extract v70 2) fun v73 =>
     Eu Pr (Instr.storeAt 136 v4 v71) w69 fun w74 =>
     Qu Pr (Is w74) (Instr.loadAt 136 v4) fun v75 =>
     K (.tuple #[v75, v72, v73]) w74))
@[irreducible] def t152_2 (w13 : World) (v12 : Value) (v2 : Value) (v4 : Value) (K : Value → World → Prop) (v9 : Value) (a1 : Value) : Prop :=
  Qu Pr (Is w13) (Instr.loadAt 136 v12) fun v23 =>
  Cl Pr (callV (fn 218) #[v23]) w13 fun v25 w24 =>
  If v25 (
   Cl Pr (callV (fn 219) #[(Value.string (ByteArray.mk #[99, 97, 110, 39, 116, 32, 97, 112, 112, 108, 121, 32, 115, 105, 109, 112, 108, 101, 32, 99, 111, 110, 102, 105, 103, 32, 99, 104, 97, 110, 103, 101, 32, 105, 110, 32, 106, 111, 105, 110, 116, 32, 99, 111, 110, 102, 105, 103]))]) w24 fun v27 w26 =>
   Qu Pr (Is w26) (Instr.loadAt 209 v2) fun v28 =>
   Cl Pr (callV (fn 217) #[v28, v27]) w26 fun v30 w29 =>
   Qu Pr (Is w29) (Instr.extract v30 0) fun v31 =>
   Qu Pr (Is w29) (Instr.extract v30 1) fun v32 =>
   Qu Pr (Is w29) (Instr.extract v30 2) fun v33 =>
   Eu Pr (Instr.storeAt 136 v4 v31) w29 fun w34 =>
   Qu Pr (Is w34) (Instr.loadAt 136 v4) fun v35 =>
   K (.tuple #[v35, v32, v33]) w34) (t152_1 w24 v2 v12 v9 a1 v4 K)
def t152 (a0 a1 : Value) (K : Value → World → Prop) (w : World) : Prop :=
 Ef Pr (Instr.box 209 a0) w fun v2 w1 =>
 Ef Pr (Instr.alloc 136 true (.tuple #[])) w1 fun v4 w3 =>
 Qu Pr (Is w3) (Instr.loadAt 209 v2) fun v5 =>
 Cl Pr (callV (fn 216) #[v5]) w3 fun v7 w6 =>
 Qu Pr (Is w6) (Instr.extract v7 0) fun v8 =>
 Qu Pr (Is w6) (Instr.extract v7 1) fun v9 =>
 Qu Pr (Is w6) (Instr.extract v7 2) fun v10 =>
 Ef Pr (Instr.alloc 136 true (.tuple #[])) w6 fun v12 w11 =>
 Eu Pr (Instr.storeAt 136 v12 v8) w11 fun w13 =>
 Qu Pr (Is w13) (binS .neq 125 (.tmp 19) (.const Value.nilIface) v10 Value.nilIface) fun v14 =>
 If v14 (
  Qu Pr (Is w13) (Instr.loadAt 209 v2) fun v15 =>
  Cl Pr (callV (fn 217) #[v15, v10]) w13 fun v17 w16 =>
  Qu Pr (Is w16) (Instr.extract v17 0) fun v18 =>
  Qu Pr (Is w16) (Instr.extract v17 1) fun v19 =>
  Qu Pr (Is w16) (Instr.extract v17 2) fun v20 =>
  Eu Pr (Instr.storeAt 136 v4 v18) w16 fun w21 =>
  Qu Pr (Is w21) (Instr.loadAt 136 v4) fun v22 =>
  K (.tuple #[v22, v19, v20]) w21) (t152_2 w13 v12 v2 v4 K v9 a1)
theorem c152 {a0 a1 : Value} {K : Value → World → Prop} {w : World} (h : t152 a0 a1 K w) : CK Pr 152 #[a0, a1] w K := by
  refine calls_of_RF [] Tryz.func152 rfl ?_ ?_ ?_
  · kernel_rfl
  · exact Nat.le_of_ble_eq_true rfl
  · exact cast (by kernel_rfl) h

def t156 (a0 : Value) (K : Value → World → Prop) (w : World) : Prop :=
 Qu Pr (Is w) (binS .neq 102 (.tmp 3) (.const (Value.pointer none)) a0 (Value.pointer none)) fun v1 =>
 Gd v1 true (fun k2 => k2 a0 w) w fun v3 w4 =>
 Gd v1 true (fun k5 => Qu Pr (Is w4) (nilS v3) fun v8 => k5 v8 w4) w4 fun v6 w7 =>
 Gd v1 true (fun k9 => Qu Pr (Is w7) (Instr.fieldAt 200 v6 4) fun v12 => k9 v12 w7) w7 fun v10 w11 =>
 Gd v1 true (fun k13 => Qu Pr (Is w11) (Instr.loadAt 117 v10) fun v16 => k13 v16 w11) w11 fun v14 w15 =>
 Gd v1 true (fun k17 => Qu Pr (Is w15) (binS .neq 117 (.tmp 9) (.const (Value.pointer none)) v14 (Value.pointer none)) fun v20 => k17 v20 w15) w15 fun v18 w19 =>
 Qu Pr (Is w19) (pickS v1 v18 (Value.bool false)) fun v21 =>
 If v21 (
  Qu Pr (Is w19) (nilS a0) fun v22 =>
  Qu Pr (Is w19) (Instr.fieldAt 200 v22 4) fun v23 =>
  Qu Pr (Is w19) (Instr.loadAt 117 v23) fun v24 =>
  Qu Pr (Is w19) (nilS v24) fun v25 =>
  Qu Pr (Is w19) (Instr.loadAt 4 v25) fun v26 =>
  K v26 w19) (
  K (Value.bool false) w19)
theorem c156 {a0 : Value} {K : Value → World → Prop} {w : World} (h : t156 a0 K w) : CK Pr 156 #[a0] w K := by
  refine calls_of_RF [] Tryz.func156 rfl ?_ ?_ ?_
  · kernel_rfl
  · exact Nat.le_of_ble_eq_true rfl
  · exact cast (by kernel_rfl) h

def t157 (a0 a1 : Value) (K : Value → World → Prop) (w : World) : Prop :=
 Ef Pr (Instr.box 209 a0) w fun v2 w1 =>
 Ef Pr (Instr.alloc 136 true (.tuple #[])) w1 fun v4 w3 =>
 Qu Pr (Is w3) (Builtin.len_ #[250] 3 #[a1]) fun v5 =>
 LoopW [(Value.map none), Value.nilIface, undef, undef, undef, undef, (Value.int .i64 0), undef, undef, undef, undef, undef, undef, undef, undef, undef, undef, undef, undef, undef, undef, undef, undef, undef, undef, undef, undef, undef] (fun r6 τ7 w8 =>
  Qu Pr (Is w8) (binS .lss 3 (.tmp 14) (.tmp 13) (g τ7 6) v5) fun v9 =>
  If v9 (
   Qu Pr (Is w8) (Instr.indexAt 250 a1 (g τ7 6)) fun v10 =>
   Qu Pr (Is w8) (Instr.loadAt 253 v10) fun v11 =>
   Qu Pr (Is w8) (Instr.loadAt 209 v2) fun v12 =>
   Cl Pr (callV v11 #[v12]) w8 fun v14 w13 =>
   Qu Pr (Is w13) (Instr.extract v14 0) fun v15 =>
   Qu Pr (Is w13) (Instr.extract v14 1) fun v16 =>
   Qu Pr (Is w13) (Instr.extract v14 2) fun v17 =>
   Ef Pr (Instr.alloc 136 true (.tuple #[])) w13 fun v19 w18 =>
   Eu Pr (Instr.storeAt 136 v19 v15) w18 fun w20 =>
   Qu Pr (Is w20) (binS .neq 125 (.tmp 25) (.const Value.nilIface) v17 Value.nilIface) fun v21 =>
   If v21 (
    Qu Pr (Is w20) (Instr.build 136 #[]) fun v22 =>
    Eu Pr (Instr.storeAt 136 v4 v22) w20 fun w23 =>
    Qu Pr (Is w23) (Instr.loadAt 136 v4) fun v24 =>
    K (.tuple #[v24, (Value.map none), v17]) w23) (
    Qu Pr (Is w20) (Instr.loadAt 136 v19) fun v25 =>
    Qu Pr (Is w20) (Instr.fieldAt 209 v2 0) fun v26 =>
    Qu Pr (Is w20) (Instr.fieldAt 141 v26 0) fun v27 =>
    Eu Pr (Instr.storeAt 136 v27 v25) w20 fun w28 =>
    Qu Pr (Is w28) (Instr.fieldAt 209 v2 0) fun v29 =>
    Qu Pr (Is w28) (Instr.fieldAt 141 v29 1) fun v30 =>
    Eu Pr (Instr.storeAt 138 v30 v16) w28 fun w31 =>
    Qu Pr (Is w31) (binS .add 3 (.tmp 14) (.const (Value.int .i64 1)) (g τ7 6) (Value.int .i64 1)) fun v32 =>
    r6 [(g τ7 0), (g τ7 1), v11, v19, v16, v17, v32, v9, v10, v11, v14, v11, v12, v14, v15, v16, v17, v17, v21, (g τ7 19), (g τ7 20), v25, v26, v27, v16, v29, v30, v32] w31)) (
   Dr w8 fun S33 w34 =>
   Qu Pr (S33) (Instr.fieldAt 209 v2 0) fun v35 =>
   Qu Pr (S33) (Instr.fieldAt 141 v35 0) fun v36 =>
   Qu Pr (S33) (Instr.loadAt 136 v36) fun v37 =>
   Qu Pr (S33) (Instr.fieldAt 209 v2 0) fun v38 =>
   Qu Pr (S33) (Instr.fieldAt 141 v38 1) fun v39 =>
   Qu Pr (S33) (Instr.loadAt 138 v39) fun v40 =>
   Eu Pr (Instr.storeAt 136 v4 v37) w34 fun w41 => S33 w41 ∧
   Qu Pr (Is w41) (Instr.loadAt 136 v4) fun v42 =>
   K (.tuple #[v42, v40, Value.nilIface]) w41)) w3
theorem c157 {a0 a1 : Value} {K : Value → World → Prop} {w : World} (h : t157 a0 a1 K w) : CK Pr 157 #[a0, a1] w K := by
  refine calls_of_RF [(2, [5, 6, 8, 9, 10, 11, 14, 15, 16, 17, 18, 19, 20, 21, 22, 23, 24, 25, 26, 27, 28, 29, 30, 31, 32, 33, 34, 35])] Tryz.func157 rfl ?_ ?_ ?_
  · kernel_rfl
  · exact Nat.le_of_ble_eq_true rfl
  · exact cast (by kernel_rfl) h

def t158 (a0 : Value) (K : Value → World → Prop) (w : World) : Prop :=
 Qu Pr (Is w) (nilS a0) fun v1 =>
 Qu Pr (Is w) (Instr.fieldAt 194 v1 1) fun v2 =>
 Qu Pr (Is w) (Instr.loadAt 115 v2) fun v3 =>
 Qu Pr (Is w) (Builtin.len_ #[115] 3 #[v3]) fun v4 =>
 Qu Pr (Is w) (binS .neq 3 (.tmp 10) (.const (Value.int .i64 0)) v4 (Value.int .i64 0)) fun v5 =>
 If v5 (
  Qu Pr (Is w) (nilS a0) fun v6 =>
  Qu Pr (Is w) (Instr.fieldAt 194 v6 2) fun v7 =>
  Qu Pr (Is w) (Instr.loadAt 22 v7) fun v8 =>
  Qu Pr (Is w) (convert 3 22 v4) fun v9 =>
  Qu Pr (Is w) (binS .add 22 (.tmp 15) (.tmp 17) v8 v9) fun v10 =>
  Qu Pr (Is w) (binS .sub 22 (.tmp 18) (.const (Value.int .u64 1)) v10 (Value.int .u64 1)) fun v11 =>
  K (.tuple #[v11, (Value.bool true)]) w) (
  Qu Pr (Is w) (nilS a0) fun v12 =>
  Qu Pr (Is w) (Instr.fieldAt 194 v12 0) fun v13 =>
  Qu Pr (Is w) (Instr.loadAt 75 v13) fun v14 =>
  Qu Pr (Is w) (binS .neq 75 (.tmp 23) (.const (Value.pointer none)) v14 (Value.pointer none)) fun v15 =>
  If v15 (
   Qu Pr (Is w) (nilS a0) fun v16 =>
   Qu Pr (Is w) (Instr.fieldAt 194 v16 0) fun v17 =>
   Qu Pr (Is w) (Instr.loadAt 75 v17) fun v18 =>
   Cl Pr (callV (fn 95) #[v18]) w fun v20 w19 =>
   Cl Pr (callV (fn 96) #[v20]) w19 fun v22 w21 =>
   K (.tuple #[v22, (Value.bool true)]) w21) (
   K (.tuple #[(Value.int .u64 0), (Value.bool false)]) w))
theorem c158 {a0 : Value} {K : Value → World → Prop} {w : World} (h : t158 a0 K w) : CK Pr 158 #[a0] w K := by
  refine calls_of_RF [] Tryz.func158 rfl ?_ ?_ ?_
  · kernel_rfl
  · exact Nat.le_of_ble_eq_true rfl
  · exact cast (by kernel_rfl) h

@[irreducible] def t159_1 (a0 : Value) (w7 : World) (a1 : Value) (K : Value → World → Prop) : Prop :=
  Cl Pr (callV (fn 226) #[a0]) w7 fun v13 w12 =>
  Cl Pr (callV (fn 226) #[a1]) w12 fun v15 w14 =>
  Ef Pr (Instr.buildSlice 324 2 #[(0, v13), (1, v15)]) w14 fun v17 w16 =>
  Qu Pr (Is w16) (Builtin.len_ #[324] 3 #[v17]) fun v18 =>
  LoopW [undef, undef, (Value.int .i64 0), undef, undef, undef, undef, undef, undef, undef, undef, undef, undef, undef, undef, undef, undef, undef, undef, undef, undef, undef, undef, undef, undef, undef, undef, undef, undef, undef, undef, undef] (fun r19 τ20 w21 =>
   Qu Pr (Is w21) (binS .lss 3 (.tmp 26) (.tmp 25) (g τ20 2) v18) fun v22 =>
   If v22 (
    Qu Pr (Is w21) (Instr.indexAt 324 v17 (g τ20 2)) fun v23 =>
    Qu Pr (Is w21) (Instr.loadAt 102 v23) fun v24 =>
    Qu Pr (Is w21) (nilS v24) fun v25 =>
    Qu Pr (Is w21) (Instr.fieldAt 200 v25 0) fun v26 =>
    Cl Pr (callV (fn 227) #[v26]) w21 fun v28 w27 =>
    Qu Pr (Is w27) (nilS v24) fun v29 =>
    Qu Pr (Is w27) (Instr.fieldAt 200 v29 1) fun v30 =>
    Cl Pr (callV (fn 227) #[v30]) w27 fun v32 w31 =>
    Qu Pr (Is w31) (nilS v24) fun v33 =>
    Qu Pr (Is w31) (Instr.fieldAt 200 v33 2) fun v34 =>
    Cl Pr (callV (fn 227) #[v34]) w31 fun v36 w35 =>
    Qu Pr (Is w35) (nilS v24) fun v37 =>
    Qu Pr (Is w35) (Instr.fieldAt 200 v37 3) fun v38 =>
    Cl Pr (callV (fn 227) #[v38]) w35 fun v40 w39 =>
    Cl Pr (callV (fn 156) #[v24]) w39 fun v42 w41 =>
    Ef Pr (Instr.alloc 4 true (.tuple #[])) w41 fun v44 w43 =>
    Eu Pr (Instr.storeAt 4 v44 v42) w43 fun w45 =>
    Qu Pr (Is w45) (nilS v24) fun v46 =>
    Qu Pr (Is w45) (Instr.fieldAt 200 v46 4) fun v47 =>
    Eu Pr (Instr.storeAt 117 v47 v44) w45 fun w48 =>
    Qu Pr (Is w48) (binS .add 3 (.tmp 26) (.const (Value.int .i64 1)) (g τ20 2) (Value.int .i64 1)) fun v49 =>
    r19 [v24, v44, v49, v22, v23, v24, (fn 227), v24, v25, v26, v28, (fn 227), v24, v29, v30, v32, (fn 227), v24, v33, v34, v36, (fn 227), v24, v37, v38, v40, v24, v42, v24, v46, v47, v49] w48) (
    Cl Pr (callV (fn 228) #[v13, v15]) w21 fun v51 w50 =>
    Qu Pr (Is w50) (Op.unary .not v51) fun v52 =>
    If v52 (
     Cl Pr (callV (fn 219) #[(Value.string (ByteArray.mk #[67, 111, 110, 102, 83, 116, 97, 116, 101, 115, 32, 110, 111, 116, 32, 101, 113, 117, 105, 118, 97, 108, 101, 110, 116, 32, 97, 102, 116, 101, 114, 32, 115, 111, 114, 116, 105, 110, 103]))]) w50 fun v54 w53 =>
     K v54 w53) (
     K Value.nilIface w50))) w16
def t159 (a0 a1 : Value) (K : Value → World → Prop) (w : World) : Prop :=
 Qu Pr (Is w) (binS .eql 102 (.tmp 11) (.const (Value.pointer none)) a0 (Value.pointer none)) fun v1 =>
 Gd v1 false (fun k2 => k2 a1 w) w fun v3 w4 =>
 Gd v1 false (fun k5 => Qu Pr (Is w4) (binS .eql 102 (.tmp 14) (.const (Value.pointer none)) v3 (Value.pointer none)) fun v8 => k5 v8 w4) w4 fun v6 w7 =>
 Qu Pr (Is w7) (pickS v1 (Value.bool true) v6) fun v9 =>
 If v9 (
  Cl Pr (callV (fn 219) #[(Value.string (ByteArray.mk #[99, 97, 110, 110, 111, 116, 32, 99, 111, 109, 112, 97, 114, 101, 32, 67, 111, 110, 102, 83, 116, 97, 116, 101, 58, 32, 110, 105, 108, 32, 105, 110, 112, 117, 116]))]) w7 fun v11 w10 =>
  K v11 w10) (t159_1 a0 w7 a1 K)
theorem c159 {a0 a1 : Value} {K : Value → World → Prop} {w : World} (h : t159 a0 a1 K w) : CK Pr 159 #[a0, a1] w K := by
  refine calls_of_RF [(7, [9, 10, 26, 27, 28, 29, 30, 31, 32, 33, 34, 35, 36, 37, 38, 39, 40, 41, 42, 43, 44, 45, 46, 47, 48, 49, 50, 51, 52, 53, 54, 55])] Tryz.func159 rfl ?_ ?_ ?_
  · kernel_rfl
  · exact Nat.le_of_ble_eq_true rfl
  · exact cast (by kernel_rfl) h

def t160 (a0 : Value) (K : Value → World → Prop) (w : World) : Prop :=
 Dr w fun S1 w2 =>
 Qu Pr (S1) (nilS a0) fun v3 =>
 Qu Pr (S1) (Instr.fieldAt 141 v3 0) fun v4 =>
 Qu Pr (S1) (Instr.fieldAt 136 v4 0) fun v5 =>
 Qu Pr (S1) (Instr.indexAt 134 v5 (Value.int .i64 0)) fun v6 =>
 Qu Pr (S1) (Instr.loadAt 132 v6) fun v7 =>
 Cl Pr (callV (fn 87) #[v7]) w2 fun v9 w8 => S1 w8 ∧
 Qu Pr (S1) (nilS a0) fun v10 =>
 Qu Pr (S1) (Instr.fieldAt 141 v10 0) fun v11 =>
 Qu Pr (S1) (Instr.fieldAt 136 v11 0) fun v12 =>
 Qu Pr (S1) (Instr.indexAt 134 v12 (Value.int .i64 1)) fun v13 =>
 Qu Pr (S1) (Instr.loadAt 132 v13) fun v14 =>
 Cl Pr (callV (fn 87) #[v14]) w8 fun v16 w15 => S1 w15 ∧
 Qu Pr (S1) (nilS a0) fun v17 =>
 Qu Pr (S1) (Instr.fieldAt 141 v17 0) fun v18 =>
 Qu Pr (S1) (Instr.fieldAt 136 v18 2) fun v19 =>
 Qu Pr (S1) (Instr.loadAt 131 v19) fun v20 =>
 Cl Pr (callV (fn 87) #[v20]) w15 fun v22 w21 => S1 w21 ∧
 Qu Pr (S1) (nilS a0) fun v23 =>
 Qu Pr (S1) (Instr.fieldAt 141 v23 0) fun v24 =>
 Qu Pr (S1) (Instr.fieldAt 136 v24 3) fun v25 =>
 Qu Pr (S1) (Instr.loadAt 131 v25) fun v26 =>
 Cl Pr (callV (fn 87) #[v26]) w21 fun v28 w27 => S1 w27 ∧
 Qu Pr (S1) (nilS a0) fun v29 =>
 Qu Pr (S1) (Instr.fieldAt 141 v29 0) fun v30 =>
 Qu Pr (S1) (Instr.fieldAt 136 v30 1) fun v31 =>
 Qu Pr (S1) (Instr.loadAt 4 v31) fun v32 =>
 Ef Pr (Instr.box 4 v32) w27 fun v34 w33 => S1 w33 ∧
 Qu Pr (S1) (Instr.build 200 #[(0, v9), (2, v16), (1, v22), (3, v28), (4, v34)]) fun v35 =>
 Ef Pr (Instr.box 200 v35) w33 fun v37 w36 => S1 w36 ∧
 K v37 w36
theorem c160 {a0 : Value} {K : Value → World → Prop} {w : World} (h : t160 a0 K w) : CK Pr 160 #[a0] w K := by
  refine calls_of_RF [] Tryz.func160 rfl ?_ ?_ ?_
  · kernel_rfl
  · exact Nat.le_of_ble_eq_true rfl
  · exact cast (by kernel_rfl) h

def t165 (a0 : Value) (K : Value → World → Prop) (w : World) : Prop :=
 Ef Pr (Instr.box 134 a0) w fun v2 w1 =>
 Ef Pr (Instr.makeMap 131 none) w1 fun v4 w3 =>
 Qu Pr (Is w3) (Instr.loadAt 134 v2) fun v5 =>
 LoopW [undef, undef, (Value.int .i64 0), undef, undef, undef, undef, undef, undef, undef, undef, undef, undef, undef, undef] (fun r6 τ7 w8 =>
  Qu Pr (Is w8) (binS .lss 3 (.tmp 9) (.const (Value.int .i64 2)) (g τ7 2) (Value.int .i64 2)) fun v9 =>
  If v9 (
   Qu Pr (Is w8) (Instr.index 134 v5 (g τ7 2)) fun v10 =>
   Ef Pr (Instr.range 132 v10) w8 fun v12 w11 =>
   LoopW [(g τ7 1), (g τ7 7), (g τ7 8), (g τ7 9), (g τ7 10), (g τ7 11), (g τ7 12), (g τ7 13)] (fun r13 τ14 w15 =>
    Ef Pr (Instr.next v12 false 0) w15 fun v17 w16 =>
    Qu Pr (Is w16) (Instr.extract v17 0) fun v18 =>
    If v18 (
     Qu Pr (Is w16) (Instr.entry v12) fun v19 =>
     Qu Pr (Is w16) (Instr.extract v19 0) fun v20 =>
     Qu Pr (Is w16) (Instr.build 156 #[]) fun v21 =>
     Eu Pr (Instr.mapUpdate 131 v4 v20 v21) w16 fun w22 =>
     r13 [v20, v17, v18, v19, v20, v4, v20, v21] w22) (
     Qu Pr (Is w16) (binS .add 3 (.tmp 9) (.const (Value.int .i64 1)) (g τ7 2) (Value.int .i64 1)) fun v23 =>
     r6 [v10, (g τ14 0), v23, v9, v10, v10, v12, v17, v18, (g τ14 3), (g τ14 4), (g τ14 5), (g τ14 6), (g τ14 7), v23] w16)) w11) (
   K v4 w8)) w3
theorem c165 {a0 : Value} {K : Value → World → Prop} {w : World} (h : t165 a0 K w) : CK Pr 165 #[a0] w K := by
  refine calls_of_RF [(3, [5, 6, 9, 10, 11, 12, 13, 14, 15, 16, 17, 18, 19, 20, 21]), (6, [6, 14, 15, 16, 17, 18, 19, 20])] Tryz.func165 rfl ?_ ?_ ?_
  · kernel_rfl
  · exact Nat.le_of_ble_eq_true rfl
  · exact cast (by kernel_rfl) h

def t192 (a0 : Value) (K : Value → World → Prop) (w : World) : Prop :=
 Qu Pr (Is w) (nilS a0) fun v1 =>
 Qu Pr (Is w) (Instr.fieldAt 196 v1 1) fun v2 =>
 Cl Pr (callV (fn 262) #[v2]) w fun v4 w3 =>
 Qu Pr (Is w3) (Instr.extract v4 0) fun v5 =>
 Qu Pr (Is w3) (Instr.extract v4 1) fun v6 =>
 If v6 (
  K v5 w3) (
  Qu Pr (Is w3) (nilS a0) fun v7 =>
  Qu Pr (Is w3) (Instr.fieldAt 196 v7 0) fun v8 =>
  Qu Pr (Is w3) (Instr.loadAt 192 v8) fun v9 =>
  Cl Pr (callM v9 "FirstIndex" #[]) w3 fun v11 w10 =>
  Qu Pr (Is w10) (Instr.extract v11 0) fun v12 =>
  Qu Pr (Is w10) (Instr.extract v11 1) fun v13 =>
  Qu Pr (Is w10) (binS .neq 125 (.tmp 24) (.const Value.nilIface) v13 Value.nilIface) fun v14 =>
  If v14 (
   False) (
   K v12 w10))
theorem c192 {a0 : Value} {K : Value → World → Prop} {w : World} (h : t192 a0 K w) : CK Pr 192 #[a0] w K := by
  refine calls_of_RF [] Tryz.func192 rfl ?_ ?_ ?_
  · kernel_rfl
  · exact Nat.le_of_ble_eq_true rfl
  · exact cast (by kernel_rfl) h

@[irreducible] def t203_1 (w4 : World) (p3 : Value) (K : Value → World → Prop) : Prop :=
   Qu Pr (Is w4) (nilS p3) fun v6 =>
   Qu Pr (Is w4) (Instr.fieldAt 106 v6 0) fun v7 =>
   Qu Pr (Is w4) (Instr.loadAt 102 v7) fun v8 =>
   Cl Pr (callV (fn 98) #[v8]) w4 fun v10 w9 =>
   Qu Pr (Is w9) (nilS p3) fun v11 =>
   Qu Pr (Is w9) (Instr.fieldAt 106 v11 0) fun v12 =>
   Qu Pr (Is w9) (Instr.loadAt 102 v12) fun v13 =>
   Qu Pr (Is w9) (binS .eql 102 (.tmp 15) (.const (Value.pointer none)) v13 (Value.pointer none)) fun v14 =>
   Jo (fun  (w19 : World) => (
     Qu Pr (Is w19) (nilS p3) fun v21 =>
     Qu Pr (Is w19) (Instr.fieldAt 106 v21 1) fun v22 =>
     Qu Pr (Is w19) (Instr.loadAt 104 v22) fun v23 =>
     Qu Pr (Is w19) (binS .eql 104 (.tmp 24) (.const (Value.pointer none)) v23 (Value.pointer none)) fun v24 =>
     Jo (fun  (w29 : World) => (
       Qu Pr (Is w29) (nilS p3) fun v31 =>
       Qu Pr (Is w29) (Instr.fieldAt 106 v31 2) fun v32 =>
       Qu Pr (Is w29) (Instr.loadAt 104 v32) fun v33 =>
       Qu Pr (Is w29) (binS .eql 104 (.tmp 33) (.const (Value.pointer none)) v33 (Value.pointer none)) fun v34 =>
       Jo (fun  (w39 : World) => (
         K p3 w39 : Prop)) fun J40 =>
       If v34 (
        Ef Pr (Instr.alloc 22 true (.tuple #[])) w29 fun v42 w41 =>
        Qu Pr (Is w41) (nilS p3) fun v43 =>
        Qu Pr (Is w41) (Instr.fieldAt 106 v43 2) fun v44 =>
        Eu Pr (Instr.storeAt 104 v44 v42) w41 fun w45 =>
        J40 w45) (
        J40 w29) : Prop)) fun J30 =>
     If v24 (
      Ef Pr (Instr.alloc 22 true (.tuple #[])) w19 fun v47 w46 =>
      Qu Pr (Is w46) (nilS p3) fun v48 =>
      Qu Pr (Is w46) (Instr.fieldAt 106 v48 1) fun v49 =>
      Eu Pr (Instr.storeAt 104 v49 v47) w46 fun w50 =>
      J30 w50) (
      J30 w19) : Prop)) fun J20 =>
   If v14 (
    Qu Pr (Is w9) (nilS p3) fun v51 =>
    Qu Pr (Is w9) (Instr.fieldAt 106 v51 0) fun v52 =>
    Eu Pr (Instr.storeAt 102 v52 v10) w9 fun w53 =>
    J20 w53) (
    J20 w9)
def t203 (a0 : Value) (K : Value → World → Prop) (w : World) : Prop :=
 Qu Pr (Is w) (binS .eql 101 (.tmp 4) (.const (Value.pointer none)) a0 (Value.pointer none)) fun v1 =>
 Jo (fun (p3 : Value) (w4 : World) => (t203_1 w4 p3 K : Prop)) fun J5 =>
 If v1 (
  Ef Pr (Instr.alloc 106 true (.tuple #[])) w fun v55 w54 =>
  J5 v55 w54) (
  J5 a0 w)
theorem c203 {a0 : Value} {K : Value → World → Prop} {w : World} (h : t203 a0 K w) : CK Pr 203 #[a0] w K := by
  refine calls_of_RF [] Tryz.func203 rfl ?_ ?_ ?_
  · kernel_rfl
  · exact Nat.le_of_ble_eq_true rfl
  · exact cast (by kernel_rfl) h

def t204 (a0 : Value) (K : Value → World → Prop) (w : World) : Prop :=
 Qu Pr (Is w) (binS .eql 99 (.tmp 4) (.const (Value.slice none 0 0)) a0 (Value.slice none 0 0)) fun v1 =>
 If v1 (
  K (Value.slice none 0 0) w) (
  Qu Pr (Is w) (Builtin.len_ #[99] 3 #[a0]) fun v2 =>
  Ef Pr (Instr.makeSlice 99 v2 v2) w fun v4 w3 =>
  Ef Pr (Builtin.copy_ #[99, 99] 3 #[v4, a0]) w3 fun _ w5 =>
  K v4 w5)
theorem c204 {a0 : Value} {K : Value → World → Prop} {w : World} (h : t204 a0 K w) : CK Pr 204 #[a0] w K := by
  refine calls_of_RF [] Tryz.func204 rfl ?_ ?_ ?_
  · kernel_rfl
  · exact Nat.le_of_ble_eq_true rfl
  · exact cast (by kernel_rfl) h

def t205 (a0 : Value) (K : Value → World → Prop) (w : World) : Prop :=
 Qu Pr (Is w) (binS .eql 101 (.tmp 3) (.const (Value.pointer none)) a0 (Value.pointer none)) fun v1 =>
 If v1 (
  K (Value.pointer none) w) (
  Dr w fun S2 w3 =>
  Qu Pr (S2) (nilS a0) fun v4 =>
  Qu Pr (S2) (Instr.fieldAt 106 v4 0) fun v5 =>
  Qu Pr (S2) (Instr.loadAt 102 v5) fun v6 =>
  Cl Pr (callV (fn 226) #[v6]) w3 fun v8 w7 => S2 w7 ∧
  Qu Pr (S2) (nilS a0) fun v9 =>
  Qu Pr (S2) (Instr.fieldAt 106 v9 1) fun v10 =>
  Qu Pr (S2) (Instr.loadAt 104 v10) fun v11 =>
  Cl Pr (callV (fn 266) #[v11]) w7 fun v13 w12 => S2 w12 ∧
  Qu Pr (S2) (nilS a0) fun v14 =>
  Qu Pr (S2) (Instr.fieldAt 106 v14 2) fun v15 =>
  Qu Pr (S2) (Instr.loadAt 104 v15) fun v16 =>
  Cl Pr (callV (fn 266) #[v16]) w12 fun v18 w17 => S2 w17 ∧
  Qu Pr (S2) (Instr.build 106 #[(0, v8), (1, v13), (2, v18)]) fun v19 =>
  Ef Pr (Instr.box 106 v19) w17 fun v21 w20 => S2 w20 ∧
  K v21 w20)
theorem c205 {a0 : Value} {K : Value → World → Prop} {w : World} (h : t205 a0 K w) : CK Pr 205 #[a0] w K := by
  refine calls_of_RF [] Tryz.func205 rfl ?_ ?_ ?_
  · kernel_rfl
  · exact Nat.le_of_ble_eq_true rfl
  · exact cast (by kernel_rfl) h

def t210 (a0 : Value) (K : Value → World → Prop) (w : World) : Prop :=
 Qu Pr (Is w) (binS .neq 102 (.tmp 3) (.const (Value.pointer none)) a0 (Value.pointer none)) fun v1 =>
 If v1 (
  Qu Pr (Is w) (nilS a0) fun v2 =>
  Qu Pr (Is w) (Instr.fieldAt 200 v2 0) fun v3 =>
  Qu Pr (Is w) (Instr.loadAt 23 v3) fun v4 =>
  K v4 w) (
  K (Value.slice none 0 0) w)
theorem c210 {a0 : Value} {K : Value → World → Prop} {w : World} (h : t210 a0 K w) : CK Pr 210 #[a0] w K := by
  refine calls_of_RF [] Tryz.func210 rfl ?_ ?_ ?_
  · kernel_rfl
  · exact Nat.le_of_ble_eq_true rfl
  · exact cast (by kernel_rfl) h

def t211 (a0 : Value) (K : Value → World → Prop) (w : World) : Prop :=
 Qu Pr (Is w) (binS .neq 102 (.tmp 3) (.const (Value.pointer none)) a0 (Value.pointer none)) fun v1 =>
 If v1 (
  Qu Pr (Is w) (nilS a0) fun v2 =>
  Qu Pr (Is w) (Instr.fieldAt 200 v2 1) fun v3 =>
  Qu Pr (Is w) (Instr.loadAt 23 v3) fun v4 =>
  K v4 w) (
  K (Value.slice none 0 0) w)
theorem c211 {a0 : Value} {K : Value → World → Prop} {w : World} (h : t211 a0 K w) : CK Pr 211 #[a0] w K := by
  refine calls_of_RF [] Tryz.func211 rfl ?_ ?_ ?_
  · kernel_rfl
  · exact Nat.le_of_ble_eq_true rfl
  · exact cast (by kernel_rfl) h

def t212 (a0 : Value) (K : Value → World → Prop) (w : World) : Prop :=
 Qu Pr (Is w) (binS .neq 102 (.tmp 3) (.const (Value.pointer none)) a0 (Value.pointer none)) fun v1 =>
 If v1 (
  Qu Pr (Is w) (nilS a0) fun v2 =>
  Qu Pr (Is w) (Instr.fieldAt 200 v2 2) fun v3 =>
  Qu Pr (Is w) (Instr.loadAt 23 v3) fun v4 =>
  K v4 w) (
  K (Value.slice none 0 0) w)
theorem c212 {a0 : Value} {K : Value → World → Prop} {w : World} (h : t212 a0 K w) : CK Pr 212 #[a0] w K := by
  refine calls_of_RF [] Tryz.func212 rfl ?_ ?_ ?_
  · kernel_rfl
  · exact Nat.le_of_ble_eq_true rfl
  · exact cast (by kernel_rfl) h

def t213 (a0 : Value) (K : Value → World → Prop) (w : World) : Prop :=
 Qu Pr (Is w) (binS .neq 102 (.tmp 3) (.const (Value.pointer none)) a0 (Value.pointer none)) fun v1 =>
 If v1 (
  Qu Pr (Is w) (nilS a0) fun v2 =>
  Qu Pr (Is w) (Instr.fieldAt 200 v2 3) fun v3 =>
  Qu Pr (Is w) (Instr.loadAt 23 v3) fun v4 =>
  K v4 w) (
  K (Value.slice none 0 0) w)
theorem c213 {a0 : Value} {K : Value → World → Prop} {w : World} (h : t213 a0 K w) : CK Pr 213 #[a0] w K := by
  refine calls_of_RF [] Tryz.func213 rfl ?_ ?_ ?_
  · kernel_rfl
  · exact Nat.le_of_ble_eq_true rfl
  · exact cast (by kernel_rfl) h

def t214 (a0 a1 : Value) (K : Value → World → Prop) (w : World) : Prop :=
 Qu Pr (Is w) (nilS a0) fun v1 =>
 Qu Pr (Is w) (Instr.fieldAt 194 v1 2) fun v2 =>
 Qu Pr (Is w) (Instr.loadAt 22 v2) fun v3 =>
 Qu Pr (Is w) (binS .lss 22 (.tmp 8) (.tmp 12) a1 v3) fun v4 =>
 If v4 (
  Qu Pr (Is w) (nilS a0) fun v5 =>
  Qu Pr (Is w) (Instr.fieldAt 194 v5 0) fun v6 =>
  Qu Pr (Is w) (Instr.loadAt 75 v6) fun v7 =>
  Qu Pr (Is w) (binS .neq 75 (.tmp 17) (.const (Value.pointer none)) v7 (Value.pointer none)) fun v8 =>
  Gd v8 true (fun k9 => k9 a0 w) w fun v10 w11 =>
  Gd v8 true (fun k12 => Qu Pr (Is w11) (nilS v10) fun v15 => k12 v15 w11) w11 fun v13 w14 =>
  Gd v8 true (fun k16 => Qu Pr (Is w14) (Instr.fieldAt 194 v13 0) fun v19 => k16 v19 w14) w14 fun v17 w18 =>
  Gd v8 true (fun k20 => Qu Pr (Is w18) (Instr.loadAt 75 v17) fun v23 => k20 v23 w18) w18 fun v21 w22 =>
  Gd v8 true (fun k24 => Cl Pr (callV (fn 95) #[v21]) w22 fun v25x w26x => k24 v25x w26x) w22 fun v25 w26 =>
  Gd v8 true (fun k27 => Cl Pr (callV (fn 96) #[v25]) w26 fun v28x w29x => k27 v28x w29x) w26 fun v28 w29 =>
  Gd v8 true (fun k30 => k30 a1 w29) w29 fun v31 w32 =>
  Gd v8 true (fun k33 => Qu Pr (Is w32) (binS .eql 22 (.tmp 25) (.tmp 26) v28 v31) fun v36 => k33 v36 w32) w32 fun v34 w35 =>
  Qu Pr (Is w35) (pickS v8 v34 (Value.bool false)) fun v37 =>
  If v37 (
   Qu Pr (Is w35) (nilS a0) fun v38 =>
   Qu Pr (Is w35) (Instr.fieldAt 194 v38 0) fun v39 =>
   Qu Pr (Is w35) (Instr.loadAt 75 v39) fun v40 =>
   Cl Pr (callV (fn 95) #[v40]) w35 fun v42 w41 =>
   Cl Pr (callV (fn 99) #[v42]) w41 fun v44 w43 =>
   K (.tuple #[v44, (Value.bool true)]) w43) (
   K (.tuple #[(Value.int .u64 0), (Value.bool false)]) w35)) (
  Cl Pr (callV (fn 158) #[a0]) w fun v46 w45 =>
  Qu Pr (Is w45) (Instr.extract v46 0) fun v47 =>
  Qu Pr (Is w45) (Instr.extract v46 1) fun v48 =>
  Qu Pr (Is w45) (Op.unary .not v48) fun v49 =>
  If v49 (
   K (.tuple #[(Value.int .u64 0), (Value.bool false)]) w45) (
   Qu Pr (Is w45) (binS .gtr 22 (.tmp 42) (.tmp 43) a1 v47) fun v50 =>
   If v50 (
    K (.tuple #[(Value.int .u64 0), (Value.bool false)]) w45) (
    Dr w45 fun S51 w52 =>
    Qu Pr (S51) (nilS a0) fun v53 =>
    Qu Pr (S51) (Instr.fieldAt 194 v53 1) fun v54 =>
    Qu Pr (S51) (Instr.loadAt 115 v54) fun v55 =>
    Qu Pr (S51) (nilS a0) fun v56 =>
    Qu Pr (S51) (Instr.fieldAt 194 v56 2) fun v57 =>
    Qu Pr (S51) (Instr.loadAt 22 v57) fun v58 =>
    Qu Pr (S51) (binS .sub 22 (.tmp 49) (.tmp 53) a1 v58) fun v59 =>
    Qu Pr (S51) (Instr.indexAt 115 v55 v59) fun v60 =>
    Qu Pr (S51) (Instr.loadAt 212 v60) fun v61 =>
    Cl Pr (callV (fn 128) #[v61]) w52 fun v63 w62 => S51 w62 ∧
    K (.tuple #[v63, (Value.bool true)]) w62)))
theorem c214 {a0 a1 : Value} {K : Value → World → Prop} {w : World} (h : t214 a0 a1 K w) : CK Pr 214 #[a0, a1] w K := by
  refine calls_of_RF [] Tryz.func214 rfl ?_ ?_ ?_
  · kernel_rfl
  · exact Nat.le_of_ble_eq_true rfl
  · exact cast (by kernel_rfl) h

def t215 (a0 : Value) (K : Value → World → Prop) (w : World) : Prop :=
 Ef Pr (Instr.alloc 306 true (.tuple #[])) w fun v2 w1 =>
 Qu Pr (Is w1) (nilS v2) fun v3 =>
 Eu Pr (Instr.storeAt 306 v3 a0) w1 fun w4 =>
 K v2 w4
theorem c215 {a0 : Value} {K : Value → World → Prop} {w : World} (h : t215 a0 K w) : CK Pr 215 #[a0] w K := by
  refine calls_of_RF [] Tryz.func215 rfl ?_ ?_ ?_
  · kernel_rfl
  · exact Nat.le_of_ble_eq_true rfl
  · exact cast (by kernel_rfl) h

def t216 (a0 : Value) (K : Value → World → Prop) (w : World) : Prop :=
 Ef Pr (Instr.box 209 a0) w fun v2 w1 =>
 Ef Pr (Instr.alloc 136 true (.tuple #[])) w1 fun v4 w3 =>
 Qu Pr (Is w3) (Instr.fieldAt 209 v2 0) fun v5 =>
 Qu Pr (Is w3) (Instr.fieldAt 141 v5 0) fun v6 =>
 Cl Pr (callV (fn 280) #[v6]) w3 fun v8 w7 =>
 Ef Pr (Instr.alloc 136 true (.tuple #[])) w7 fun v10 w9 =>
 Eu Pr (Instr.storeAt 136 v10 v8) w9 fun w11 =>
 Ef Pr (Instr.makeMap 138 none) w11 fun v13 w12 =>
 Qu Pr (Is w12) (Instr.fieldAt 209 v2 0) fun v14 =>
 Qu Pr (Is w12) (Instr.fieldAt 141 v14 1) fun v15 =>
 Qu Pr (Is w12) (Instr.loadAt 138 v15) fun v16 =>
 Ef Pr (Instr.range 138 v16) w12 fun v18 w17 =>
 LoopW [undef, undef, undef, undef, undef, undef, undef, undef, undef, undef, undef, undef, undef] (fun r19 _ w21 =>
  Ef Pr (Instr.next v18 false 0) w21 fun v23 w22 =>
  Qu Pr (Is w22) (Instr.extract v23 0) fun v24 =>
  If v24 (
   Qu Pr (Is w22) (Instr.entry v18) fun v25 =>
   Qu Pr (Is w22) (Instr.extract v25 0) fun v26 =>
   Qu Pr (Is w22) (Instr.extract v25 1) fun v27 =>
   Qu Pr (Is w22) (nilS v27) fun v28 =>
   Qu Pr (Is w22) (Instr.loadAt 152 v28) fun v29 =>
   Ef Pr (Instr.alloc 152 true (.tuple #[])) w22 fun v31 w30 =>
   Eu Pr (Instr.storeAt 152 v31 v29) w30 fun w32 =>
   Eu Pr (Instr.mapUpdate 138 v13 v26 v31) w32 fun w33 =>
   r19 [v26, v27, v31, v23, v24, v25, v26, v27, v27, v28, v29, v13, v26] w33) (
   Qu Pr (Is w22) (Instr.loadAt 136 v10) fun v34 =>
   Cl Pr (callV (fn 223) #[v34, v13]) w22 fun v36 w35 =>
   Qu Pr (Is w35) (Instr.extract v36 0) fun v37 =>
   Qu Pr (Is w35) (Instr.extract v36 1) fun v38 =>
   Qu Pr (Is w35) (Instr.extract v36 2) fun v39 =>
   Eu Pr (Instr.storeAt 136 v4 v37) w35 fun w40 =>
   Qu Pr (Is w40) (Instr.loadAt 136 v4) fun v41 =>
   K (.tuple #[v41, v38, v39]) w40)) w17
theorem c216 {a0 : Value} {K : Value → World → Prop} {w : World} (h : t216 a0 K w) : CK Pr 216 #[a0] w K := by
  refine calls_of_RF [(4, [7, 8, 9, 18, 19, 20, 21, 22, 23, 24, 25, 26, 27])] Tryz.func216 rfl ?_ ?_ ?_
  · kernel_rfl
  · exact Nat.le_of_ble_eq_true rfl
  · exact cast (by kernel_rfl) h

def t218 (a0 : Value) (K : Value → World → Prop) (w : World) : Prop :=
 Ef Pr (Instr.box 136 a0) w fun v2 w1 =>
 Qu Pr (Is w1) (Instr.fieldAt 136 v2 0) fun v3 =>
 Qu Pr (Is w1) (Instr.loadAt 134 v3) fun v4 =>
 Cl Pr (callV (fn 225) #[v4]) w1 fun v6 w5 =>
 Qu Pr (Is w5) (Builtin.len_ #[132] 3 #[v6]) fun v7 =>
 Qu Pr (Is w5) (binS .gtr 3 (.tmp 6) (.const (Value.int .i64 0)) v7 (Value.int .i64 0)) fun v8 =>
 K v8 w5
theorem c218 {a0 : Value} {K : Value → World → Prop} {w : World} (h : t218 a0 K w) : CK Pr 218 #[a0] w K := by
  refine calls_of_RF [] Tryz.func218 rfl ?_ ?_ ?_
  · kernel_rfl
  · exact Nat.le_of_ble_eq_true rfl
  · exact cast (by kernel_rfl) h

@[irreducible] def t220_1 (τ5 : List Value) (r4 : List Value → World → Prop) (v7 : Value) (w6 : World) (a3 : Value) (v2 : Value) (a1 : Value) (a2 : Value) (K : Value → World → Prop) : Prop :=
   Jo (fun (p8 : Value) (p9 : Value) (p10 : Value) (p11 : Value) (p12 : Value) (p13 : Value) (p14 : Value) (p15 : Value) (p16 : Value) (p17 : Value) (p18 : Value) (p19 : Value) (p20 : Value) (p21 : Value) (p22 : Value) (p23 : Value) (p24 : Value) (p25 : Value) (p26 : Value) (p27 : Value) (p28 : Value) (p29 : Value) (p30 : Value) (p31 : Value) (p32 : Value) (p33 : Value) (p34 : Value) (p35 : Value) (p36 : Value) (p37 : Value) (p38 : Value) (p39 : Value) (p40 : Value) (p41 : Value) (p42 : Value) (p43 : Value) (w44 : World) => (
     Qu Pr (Is w44) (binS .add 3 (.tmp 13) (.const (Value.int .i64 1)) (g τ5 2) (Value.int .i64 1)) fun v46 =>
     r4 [p43, p10, v46, v7, p8, p9, p11, p12, p13, p14, p15, p42, p17, p16, p18, p19, p20, p21, p22, p23, p25, p24, p26, p27, p28, p29, p30, p31, p33, p32, p34, p35, p36, p37, p38, p39, p41, p40, v46] w44 : Prop)) fun J45 =>
   Qu Pr (Is w6) (Instr.indexAt 247 a3 (g τ5 2)) fun v47 =>
   Qu Pr (Is w6) (Instr.loadAt 251 v47) fun v48 =>
   Cl Pr (callV (fn 281) #[v48]) w6 fun v50 w49 =>
   Qu Pr (Is w49) (binS .eql 22 (.tmp 18) (.const (Value.int .u64 0)) v50 (Value.int .u64 0)) fun v51 =>
   If v51 (
    J45 v47 v48 v48 v48 v50 v51 (g τ5 9) (g τ5 10) (g τ5 13) (g τ5 12) (g τ5 14) (g τ5 15) (g τ5 16) (g τ5 17) (g τ5 18) (g τ5 19) (g τ5 21) (g τ5 20) (g τ5 22) (g τ5 23) (g τ5 24) (g τ5 25) (g τ5 26) (g τ5 27) (g τ5 29) (g τ5 28) (g τ5 30) (g τ5 31) (g τ5 32) (g τ5 33) (g τ5 34) (g τ5 35) (g τ5 37) (g τ5 36) (g τ5 11) (g τ5 0) w49) (
    Cl Pr (callV (fn 282) #[v48]) w49 fun v53 w52 =>
    Qu Pr (Is w52) (binS .eql 306 (.tmp 21) (.const (Value.int .i32 0)) v53 (Value.int .i32 0)) fun v54 =>
    Jo (fun (p55 : Value) (p56 : Value) (p57 : Value) (p58 : Value) (p59 : Value) (p60 : Value) (p61 : Value) (p62 : Value) (p63 : Value) (p64 : Value) (p65 : Value) (p66 : Value) (p67 : Value) (p68 : Value) (p69 : Value) (p70 : Value) (p71 : Value) (p72 : Value) (p73 : Value) (p74 : Value) (p75 : Value) (p76 : Value) (p77 : Value) (p78 : Value) (p79 : Value) (p80 : Value) (w81 : World) => (
      J45 v47 v48 v48 v48 v50 v51 v48 v53 v54 v54 p55 p56 p57 p58 p59 p60 p61 p62 p63 p64 p65 p66 p67 p68 p69 p70 p71 p72 p73 p74 p75 p76 p77 p78 p79 p80 w81 : Prop)) fun J82 =>
    If v54 (
     Dr w52 fun S83 w84 =>
     Qu Pr (S83) (Instr.loadAt 209 v2) fun v85 =>
     Cl Pr (callV (fn 281) #[v48]) w84 fun v87 w86 => S83 w86 ∧
     Cl Pr (callV (fn 283) #[v85, a1, a2, v87]) w86 fun v89 w88 => S83 w88 ∧
     J82 v85 a1 a2 v48 v87 v89 (g τ5 21) (g τ5 20) (g τ5 22) (g τ5 23) (g τ5 24) (g τ5 25) (g τ5 26) (g τ5 27) (g τ5 29) (g τ5 28) (g τ5 30) (g τ5 31) (g τ5 32) (g τ5 33) (g τ5 34) (g τ5 35) (g τ5 37) (g τ5 36) (g τ5 11) (g τ5 0) w88) (
     Qu Pr (Is w52) (binS .eql 306 (.tmp 21) (.const (Value.int .i32 3)) v53 (Value.int .i32 3)) fun v90 =>
     Jo (fun (p91 : Value) (p92 : Value) (p93 : Value) (p94 : Value) (p95 : Value) (p96 : Value) (p97 : Value) (p98 : Value) (p99 : Value) (p100 : Value) (p101 : Value) (p102 : Value) (p103 : Value) (p104 : Value) (p105 : Value) (p106 : Value) (p107 : Value) (p108 : Value) (w109 : World) => (
       J82 (g τ5 14) (g τ5 15) (g τ5 16) (g τ5 17) (g τ5 18) (g τ5 19) v90 v90 p91 p92 p93 p94 p95 p96 p97 p98 p99 p100 p101 p102 p103 p104 p105 p106 p107 p108 w109 : Prop)) fun J110 =>
     If v90 (
      Dr w52 fun S111 w112 =>
      Qu Pr (S111) (Instr.loadAt 209 v2) fun v113 =>
      Cl Pr (callV (fn 281) #[v48]) w112 fun v115 w114 => S111 w114 ∧
      Cl Pr (callV (fn 284) #[v113, a1, a2, v115]) w114 fun v117 w116 => S111 w116 ∧
      J110 v113 a1 a2 v48 v115 v117 (g τ5 29) (g τ5 28) (g τ5 30) (g τ5 31) (g τ5 32) (g τ5 33) (g τ5 34) (g τ5 35) (g τ5 37) (g τ5 36) (g τ5 11) (g τ5 0) w116) (
      Qu Pr (Is w52) (binS .eql 306 (.tmp 21) (.const (Value.int .i32 1)) v53 (Value.int .i32 1)) fun v118 =>
      Jo (fun (p119 : Value) (p120 : Value) (p121 : Value) (p122 : Value) (p123 : Value) (p124 : Value) (p125 : Value) (p126 : Value) (p127 : Value) (p128 : Value) (w129 : World) => (
        J110 (g τ5 22) (g τ5 23) (g τ5 24) (g τ5 25) (g τ5 26) (g τ5 27) v118 v118 p119 p120 p121 p122 p123 p124 p125 p126 p127 p128 w129 : Prop)) fun J130 =>
      If v118 (
       Dr w52 fun S131 w132 =>
       Qu Pr (S131) (Instr.loadAt 209 v2) fun v133 =>
       Cl Pr (callV (fn 281) #[v48]) w132 fun v135 w134 => S131 w134 ∧
       Cl Pr (callV (fn 285) #[v133, a1, a2, v135]) w134 fun v137 w136 => S131 w136 ∧
       J130 v133 a1 a2 v48 v135 v137 (g τ5 37) (g τ5 36) (g τ5 11) (g τ5 0) w136) (
       Qu Pr (Is w52) (binS .eql 306 (.tmp 21) (.const (Value.int .i32 2)) v53 (Value.int .i32 2)) fun v138 =>
       If v138 (
        J130 (g τ5 30) (g τ5 31) (g τ5 32) (g τ5 33) (g τ5 34) (g τ5 35) v138 v138 (g τ5 11) (g τ5 0) w52) (
        Cl Pr (callV (fn 219) #[(Value.string (ByteArray.mk #[117, 110, 101, 120, 112, 101, 99, 116, 101, 100, 32, 99, 111, 110, 102, 32, 116, 121, 112, 101]))]) w52 fun v140 w139 =>
        K v140 w139)))))
def t220 (a0 a1 a2 a3 : Value) (K : Value → World → Prop) (w : World) : Prop :=
 Ef Pr (Instr.box 209 a0) w fun v2 w1 =>
 Qu Pr (Is w1) (Builtin.len_ #[247] 3 #[a3]) fun v3 =>
 LoopW [Value.nilIface, undef, (Value.int .i64 0), undef, undef, undef, undef, undef, undef, undef, undef, undef, undef, undef, undef, undef, undef, undef, undef, undef, undef, undef, undef, undef, undef, undef, undef, undef, undef, undef, undef, undef, undef, undef, undef, undef, undef, undef, undef] (fun r4 τ5 w6 =>
  Qu Pr (Is w6) (binS .lss 3 (.tmp 13) (.tmp 12) (g τ5 2) v3) fun v7 =>
  If v7 (t220_1 τ5 r4 v7 w6 a3 v2 a1 a2 K) (
   Qu Pr (Is w6) (nilS a1) fun v141 =>
   Qu Pr (Is w6) (Instr.fieldAt 136 v141 0) fun v142 =>
   Qu Pr (Is w6) (Instr.loadAt 134 v142) fun v143 =>
   Cl Pr (callV (fn 222) #[v143]) w6 fun v145 w144 =>
   Qu Pr (Is w144) (Builtin.len_ #[132] 3 #[v145]) fun v146 =>
   Qu Pr (Is w144) (binS .eql 3 (.tmp 55) (.const (Value.int .i64 0)) v146 (Value.int .i64 0)) fun v147 =>
   If v147 (
    Cl Pr (callV (fn 219) #[(Value.string (ByteArray.mk #[114, 101, 109, 111, 118, 101, 100, 32, 97, 108, 108, 32, 118, 111, 116, 101, 114, 115]))]) w144 fun v149 w148 =>
    K v149 w148) (
    K Value.nilIface w144))) w1
theorem c220 {a0 a1 a2 a3 : Value} {K : Value → World → Prop} {w : World} (h : t220 a0 a1 a2 a3 K w) : CK Pr 220 #[a0, a1, a2, a3] w K := by
  refine calls_of_RF [(2, [8, 10, 13, 14, 15, 16, 17, 18, 19, 20, 21, 22, 23, 24, 25, 26, 27, 28, 29, 30, 31, 32, 33, 34, 35, 36, 37, 38, 39, 40, 41, 42, 43, 44, 45, 46, 47, 48, 49])] Tryz.func220 rfl ?_ ?_ ?_
  · kernel_rfl
  · exact Nat.le_of_ble_eq_true rfl
  · exact cast (by kernel_rfl) h

def t221 (a0 a1 : Value) (K : Value → World → Prop) (w : World) : Prop :=
 Qu Pr (Is w) (Instr.build 133 #[(0, a0), (1, a1)]) fun v1 =>
 Qu Pr (Is w) (Instr.build 133 #[(0, a1), (1, a0)]) fun v2 =>
 Ef Pr (Instr.buildSlice 379 2 #[(0, v1), (1, v2)]) w fun v4 w3 =>
 Qu Pr (Is w3) (Builtin.len_ #[379] 3 #[v4]) fun v5 =>
 LoopW [(Value.int .i64 0), undef, undef, undef, undef, (Value.int .i64 0), undef, undef, undef, undef, undef, undef, undef, undef, undef, undef, undef, undef, undef, undef, undef, undef, undef, undef, undef, undef, undef, undef] (fun r6 τ7 w8 =>
  Qu Pr (Is w8) (binS .lss 3 (.tmp 21) (.tmp 20) (g τ7 5) v5) fun v9 =>
  If v9 (
   Qu Pr (Is w8) (Instr.indexAt 379 v4 (g τ7 5)) fun v10 =>
   Qu Pr (Is w8) (Instr.loadAt 133 v10) fun v11 =>
   Ef Pr (Instr.alloc 133 true (.tuple #[])) w8 fun v13 w12 =>
   Eu Pr (Instr.storeAt 133 v13 v11) w12 fun w14 =>
   Qu Pr (Is w14) (Instr.indexAt 133 v13 (Value.int .i64 0)) fun v15 =>
   Qu Pr (Is w14) (Instr.loadAt 132 v15) fun v16 =>
   Ef Pr (Instr.range 132 v16) w14 fun v18 w17 =>
   LoopW [(g τ7 0), (g τ7 2), (g τ7 3), (g τ7 4), (g τ7 12), (g τ7 13), (g τ7 14), (g τ7 15), (g τ7 16), (g τ7 17), (g τ7 18), (g τ7 19), (g τ7 20), (g τ7 21), (g τ7 22), (g τ7 23), (g τ7 24), (g τ7 25), (g τ7 26)] (fun r19 τ20 w21 =>
    Ef Pr (Instr.next v18 false 0) w21 fun v23 w22 =>
    Qu Pr (Is w22) (Instr.extract v23 0) fun v24 =>
    If v24 (
     Qu Pr (Is w22) (Instr.entry v18) fun v25 =>
     Qu Pr (Is w22) (Instr.extract v25 0) fun v26 =>
     Qu Pr (Is w22) (Instr.indexAt 133 v13 (Value.int .i64 1)) fun v27 =>
     Qu Pr (Is w22) (Instr.loadAt 132 v27) fun v28 =>
     Qu Pr (Is w22) (Instr.lookup 132 v28 v26 true) fun v29 =>
     Qu Pr (Is w22) (Instr.extract v29 0) fun v30 =>
     Qu Pr (Is w22) (Instr.extract v29 1) fun v31 =>
     Ef Pr (Instr.alloc 156 true (.tuple #[])) w22 fun v33 w32 =>
     Eu Pr (Instr.storeAt 156 v33 v30) w32 fun w34 =>
     Qu Pr (Is w34) (Op.unary .not v31) fun v35 =>
     Jo (fun (p36 : Value) (p37 : Value) (p38 : Value) (w39 : World) => (
       r19 [p38, v26, v33, v31, v23, v24, v25, v26, v29, v27, v28, v26, v29, v30, v31, v31, v35, p36, p37] w39 : Prop)) fun J40 =>
     If v35 (
      Qu Pr (Is w34) (binS .add 3 (.tmp 41) (.const (Value.int .i64 1)) (g τ20 0) (Value.int .i64 1)) fun v41 =>
      J40 (g τ20 0) v41 v41 w34) (
      J40 (g τ20 17) (g τ20 18) (g τ20 0) w34)) (
     Qu Pr (Is w22) (binS .add 3 (.tmp 21) (.const (Value.int .i64 1)) (g τ7 5) (Value.int .i64 1)) fun v42 =>
     r6 [(g τ20 0), v13, (g τ20 1), (g τ20 2), (g τ20 3), v42, v9, v10, v11, v15, v16, v18, v23, v24, (g τ20 6), (g τ20 7), (g τ20 8), (g τ20 9), (g τ20 10), (g τ20 11), (g τ20 12), (g τ20 13), (g τ20 14), (g τ20 15), (g τ20 16), (g τ20 17), (g τ20 18), v42] w22)) w17) (
   K (g τ7 0) w8)) w3
theorem c221 {a0 a1 : Value} {K : Value → World → Prop} {w : World} (h : t221 a0 a1 K w) : CK Pr 221 #[a0, a1] w K := by
  refine calls_of_RF [(4, [5, 8, 9, 10, 11, 21, 22, 23, 24, 25, 26, 27, 28, 29, 30, 31, 32, 33, 34, 35, 36, 37, 38, 39, 40, 41, 42, 43]), (7, [5, 9, 10, 11, 28, 29, 30, 31, 32, 33, 34, 35, 36, 37, 38, 39, 40, 41, 42])] Tryz.func221 rfl ?_ ?_ ?_
  · kernel_rfl
  · exact Nat.le_of_ble_eq_true rfl
  · exact cast (by kernel_rfl) h

def t222 (a0 : Value) (K : Value → World → Prop) (w : World) : Prop :=
 Ef Pr (Instr.box 134 a0) w fun v2 w1 =>
 Qu Pr (Is w1) (Instr.indexAt 134 v2 (Value.int .i64 0)) fun v3 =>
 Qu Pr (Is w1) (Instr.loadAt 132 v3) fun v4 =>
 K v4 w1
theorem c222 {a0 : Value} {K : Value → World → Prop} {w : World} (h : t222 a0 K w) : CK Pr 222 #[a0] w K := by
  refine calls_of_RF [] Tryz.func222 rfl ?_ ?_ ?_
  · kernel_rfl
  · exact Nat.le_of_ble_eq_true rfl
  · exact cast (by kernel_rfl) h

def t223 (a0 a1 : Value) (K : Value → World → Prop) (w : World) : Prop :=
 Ef Pr (Instr.box 136 a0) w fun v2 w1 =>
 Ef Pr (Instr.alloc 136 true (.tuple #[])) w1 fun v4 w3 =>
 Qu Pr (Is w3) (Instr.loadAt 136 v2) fun v5 =>
 Cl Pr (callV (fn 286) #[v5, a1]) w3 fun v7 w6 =>
 Qu Pr (Is w6) (binS .neq 125 (.tmp 11) (.const Value.nilIface) v7 Value.nilIface) fun v8 =>
 If v8 (
  Qu Pr (Is w6) (Instr.build 136 #[]) fun v9 =>
  Ef Pr (Instr.makeMap 138 none) w6 fun v11 w10 =>
  Eu Pr (Instr.storeAt 136 v4 v9) w10 fun w12 =>
  Qu Pr (Is w12) (Instr.loadAt 136 v4) fun v13 =>
  K (.tuple #[v13, v11, v7]) w12) (
  Qu Pr (Is w6) (Instr.loadAt 136 v2) fun v14 =>
  Eu Pr (Instr.storeAt 136 v4 v14) w6 fun w15 =>
  Qu Pr (Is w15) (Instr.loadAt 136 v4) fun v16 =>
  K (.tuple #[v16, a1, Value.nilIface]) w15)
theorem c223 {a0 a1 : Value} {K : Value → World → Prop} {w : World} (h : t223 a0 a1 K w) : CK Pr 223 #[a0, a1] w K := by
  refine calls_of_RF [] Tryz.func223 rfl ?_ ?_ ?_
  · kernel_rfl
  · exact Nat.le_of_ble_eq_true rfl
  · exact cast (by kernel_rfl) h

end Go.Proofs.YtmmpogfbhelioaaGreat
/-
  The machine as plain data: what an argument of a law holds.
  Conditions: none.
-/
namespace Go.Proofs.YtmmpogfbhelioaaGreat
set_option maxRecDepth 10000
set_option linter.unusedVariables false
set_option linter.unusedSimpArgs false

def u64 (n : Int) : Prop := 0 ≤ n ∧ n ≤ 18446744073709551615
def i64 (n : Int) : Prop := -9223372036854775808 ≤ n ∧ n ≤ 9223372036854775807

/-- A peer's progress. -/
structure Pe where
  id : Int
  ma : Int
  ne : Int
  st : Int
  pend : Int
  act : Bool
  pau : Bool
  lea : Bool
  size : Int
  mx : Int
  flV : Value
  byV : Value
  fl : List Int
  byt : List Int

def Pe.pcells (p : Pe) : List Value := [.int .u64 p.ma, .int .u64 p.ne, .int .i64 p.st, .int .u64 p.pend, .bool p.act, .bool p.pau, .bool p.lea, .int .i64 p.size, .int .u64 p.mx, p.flV, p.byV]
def Pe.cells (p : Pe) : List Value := [.int .u64 p.id, .int .u64 p.ma, .int .u64 p.ne, .int .i64 p.st, .int .u64 p.pend, .bool p.act, .bool p.pau, .bool p.lea, .int .i64 p.size, .int .u64 p.mx, p.flV, p.byV]

structure PeOk (p : Pe) : Prop where
  id : u64 p.id
  ma : u64 p.ma
  ne : u64 p.ne
  st : i64 p.st
  pend : u64 p.pend
  size : i64 p.size
  mx : u64 p.mx

/-- Ballots. -/
def bals (l : List (Int × Bool)) : List (List Value) := l.map fun p => [.int .u64 p.1, .bool p.2]

structure EnOk (e : En) : Prop where
  t : u64 e.t
  i : u64 e.i
  k : i64 e.k
  d : e.d.size ≤ 9223372036854775807

structure Mac where
  id : Int
  term : Int
  vote : Int
  lead : Int
  role : Int
  base : Sn
  cvV : Value
  clV : Value
  coV : Value
  cnV : Value
  stV : Value
  frV : Value
  st : List En
  fr : List En
  commit : Int
  applied : Int
  voV : Value
  leV : Value
  peV : Value
  vsV : Value
  vo : List Int
  le : List Int
  pe : List Pe
  vs : List (Int × Bool)
  pv : Bool
  cq : Bool
  el : Int
  hb : Int
  to : Int
  ep : Int
  be : Int
  ms : Int
  mu : Int
  un : Int
  tr : Int

def Mac.cells (m : Mac) : Array Value := #[.int .u64 m.id, .int .u64 m.term, .int .u64 m.vote, .int .u64 m.lead, .int .i64 m.role, .string m.base.d, .int .u64 m.base.i, .int .u64 m.base.t, m.cvV, m.clV, m.coV, m.cnV, .bool m.base.c.a,
  m.stV, m.frV, .int .u64 m.commit, .int .u64 m.applied, m.voV, m.leV, m.peV, m.vsV, .bool m.pv, .bool m.cq, .int .i64 m.el, .int .i64 m.hb, .int .i64 m.to, .int .i64 m.ep, .int .i64 m.be, .int .u64 m.ms, .int .u64 m.mu, .int .u64 m.un, .int .u64 m.tr]

structure IsCf (w : World) (v1 v2 v3 v4 : Value) (c : Cf) : Prop where
  v : Nums w none v1 c.v
  l : Nums w none v2 c.l
  o : Nums w none v3 c.o
  n : Nums w none v4 c.n

structure IsMac (w : World) (m : Mac) : Prop where
  cf : IsCf w m.cvV m.clV m.coV m.cnV m.base.c
  st : Ens w none m.stV m.st
  fr : Ens w none m.frV m.fr
  vo : Nums w none m.voV m.vo
  le : Nums w none m.leV m.le
  pe : Sl w none 12 m.peV (m.pe.map Pe.cells)
  pes : ∀ p ∈ m.pe, Nums w none p.flV p.fl ∧ Nums w none p.byV p.byt
  vs : Sl w none 2 m.vsV (bals m.vs)

/-- What numbers a machine may have. -/
structure MacOk (m : Mac) : Prop where
  id : u64 m.id
  term : u64 m.term
  vote : u64 m.vote
  lead : u64 m.lead
  role : i64 m.role
  bd : m.base.d.size ≤ 9223372036854775807
  bi : u64 m.base.i
  bt : u64 m.base.t
  cv : ∀ x ∈ m.base.c.v, u64 x
  cl : ∀ x ∈ m.base.c.l, u64 x
  co : ∀ x ∈ m.base.c.o, u64 x
  cn : ∀ x ∈ m.base.c.n, u64 x
  st : ∀ e ∈ m.st, EnOk e
  fr : ∀ e ∈ m.fr, EnOk e
  commit : u64 m.commit
  applied : u64 m.applied
  vo : ∀ x ∈ m.vo, u64 x
  le : ∀ x ∈ m.le, u64 x
  pe : ∀ p ∈ m.pe, PeOk p
  el : i64 m.el
  hb : i64 m.hb
  to : i64 m.to
  ep : i64 m.ep
  be : i64 m.be
  ms : u64 m.ms
  mu : u64 m.mu
  un : u64 m.un
  tr : u64 m.tr

theorem IsCf.ex {w w' : World} {v1 v2 v3 v4 : Value} {c : Cf} (e : Ex w w') (h : IsCf w v1 v2 v3 v4 c) : IsCf w' v1 v2 v3 v4 c := ⟨h.v.ex e, h.l.ex e, h.o.ex e, h.n.ex e⟩
theorem IsMac.ex {w w' : World} {m : Mac} (e : Ex w w') (h : IsMac w m) : IsMac w' m :=
  ⟨h.cf.ex e, h.st.ex e, h.fr.ex e, h.vo.ex e, h.le.ex e, h.pe.ex e, fun p hp => ⟨(h.pes p hp).1.ex e, (h.pes p hp).2.ex e⟩, h.vs.ex e⟩

/-- Where all that may turn is newer than a slice's world. -/
theorem Sl.old {C : Nat → Prop} {T : List Nat} {te : Option Nat} {w w' : World} {n : Nat} {v : Value} {xs : List (List Value)} (u : Up C T w w') (hC : ∀ b, b < w.heap.size → ¬ C b) (h : Sl w te n v xs) : Sl w' te n v xs := h.ex (u.no hC)
theorem IsMac.one1 {w : World} {m : Mac} (h : IsMac w m) : one m.cvV = true ∧ one m.clV = true ∧ one m.coV = true ∧ one m.cnV = true ∧ one m.stV = true ∧ one m.frV = true ∧ one m.voV = true ∧ one m.leV = true ∧ one m.peV = true ∧ one m.vsV = true :=
  ⟨h.cf.v.one, h.cf.l.one, h.cf.o.one, h.cf.n.one, h.st.one, h.fr.one, h.vo.one, h.le.one, h.pe.one, h.vs.one⟩

end Go.Proofs.YtmmpogfbhelioaaGreat
/-
  Contracts: the getters of the package's entries, configurations and snapshots; plain data made out of them.
  Conditions: each one's own.
-/
namespace Go.Proofs.YtmmpogfbhelioaaGreat
set_option maxRecDepth 10000
set_option linter.unusedVariables false
set_option linter.unusedSimpArgs false
attribute [local irreducible] Instr.box Instr.alloc Instr.loadAt Instr.storeAt Instr.fieldAt Instr.indexAt Instr.build Instr.buildSlice Instr.makeSlice Instr.makeMap Instr.mapUpdate Instr.lookup Instr.range Instr.next Instr.entry Instr.extract Instr.makeInterface Instr.makeFunc Instr.sliceAt Instr.typeAssert Instr.field Instr.index Builtin.len_ Builtin.cap_ Builtin.max_ Builtin.min_ Builtin.append_ Builtin.copy_ Builtin.delete_ convert binS pickS nilS callV callM Op.unary Own Mp It Cu

variable {K : Value → World → Prop} {w : World} {te : Option Nat}

theorem k95 {v : Value} {s : Sn} (h : PS v s w) (k : ∀ v', PM v' s.i s.t s.c w → K v' w) : CK Pr 95 #[v] w K := by
  obtain ⟨b, v1, v2, rfl, hb, hd, hm⟩ := h
  refine c95 ?_
  unfold t95
  (repeat (first | (refine go ?_; intros) | (refine gon ?_; intros)))
  exact k _ hm

theorem k132 {v : Value} {s : Sn} (h : PS v s w) (k : ∀ v', Sl w (some 5) 1 v' (byteList s.d) → K v' w) : CK Pr 132 #[v] w K := by
  obtain ⟨b, v1, v2, rfl, hb, hd, hm⟩ := h
  refine c132 ?_
  unfold t132
  (repeat (first | (refine go ?_; intros) | (refine gon ?_; intros)))
  exact k _ hd

theorem k96 {v : Value} {i t : Int} {c : Cf} (h : PM v i t c w) (k : K (.int .u64 i) w) : CK Pr 96 #[v] w K := by
  obtain ⟨b, v1, v2, v3, rfl, hb, hc, ⟨bi, rfl, hbi⟩, ⟨bt, rfl, hbt⟩⟩ := h
  refine c96 ?_
  unfold t96
  (repeat (first | (refine go ?_; intros) | (refine gon ?_; intros)))
  exact k

theorem k99 {v : Value} {i t : Int} {c : Cf} (h : PM v i t c w) (k : K (.int .u64 t) w) : CK Pr 99 #[v] w K := by
  obtain ⟨b, v1, v2, v3, rfl, hb, hc, ⟨bi, rfl, hbi⟩, ⟨bt, rfl, hbt⟩⟩ := h
  refine c99 ?_
  unfold t99
  (repeat (first | (refine go ?_; intros) | (refine gon ?_; intros)))
  exact k

theorem k97 {v : Value} {i t : Int} {c : Cf} (h : PM v i t c w) (k : ∀ v', PC v' c w → K v' w) : CK Pr 97 #[v] w K := by
  obtain ⟨b, v1, v2, v3, rfl, hb, hc, ⟨bi, rfl, hbi⟩, ⟨bt, rfl, hbt⟩⟩ := h
  refine c97 ?_
  unfold t97
  (repeat (first | (refine go ?_; intros) | (refine gon ?_; intros)))
  exact k _ hc

theorem k210 {v : Value} {c : Cf} (h : PC v c w) (k : ∀ v', Nums w (some 22) v' c.v → K v' w) : CK Pr 210 #[v] w K := by
  obtain ⟨b, v1, v2, v3, v4, v5, rfl, hb, h1, h2, h3, h4, ⟨b5, rfl, hb5⟩⟩ := h
  refine c210 ?_
  unfold t210
  (repeat (first | (refine go ?_; intros) | (refine gon ?_; intros)))
  exact k _ h1

theorem k211 {v : Value} {c : Cf} (h : PC v c w) (k : ∀ v', Nums w (some 22) v' c.l → K v' w) : CK Pr 211 #[v] w K := by
  obtain ⟨b, v1, v2, v3, v4, v5, rfl, hb, h1, h2, h3, h4, ⟨b5, rfl, hb5⟩⟩ := h
  refine c211 ?_
  unfold t211
  (repeat (first | (refine go ?_; intros) | (refine gon ?_; intros)))
  exact k _ h2

theorem k212 {v : Value} {c : Cf} (h : PC v c w) (k : ∀ v', Nums w (some 22) v' c.o → K v' w) : CK Pr 212 #[v] w K := by
  obtain ⟨b, v1, v2, v3, v4, v5, rfl, hb, h1, h2, h3, h4, ⟨b5, rfl, hb5⟩⟩ := h
  refine c212 ?_
  unfold t212
  (repeat (first | (refine go ?_; intros) | (refine gon ?_; intros)))
  exact k _ h3

theorem k213 {v : Value} {c : Cf} (h : PC v c w) (k : ∀ v', Nums w (some 22) v' c.n → K v' w) : CK Pr 213 #[v] w K := by
  obtain ⟨b, v1, v2, v3, v4, v5, rfl, hb, h1, h2, h3, h4, ⟨b5, rfl, hb5⟩⟩ := h
  refine c213 ?_
  unfold t213
  (repeat (first | (refine go ?_; intros) | (refine gon ?_; intros)))
  exact k _ h4

theorem k156 {v : Value} {c : Cf} (h : PC v c w) (k : K (.bool c.a) w) : CK Pr 156 #[v] w K := by
  obtain ⟨b, v1, v2, v3, v4, v5, rfl, hb, h1, h2, h3, h4, ⟨b5, rfl, hb5⟩⟩ := h
  refine c156 ?_
  unfold t156
  (repeat (first | (refine go ?_; intros) | (refine gon ?_; intros)))
  exact k

theorem k124 {v : Value} {e : En} (h : PE v e w) (k : K (.int .u64 e.i) w) : CK Pr 124 #[v] w K := by
  obtain ⟨b, vt, vi, vk, vd, rfl, hb, ht, hi, hk, hd⟩ := h
  refine c124 ?_
  unfold t124
  rcases hi with ⟨rfl, h0⟩ | ⟨b2, rfl, hb2⟩
  · (repeat (first | (refine go ?_; intros) | (refine gon ?_; intros)))
    rw [h0] at k
    exact k
  · (repeat (first | (refine go ?_; intros) | (refine gon ?_; intros)))
    exact k

theorem k128 {v : Value} {e : En} (h : PE v e w) (k : K (.int .u64 e.t) w) : CK Pr 128 #[v] w K := by
  obtain ⟨b, vt, vi, vk, vd, rfl, hb, ht, hi, hk, hd⟩ := h
  refine c128 ?_
  unfold t128
  rcases ht with ⟨rfl, h0⟩ | ⟨b2, rfl, hb2⟩
  · (repeat (first | (refine go ?_; intros) | (refine gon ?_; intros)))
    rw [h0] at k
    exact k
  · (repeat (first | (refine go ?_; intros) | (refine gon ?_; intros)))
    exact k

theorem k129 {v : Value} {e : En} (h : PE v e w) (k : K (.int .i32 e.k) w) : CK Pr 129 #[v] w K := by
  obtain ⟨b, vt, vi, vk, vd, rfl, hb, ht, hi, hk, hd⟩ := h
  refine c129 ?_
  unfold t129
  rcases hk with ⟨rfl, h0⟩ | ⟨b2, rfl, hb2⟩
  · (repeat (first | (refine go ?_; intros) | (refine gon ?_; intros)))
    rw [h0] at k
    exact k
  · (repeat (first | (refine go ?_; intros) | (refine gon ?_; intros)))
    exact k

theorem k130 {v : Value} {e : En} (h : PE v e w) (k : ∀ v', Sl w (some 5) 1 v' (byteList e.d) → K v' w) : CK Pr 130 #[v] w K := by
  obtain ⟨b, vt, vi, vk, vd, rfl, hb, ht, hi, hk, hd⟩ := h
  refine c130 ?_
  unfold t130
  (repeat (first | (refine go ?_; intros) | (refine gon ?_; intros)))
  exact k _ hd

theorem k133 {v : Value} {c : Cf} (h : PC v c w) (l1 : c.v.length ≤ 1000000) (l2 : c.l.length ≤ 1000000) (l3 : c.o.length ≤ 1000000) (l4 : c.n.length ≤ 1000000)
    (k : ∀ v1 v2 v3 v4 w', Ex w w' → Own w' w.heap.size 22 1 v1 (nums c.v) → Own w' w.heap.size 22 1 v2 (nums c.l) → Own w' w.heap.size 22 1 v3 (nums c.o) → Own w' w.heap.size 22 1 v4 (nums c.n) → K (.agg #[v1, v2, v3, v4, .bool c.a]) w') : CK Pr 133 #[v] w K := by
  refine c133 ?_
  unfold t133
  refine e_allocA fun b0 w0 e0 hb0 sa sb => ?_
  refine cl_fn (k210 (h.ex ex_) fun v1 h1 => ?_)
  refine cl_fn (k107 h1 l1 fun u1 w1 e1 o1 => ?_)
  have z1 := e1.size
  refine cl_fn (k211 (h.ex ex_) fun v2 h2 => ?_)
  refine cl_fn (k107 h2 l2 fun u2 w2 e2 o2 => ?_)
  have z2 := e2.size
  refine cl_fn (k212 (h.ex ex_) fun v3 h3 => ?_)
  refine cl_fn (k107 h3 l3 fun u3 w3 e3 o3 => ?_)
  have z3 := e3.size
  refine cl_fn (k213 (h.ex ex_) fun v4 h4 => ?_)
  refine cl_fn (k107 h4 l4 fun u4 w4 e4 o4 => ?_)
  have z4 := e4.size
  refine cl_fn (k156 (h.ex ex_) ?_)
  refine b25_0_1_2_3_4 o1.sl.one o2.sl.one o3.sl.one o4.sl.one rfl ?_
  refine u_stA bk_ (Nat.le_of_ble_eq_true rfl) (by rfl) (by simp only [List.all_cons, List.all_nil, o1.sl.one, o2.sl.one, o3.sl.one, o4.sl.one]; rfl) nm_ fun w5 u5 hb5 z5 => ?_
  (repeat (first | (refine go ?_; intros) | (refine gon ?_; intros)))
  refine k u1 u2 u3 u4 w5 ex_ ?_ ?_ ?_ ?_
  · exact ((((o1.ex e2).ex e3).ex e4).mono (by omega)).up u5 fun _ _ => .inl rfl
  · exact (((o2.ex e3).ex e4).mono (by omega)).up u5 fun _ _ => .inl rfl
  · exact ((o3.ex e4).mono (by omega)).up u5 fun _ _ => .inl rfl
  · exact (o4.mono (by omega)).up u5 fun _ _ => .inl rfl

theorem k90 {v : Value} {s : Sn} (h : PS v s w) (l1 : s.c.v.length ≤ 1000000) (l2 : s.c.l.length ≤ 1000000) (l3 : s.c.o.length ≤ 1000000) (l4 : s.c.n.length ≤ 1000000)
    (k : ∀ v1 v2 v3 v4 w', Ex w w' → Own w' w.heap.size 22 1 v1 (nums s.c.v) → Own w' w.heap.size 22 1 v2 (nums s.c.l) → Own w' w.heap.size 22 1 v3 (nums s.c.o) → Own w' w.heap.size 22 1 v4 (nums s.c.n) → K (.agg (snCells s v1 v2 v3 v4)) w') : CK Pr 90 #[v] w K := by
  refine c90 ?_
  unfold t90
  refine e_allocA fun b0 w0 e0 hb0 sa sb => ?_
  refine cl_fn (k95 (h.ex ex_) fun vm hm => ?_)
  refine dr_rule (fun b => b = b0) [29] fun w1 e1 z1 => ?_
  refine cl_fn (k132 (h.ex ex_) fun vd hd => ⟨.refl _ _ _, ?_⟩)
  refine q_strS (s := s.d) (fun w' hw => hd.typ hw rfl) ?_
  refine cl_fn (k96 (hm.ex e1) ⟨.refl _ _ _, ?_⟩)
  refine cl_fn (k99 (hm.ex e1) ⟨.refl _ _ _, ?_⟩)
  refine cl_fn (k97 (hm.ex e1) fun vc hc => ⟨.refl _ _ _, ?_⟩)
  refine cl_fn (k133 hc l1 l2 l3 l4 fun u1 u2 u3 u4 w2 e2 o1 o2 o3 o4 => ⟨.of_ex e2, ?_⟩)
  have z2 := e2.size
  refine b27_0_1_2_3 rfl rfl rfl ?_
  refine u_stA bk_ (Nat.le_of_ble_eq_true rfl) (by rfl) (by simp only [List.all_cons, List.all_nil, o1.sl.one, o2.sl.one, o3.sl.one, o4.sl.one]; rfl) nm_ fun w5 u5 hb5 z5 => ⟨(Up.of_ex e2).trans u5, ?_⟩
  (repeat (first | (refine go ?_; intros) | (refine gon ?_; intros)))
  refine k u1 u2 u3 u4 w5 ex_ ?_ ?_ ?_ ?_
  · exact (o1.mono (by omega)).up u5 fun _ _ => .inl rfl
  · exact (o2.mono (by omega)).up u5 fun _ _ => .inl rfl
  · exact (o3.mono (by omega)).up u5 fun _ _ => .inl rfl
  · exact (o4.mono (by omega)).up u5 fun _ _ => .inl rfl

theorem En.one {e : En} : ∀ u ∈ (Value.agg e.cells.toArray).cells.toList, one u = true := by
  intro u hu
  simp only [Value.cells, En.cells, List.mem_cons, List.not_mem_nil, or_false] at hu
  rcases hu with rfl | rfl | rfl | rfl <;> rfl

theorem k86 {v : Value} {ps : List Value} {l : List En} (hv : Sl w te 1 v (ones ps)) (hps : PEs ps l w) (hl : l.length ≤ 1000000) (hk : ∀ e ∈ l, i64 e.k)
    (h : ∀ v' w', Ex w w' → Own w' w.heap.size 56 4 v' (l.map En.cells) → K v' w') : CK Pr 86 #[v] w K := by
  refine c86 ?_
  unfold t86
  refine q_lenSl hv ?_
  have hol : (ones ps).length = l.length := by rw [ones, List.length_map, hps.len]
  rw [hol]
  refine loop_n (α := Nat) (fun j τ w' => g τ 2 = .int .i64 j ∧ j ≤ l.length ∧ Ex w w' ∧ Own w' w.heap.size 56 4 (g τ 0) ((l.take j).map En.cells)) (fun j => l.length - j) 0
    ⟨rfl, Nat.zero_le _, .refl _ _ _, Own.nil _ _ _ _⟩ ?_
  intro j τ w' R ⟨hj, hle, hex, hown⟩ hR
  rw [hj]
  (repeat (first | (refine go ?_; intros) | (refine gon ?_; intros)))
  have zz := hex.size
  refine if_split (fun hb => ?_) (fun hb => ?_)
  · have hj' : j < l.length := by simpa using hb
    obtain ⟨p, hp⟩ : ∃ p, ps[j]? = some p := ⟨_, List.getElem?_eq_getElem (by rw [hps.len]; exact hj')⟩
    obtain ⟨e, he, hpe⟩ := hps.get hp
    have hpe' := hpe.ex hex
    refine q_ixs j (hv.ex hex) rfl (by rw [ones, List.getElem?_map, hp]; rfl) fun _ => ?_
    refine cl_fn (k128 hpe' ?_)
    refine cl_fn (k124 hpe' ?_)
    refine cl_fn (k129 hpe' ?_)
    (repeat (first | (refine go ?_; intros) | (refine gon ?_; intros)))
    refine cl_fn (k130 hpe' fun vd hd => ?_)
    refine q_strS (s := e.d) (fun w2 h2 => by cases h2; exact hd) ?_
    have hke := hk e (List.mem_of_getElem? he)
    rw [wrap64 hke.1 hke.2]
    refine b56_0_1_2_3 rfl rfl rfl rfl ?_
    have hlt : ((l.take j).map En.cells).length = j := by rw [List.length_map, List.length_take]; omega
    refine e_push (n := 4) hown (by rfl) (by omega) En.one (by rw [hlt]; omega) (by rw [hlt]; omega) (by omega) fun _ v' w3 u3 ow3 hbl z3 => ?_
    (repeat (first | (refine go ?_; intros) | (refine gon ?_; intros)))
    refine hR (j + 1) _ _ ⟨by rw [← wrapS (by omega)]; rfl, hj', ?_, ?_⟩ (by omega)
    · exact hex.new u3 fun b hb => (hown.lt b hb).1
    · rw [take_snoc he, List.map_append]; exact ow3
  · have : ¬ ((j : Int) < (l.length : Nat)) := of_decide_eq_false hb
    have hjl : j = l.length := by omega
    rw [hjl, List.take_length] at hown
    exact h _ _ hex hown

end Go.Proofs.YtmmpogfbhelioaaGreat
/-
  The readable texts of the program's functions, printed by gen.py, and their links with the program.
  Conditions: none.
-/
namespace Go.Proofs.YtmmpogfbhelioaaGreat
set_option maxRecDepth 10000
set_option linter.unusedVariables false
set_option linter.unusedSimpArgs false
def t225 (a0 : Value) (K : Value → World → Prop) (w : World) : Prop :=
 Ef Pr (Instr.box 134 a0) w fun v2 w1 =>
 Qu Pr (Is w1) (Instr.indexAt 134 v2 (Value.int .i64 1)) fun v3 =>
 Qu Pr (Is w1) (Instr.loadAt 132 v3) fun v4 =>
 K v4 w1
theorem c225 {a0 : Value} {K : Value → World → Prop} {w : World} (h : t225 a0 K w) : CK Pr 225 #[a0] w K := by
  refine calls_of_RF [] Tryz.func225 rfl ?_ ?_ ?_
  · kernel_rfl
  · exact Nat.le_of_ble_eq_true rfl
  · exact cast (by kernel_rfl) h

def t226 (a0 : Value) (K : Value → World → Prop) (w : World) : Prop :=
 Qu Pr (Is w) (binS .eql 102 (.tmp 3) (.const (Value.pointer none)) a0 (Value.pointer none)) fun v1 =>
 If v1 (
  K (Value.pointer none) w) (
  Dr w fun S2 w3 =>
  Qu Pr (S2) (nilS a0) fun v4 =>
  Qu Pr (S2) (Instr.fieldAt 200 v4 0) fun v5 =>
  Qu Pr (S2) (Instr.loadAt 23 v5) fun v6 =>
  Cl Pr (callV (fn 287) #[v6]) w3 fun v8 w7 => S2 w7 ∧
  Qu Pr (S2) (nilS a0) fun v9 =>
  Qu Pr (S2) (Instr.fieldAt 200 v9 1) fun v10 =>
  Qu Pr (S2) (Instr.loadAt 23 v10) fun v11 =>
  Cl Pr (callV (fn 287) #[v11]) w7 fun v13 w12 => S2 w12 ∧
  Qu Pr (S2) (nilS a0) fun v14 =>
  Qu Pr (S2) (Instr.fieldAt 200 v14 2) fun v15 =>
  Qu Pr (S2) (Instr.loadAt 23 v15) fun v16 =>
  Cl Pr (callV (fn 287) #[v16]) w12 fun v18 w17 => S2 w17 ∧
  Qu Pr (S2) (nilS a0) fun v19 =>
  Qu Pr (S2) (Instr.fieldAt 200 v19 3) fun v20 =>
  Qu Pr (S2) (Instr.loadAt 23 v20) fun v21 =>
  Cl Pr (callV (fn 287) #[v21]) w17 fun v23 w22 => S2 w22 ∧
  Qu Pr (S2) (nilS a0) fun v24 =>
  Qu Pr (S2) (Instr.fieldAt 200 v24 4) fun v25 =>
  Qu Pr (S2) (Instr.loadAt 117 v25) fun v26 =>
  Cl Pr (callV (fn 288) #[v26]) w22 fun v28 w27 => S2 w27 ∧
  Qu Pr (S2) (Instr.build 200 #[(0, v8), (1, v13), (2, v18), (3, v23), (4, v28)]) fun v29 =>
  Ef Pr (Instr.box 200 v29) w27 fun v31 w30 => S2 w30 ∧
  K v31 w30)
theorem c226 {a0 : Value} {K : Value → World → Prop} {w : World} (h : t226 a0 K w) : CK Pr 226 #[a0] w K := by
  refine calls_of_RF [] Tryz.func226 rfl ?_ ?_ ?_
  · kernel_rfl
  · exact Nat.le_of_ble_eq_true rfl
  · exact cast (by kernel_rfl) h

def t227 (a0 : Value) (K : Value → World → Prop) (w : World) : Prop :=
 Qu Pr (Is w) (nilS a0) fun v1 =>
 Qu Pr (Is w) (Instr.loadAt 23 v1) fun v2 =>
 Cl Pr (callV (fn 131) #[v2]) w fun _ w3 =>
 K (.tuple #[]) w3
theorem c227 {a0 : Value} {K : Value → World → Prop} {w : World} (h : t227 a0 K w) : CK Pr 227 #[a0] w K := by
  refine calls_of_RF [] Tryz.func227 rfl ?_ ?_ ?_
  · kernel_rfl
  · exact Nat.le_of_ble_eq_true rfl
  · exact cast (by kernel_rfl) h

def t228 (a0 a1 : Value) (K : Value → World → Prop) (w : World) : Prop :=
 Dr w fun S1 w2 =>
 Qu Pr (S1) (nilS a0) fun v3 =>
 Qu Pr (S1) (Instr.fieldAt 200 v3 0) fun v4 =>
 Qu Pr (S1) (Instr.loadAt 23 v4) fun v5 =>
 Qu Pr (S1) (nilS a1) fun v6 =>
 Qu Pr (S1) (Instr.fieldAt 200 v6 0) fun v7 =>
 Qu Pr (S1) (Instr.loadAt 23 v7) fun v8 =>
 Cl Pr (callV (fn 289) #[v5, v8]) w2 fun v10 w9 => S1 w9 ∧
 Gd v10 true (fun k11 => k11 a0 w9) w9 fun v12 w13 =>
 Gd v10 true (fun k14 => Qu Pr (S1) (nilS v12) fun v17 => k14 v17 w13) w13 fun v15 w16 =>
 Gd v10 true (fun k18 => Qu Pr (S1) (Instr.fieldAt 200 v15 1) fun v21 => k18 v21 w16) w16 fun v19 w20 =>
 Gd v10 true (fun k22 => Qu Pr (S1) (Instr.loadAt 23 v19) fun v25 => k22 v25 w20) w20 fun v23 w24 =>
 Gd v10 true (fun k26 => k26 a1 w24) w24 fun v27 w28 =>
 Gd v10 true (fun k29 => Qu Pr (S1) (nilS v27) fun v32 => k29 v32 w28) w28 fun v30 w31 =>
 Gd v10 true (fun k33 => Qu Pr (S1) (Instr.fieldAt 200 v30 1) fun v36 => k33 v36 w31) w31 fun v34 w35 =>
 Gd v10 true (fun k37 => Qu Pr (S1) (Instr.loadAt 23 v34) fun v40 => k37 v40 w35) w35 fun v38 w39 =>
 Gd v10 true (fun k41 => Cl Pr (callV (fn 289) #[v23, v38]) w39 fun v42x w43x => S1 w43x ∧ k41 v42x w43x) w39 fun v42 w43 =>
 Qu Pr (S1) (pickS v10 v42 (Value.bool false)) fun v44 =>
 Gd v44 true (fun k45 => k45 a0 w43) w43 fun v46 w47 =>
 Gd v44 true (fun k48 => Qu Pr (S1) (nilS v46) fun v51 => k48 v51 w47) w47 fun v49 w50 =>
 Gd v44 true (fun k52 => Qu Pr (S1) (Instr.fieldAt 200 v49 2) fun v55 => k52 v55 w50) w50 fun v53 w54 =>
 Gd v44 true (fun k56 => Qu Pr (S1) (Instr.loadAt 23 v53) fun v59 => k56 v59 w54) w54 fun v57 w58 =>
 Gd v44 true (fun k60 => k60 a1 w58) w58 fun v61 w62 =>
 Gd v44 true (fun k63 => Qu Pr (S1) (nilS v61) fun v66 => k63 v66 w62) w62 fun v64 w65 =>
 Gd v44 true (fun k67 => Qu Pr (S1) (Instr.fieldAt 200 v64 2) fun v70 => k67 v70 w65) w65 fun v68 w69 =>
 Gd v44 true (fun k71 => Qu Pr (S1) (Instr.loadAt 23 v68) fun v74 => k71 v74 w69) w69 fun v72 w73 =>
 Gd v44 true (fun k75 => Cl Pr (callV (fn 289) #[v57, v72]) w73 fun v76x w77x => S1 w77x ∧ k75 v76x w77x) w73 fun v76 w77 =>
 Qu Pr (S1) (pickS v44 v76 (Value.bool false)) fun v78 =>
 Gd v78 true (fun k79 => k79 a0 w77) w77 fun v80 w81 =>
 Gd v78 true (fun k82 => Qu Pr (S1) (nilS v80) fun v85 => k82 v85 w81) w81 fun v83 w84 =>
 Gd v78 true (fun k86 => Qu Pr (S1) (Instr.fieldAt 200 v83 3) fun v89 => k86 v89 w84) w84 fun v87 w88 =>
 Gd v78 true (fun k90 => Qu Pr (S1) (Instr.loadAt 23 v87) fun v93 => k90 v93 w88) w88 fun v91 w92 =>
 Gd v78 true (fun k94 => k94 a1 w92) w92 fun v95 w96 =>
 Gd v78 true (fun k97 => Qu Pr (S1) (nilS v95) fun v100 => k97 v100 w96) w96 fun v98 w99 =>
 Gd v78 true (fun k101 => Qu Pr (S1) (Instr.fieldAt 200 v98 3) fun v104 => k101 v104 w99) w99 fun v102 w103 =>
 Gd v78 true (fun k105 => Qu Pr (S1) (Instr.loadAt 23 v102) fun v108 => k105 v108 w103) w103 fun v106 w107 =>
 Gd v78 true (fun k109 => Cl Pr (callV (fn 289) #[v91, v106]) w107 fun v110x w111x => S1 w111x ∧ k109 v110x w111x) w107 fun v110 w111 =>
 Qu Pr (S1) (pickS v78 v110 (Value.bool false)) fun v112 =>
 Gd v112 true (fun k113 => k113 a0 w111) w111 fun v114 w115 =>
 Gd v112 true (fun k116 => Qu Pr (S1) (nilS v114) fun v119 => k116 v119 w115) w115 fun v117 w118 =>
 Gd v112 true (fun k120 => Qu Pr (S1) (Instr.fieldAt 200 v117 4) fun v123 => k120 v123 w118) w118 fun v121 w122 =>
 Gd v112 true (fun k124 => Qu Pr (S1) (Instr.loadAt 117 v121) fun v127 => k124 v127 w122) w122 fun v125 w126 =>
 Gd v112 true (fun k128 => Qu Pr (S1) (binS .eql 117 (.tmp 51) (.const (Value.pointer none)) v125 (Value.pointer none)) fun v131 => k128 v131 w126) w126 fun v129 w130 =>
 Gd v112 true (fun k132 => k132 a1 w130) w130 fun v133 w134 =>
 Gd v112 true (fun k135 => Qu Pr (S1) (nilS v133) fun v138 => k135 v138 w134) w134 fun v136 w137 =>
 Gd v112 true (fun k139 => Qu Pr (S1) (Instr.fieldAt 200 v136 4) fun v142 => k139 v142 w137) w137 fun v140 w141 =>
 Gd v112 true (fun k143 => Qu Pr (S1) (Instr.loadAt 117 v140) fun v146 => k143 v146 w141) w141 fun v144 w145 =>
 Gd v112 true (fun k147 => Qu Pr (S1) (binS .eql 117 (.tmp 56) (.const (Value.pointer none)) v144 (Value.pointer none)) fun v150 => k147 v150 w145) w145 fun v148 w149 =>
 Gd v112 true (fun k151 => Qu Pr (S1) (binS .eql 4 (.tmp 52) (.tmp 57) v129 v148) fun v154 => k151 v154 w149) w149 fun v152 w153 =>
 Qu Pr (S1) (pickS v112 v152 (Value.bool false)) fun v155 =>
 Gd v155 true (fun k156 => k156 a0 w153) w153 fun v157 w158 =>
 Gd v155 true (fun k159 => Cl Pr (callV (fn 156) #[v157]) w158 fun v160x w161x => S1 w161x ∧ k159 v160x w161x) w158 fun v160 w161 =>
 Gd v155 true (fun k162 => k162 a1 w161) w161 fun v163 w164 =>
 Gd v155 true (fun k165 => Cl Pr (callV (fn 156) #[v163]) w164 fun v166x w167x => S1 w167x ∧ k165 v166x w167x) w164 fun v166 w167 =>
 Gd v155 true (fun k168 => Qu Pr (S1) (binS .eql 4 (.tmp 62) (.tmp 64) v160 v166) fun v171 => k168 v171 w167) w167 fun v169 w170 =>
 Qu Pr (S1) (pickS v155 v169 (Value.bool false)) fun v172 =>
 K v172 w170
theorem c228 {a0 a1 : Value} {K : Value → World → Prop} {w : World} (h : t228 a0 a1 K w) : CK Pr 228 #[a0, a1] w K := by
  refine calls_of_RF [] Tryz.func228 rfl ?_ ?_ ?_
  · kernel_rfl
  · exact Nat.le_of_ble_eq_true rfl
  · exact cast (by kernel_rfl) h

def t262 (a0 : Value) (K : Value → World → Prop) (w : World) : Prop :=
 Qu Pr (Is w) (nilS a0) fun v1 =>
 Qu Pr (Is w) (Instr.fieldAt 194 v1 0) fun v2 =>
 Qu Pr (Is w) (Instr.loadAt 75 v2) fun v3 =>
 Qu Pr (Is w) (binS .neq 75 (.tmp 7) (.const (Value.pointer none)) v3 (Value.pointer none)) fun v4 =>
 If v4 (
  Qu Pr (Is w) (nilS a0) fun v5 =>
  Qu Pr (Is w) (Instr.fieldAt 194 v5 0) fun v6 =>
  Qu Pr (Is w) (Instr.loadAt 75 v6) fun v7 =>
  Cl Pr (callV (fn 95) #[v7]) w fun v9 w8 =>
  Cl Pr (callV (fn 96) #[v9]) w8 fun v11 w10 =>
  Qu Pr (Is w10) (binS .add 22 (.tmp 14) (.const (Value.int .u64 1)) v11 (Value.int .u64 1)) fun v12 =>
  K (.tuple #[v12, (Value.bool true)]) w10) (
  K (.tuple #[(Value.int .u64 0), (Value.bool false)]) w)
theorem c262 {a0 : Value} {K : Value → World → Prop} {w : World} (h : t262 a0 K w) : CK Pr 262 #[a0] w K := by
  refine calls_of_RF [] Tryz.func262 rfl ?_ ?_ ?_
  · kernel_rfl
  · exact Nat.le_of_ble_eq_true rfl
  · exact cast (by kernel_rfl) h

def t266 (a0 : Value) (K : Value → World → Prop) (w : World) : Prop :=
 Qu Pr (Is w) (binS .eql 104 (.tmp 4) (.const (Value.pointer none)) a0 (Value.pointer none)) fun v1 =>
 If v1 (
  K (Value.pointer none) w) (
  Qu Pr (Is w) (nilS a0) fun v2 =>
  Qu Pr (Is w) (Instr.loadAt 22 v2) fun v3 =>
  Ef Pr (Instr.alloc 22 true (.tuple #[])) w fun v5 w4 =>
  Eu Pr (Instr.storeAt 22 v5 v3) w4 fun w6 =>
  K v5 w6)
theorem c266 {a0 : Value} {K : Value → World → Prop} {w : World} (h : t266 a0 K w) : CK Pr 266 #[a0] w K := by
  refine calls_of_RF [] Tryz.func266 rfl ?_ ?_ ?_
  · kernel_rfl
  · exact Nat.le_of_ble_eq_true rfl
  · exact cast (by kernel_rfl) h

def t280 (a0 : Value) (K : Value → World → Prop) (w : World) : Prop :=
 Ef Pr (Instr.alloc 136 true (.tuple #[])) w fun v2 w1 =>
 Dr w1 fun S3 w4 =>
 Qu Pr (S3) (nilS a0) fun v5 =>
 Qu Pr (S3) (Instr.fieldAt 136 v5 0) fun v6 =>
 Qu Pr (S3) (Instr.indexAt 134 v6 (Value.int .i64 0)) fun v7 =>
 Qu Pr (S3) (Instr.loadAt 132 v7) fun v8 =>
 Cl Pr (callV (fn 316) #[v8]) w4 fun v10 w9 => S3 w9 ∧
 Qu Pr (S3) (nilS a0) fun v11 =>
 Qu Pr (S3) (Instr.fieldAt 136 v11 0) fun v12 =>
 Qu Pr (S3) (Instr.indexAt 134 v12 (Value.int .i64 1)) fun v13 =>
 Qu Pr (S3) (Instr.loadAt 132 v13) fun v14 =>
 Cl Pr (callV (fn 316) #[v14]) w9 fun v16 w15 => S3 w15 ∧
 Qu Pr (S3) (Instr.build 134 #[(0, v10), (1, v16)]) fun v17 =>
 Qu Pr (S3) (nilS a0) fun v18 =>
 Qu Pr (S3) (Instr.fieldAt 136 v18 2) fun v19 =>
 Qu Pr (S3) (Instr.loadAt 131 v19) fun v20 =>
 Cl Pr (callV (fn 316) #[v20]) w15 fun v22 w21 => S3 w21 ∧
 Qu Pr (S3) (nilS a0) fun v23 =>
 Qu Pr (S3) (Instr.fieldAt 136 v23 3) fun v24 =>
 Qu Pr (S3) (Instr.loadAt 131 v24) fun v25 =>
 Cl Pr (callV (fn 316) #[v25]) w21 fun v27 w26 => S3 w26 ∧
 Qu Pr (S3) (Instr.build 136 #[(0, v17), (2, v22), (3, v27)]) fun v28 =>
 Eu Pr (Instr.storeAt 136 v2 v28) w26 fun w29 => S3 w29 ∧
 Qu Pr (Is w29) (Instr.loadAt 136 v2) fun v30 =>
 K v30 w29
theorem c280 {a0 : Value} {K : Value → World → Prop} {w : World} (h : t280 a0 K w) : CK Pr 280 #[a0] w K := by
  refine calls_of_RF [] Tryz.func280 rfl ?_ ?_ ?_
  · kernel_rfl
  · exact Nat.le_of_ble_eq_true rfl
  · exact cast (by kernel_rfl) h

def t281 (a0 : Value) (K : Value → World → Prop) (w : World) : Prop :=
 Qu Pr (Is w) (binS .neq 251 (.tmp 3) (.const (Value.pointer none)) a0 (Value.pointer none)) fun v1 =>
 Gd v1 true (fun k2 => k2 a0 w) w fun v3 w4 =>
 Gd v1 true (fun k5 => Qu Pr (Is w4) (nilS v3) fun v8 => k5 v8 w4) w4 fun v6 w7 =>
 Gd v1 true (fun k9 => Qu Pr (Is w7) (Instr.fieldAt 309 v6 1) fun v12 => k9 v12 w7) w7 fun v10 w11 =>
 Gd v1 true (fun k13 => Qu Pr (Is w11) (Instr.loadAt 104 v10) fun v16 => k13 v16 w11) w11 fun v14 w15 =>
 Gd v1 true (fun k17 => Qu Pr (Is w15) (binS .neq 104 (.tmp 9) (.const (Value.pointer none)) v14 (Value.pointer none)) fun v20 => k17 v20 w15) w15 fun v18 w19 =>
 Qu Pr (Is w19) (pickS v1 v18 (Value.bool false)) fun v21 =>
 If v21 (
  Qu Pr (Is w19) (nilS a0) fun v22 =>
  Qu Pr (Is w19) (Instr.fieldAt 309 v22 1) fun v23 =>
  Qu Pr (Is w19) (Instr.loadAt 104 v23) fun v24 =>
  Qu Pr (Is w19) (nilS v24) fun v25 =>
  Qu Pr (Is w19) (Instr.loadAt 22 v25) fun v26 =>
  K v26 w19) (
  K (Value.int .u64 0) w19)
theorem c281 {a0 : Value} {K : Value → World → Prop} {w : World} (h : t281 a0 K w) : CK Pr 281 #[a0] w K := by
  refine calls_of_RF [] Tryz.func281 rfl ?_ ?_ ?_
  · kernel_rfl
  · exact Nat.le_of_ble_eq_true rfl
  · exact cast (by kernel_rfl) h

def t282 (a0 : Value) (K : Value → World → Prop) (w : World) : Prop :=
 Qu Pr (Is w) (binS .neq 251 (.tmp 3) (.const (Value.pointer none)) a0 (Value.pointer none)) fun v1 =>
 Gd v1 true (fun k2 => k2 a0 w) w fun v3 w4 =>
 Gd v1 true (fun k5 => Qu Pr (Is w4) (nilS v3) fun v8 => k5 v8 w4) w4 fun v6 w7 =>
 Gd v1 true (fun k9 => Qu Pr (Is w7) (Instr.fieldAt 309 v6 0) fun v12 => k9 v12 w7) w7 fun v10 w11 =>
 Gd v1 true (fun k13 => Qu Pr (Is w11) (Instr.loadAt 277 v10) fun v16 => k13 v16 w11) w11 fun v14 w15 =>
 Gd v1 true (fun k17 => Qu Pr (Is w15) (binS .neq 277 (.tmp 9) (.const (Value.pointer none)) v14 (Value.pointer none)) fun v20 => k17 v20 w15) w15 fun v18 w19 =>
 Qu Pr (Is w19) (pickS v1 v18 (Value.bool false)) fun v21 =>
 If v21 (
  Qu Pr (Is w19) (nilS a0) fun v22 =>
  Qu Pr (Is w19) (Instr.fieldAt 309 v22 0) fun v23 =>
  Qu Pr (Is w19) (Instr.loadAt 277 v23) fun v24 =>
  Qu Pr (Is w19) (nilS v24) fun v25 =>
  Qu Pr (Is w19) (Instr.loadAt 306 v25) fun v26 =>
  K v26 w19) (
  K (Value.int .i32 0) w19)
theorem c282 {a0 : Value} {K : Value → World → Prop} {w : World} (h : t282 a0 K w) : CK Pr 282 #[a0] w K := by
  refine calls_of_RF [] Tryz.func282 rfl ?_ ?_ ?_
  · kernel_rfl
  · exact Nat.le_of_ble_eq_true rfl
  · exact cast (by kernel_rfl) h

def t283 (a0 a1 a2 a3 : Value) (K : Value → World → Prop) (w : World) : Prop :=
 Ef Pr (Instr.box 209 a0) w fun v2 w1 =>
 Qu Pr (Is w1) (Instr.lookup 138 a2 a3 false) fun v3 =>
 Qu Pr (Is w1) (binS .eql 146 (.tmp 12) (.const (Value.pointer none)) v3 (Value.pointer none)) fun v4 =>
 If v4 (
  Qu Pr (Is w1) (Instr.loadAt 209 v2) fun v5 =>
  Cl Pr (callV (fn 317) #[v5, a1, a2, a3, (Value.bool false)]) w1 fun _ w6 =>
  K (.tuple #[]) w6) (
  Qu Pr (Is w1) (nilS v3) fun v8 =>
  Qu Pr (Is w1) (Instr.fieldAt 152 v8 8) fun v9 =>
  Eu Pr (Instr.storeAt 4 v9 (Value.bool false)) w1 fun w10 =>
  Qu Pr (Is w10) (nilS a1) fun v11 =>
  Qu Pr (Is w10) (Instr.fieldAt 136 v11 2) fun v12 =>
  Cl Pr (callV (fn 318) #[v12, a3]) w10 fun _ w13 =>
  Qu Pr (Is w13) (nilS a1) fun v15 =>
  Qu Pr (Is w13) (Instr.fieldAt 136 v15 3) fun v16 =>
  Cl Pr (callV (fn 318) #[v16, a3]) w13 fun _ w17 =>
  Qu Pr (Is w17) (nilS a1) fun v19 =>
  Qu Pr (Is w17) (Instr.fieldAt 136 v19 0) fun v20 =>
  Qu Pr (Is w17) (Instr.loadAt 134 v20) fun v21 =>
  Cl Pr (callV (fn 222) #[v21]) w17 fun v23 w22 =>
  Qu Pr (Is w22) (Instr.build 156 #[]) fun v24 =>
  Eu Pr (Instr.mapUpdate 132 v23 a3 v24) w22 fun w25 =>
  K (.tuple #[]) w25)
theorem c283 {a0 a1 a2 a3 : Value} {K : Value → World → Prop} {w : World} (h : t283 a0 a1 a2 a3 K w) : CK Pr 283 #[a0, a1, a2, a3] w K := by
  refine calls_of_RF [] Tryz.func283 rfl ?_ ?_ ?_
  · kernel_rfl
  · exact Nat.le_of_ble_eq_true rfl
  · exact cast (by kernel_rfl) h

def t284 (a0 a1 a2 a3 : Value) (K : Value → World → Prop) (w : World) : Prop :=
 Ef Pr (Instr.box 209 a0) w fun v2 w1 =>
 Qu Pr (Is w1) (Instr.lookup 138 a2 a3 false) fun v3 =>
 Qu Pr (Is w1) (binS .eql 146 (.tmp 14) (.const (Value.pointer none)) v3 (Value.pointer none)) fun v4 =>
 If v4 (
  Qu Pr (Is w1) (Instr.loadAt 209 v2) fun v5 =>
  Cl Pr (callV (fn 317) #[v5, a1, a2, a3, (Value.bool true)]) w1 fun _ w6 =>
  K (.tuple #[]) w6) (
  Qu Pr (Is w1) (nilS v3) fun v8 =>
  Qu Pr (Is w1) (Instr.fieldAt 152 v8 8) fun v9 =>
  Qu Pr (Is w1) (Instr.loadAt 4 v9) fun v10 =>
  If v10 (
   K (.tuple #[]) w1) (
   Qu Pr (Is w1) (Instr.loadAt 209 v2) fun v11 =>
   Cl Pr (callV (fn 285) #[v11, a1, a2, a3]) w1 fun _ w12 =>
   Eu Pr (Instr.mapUpdate 138 a2 a3 v3) w12 fun w14 =>
   Qu Pr (Is w14) (nilS a1) fun v15 =>
   Qu Pr (Is w14) (Instr.fieldAt 136 v15 0) fun v16 =>
   Qu Pr (Is w14) (Instr.loadAt 134 v16) fun v17 =>
   Cl Pr (callV (fn 225) #[v17]) w14 fun v19 w18 =>
   Qu Pr (Is w18) (Instr.lookup 132 v19 a3 true) fun v20 =>
   Qu Pr (Is w18) (Instr.extract v20 0) fun v21 =>
   Qu Pr (Is w18) (Instr.extract v20 1) fun v22 =>
   Ef Pr (Instr.alloc 156 true (.tuple #[])) w18 fun v24 w23 =>
   Eu Pr (Instr.storeAt 156 v24 v21) w23 fun w25 =>
   Jo (fun  (w39 : World) => (
     K (.tuple #[]) w39 : Prop)) fun J40 =>
   If v22 (
    Qu Pr (Is w25) (nilS a1) fun v41 =>
    Qu Pr (Is w25) (Instr.fieldAt 136 v41 3) fun v42 =>
    Cl Pr (callV (fn 319) #[v42, a3]) w25 fun _ w43 =>
    J40 w43) (
    Qu Pr (Is w25) (nilS v3) fun v45 =>
    Qu Pr (Is w25) (Instr.fieldAt 152 v45 8) fun v46 =>
    Eu Pr (Instr.storeAt 4 v46 (Value.bool true)) w25 fun w47 =>
    Qu Pr (Is w47) (nilS a1) fun v48 =>
    Qu Pr (Is w47) (Instr.fieldAt 136 v48 2) fun v49 =>
    Cl Pr (callV (fn 319) #[v49, a3]) w47 fun _ w50 =>
    J40 w50)))
theorem c284 {a0 a1 a2 a3 : Value} {K : Value → World → Prop} {w : World} (h : t284 a0 a1 a2 a3 K w) : CK Pr 284 #[a0, a1, a2, a3] w K := by
  refine calls_of_RF [] Tryz.func284 rfl ?_ ?_ ?_
  · kernel_rfl
  · exact Nat.le_of_ble_eq_true rfl
  · exact cast (by kernel_rfl) h

@[irreducible] def t286_1 (w46 : World) (v2 : Value) (τ44 : List Value) (K : Value → World → Prop) (a1 : Value) : Prop :=
     Qu Pr (Is w46) (Instr.fieldAt 136 v2 2) fun v70 =>
     Qu Pr (Is w46) (Instr.loadAt 131 v70) fun v71 =>
     Ef Pr (Instr.range 131 v71) w46 fun v73 w72 =>
     LoopW [(g τ44 0), undef, undef, undef, undef, undef, undef, undef, undef, undef, undef, undef, undef, undef, undef, undef, undef, undef, undef, undef, undef, undef, undef, undef, undef, undef, undef, undef, undef, undef, undef, undef, undef, undef, undef, undef, undef, undef] (fun r74 τ75 w76 =>
      Ef Pr (Instr.next v73 false 0) w76 fun v78 w77 =>
      Qu Pr (Is w77) (Instr.extract v78 0) fun v79 =>
      If v79 (
       Qu Pr (Is w77) (Instr.entry v73) fun v80 =>
       Qu Pr (Is w77) (Instr.extract v80 0) fun v81 =>
       Qu Pr (Is w77) (Instr.fieldAt 136 v2 0) fun v82 =>
       Qu Pr (Is w77) (Instr.loadAt 134 v82) fun v83 =>
       Cl Pr (callV (fn 225) #[v83]) w77 fun v85 w84 =>
       Qu Pr (Is w84) (Instr.lookup 132 v85 v81 true) fun v86 =>
       Qu Pr (Is w84) (Instr.extract v86 0) fun v87 =>
       Qu Pr (Is w84) (Instr.extract v86 1) fun v88 =>
       Ef Pr (Instr.alloc 156 true (.tuple #[])) w84 fun v90 w89 =>
       Eu Pr (Instr.storeAt 156 v90 v87) w89 fun w91 =>
       If v88 (
        Cl Pr (callV (fn 219) #[(Value.string (ByteArray.mk #[105, 110, 32, 76, 101, 97, 114, 110, 101, 114, 115, 32, 97, 110, 100, 32, 86, 111, 116, 101, 114, 115, 91, 49, 93]))]) w91 fun v93 w92 =>
        K v93 w92) (
        Qu Pr (Is w91) (Instr.fieldAt 136 v2 0) fun v94 =>
        Qu Pr (Is w91) (Instr.loadAt 134 v94) fun v95 =>
        Cl Pr (callV (fn 222) #[v95]) w91 fun v97 w96 =>
        Qu Pr (Is w96) (Instr.lookup 132 v97 v81 true) fun v98 =>
        Qu Pr (Is w96) (Instr.extract v98 0) fun v99 =>
        Qu Pr (Is w96) (Instr.extract v98 1) fun v100 =>
        Ef Pr (Instr.alloc 156 true (.tuple #[])) w96 fun v102 w101 =>
        Eu Pr (Instr.storeAt 156 v102 v99) w101 fun w103 =>
        If v100 (
         Cl Pr (callV (fn 219) #[(Value.string (ByteArray.mk #[105, 110, 32, 76, 101, 97, 114, 110, 101, 114, 115, 32, 97, 110, 100, 32, 86, 111, 116, 101, 114, 115, 91, 48, 93]))]) w103 fun v105 w104 =>
         K v105 w104) (
         Qu Pr (Is w103) (Instr.lookup 138 a1 v81 false) fun v106 =>
         Qu Pr (Is w103) (nilS v106) fun v107 =>
         Qu Pr (Is w103) (Instr.fieldAt 152 v107 8) fun v108 =>
         Qu Pr (Is w103) (Instr.loadAt 4 v108) fun v109 =>
         Qu Pr (Is w103) (Op.unary .not v109) fun v110 =>
         If v110 (
          Cl Pr (callV (fn 219) #[(Value.string (ByteArray.mk #[105, 110, 32, 76, 101, 97, 114, 110, 101, 114, 115, 44, 32, 98, 117, 116, 32, 110, 111, 116, 32, 109, 97, 114, 107, 101, 100, 32, 97, 115, 32, 108, 101, 97, 114, 110, 101, 114]))]) w103 fun v112 w111 =>
          K v112 w111) (
          r74 [(g τ75 0), v81, v90, v88, v102, v100, v78, v79, v80, v81, v86, v82, v83, v85, v81, v86, v87, v88, v88, (g τ75 19), v98, v94, v95, v97, v81, v98, v99, v100, v100, (g τ75 29), a1, v81, v106, v107, v108, v109, v110, (g τ75 37)] w103)))) (
       Qu Pr (Is w77) (Instr.loadAt 136 v2) fun v113 =>
       Cl Pr (callV (fn 218) #[v113]) w77 fun v115 w114 =>
       Qu Pr (Is w114) (Op.unary .not v115) fun v116 =>
       Jo (fun  (w130 : World) => (
         K Value.nilIface w130 : Prop)) fun J131 =>
       If v116 (
        Qu Pr (Is w114) (Instr.fieldAt 136 v2 0) fun v132 =>
        Qu Pr (Is w114) (Instr.loadAt 134 v132) fun v133 =>
        Cl Pr (callV (fn 225) #[v133]) w114 fun v135 w134 =>
        Qu Pr (Is w134) (binS .neq 132 (.tmp 112) (.const (Value.map none)) v135 (Value.map none)) fun v136 =>
        If v136 (
         Cl Pr (callV (fn 219) #[(Value.string (ByteArray.mk #[99, 102, 103, 46, 86, 111, 116, 101, 114, 115, 91, 49, 93, 32, 109, 117, 115, 116, 32, 98, 101, 32, 110, 105, 108, 32, 119, 104, 101, 110, 32, 110, 111, 116, 32, 106, 111, 105, 110, 116]))]) w134 fun v138 w137 =>
         K v138 w137) (
         Qu Pr (Is w134) (Instr.fieldAt 136 v2 3) fun v139 =>
         Qu Pr (Is w134) (Instr.loadAt 131 v139) fun v140 =>
         Qu Pr (Is w134) (binS .neq 131 (.tmp 116) (.const (Value.map none)) v140 (Value.map none)) fun v141 =>
         If v141 (
          Cl Pr (callV (fn 219) #[(Value.string (ByteArray.mk #[99, 102, 103, 46, 76, 101, 97, 114, 110, 101, 114, 115, 78, 101, 120, 116, 32, 109, 117, 115, 116, 32, 98, 101, 32, 110, 105, 108, 32, 119, 104, 101, 110, 32, 110, 111, 116, 32, 106, 111, 105, 110, 116]))]) w134 fun v143 w142 =>
          K v143 w142) (
          Qu Pr (Is w134) (Instr.fieldAt 136 v2 1) fun v144 =>
          Qu Pr (Is w134) (Instr.loadAt 4 v144) fun v145 =>
          If v145 (
           Cl Pr (callV (fn 219) #[(Value.string (ByteArray.mk #[65, 117, 116, 111, 76, 101, 97, 118, 101, 32, 109, 117, 115, 116, 32, 98, 101, 32, 102, 97, 108, 115, 101, 32, 119, 104, 101, 110, 32, 110, 111, 116, 32, 106, 111, 105, 110, 116]))]) w134 fun v147 w146 =>
           K v147 w146) (
           J131 w134)))) (
        J131 w114))) w72
@[irreducible] def t286_2 (w18 : World) (v2 : Value) (τ17 : List Value) (K : Value → World → Prop) (a1 : Value) : Prop :=
   Qu Pr (Is w18) (Instr.fieldAt 136 v2 3) fun v39 =>
   Qu Pr (Is w18) (Instr.loadAt 131 v39) fun v40 =>
   Ef Pr (Instr.range 131 v40) w18 fun v42 w41 =>
   LoopW [(g τ17 0), undef, undef, undef, undef, undef, undef, undef, undef, undef, undef, undef, undef, undef, undef, undef, undef, undef, undef, undef, undef, undef, undef, undef, undef, undef] (fun r43 τ44 w45 =>
    Ef Pr (Instr.next v42 false 0) w45 fun v47 w46 =>
    Qu Pr (Is w46) (Instr.extract v47 0) fun v48 =>
    If v48 (
     Qu Pr (Is w46) (Instr.entry v42) fun v49 =>
     Qu Pr (Is w46) (Instr.extract v49 0) fun v50 =>
     Qu Pr (Is w46) (Instr.fieldAt 136 v2 0) fun v51 =>
     Qu Pr (Is w46) (Instr.loadAt 134 v51) fun v52 =>
     Cl Pr (callV (fn 225) #[v52]) w46 fun v54 w53 =>
     Qu Pr (Is w53) (Instr.lookup 132 v54 v50 true) fun v55 =>
     Qu Pr (Is w53) (Instr.extract v55 0) fun v56 =>
     Qu Pr (Is w53) (Instr.extract v55 1) fun v57 =>
     Ef Pr (Instr.alloc 156 true (.tuple #[])) w53 fun v59 w58 =>
     Eu Pr (Instr.storeAt 156 v59 v56) w58 fun w60 =>
     Qu Pr (Is w60) (Op.unary .not v57) fun v61 =>
     If v61 (
      Cl Pr (callV (fn 219) #[(Value.string (ByteArray.mk #[105, 110, 32, 76, 101, 97, 114, 110, 101, 114, 115, 78, 101, 120, 116, 44, 32, 98, 117, 116, 32, 110, 111, 116, 32, 86, 111, 116, 101, 114, 115, 91, 49, 93]))]) w60 fun v63 w62 =>
      K v63 w62) (
      Qu Pr (Is w60) (Instr.lookup 138 a1 v50 false) fun v64 =>
      Qu Pr (Is w60) (nilS v64) fun v65 =>
      Qu Pr (Is w60) (Instr.fieldAt 152 v65 8) fun v66 =>
      Qu Pr (Is w60) (Instr.loadAt 4 v66) fun v67 =>
      If v67 (
       Cl Pr (callV (fn 219) #[(Value.string (ByteArray.mk #[105, 110, 32, 76, 101, 97, 114, 110, 101, 114, 115, 78, 101, 120, 116, 44, 32, 98, 117, 116, 32, 97, 108, 114, 101, 97, 100, 121, 32, 109, 97, 114, 107, 101, 100, 32, 97, 115, 32, 108, 101, 97, 114, 110, 101, 114]))]) w60 fun v69 w68 =>
       K v69 w68) (
       r43 [(g τ44 0), v50, v59, v57, v47, v48, v49, v50, v55, v51, v52, v54, v50, v55, v56, v57, v57, v61, (g τ44 18), a1, v50, v64, v65, v66, v67, (g τ44 25)] w60))) (t286_1 w46 v2 τ44 K a1)) w41
def t286 (a0 a1 : Value) (K : Value → World → Prop) (w : World) : Prop :=
 Ef Pr (Instr.box 136 a0) w fun v2 w1 =>
 Dr w1 fun S3 w4 =>
 Qu Pr (S3) (Instr.fieldAt 136 v2 0) fun v5 =>
 Qu Pr (S3) (Instr.loadAt 134 v5) fun v6 =>
 Cl Pr (callV (fn 165) #[v6]) w4 fun v8 w7 => S3 w7 ∧
 Qu Pr (S3) (Instr.fieldAt 136 v2 2) fun v9 =>
 Qu Pr (S3) (Instr.loadAt 131 v9) fun v10 =>
 Qu Pr (S3) (Instr.fieldAt 136 v2 3) fun v11 =>
 Qu Pr (S3) (Instr.loadAt 131 v11) fun v12 =>
 Ef Pr (Instr.buildSlice 408 3 #[(0, v8), (1, v10), (2, v12)]) w7 fun v14 w13 => S3 w13 ∧
 Qu Pr (S3) (Builtin.len_ #[408] 3 #[v14]) fun v15 =>
 LoopW [Value.nilIface, undef, undef, undef, undef, (Value.int .i64 0), undef, undef, undef, undef, undef, undef, undef, undef, undef, undef, undef, undef, undef, undef, undef, undef, undef, undef, undef] (fun r16 τ17 w18 =>
  Qu Pr (Is w18) (binS .lss 3 (.tmp 27) (.tmp 26) (g τ17 5) v15) fun v19 =>
  If v19 (
   Qu Pr (Is w18) (Instr.indexAt 408 v14 (g τ17 5)) fun v20 =>
   Qu Pr (Is w18) (Instr.loadAt 131 v20) fun v21 =>
   Ef Pr (Instr.range 131 v21) w18 fun v23 w22 =>
   LoopW [(g τ17 0), (g τ17 2), (g τ17 3), (g τ17 4), (g τ17 11), (g τ17 12), (g τ17 13), (g τ17 14), (g τ17 15), (g τ17 16), (g τ17 17), (g τ17 18), (g τ17 19), (g τ17 20), (g τ17 21), (g τ17 22), (g τ17 23)] (fun r24 τ25 w26 =>
    Ef Pr (Instr.next v23 false 0) w26 fun v28 w27 =>
    Qu Pr (Is w27) (Instr.extract v28 0) fun v29 =>
    If v29 (
     Qu Pr (Is w27) (Instr.entry v23) fun v30 =>
     Qu Pr (Is w27) (Instr.extract v30 0) fun v31 =>
     Qu Pr (Is w27) (Instr.lookup 138 a1 v31 true) fun v32 =>
     Qu Pr (Is w27) (Instr.extract v32 0) fun v33 =>
     Qu Pr (Is w27) (Instr.extract v32 1) fun v34 =>
     Qu Pr (Is w27) (Op.unary .not v34) fun v35 =>
     If v35 (
      Cl Pr (callV (fn 219) #[(Value.string (ByteArray.mk #[110, 111, 32, 112, 114, 111, 103, 114, 101, 115, 115]))]) w27 fun v37 w36 =>
      K v37 w36) (
      r24 [(g τ25 0), v31, v33, v34, v28, v29, v30, v31, v32, a1, v31, v32, v33, v34, v34, v35, (g τ25 16)] w27)) (
     Qu Pr (Is w27) (binS .add 3 (.tmp 27) (.const (Value.int .i64 1)) (g τ17 5) (Value.int .i64 1)) fun v38 =>
     r16 [(g τ25 0), v21, (g τ25 1), (g τ25 2), (g τ25 3), v38, v19, v20, v21, v21, v23, v28, v29, (g τ25 6), (g τ25 7), (g τ25 8), (g τ25 9), (g τ25 10), (g τ25 11), (g τ25 12), (g τ25 13), (g τ25 14), (g τ25 15), (g τ25 16), v38] w27)) w22) (t286_2 w18 v2 τ17 K a1)) w13
theorem c286 {a0 a1 : Value} {K : Value → World → Prop} {w : World} (h : t286 a0 a1 K w) : CK Pr 286 #[a0, a1] w K := by
  refine calls_of_RF [(2, [4, 6, 7, 8, 9, 27, 28, 29, 30, 31, 32, 33, 34, 35, 36, 37, 38, 39, 40, 41, 42, 43, 44, 45, 46]), (5, [4, 7, 8, 9, 33, 34, 35, 36, 37, 38, 39, 40, 41, 42, 43, 44, 45]), (12, [4, 10, 11, 12, 50, 51, 52, 53, 54, 55, 56, 57, 58, 59, 60, 61, 62, 63, 64, 65, 66, 67, 68, 69, 70, 71]), (20, [4, 13, 14, 15, 16, 17, 75, 76, 77, 78, 79, 80, 81, 82, 83, 84, 85, 86, 87, 88, 89, 90, 91, 92, 93, 94, 95, 96, 97, 98, 99, 100, 101, 102, 103, 104, 105, 106])] Tryz.func286 rfl ?_ ?_ ?_
  · kernel_rfl
  · exact Nat.le_of_ble_eq_true rfl
  · exact cast (by kernel_rfl) h

def t287 (a0 : Value) (K : Value → World → Prop) (w : World) : Prop :=
 Qu Pr (Is w) (binS .eql 23 (.tmp 4) (.const (Value.slice none 0 0)) a0 (Value.slice none 0 0)) fun v1 =>
 If v1 (
  K (Value.slice none 0 0) w) (
  Qu Pr (Is w) (Builtin.len_ #[23] 3 #[a0]) fun v2 =>
  Ef Pr (Instr.makeSlice 23 v2 v2) w fun v4 w3 =>
  Ef Pr (Builtin.copy_ #[23, 23] 3 #[v4, a0]) w3 fun _ w5 =>
  K v4 w5)
theorem c287 {a0 : Value} {K : Value → World → Prop} {w : World} (h : t287 a0 K w) : CK Pr 287 #[a0] w K := by
  refine calls_of_RF [] Tryz.func287 rfl ?_ ?_ ?_
  · kernel_rfl
  · exact Nat.le_of_ble_eq_true rfl
  · exact cast (by kernel_rfl) h

def t288 (a0 : Value) (K : Value → World → Prop) (w : World) : Prop :=
 Qu Pr (Is w) (binS .eql 117 (.tmp 4) (.const (Value.pointer none)) a0 (Value.pointer none)) fun v1 =>
 If v1 (
  K (Value.pointer none) w) (
  Qu Pr (Is w) (nilS a0) fun v2 =>
  Qu Pr (Is w) (Instr.loadAt 4 v2) fun v3 =>
  Ef Pr (Instr.alloc 4 true (.tuple #[])) w fun v5 w4 =>
  Eu Pr (Instr.storeAt 4 v5 v3) w4 fun w6 =>
  K v5 w6)
theorem c288 {a0 : Value} {K : Value → World → Prop} {w : World} (h : t288 a0 K w) : CK Pr 288 #[a0] w K := by
  refine calls_of_RF [] Tryz.func288 rfl ?_ ?_ ?_
  · kernel_rfl
  · exact Nat.le_of_ble_eq_true rfl
  · exact cast (by kernel_rfl) h

def t289 (a0 a1 : Value) (K : Value → World → Prop) (w : World) : Prop :=
 Qu Pr (Is w) (Builtin.len_ #[23] 3 #[a0]) fun v1 =>
 Qu Pr (Is w) (Builtin.len_ #[23] 3 #[a1]) fun v2 =>
 Qu Pr (Is w) (binS .neq 3 (.tmp 7) (.tmp 9) v1 v2) fun v3 =>
 If v3 (
  K (Value.bool false) w) (
  Qu Pr (Is w) (Builtin.len_ #[23] 3 #[a0]) fun v4 =>
  LoopW [(Value.bool false), undef, (Value.int .i64 0), undef, undef, undef, undef, undef, undef, undef, undef, undef, undef, undef, undef] (fun r5 τ6 w7 =>
   Qu Pr (Is w7) (binS .lss 3 (.tmp 13) (.tmp 12) (g τ6 2) v4) fun v8 =>
   If v8 (
    Dr w7 fun S9 w10 =>
    Qu Pr (S9) (Instr.indexAt 23 a0 (g τ6 2)) fun v11 =>
    Qu Pr (S9) (Instr.loadAt 22 v11) fun v12 =>
    Qu Pr (S9) (Instr.indexAt 23 a1 (g τ6 2)) fun v13 =>
    Qu Pr (S9) (Instr.loadAt 22 v13) fun v14 =>
    Qu Pr (S9) (binS .neq 22 (.tmp 19) (.tmp 23) v12 v14) fun v15 =>
    If v15 (
     K (Value.bool false) w10) (
     Qu Pr (Is w10) (binS .add 3 (.tmp 13) (.const (Value.int .i64 1)) (g τ6 2) (Value.int .i64 1)) fun v16 =>
     r5 [(g τ6 0), (g τ6 2), v16, v8, (g τ6 2), a0, (g τ6 2), v11, v12, a1, (g τ6 2), v13, v14, v15, v16] w10)) (
    K (Value.bool true) w7)) w)
theorem c289 {a0 a1 : Value} {K : Value → World → Prop} {w : World} (h : t289 a0 a1 K w) : CK Pr 289 #[a0, a1] w K := by
  refine calls_of_RF [(4, [4, 5, 13, 14, 15, 16, 17, 18, 19, 20, 21, 22, 23, 24, 25])] Tryz.func289 rfl ?_ ?_ ?_
  · kernel_rfl
  · exact Nat.le_of_ble_eq_true rfl
  · exact cast (by kernel_rfl) h

def t316 (a0 : Value) (K : Value → World → Prop) (w : World) : Prop :=
 Qu Pr (Is w) (binS .eql 131 (.tmp 5) (.const (Value.map none)) a0 (Value.map none)) fun v1 =>
 If v1 (
  K (Value.map none) w) (
  Qu Pr (Is w) (Builtin.len_ #[131] 3 #[a0]) fun v2 =>
  Ef Pr (Instr.makeMap 131 (some v2)) w fun v4 w3 =>
  Ef Pr (Instr.range 131 a0) w3 fun v6 w5 =>
  LoopW [undef, undef, undef, undef, undef, undef, undef, undef] (fun r7 _ w9 =>
   Ef Pr (Instr.next v6 false 0) w9 fun v11 w10 =>
   Qu Pr (Is w10) (Instr.extract v11 0) fun v12 =>
   If v12 (
    Qu Pr (Is w10) (Instr.entry v6) fun v13 =>
    Qu Pr (Is w10) (Instr.extract v13 0) fun v14 =>
    Qu Pr (Is w10) (Instr.build 156 #[]) fun v15 =>
    Eu Pr (Instr.mapUpdate 131 v4 v14 v15) w10 fun w16 =>
    r7 [v14, v11, v12, v13, v14, v4, v14, v15] w16) (
    K v4 w10)) w5)
theorem c316 {a0 : Value} {K : Value → World → Prop} {w : World} (h : t316 a0 K w) : CK Pr 316 #[a0] w K := by
  refine calls_of_RF [(5, [4, 12, 13, 14, 15, 16, 17, 18])] Tryz.func316 rfl ?_ ?_ ?_
  · kernel_rfl
  · exact Nat.le_of_ble_eq_true rfl
  · exact cast (by kernel_rfl) h

def t317 (a0 a1 a2 a3 a4 : Value) (K : Value → World → Prop) (w : World) : Prop :=
 Ef Pr (Instr.box 209 a0) w fun v2 w1 =>
 Qu Pr (Is w1) (Op.unary .not a4) fun v3 =>
 Jo (fun  (w16 : World) => (
   Dr w16 fun S18 w19 =>
   Qu Pr (S18) (Instr.fieldAt 209 v2 1) fun v20 =>
   Qu Pr (S18) (Instr.loadAt 22 v20) fun v21 =>
   Qu Pr (S18) (Builtin.max_ #[22, 22] 22 #[v21, (Value.int .u64 1)]) fun v22 =>
   Qu Pr (S18) (Instr.fieldAt 209 v2 0) fun v23 =>
   Qu Pr (S18) (Instr.fieldAt 141 v23 3) fun v24 =>
   Qu Pr (S18) (Instr.loadAt 3 v24) fun v25 =>
   Qu Pr (S18) (Instr.fieldAt 209 v2 0) fun v26 =>
   Qu Pr (S18) (Instr.fieldAt 141 v26 4) fun v27 =>
   Qu Pr (S18) (Instr.loadAt 22 v27) fun v28 =>
   Cl Pr (callV (fn 78) #[v25, v28]) w19 fun v30 w29 => S18 w29 ∧
   Qu Pr (S18) (Instr.build 152 #[(0, (Value.int .u64 0)), (1, v22), (7, v30), (8, a4), (5, (Value.bool true))]) fun v31 =>
   Ef Pr (Instr.box 152 v31) w29 fun v33 w32 => S18 w32 ∧
   Eu Pr (Instr.mapUpdate 138 a2 a3 v33) w32 fun w34 => S18 w34 ∧
   K (.tuple #[]) w34 : Prop)) fun J17 =>
 If v3 (
  Qu Pr (Is w1) (nilS a1) fun v35 =>
  Qu Pr (Is w1) (Instr.fieldAt 136 v35 0) fun v36 =>
  Qu Pr (Is w1) (Instr.loadAt 134 v36) fun v37 =>
  Cl Pr (callV (fn 222) #[v37]) w1 fun v39 w38 =>
  Qu Pr (Is w38) (Instr.build 156 #[]) fun v40 =>
  Eu Pr (Instr.mapUpdate 132 v39 a3 v40) w38 fun w41 =>
  J17 w41) (
  Qu Pr (Is w1) (nilS a1) fun v42 =>
  Qu Pr (Is w1) (Instr.fieldAt 136 v42 2) fun v43 =>
  Cl Pr (callV (fn 319) #[v43, a3]) w1 fun _ w44 =>
  J17 w44)
theorem c317 {a0 a1 a2 a3 a4 : Value} {K : Value → World → Prop} {w : World} (h : t317 a0 a1 a2 a3 a4 K w) : CK Pr 317 #[a0, a1, a2, a3, a4] w K := by
  refine calls_of_RF [] Tryz.func317 rfl ?_ ?_ ?_
  · kernel_rfl
  · exact Nat.le_of_ble_eq_true rfl
  · exact cast (by kernel_rfl) h

def t319 (a0 a1 : Value) (K : Value → World → Prop) (w : World) : Prop :=
 Qu Pr (Is w) (nilS a0) fun v1 =>
 Qu Pr (Is w) (Instr.loadAt 131 v1) fun v2 =>
 Qu Pr (Is w) (binS .eql 131 (.tmp 6) (.const (Value.map none)) v2 (Value.map none)) fun v3 =>
 Jo (fun  (w7 : World) => (
   Qu Pr (Is w7) (nilS a0) fun v9 =>
   Qu Pr (Is w7) (Instr.loadAt 131 v9) fun v10 =>
   Qu Pr (Is w7) (Instr.build 156 #[]) fun v11 =>
   Eu Pr (Instr.mapUpdate 131 v10 a1 v11) w7 fun w12 =>
   K (.tuple #[]) w12 : Prop)) fun J8 =>
 If v3 (
  Ef Pr (Instr.makeMap 131 none) w fun v14 w13 =>
  Qu Pr (Is w13) (nilS a0) fun v15 =>
  Eu Pr (Instr.storeAt 131 v15 v14) w13 fun w16 =>
  J8 w16) (
  J8 w)
theorem c319 {a0 a1 : Value} {K : Value → World → Prop} {w : World} (h : t319 a0 a1 K w) : CK Pr 319 #[a0, a1] w K := by
  refine calls_of_RF [] Tryz.func319 rfl ?_ ?_ ?_
  · kernel_rfl
  · exact Nat.le_of_ble_eq_true rfl
  · exact cast (by kernel_rfl) h

def t351 (a0 : Value) (K : Value → World → Prop) (w : World) : Prop :=
 Qu Pr (Is w) (nilS a0) fun v1 =>
 Qu Pr (Is w) (Instr.fieldAt 225 v1 3) fun v2 =>
 Qu Pr (Is w) (Instr.fieldAt 223 v2 1) fun v3 =>
 Qu Pr (Is w) (Instr.loadAt 3 v3) fun v4 =>
 Qu Pr (Is w) (binS .add 3 (.tmp 8) (.const (Value.int .i64 1)) v4 (Value.int .i64 1)) fun v5 =>
 Qu Pr (Is w) (nilS a0) fun v6 =>
 Qu Pr (Is w) (Instr.fieldAt 225 v6 3) fun v7 =>
 Qu Pr (Is w) (Instr.fieldAt 223 v7 1) fun v8 =>
 Eu Pr (Instr.storeAt 3 v8 v5) w fun w9 =>
 Cl Pr (callV (fn 123) #[a0]) w9 fun v11 w10 =>
 K (.tuple #[v11, Value.nilIface]) w10
theorem c351 {a0 : Value} {K : Value → World → Prop} {w : World} (h : t351 a0 K w) : CK Pr 351 #[a0] w K := by
  refine calls_of_RF [] Tryz.func351 rfl ?_ ?_ ?_
  · kernel_rfl
  · exact Nat.le_of_ble_eq_true rfl
  · exact cast (by kernel_rfl) h

def t352 (a0 : Value) (K : Value → World → Prop) (w : World) : Prop :=
 Qu Pr (Is w) (nilS a0) fun v1 =>
 Qu Pr (Is w) (Instr.fieldAt 225 v1 3) fun v2 =>
 Qu Pr (Is w) (Instr.fieldAt 223 v2 2) fun v3 =>
 Qu Pr (Is w) (Instr.loadAt 3 v3) fun v4 =>
 Qu Pr (Is w) (binS .add 3 (.tmp 8) (.const (Value.int .i64 1)) v4 (Value.int .i64 1)) fun v5 =>
 Qu Pr (Is w) (nilS a0) fun v6 =>
 Qu Pr (Is w) (Instr.fieldAt 225 v6 3) fun v7 =>
 Qu Pr (Is w) (Instr.fieldAt 223 v7 2) fun v8 =>
 Eu Pr (Instr.storeAt 3 v8 v5) w fun w9 =>
 Cl Pr (callV (fn 355) #[a0]) w9 fun v11 w10 =>
 K (.tuple #[v11, Value.nilIface]) w10
theorem c352 {a0 : Value} {K : Value → World → Prop} {w : World} (h : t352 a0 K w) : CK Pr 352 #[a0] w K := by
  refine calls_of_RF [] Tryz.func352 rfl ?_ ?_ ?_
  · kernel_rfl
  · exact Nat.le_of_ble_eq_true rfl
  · exact cast (by kernel_rfl) h

def t354 (a0 a1 : Value) (K : Value → World → Prop) (w : World) : Prop :=
 Qu Pr (Is w) (nilS a0) fun v1 =>
 Qu Pr (Is w) (Instr.fieldAt 225 v1 3) fun v2 =>
 Qu Pr (Is w) (Instr.fieldAt 223 v2 4) fun v3 =>
 Qu Pr (Is w) (Instr.loadAt 3 v3) fun v4 =>
 Qu Pr (Is w) (binS .add 3 (.tmp 11) (.const (Value.int .i64 1)) v4 (Value.int .i64 1)) fun v5 =>
 Qu Pr (Is w) (nilS a0) fun v6 =>
 Qu Pr (Is w) (Instr.fieldAt 225 v6 3) fun v7 =>
 Qu Pr (Is w) (Instr.fieldAt 223 v7 4) fun v8 =>
 Eu Pr (Instr.storeAt 3 v8 v5) w fun w9 =>
 Qu Pr (Is w9) (nilS a0) fun v10 =>
 Qu Pr (Is w9) (Instr.fieldAt 225 v10 2) fun v11 =>
 Qu Pr (Is w9) (Instr.loadAt 115 v11) fun v12 =>
 Qu Pr (Is w9) (Instr.indexAt 115 v12 (Value.int .i64 0)) fun v13 =>
 Qu Pr (Is w9) (Instr.loadAt 212 v13) fun v14 =>
 Cl Pr (callV (fn 124) #[v14]) w9 fun v16 w15 =>
 Qu Pr (Is w15) (binS .lss 22 (.tmp 23) (.tmp 24) a1 v16) fun v17 =>
 If v17 (
  Qu Pr (Is w15) (Instr.makeInterface 226 (Value.string (ByteArray.mk #[114, 101, 113, 117, 101, 115, 116, 101, 100, 32, 105, 110, 100, 101, 120, 32, 105, 115, 32, 117, 110, 97, 118, 97, 105, 108, 97, 98, 108, 101, 32, 100, 117, 101, 32, 116, 111, 32, 99, 111, 109, 112, 97, 99, 116, 105, 111, 110]))) fun v18 =>
  K (.tuple #[(Value.int .u64 0), v18]) w15) (
  Qu Pr (Is w15) (binS .sub 22 (.tmp 27) (.tmp 28) a1 v16) fun v19 =>
  Qu Pr (Is w15) (convert 22 3 v19) fun v20 =>
  Qu Pr (Is w15) (nilS a0) fun v21 =>
  Qu Pr (Is w15) (Instr.fieldAt 225 v21 2) fun v22 =>
  Qu Pr (Is w15) (Instr.loadAt 115 v22) fun v23 =>
  Qu Pr (Is w15) (Builtin.len_ #[115] 3 #[v23]) fun v24 =>
  Qu Pr (Is w15) (binS .geq 3 (.tmp 30) (.tmp 35) v20 v24) fun v25 =>
  If v25 (
   Qu Pr (Is w15) (Instr.makeInterface 226 (Value.string (ByteArray.mk #[114, 101, 113, 117, 101, 115, 116, 101, 100, 32, 101, 110, 116, 114, 121, 32, 97, 116, 32, 105, 110, 100, 101, 120, 32, 105, 115, 32, 117, 110, 97, 118, 97, 105, 108, 97, 98, 108, 101]))) fun v26 =>
   K (.tuple #[(Value.int .u64 0), v26]) w15) (
   Qu Pr (Is w15) (nilS a0) fun v27 =>
   Qu Pr (Is w15) (Instr.fieldAt 225 v27 2) fun v28 =>
   Qu Pr (Is w15) (Instr.loadAt 115 v28) fun v29 =>
   Qu Pr (Is w15) (binS .sub 22 (.tmp 42) (.tmp 43) a1 v16) fun v30 =>
   Qu Pr (Is w15) (Instr.indexAt 115 v29 v30) fun v31 =>
   Qu Pr (Is w15) (Instr.loadAt 212 v31) fun v32 =>
   Cl Pr (callV (fn 128) #[v32]) w15 fun v34 w33 =>
   K (.tuple #[v34, Value.nilIface]) w33))
theorem c354 {a0 a1 : Value} {K : Value → World → Prop} {w : World} (h : t354 a0 a1 K w) : CK Pr 354 #[a0, a1] w K := by
  refine calls_of_RF [] Tryz.func354 rfl ?_ ?_ ?_
  · kernel_rfl
  · exact Nat.le_of_ble_eq_true rfl
  · exact cast (by kernel_rfl) h

def t355 (a0 : Value) (K : Value → World → Prop) (w : World) : Prop :=
 Dr w fun S1 w2 =>
 Qu Pr (S1) (nilS a0) fun v3 =>
 Qu Pr (S1) (Instr.fieldAt 225 v3 2) fun v4 =>
 Qu Pr (S1) (Instr.loadAt 115 v4) fun v5 =>
 Qu Pr (S1) (Instr.indexAt 115 v5 (Value.int .i64 0)) fun v6 =>
 Qu Pr (S1) (Instr.loadAt 212 v6) fun v7 =>
 Cl Pr (callV (fn 124) #[v7]) w2 fun v9 w8 => S1 w8 ∧
 Qu Pr (S1) (nilS a0) fun v10 =>
 Qu Pr (S1) (Instr.fieldAt 225 v10 2) fun v11 =>
 Qu Pr (S1) (Instr.loadAt 115 v11) fun v12 =>
 Qu Pr (S1) (Builtin.len_ #[115] 3 #[v12]) fun v13 =>
 Qu Pr (S1) (convert 3 22 v13) fun v14 =>
 Qu Pr (S1) (binS .add 22 (.tmp 9) (.tmp 15) v9 v14) fun v15 =>
 Qu Pr (S1) (binS .sub 22 (.tmp 16) (.const (Value.int .u64 1)) v15 (Value.int .u64 1)) fun v16 =>
 K v16 w8
theorem c355 {a0 : Value} {K : Value → World → Prop} {w : World} (h : t355 a0 K w) : CK Pr 355 #[a0] w K := by
  refine calls_of_RF [] Tryz.func355 rfl ?_ ?_ ?_
  · kernel_rfl
  · exact Nat.le_of_ble_eq_true rfl
  · exact cast (by kernel_rfl) h

end Go.Proofs.YtmmpogfbhelioaaGreat
