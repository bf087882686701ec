/-
  PARTS: T4 Db K6 T5 K7 K8 K9 K10 K11 K12 Df K13.
-/
import Derived.Test.YtmmpogfbhelioaaGreatFra
import Derived.Test.YtmmpogfbhelioaaGreatFrb
import Derived.Test.YtmmpogfbhelioaaGreatFrd
/-
  The readable texts of the program's functions, printed by gen.py, and their links with the program.
  Conditions: none.
-/
namespace Go.Proofs.YtmmpogfbhelioaaGreat
set_option maxRecDepth 10000
set_option linter.unusedVariables false
set_option linter.unusedSimpArgs false
set_option linter.unusedVariables false
/-- pub/raft/confchange.Restore$1 -/
def t151 (a0 a1 : Value) (K : Value → World → Prop) (w : World) : Prop :=
 Ef Pr (Instr.box 209 a0) w fun v2 w1 =>
 Ef Pr (Instr.alloc 136 true (.tuple #[])) w1 fun v4 w3 =>
 Qu Pr (Is w3) (Instr.loadAt 209 v2) fun v5 =>
 Qu Pr (Is w3) (Instr.loadAt 251 a1) fun v6 =>
 Ef Pr (Instr.buildSlice 247 1 #[(0, v6)]) w3 fun v8 w7 =>
 Cl Pr (callV (fn 152) #[v5, v8]) w7 fun v10 w9 =>
 Qu Pr (Is w9) (Instr.extract v10 0) fun v11 =>
 Qu Pr (Is w9) (Instr.extract v10 1) fun v12 =>
 Qu Pr (Is w9) (Instr.extract v10 2) fun v13 =>
 Eu Pr (Instr.storeAt 136 v4 v11) w9 fun w14 =>
 Qu Pr (Is w14) (Instr.loadAt 136 v4) fun v15 =>
 K (.tuple #[v15, v12, v13]) w14
theorem c151 {a0 a1 : Value} {K : Value → World → Prop} {w : World} (h : t151 a0 a1 K w) : CK Pr 151 #[a0, a1] w K := by
  refine calls_of_RF [] Tryz.func151 rfl ?_ ?_ ?_
  · kernel_rfl
  · exact Nat.le_of_ble_eq_true rfl
  · exact cast (by kernel_rfl) h

@[irreducible] def t152_1 (w24 : World) (v2 : Value) (v12 : Value) (v9 : Value) (a1 : Value) (v4 : Value) (K : Value → World → Prop) : Prop :=
   Qu Pr (Is w24) (Instr.loadAt 209 v2) fun v36 =>
   Cl Pr (callV (fn 220) #[v36, v12, v9, a1]) w24 fun v38 w37 =>
   Qu Pr (Is w37) (binS .neq 125 (.tmp 40) (.const Value.nilIface) v38 Value.nilIface) fun v39 =>
   If v39 (
    Qu Pr (Is w37) (Instr.loadAt 209 v2) fun v40 =>
    Cl Pr (callV (fn 217) #[v40, v38]) w37 fun v42 w41 =>
    Qu Pr (Is w41) (Instr.extract v42 0) fun v43 =>
    Qu Pr (Is w41) (Instr.extract v42 1) fun v44 =>
    Qu Pr (Is w41) (Instr.extract v42 2) fun v45 =>
    Eu Pr (Instr.storeAt 136 v4 v43) w41 fun w46 =>
    Qu Pr (Is w46) (Instr.loadAt 136 v4) fun v47 =>
    K (.tuple #[v47, v44, v45]) w46) (
    Dr w37 fun S48 w49 =>
    Qu Pr (S48) (Instr.fieldAt 209 v2 0) fun v50 =>
    Qu Pr (S48) (Instr.fieldAt 141 v50 0) fun v51 =>
    Qu Pr (S48) (Instr.fieldAt 136 v51 0) fun v52 =>
    Qu Pr (S48) (Instr.loadAt 134 v52) fun v53 =>
    Cl Pr (callV (fn 222) #[v53]) w49 fun v55 w54 => S48 w54 ∧
    Qu Pr (S48) (Instr.fieldAt 136 v12 0) fun v56 =>
    Qu Pr (S48) (Instr.loadAt 134 v56) fun v57 =>
    Cl Pr (callV (fn 222) #[v57]) w54 fun v59 w58 => S48 w58 ∧
    Cl Pr (callV (fn 221) #[v55, v59]) w58 fun v61 w60 => S48 w60 ∧
    Qu Pr (Is w60) (binS .gtr 3 (.tmp 57) (.const (Value.int .i64 1)) v61 (Value.int .i64 1)) fun v62 =>
    If v62 (
     Qu Pr (Is w60) (Instr.build 136 #[]) fun v63 =>
     Cl Pr (callV (fn 219) #[(Value.string (ByteArray.mk #[109, 111, 114, 101, 32, 116, 104, 97, 110, 32, 111, 110, 101, 32, 118, 111, 116, 101, 114, 32, 99, 104, 97, 110, 103, 101, 100, 32, 119, 105, 116, 104, 111, 117, 116, 32, 101, 110, 116, 101, 114, 105, 110, 103, 32, 106, 111, 105, 110, 116, 32, 99, 111, 110, 102, 105, 103]))]) w60 fun v65 w64 =>
     Eu Pr (Instr.storeAt 136 v4 v63) w64 fun w66 =>
     Qu Pr (Is w66) (Instr.loadAt 136 v4) fun v67 =>
     K (.tuple #[v67, (Value.map none), v65]) w66) (
     Qu Pr (Is w60) (Instr.loadAt 136 v12) fun v68 =>
     Cl Pr (callV (fn 223) #[v68, v9]) w60 fun v70 w69 =>
     Qu Pr (Is w69) (Instr.extract v70 0) fun v71 =>
     Qu Pr (Is w69) (Instr.extract v70 1) fun v72 =>
     Qu Pr (Is w69) (Instr.extract v70 2) fun v73 =>
     Eu Pr (Instr.storeAt 136 v4 v71) w69 fun w74 =>
     Qu Pr (Is w74) (Instr.loadAt 136 v4) fun v75 =>
     K (.tuple #[v75, v72, v73]) w74))
@[irreducible] def t152_2 (w13 : World) (v12 : Value) (v2 : Value) (v4 : Value) (K : Value → World → Prop) (v9 : Value) (a1 : Value) : Prop :=
  Qu Pr (Is w13) (Instr.loadAt 136 v12) fun v23 =>
  Cl Pr (callV (fn 218) #[v23]) w13 fun v25 w24 =>
  If v25 (
   Cl Pr (callV (fn 219) #[(Value.string (ByteArray.mk #[99, 97, 110, 39, 116, 32, 97, 112, 112, 108, 121, 32, 115, 105, 109, 112, 108, 101, 32, 99, 111, 110, 102, 105, 103, 32, 99, 104, 97, 110, 103, 101, 32, 105, 110, 32, 106, 111, 105, 110, 116, 32, 99, 111, 110, 102, 105, 103]))]) w24 fun v27 w26 =>
   Qu Pr (Is w26) (Instr.loadAt 209 v2) fun v28 =>
   Cl Pr (callV (fn 217) #[v28, v27]) w26 fun v30 w29 =>
   Qu Pr (Is w29) (Instr.extract v30 0) fun v31 =>
   Qu Pr (Is w29) (Instr.extract v30 1) fun v32 =>
   Qu Pr (Is w29) (Instr.extract v30 2) fun v33 =>
   Eu Pr (Instr.storeAt 136 v4 v31) w29 fun w34 =>
   Qu Pr (Is w34) (Instr.loadAt 136 v4) fun v35 =>
   K (.tuple #[v35, v32, v33]) w34) (t152_1 w24 v2 v12 v9 a1 v4 K)
/-- (pub/raft/confchange.Changer).Simple -/
def t152 (a0 a1 : Value) (K : Value → World → Prop) (w : World) : Prop :=
 Ef Pr (Instr.box 209 a0) w fun v2 w1 =>
 Ef Pr (Instr.alloc 136 true (.tuple #[])) w1 fun v4 w3 =>
 Qu Pr (Is w3) (Instr.loadAt 209 v2) fun v5 =>
 Cl Pr (callV (fn 216) #[v5]) w3 fun v7 w6 =>
 Qu Pr (Is w6) (Instr.extract v7 0) fun v8 =>
 Qu Pr (Is w6) (Instr.extract v7 1) fun v9 =>
 Qu Pr (Is w6) (Instr.extract v7 2) fun v10 =>
 Ef Pr (Instr.alloc 136 true (.tuple #[])) w6 fun v12 w11 =>
 Eu Pr (Instr.storeAt 136 v12 v8) w11 fun w13 =>
 Qu Pr (Is w13) (binS .neq 125 (.tmp 19) (.const Value.nilIface) v10 Value.nilIface) fun v14 =>
 If v14 (
  Qu Pr (Is w13) (Instr.loadAt 209 v2) fun v15 =>
  Cl Pr (callV (fn 217) #[v15, v10]) w13 fun v17 w16 =>
  Qu Pr (Is w16) (Instr.extract v17 0) fun v18 =>
  Qu Pr (Is w16) (Instr.extract v17 1) fun v19 =>
  Qu Pr (Is w16) (Instr.extract v17 2) fun v20 =>
  Eu Pr (Instr.storeAt 136 v4 v18) w16 fun w21 =>
  Qu Pr (Is w21) (Instr.loadAt 136 v4) fun v22 =>
  K (.tuple #[v22, v19, v20]) w21) (t152_2 w13 v12 v2 v4 K v9 a1)
theorem c152 {a0 a1 : Value} {K : Value → World → Prop} {w : World} (h : t152 a0 a1 K w) : CK Pr 152 #[a0, a1] w K := by
  refine calls_of_RF [] Tryz.func152 rfl ?_ ?_ ?_
  · kernel_rfl
  · exact Nat.le_of_ble_eq_true rfl
  · exact cast (by kernel_rfl) h

/-- (*pub/raft/raftpb.ConfState).GetAutoLeave -/
def t156 (a0 : Value) (K : Value → World → Prop) (w : World) : Prop :=
 Qu Pr (Is w) (binS .neq 102 (.tmp 3) (.const (Value.pointer none)) a0 (Value.pointer none)) fun v1 =>
 Gd v1 true (fun k2 => k2 a0 w) w fun v3 w4 =>
 Gd v1 true (fun k5 => Qu Pr (Is w4) (nilS v3) fun v8 => k5 v8 w4) w4 fun v6 w7 =>
 Gd v1 true (fun k9 => Qu Pr (Is w7) (Instr.fieldAt 200 v6 4) fun v12 => k9 v12 w7) w7 fun v10 w11 =>
 Gd v1 true (fun k13 => Qu Pr (Is w11) (Instr.loadAt 117 v10) fun v16 => k13 v16 w11) w11 fun v14 w15 =>
 Gd v1 true (fun k17 => Qu Pr (Is w15) (binS .neq 117 (.tmp 9) (.const (Value.pointer none)) v14 (Value.pointer none)) fun v20 => k17 v20 w15) w15 fun v18 w19 =>
 Qu Pr (Is w19) (pickS v1 v18 (Value.bool false)) fun v21 =>
 If v21 (
  Qu Pr (Is w19) (nilS a0) fun v22 =>
  Qu Pr (Is w19) (Instr.fieldAt 200 v22 4) fun v23 =>
  Qu Pr (Is w19) (Instr.loadAt 117 v23) fun v24 =>
  Qu Pr (Is w19) (nilS v24) fun v25 =>
  Qu Pr (Is w19) (Instr.loadAt 4 v25) fun v26 =>
  K v26 w19) (
  K (Value.bool false) w19)
theorem c156 {a0 : Value} {K : Value → World → Prop} {w : World} (h : t156 a0 K w) : CK Pr 156 #[a0] w K := by
  refine calls_of_RF [] Tryz.func156 rfl ?_ ?_ ?_
  · kernel_rfl
  · exact Nat.le_of_ble_eq_true rfl
  · exact cast (by kernel_rfl) h

/-- pub/raft/confchange.chain -/
def t157 (a0 a1 : Value) (K : Value → World → Prop) (w : World) : Prop :=
 Ef Pr (Instr.box 209 a0) w fun v2 w1 =>
 Ef Pr (Instr.alloc 136 true (.tuple #[])) w1 fun v4 w3 =>
 Qu Pr (Is w3) (Builtin.len_ #[250] 3 #[a1]) fun v5 =>
 LoopW [(Value.map none), Value.nilIface, undef, undef, undef, undef, (Value.int .i64 0), undef, undef, undef, undef, undef, undef, undef, undef, undef, undef, undef, undef, undef, undef, undef, undef, undef, undef, undef, undef, undef] (fun r6 τ7 w8 =>
  Qu Pr (Is w8) (binS .lss 3 (.tmp 14) (.tmp 13) (g τ7 6) v5) fun v9 =>
  If v9 (
   Qu Pr (Is w8) (Instr.indexAt 250 a1 (g τ7 6)) fun v10 =>
   Qu Pr (Is w8) (Instr.loadAt 253 v10) fun v11 =>
   Qu Pr (Is w8) (Instr.loadAt 209 v2) fun v12 =>
   Cl Pr (callV v11 #[v12]) w8 fun v14 w13 =>
   Qu Pr (Is w13) (Instr.extract v14 0) fun v15 =>
   Qu Pr (Is w13) (Instr.extract v14 1) fun v16 =>
   Qu Pr (Is w13) (Instr.extract v14 2) fun v17 =>
   Ef Pr (Instr.alloc 136 true (.tuple #[])) w13 fun v19 w18 =>
   Eu Pr (Instr.storeAt 136 v19 v15) w18 fun w20 =>
   Qu Pr (Is w20) (binS .neq 125 (.tmp 25) (.const Value.nilIface) v17 Value.nilIface) fun v21 =>
   If v21 (
    Qu Pr (Is w20) (Instr.build 136 #[]) fun v22 =>
    Eu Pr (Instr.storeAt 136 v4 v22) w20 fun w23 =>
    Qu Pr (Is w23) (Instr.loadAt 136 v4) fun v24 =>
    K (.tuple #[v24, (Value.map none), v17]) w23) (
    Qu Pr (Is w20) (Instr.loadAt 136 v19) fun v25 =>
    Qu Pr (Is w20) (Instr.fieldAt 209 v2 0) fun v26 =>
    Qu Pr (Is w20) (Instr.fieldAt 141 v26 0) fun v27 =>
    Eu Pr (Instr.storeAt 136 v27 v25) w20 fun w28 =>
    Qu Pr (Is w28) (Instr.fieldAt 209 v2 0) fun v29 =>
    Qu Pr (Is w28) (Instr.fieldAt 141 v29 1) fun v30 =>
    Eu Pr (Instr.storeAt 138 v30 v16) w28 fun w31 =>
    Qu Pr (Is w31) (binS .add 3 (.tmp 14) (.const (Value.int .i64 1)) (g τ7 6) (Value.int .i64 1)) fun v32 =>
    r6 [(g τ7 0), (g τ7 1), v11, v19, v16, v17, v32, v9, v10, v11, v14, v11, v12, v14, v15, v16, v17, v17, v21, (g τ7 19), (g τ7 20), v25, v26, v27, v16, v29, v30, v32] w31)) (
   Dr w8 fun S33 w34 =>
   Qu Pr (S33) (Instr.fieldAt 209 v2 0) fun v35 =>
   Qu Pr (S33) (Instr.fieldAt 141 v35 0) fun v36 =>
   Qu Pr (S33) (Instr.loadAt 136 v36) fun v37 =>
   Qu Pr (S33) (Instr.fieldAt 209 v2 0) fun v38 =>
   Qu Pr (S33) (Instr.fieldAt 141 v38 1) fun v39 =>
   Qu Pr (S33) (Instr.loadAt 138 v39) fun v40 =>
   Eu Pr (Instr.storeAt 136 v4 v37) w34 fun w41 => S33 w41 ∧
   Qu Pr (Is w41) (Instr.loadAt 136 v4) fun v42 =>
   K (.tuple #[v42, v40, Value.nilIface]) w41)) w3
theorem c157 {a0 a1 : Value} {K : Value → World → Prop} {w : World} (h : t157 a0 a1 K w) : CK Pr 157 #[a0, a1] w K := by
  refine calls_of_RF [(2, [5, 6, 8, 9, 10, 11, 14, 15, 16, 17, 18, 19, 20, 21, 22, 23, 24, 25, 26, 27, 28, 29, 30, 31, 32, 33, 34, 35])] Tryz.func157 rfl ?_ ?_ ?_
  · kernel_rfl
  · exact Nat.le_of_ble_eq_true rfl
  · exact cast (by kernel_rfl) h

/-- (*pub/raft.unstable).maybeLastIndex -/
def t158 (a0 : Value) (K : Value → World → Prop) (w : World) : Prop :=
 Qu Pr (Is w) (nilS a0) fun v1 =>
 Qu Pr (Is w) (Instr.fieldAt 194 v1 1) fun v2 =>
 Qu Pr (Is w) (Instr.loadAt 115 v2) fun v3 =>
 Qu Pr (Is w) (Builtin.len_ #[115] 3 #[v3]) fun v4 =>
 Qu Pr (Is w) (binS .neq 3 (.tmp 10) (.const (Value.int .i64 0)) v4 (Value.int .i64 0)) fun v5 =>
 If v5 (
  Qu Pr (Is w) (nilS a0) fun v6 =>
  Qu Pr (Is w) (Instr.fieldAt 194 v6 2) fun v7 =>
  Qu Pr (Is w) (Instr.loadAt 22 v7) fun v8 =>
  Qu Pr (Is w) (convert 3 22 v4) fun v9 =>
  Qu Pr (Is w) (binS .add 22 (.tmp 15) (.tmp 17) v8 v9) fun v10 =>
  Qu Pr (Is w) (binS .sub 22 (.tmp 18) (.const (Value.int .u64 1)) v10 (Value.int .u64 1)) fun v11 =>
  K (.tuple #[v11, (Value.bool true)]) w) (
  Qu Pr (Is w) (nilS a0) fun v12 =>
  Qu Pr (Is w) (Instr.fieldAt 194 v12 0) fun v13 =>
  Qu Pr (Is w) (Instr.loadAt 75 v13) fun v14 =>
  Qu Pr (Is w) (binS .neq 75 (.tmp 23) (.const (Value.pointer none)) v14 (Value.pointer none)) fun v15 =>
  If v15 (
   Qu Pr (Is w) (nilS a0) fun v16 =>
   Qu Pr (Is w) (Instr.fieldAt 194 v16 0) fun v17 =>
   Qu Pr (Is w) (Instr.loadAt 75 v17) fun v18 =>
   Cl Pr (callV (fn 95) #[v18]) w fun v20 w19 =>
   Cl Pr (callV (fn 96) #[v20]) w19 fun v22 w21 =>
   K (.tuple #[v22, (Value.bool true)]) w21) (
   K (.tuple #[(Value.int .u64 0), (Value.bool false)]) w))
theorem c158 {a0 : Value} {K : Value → World → Prop} {w : World} (h : t158 a0 K w) : CK Pr 158 #[a0] w K := by
  refine calls_of_RF [] Tryz.func158 rfl ?_ ?_ ?_
  · kernel_rfl
  · exact Nat.le_of_ble_eq_true rfl
  · exact cast (by kernel_rfl) h

@[irreducible] def t159_1 (a0 : Value) (w7 : World) (a1 : Value) (K : Value → World → Prop) : Prop :=
  Cl Pr (callV (fn 226) #[a0]) w7 fun v13 w12 =>
  Cl Pr (callV (fn 226) #[a1]) w12 fun v15 w14 =>
  Ef Pr (Instr.buildSlice 324 2 #[(0, v13), (1, v15)]) w14 fun v17 w16 =>
  Qu Pr (Is w16) (Builtin.len_ #[324] 3 #[v17]) fun v18 =>
  LoopW [undef, undef, (Value.int .i64 0), undef, undef, undef, undef, undef, undef, undef, undef, undef, undef, undef, undef, undef, undef, undef, undef, undef, undef, undef, undef, undef, undef, undef, undef, undef, undef, undef, undef, undef] (fun r19 τ20 w21 =>
   Qu Pr (Is w21) (binS .lss 3 (.tmp 26) (.tmp 25) (g τ20 2) v18) fun v22 =>
   If v22 (
    Qu Pr (Is w21) (Instr.indexAt 324 v17 (g τ20 2)) fun v23 =>
    Qu Pr (Is w21) (Instr.loadAt 102 v23) fun v24 =>
    Qu Pr (Is w21) (nilS v24) fun v25 =>
    Qu Pr (Is w21) (Instr.fieldAt 200 v25 0) fun v26 =>
    Cl Pr (callV (fn 227) #[v26]) w21 fun v28 w27 =>
    Qu Pr (Is w27) (nilS v24) fun v29 =>
    Qu Pr (Is w27) (Instr.fieldAt 200 v29 1) fun v30 =>
    Cl Pr (callV (fn 227) #[v30]) w27 fun v32 w31 =>
    Qu Pr (Is w31) (nilS v24) fun v33 =>
    Qu Pr (Is w31) (Instr.fieldAt 200 v33 2) fun v34 =>
    Cl Pr (callV (fn 227) #[v34]) w31 fun v36 w35 =>
    Qu Pr (Is w35) (nilS v24) fun v37 =>
    Qu Pr (Is w35) (Instr.fieldAt 200 v37 3) fun v38 =>
    Cl Pr (callV (fn 227) #[v38]) w35 fun v40 w39 =>
    Cl Pr (callV (fn 156) #[v24]) w39 fun v42 w41 =>
    Ef Pr (Instr.alloc 4 true (.tuple #[])) w41 fun v44 w43 =>
    Eu Pr (Instr.storeAt 4 v44 v42) w43 fun w45 =>
    Qu Pr (Is w45) (nilS v24) fun v46 =>
    Qu Pr (Is w45) (Instr.fieldAt 200 v46 4) fun v47 =>
    Eu Pr (Instr.storeAt 117 v47 v44) w45 fun w48 =>
    Qu Pr (Is w48) (binS .add 3 (.tmp 26) (.const (Value.int .i64 1)) (g τ20 2) (Value.int .i64 1)) fun v49 =>
    r19 [v24, v44, v49, v22, v23, v24, (fn 227), v24, v25, v26, v28, (fn 227), v24, v29, v30, v32, (fn 227), v24, v33, v34, v36, (fn 227), v24, v37, v38, v40, v24, v42, v24, v46, v47, v49] w48) (
    Cl Pr (callV (fn 228) #[v13, v15]) w21 fun v51 w50 =>
    Qu Pr (Is w50) (Op.unary .not v51) fun v52 =>
    If v52 (
     Cl Pr (callV (fn 219) #[(Value.string (ByteArray.mk #[67, 111, 110, 102, 83, 116, 97, 116, 101, 115, 32, 110, 111, 116, 32, 101, 113, 117, 105, 118, 97, 108, 101, 110, 116, 32, 97, 102, 116, 101, 114, 32, 115, 111, 114, 116, 105, 110, 103]))]) w50 fun v54 w53 =>
     K v54 w53) (
     K Value.nilIface w50))) w16
/-- (*pub/raft/raftpb.ConfState).Equivalent -/
def t159 (a0 a1 : Value) (K : Value → World → Prop) (w : World) : Prop :=
 Qu Pr (Is w) (binS .eql 102 (.tmp 11) (.const (Value.pointer none)) a0 (Value.pointer none)) fun v1 =>
 Gd v1 false (fun k2 => k2 a1 w) w fun v3 w4 =>
 Gd v1 false (fun k5 => Qu Pr (Is w4) (binS .eql 102 (.tmp 14) (.const (Value.pointer none)) v3 (Value.pointer none)) fun v8 => k5 v8 w4) w4 fun v6 w7 =>
 Qu Pr (Is w7) (pickS v1 (Value.bool true) v6) fun v9 =>
 If v9 (
  Cl Pr (callV (fn 219) #[(Value.string (ByteArray.mk #[99, 97, 110, 110, 111, 116, 32, 99, 111, 109, 112, 97, 114, 101, 32, 67, 111, 110, 102, 83, 116, 97, 116, 101, 58, 32, 110, 105, 108, 32, 105, 110, 112, 117, 116]))]) w7 fun v11 w10 =>
  K v11 w10) (t159_1 a0 w7 a1 K)
theorem c159 {a0 a1 : Value} {K : Value → World → Prop} {w : World} (h : t159 a0 a1 K w) : CK Pr 159 #[a0, a1] w K := by
  refine calls_of_RF [(7, [9, 10, 26, 27, 28, 29, 30, 31, 32, 33, 34, 35, 36, 37, 38, 39, 40, 41, 42, 43, 44, 45, 46, 47, 48, 49, 50, 51, 52, 53, 54, 55])] Tryz.func159 rfl ?_ ?_ ?_
  · kernel_rfl
  · exact Nat.le_of_ble_eq_true rfl
  · exact cast (by kernel_rfl) h

/-- (*pub/raft/tracker.ProgressTracker).ConfState -/
def t160 (a0 : Value) (K : Value → World → Prop) (w : World) : Prop :=
 Dr w fun S1 w2 =>
 Qu Pr (S1) (nilS a0) fun v3 =>
 Qu Pr (S1) (Instr.fieldAt 141 v3 0) fun v4 =>
 Qu Pr (S1) (Instr.fieldAt 136 v4 0) fun v5 =>
 Qu Pr (S1) (Instr.indexAt 134 v5 (Value.int .i64 0)) fun v6 =>
 Qu Pr (S1) (Instr.loadAt 132 v6) fun v7 =>
 Cl Pr (callV (fn 87) #[v7]) w2 fun v9 w8 => S1 w8 ∧
 Qu Pr (S1) (nilS a0) fun v10 =>
 Qu Pr (S1) (Instr.fieldAt 141 v10 0) fun v11 =>
 Qu Pr (S1) (Instr.fieldAt 136 v11 0) fun v12 =>
 Qu Pr (S1) (Instr.indexAt 134 v12 (Value.int .i64 1)) fun v13 =>
 Qu Pr (S1) (Instr.loadAt 132 v13) fun v14 =>
 Cl Pr (callV (fn 87) #[v14]) w8 fun v16 w15 => S1 w15 ∧
 Qu Pr (S1) (nilS a0) fun v17 =>
 Qu Pr (S1) (Instr.fieldAt 141 v17 0) fun v18 =>
 Qu Pr (S1) (Instr.fieldAt 136 v18 2) fun v19 =>
 Qu Pr (S1) (Instr.loadAt 131 v19) fun v20 =>
 Cl Pr (callV (fn 87) #[v20]) w15 fun v22 w21 => S1 w21 ∧
 Qu Pr (S1) (nilS a0) fun v23 =>
 Qu Pr (S1) (Instr.fieldAt 141 v23 0) fun v24 =>
 Qu Pr (S1) (Instr.fieldAt 136 v24 3) fun v25 =>
 Qu Pr (S1) (Instr.loadAt 131 v25) fun v26 =>
 Cl Pr (callV (fn 87) #[v26]) w21 fun v28 w27 => S1 w27 ∧
 Qu Pr (S1) (nilS a0) fun v29 =>
 Qu Pr (S1) (Instr.fieldAt 141 v29 0) fun v30 =>
 Qu Pr (S1) (Instr.fieldAt 136 v30 1) fun v31 =>
 Qu Pr (S1) (Instr.loadAt 4 v31) fun v32 =>
 Ef Pr (Instr.box 4 v32) w27 fun v34 w33 => S1 w33 ∧
 Qu Pr (S1) (Instr.build 200 #[(0, v9), (2, v16), (1, v22), (3, v28), (4, v34)]) fun v35 =>
 Ef Pr (Instr.box 200 v35) w33 fun v37 w36 => S1 w36 ∧
 K v37 w36
theorem c160 {a0 : Value} {K : Value → World → Prop} {w : World} (h : t160 a0 K w) : CK Pr 160 #[a0] w K := by
  refine calls_of_RF [] Tryz.func160 rfl ?_ ?_ ?_
  · kernel_rfl
  · exact Nat.le_of_ble_eq_true rfl
  · exact cast (by kernel_rfl) h

/-- (pub/raft/quorum.JointConfig).IDs -/
def t165 (a0 : Value) (K : Value → World → Prop) (w : World) : Prop :=
 Ef Pr (Instr.box 134 a0) w fun v2 w1 =>
 Ef Pr (Instr.makeMap 131 none) w1 fun v4 w3 =>
 Qu Pr (Is w3) (Instr.loadAt 134 v2) fun v5 =>
 LoopW [undef, undef, (Value.int .i64 0), undef, undef, undef, undef, undef, undef, undef, undef, undef, undef, undef, undef] (fun r6 τ7 w8 =>
  Qu Pr (Is w8) (binS .lss 3 (.tmp 9) (.const (Value.int .i64 2)) (g τ7 2) (Value.int .i64 2)) fun v9 =>
  If v9 (
   Qu Pr (Is w8) (Instr.index 134 v5 (g τ7 2)) fun v10 =>
   Ef Pr (Instr.range 132 v10) w8 fun v12 w11 =>
   LoopW [(g τ7 1), (g τ7 7), (g τ7 8), (g τ7 9), (g τ7 10), (g τ7 11), (g τ7 12), (g τ7 13)] (fun r13 τ14 w15 =>
    Ef Pr (Instr.next v12 false 0) w15 fun v17 w16 =>
    Qu Pr (Is w16) (Instr.extract v17 0) fun v18 =>
    If v18 (
     Qu Pr (Is w16) (Instr.entry v12) fun v19 =>
     Qu Pr (Is w16) (Instr.extract v19 0) fun v20 =>
     Qu Pr (Is w16) (Instr.build 156 #[]) fun v21 =>
     Eu Pr (Instr.mapUpdate 131 v4 v20 v21) w16 fun w22 =>
     r13 [v20, v17, v18, v19, v20, v4, v20, v21] w22) (
     Qu Pr (Is w16) (binS .add 3 (.tmp 9) (.const (Value.int .i64 1)) (g τ7 2) (Value.int .i64 1)) fun v23 =>
     r6 [v10, (g τ14 0), v23, v9, v10, v10, v12, v17, v18, (g τ14 3), (g τ14 4), (g τ14 5), (g τ14 6), (g τ14 7), v23] w16)) w11) (
   K v4 w8)) w3
theorem c165 {a0 : Value} {K : Value → World → Prop} {w : World} (h : t165 a0 K w) : CK Pr 165 #[a0] w K := by
  refine calls_of_RF [(3, [5, 6, 9, 10, 11, 12, 13, 14, 15, 16, 17, 18, 19, 20, 21]), (6, [6, 14, 15, 16, 17, 18, 19, 20])] Tryz.func165 rfl ?_ ?_ ?_
  · kernel_rfl
  · exact Nat.le_of_ble_eq_true rfl
  · exact cast (by kernel_rfl) h

/-- (*pub/raft.raftLog).firstIndex -/
def t192 (a0 : Value) (K : Value → World → Prop) (w : World) : Prop :=
 Qu Pr (Is w) (nilS a0) fun v1 =>
 Qu Pr (Is w) (Instr.fieldAt 196 v1 1) fun v2 =>
 Cl Pr (callV (fn 262) #[v2]) w fun v4 w3 =>
 Qu Pr (Is w3) (Instr.extract v4 0) fun v5 =>
 Qu Pr (Is w3) (Instr.extract v4 1) fun v6 =>
 If v6 (
  K v5 w3) (
  Qu Pr (Is w3) (nilS a0) fun v7 =>
  Qu Pr (Is w3) (Instr.fieldAt 196 v7 0) fun v8 =>
  Qu Pr (Is w3) (Instr.loadAt 192 v8) fun v9 =>
  Cl Pr (callM v9 "FirstIndex" #[]) w3 fun v11 w10 =>
  Qu Pr (Is w10) (Instr.extract v11 0) fun v12 =>
  Qu Pr (Is w10) (Instr.extract v11 1) fun v13 =>
  Qu Pr (Is w10) (binS .neq 125 (.tmp 24) (.const Value.nilIface) v13 Value.nilIface) fun v14 =>
  If v14 (
   False) (
   K v12 w10))
theorem c192 {a0 : Value} {K : Value → World → Prop} {w : World} (h : t192 a0 K w) : CK Pr 192 #[a0] w K := by
  refine calls_of_RF [] Tryz.func192 rfl ?_ ?_ ?_
  · kernel_rfl
  · exact Nat.le_of_ble_eq_true rfl
  · exact cast (by kernel_rfl) h

@[irreducible] def t203_1 (w4 : World) (p3 : Value) (K : Value → World → Prop) : Prop :=
   Qu Pr (Is w4) (nilS p3) fun v6 =>
   Qu Pr (Is w4) (Instr.fieldAt 106 v6 0) fun v7 =>
   Qu Pr (Is w4) (Instr.loadAt 102 v7) fun v8 =>
   Cl Pr (callV (fn 98) #[v8]) w4 fun v10 w9 =>
   Qu Pr (Is w9) (nilS p3) fun v11 =>
   Qu Pr (Is w9) (Instr.fieldAt 106 v11 0) fun v12 =>
   Qu Pr (Is w9) (Instr.loadAt 102 v12) fun v13 =>
   Qu Pr (Is w9) (binS .eql 102 (.tmp 15) (.const (Value.pointer none)) v13 (Value.pointer none)) fun v14 =>
   Jo (fun  (w19 : World) => (
     Qu Pr (Is w19) (nilS p3) fun v21 =>
     Qu Pr (Is w19) (Instr.fieldAt 106 v21 1) fun v22 =>
     Qu Pr (Is w19) (Instr.loadAt 104 v22) fun v23 =>
     Qu Pr (Is w19) (binS .eql 104 (.tmp 24) (.const (Value.pointer none)) v23 (Value.pointer none)) fun v24 =>
     Jo (fun  (w29 : World) => (
       Qu Pr (Is w29) (nilS p3) fun v31 =>
       Qu Pr (Is w29) (Instr.fieldAt 106 v31 2) fun v32 =>
       Qu Pr (Is w29) (Instr.loadAt 104 v32) fun v33 =>
       Qu Pr (Is w29) (binS .eql 104 (.tmp 33) (.const (Value.pointer none)) v33 (Value.pointer none)) fun v34 =>
       Jo (fun  (w39 : World) => (
         K p3 w39 : Prop)) fun J40 =>
       If v34 (
        Ef Pr (Instr.alloc 22 true (.tuple #[])) w29 fun v42 w41 =>
        Qu Pr (Is w41) (nilS p3) fun v43 =>
        Qu Pr (Is w41) (Instr.fieldAt 106 v43 2) fun v44 =>
        Eu Pr (Instr.storeAt 104 v44 v42) w41 fun w45 =>
        J40 w45) (
        J40 w29) : Prop)) fun J30 =>
     If v24 (
      Ef Pr (Instr.alloc 22 true (.tuple #[])) w19 fun v47 w46 =>
      Qu Pr (Is w46) (nilS p3) fun v48 =>
      Qu Pr (Is w46) (Instr.fieldAt 106 v48 1) fun v49 =>
      Eu Pr (Instr.storeAt 104 v49 v47) w46 fun w50 =>
      J30 w50) (
      J30 w19) : Prop)) fun J20 =>
   If v14 (
    Qu Pr (Is w9) (nilS p3) fun v51 =>
    Qu Pr (Is w9) (Instr.fieldAt 106 v51 0) fun v52 =>
    Eu Pr (Instr.storeAt 102 v52 v10) w9 fun w53 =>
    J20 w53) (
    J20 w9)
/-- pub/raft/raftpb.EnsureSnapshotMetadata -/
def t203 (a0 : Value) (K : Value → World → Prop) (w : World) : Prop :=
 Qu Pr (Is w) (binS .eql 101 (.tmp 4) (.const (Value.pointer none)) a0 (Value.pointer none)) fun v1 =>
 Jo (fun (p3 : Value) (w4 : World) => (t203_1 w4 p3 K : Prop)) fun J5 =>
 If v1 (
  Ef Pr (Instr.alloc 106 true (.tuple #[])) w fun v55 w54 =>
  J5 v55 w54) (
  J5 a0 w)
theorem c203 {a0 : Value} {K : Value → World → Prop} {w : World} (h : t203 a0 K w) : CK Pr 203 #[a0] w K := by
  refine calls_of_RF [] Tryz.func203 rfl ?_ ?_ ?_
  · kernel_rfl
  · exact Nat.le_of_ble_eq_true rfl
  · exact cast (by kernel_rfl) h

/-- pub/raft/raftpb.zzBytes -/
def t204 (a0 : Value) (K : Value → World → Prop) (w : World) : Prop :=
 Qu Pr (Is w) (binS .eql 99 (.tmp 4) (.const (Value.slice none 0 0)) a0 (Value.slice none 0 0)) fun v1 =>
 If v1 (
  K (Value.slice none 0 0) w) (
  Qu Pr (Is w) (Builtin.len_ #[99] 3 #[a0]) fun v2 =>
  Ef Pr (Instr.makeSlice 99 v2 v2) w fun v4 w3 =>
  Ef Pr (Builtin.copy_ #[99, 99] 3 #[v4, a0]) w3 fun _ w5 =>
  K v4 w5)
theorem c204 {a0 : Value} {K : Value → World → Prop} {w : World} (h : t204 a0 K w) : CK Pr 204 #[a0] w K := by
  refine calls_of_RF [] Tryz.func204 rfl ?_ ?_ ?_
  · kernel_rfl
  · exact Nat.le_of_ble_eq_true rfl
  · exact cast (by kernel_rfl) h

/-- (*pub/raft/raftpb.SnapshotMetadata).ZzClone -/
def t205 (a0 : Value) (K : Value → World → Prop) (w : World) : Prop :=
 Qu Pr (Is w) (binS .eql 101 (.tmp 3) (.const (Value.pointer none)) a0 (Value.pointer none)) fun v1 =>
 If v1 (
  K (Value.pointer none) w) (
  Dr w fun S2 w3 =>
  Qu Pr (S2) (nilS a0) fun v4 =>
  Qu Pr (S2) (Instr.fieldAt 106 v4 0) fun v5 =>
  Qu Pr (S2) (Instr.loadAt 102 v5) fun v6 =>
  Cl Pr (callV (fn 226) #[v6]) w3 fun v8 w7 => S2 w7 ∧
  Qu Pr (S2) (nilS a0) fun v9 =>
  Qu Pr (S2) (Instr.fieldAt 106 v9 1) fun v10 =>
  Qu Pr (S2) (Instr.loadAt 104 v10) fun v11 =>
  Cl Pr (callV (fn 266) #[v11]) w7 fun v13 w12 => S2 w12 ∧
  Qu Pr (S2) (nilS a0) fun v14 =>
  Qu Pr (S2) (Instr.fieldAt 106 v14 2) fun v15 =>
  Qu Pr (S2) (Instr.loadAt 104 v15) fun v16 =>
  Cl Pr (callV (fn 266) #[v16]) w12 fun v18 w17 => S2 w17 ∧
  Qu Pr (S2) (Instr.build 106 #[(0, v8), (1, v13), (2, v18)]) fun v19 =>
  Ef Pr (Instr.box 106 v19) w17 fun v21 w20 => S2 w20 ∧
  K v21 w20)
theorem c205 {a0 : Value} {K : Value → World → Prop} {w : World} (h : t205 a0 K w) : CK Pr 205 #[a0] w K := by
  refine calls_of_RF [] Tryz.func205 rfl ?_ ?_ ?_
  · kernel_rfl
  · exact Nat.le_of_ble_eq_true rfl
  · exact cast (by kernel_rfl) h

/-- (*pub/raft/raftpb.ConfState).GetVoters -/
def t210 (a0 : Value) (K : Value → World → Prop) (w : World) : Prop :=
 Qu Pr (Is w) (binS .neq 102 (.tmp 3) (.const (Value.pointer none)) a0 (Value.pointer none)) fun v1 =>
 If v1 (
  Qu Pr (Is w) (nilS a0) fun v2 =>
  Qu Pr (Is w) (Instr.fieldAt 200 v2 0) fun v3 =>
  Qu Pr (Is w) (Instr.loadAt 23 v3) fun v4 =>
  K v4 w) (
  K (Value.slice none 0 0) w)
theorem c210 {a0 : Value} {K : Value → World → Prop} {w : World} (h : t210 a0 K w) : CK Pr 210 #[a0] w K := by
  refine calls_of_RF [] Tryz.func210 rfl ?_ ?_ ?_
  · kernel_rfl
  · exact Nat.le_of_ble_eq_true rfl
  · exact cast (by kernel_rfl) h

/-- (*pub/raft/raftpb.ConfState).GetLearners -/
def t211 (a0 : Value) (K : Value → World → Prop) (w : World) : Prop :=
 Qu Pr (Is w) (binS .neq 102 (.tmp 3) (.const (Value.pointer none)) a0 (Value.pointer none)) fun v1 =>
 If v1 (
  Qu Pr (Is w) (nilS a0) fun v2 =>
  Qu Pr (Is w) (Instr.fieldAt 200 v2 1) fun v3 =>
  Qu Pr (Is w) (Instr.loadAt 23 v3) fun v4 =>
  K v4 w) (
  K (Value.slice none 0 0) w)
theorem c211 {a0 : Value} {K : Value → World → Prop} {w : World} (h : t211 a0 K w) : CK Pr 211 #[a0] w K := by
  refine calls_of_RF [] Tryz.func211 rfl ?_ ?_ ?_
  · kernel_rfl
  · exact Nat.le_of_ble_eq_true rfl
  · exact cast (by kernel_rfl) h

/-- (*pub/raft/raftpb.ConfState).GetVotersOutgoing -/
def t212 (a0 : Value) (K : Value → World → Prop) (w : World) : Prop :=
 Qu Pr (Is w) (binS .neq 102 (.tmp 3) (.const (Value.pointer none)) a0 (Value.pointer none)) fun v1 =>
 If v1 (
  Qu Pr (Is w) (nilS a0) fun v2 =>
  Qu Pr (Is w) (Instr.fieldAt 200 v2 2) fun v3 =>
  Qu Pr (Is w) (Instr.loadAt 23 v3) fun v4 =>
  K v4 w) (
  K (Value.slice none 0 0) w)
theorem c212 {a0 : Value} {K : Value → World → Prop} {w : World} (h : t212 a0 K w) : CK Pr 212 #[a0] w K := by
  refine calls_of_RF [] Tryz.func212 rfl ?_ ?_ ?_
  · kernel_rfl
  · exact Nat.le_of_ble_eq_true rfl
  · exact cast (by kernel_rfl) h

/-- (*pub/raft/raftpb.ConfState).GetLearnersNext -/
def t213 (a0 : Value) (K : Value → World → Prop) (w : World) : Prop :=
 Qu Pr (Is w) (binS .neq 102 (.tmp 3) (.const (Value.pointer none)) a0 (Value.pointer none)) fun v1 =>
 If v1 (
  Qu Pr (Is w) (nilS a0) fun v2 =>
  Qu Pr (Is w) (Instr.fieldAt 200 v2 3) fun v3 =>
  Qu Pr (Is w) (Instr.loadAt 23 v3) fun v4 =>
  K v4 w) (
  K (Value.slice none 0 0) w)
theorem c213 {a0 : Value} {K : Value → World → Prop} {w : World} (h : t213 a0 K w) : CK Pr 213 #[a0] w K := by
  refine calls_of_RF [] Tryz.func213 rfl ?_ ?_ ?_
  · kernel_rfl
  · exact Nat.le_of_ble_eq_true rfl
  · exact cast (by kernel_rfl) h

/-- (*pub/raft.unstable).maybeTerm -/
def t214 (a0 a1 : Value) (K : Value → World → Prop) (w : World) : Prop :=
 Qu Pr (Is w) (nilS a0) fun v1 =>
 Qu Pr (Is w) (Instr.fieldAt 194 v1 2) fun v2 =>
 Qu Pr (Is w) (Instr.loadAt 22 v2) fun v3 =>
 Qu Pr (Is w) (binS .lss 22 (.tmp 8) (.tmp 12) a1 v3) fun v4 =>
 If v4 (
  Qu Pr (Is w) (nilS a0) fun v5 =>
  Qu Pr (Is w) (Instr.fieldAt 194 v5 0) fun v6 =>
  Qu Pr (Is w) (Instr.loadAt 75 v6) fun v7 =>
  Qu Pr (Is w) (binS .neq 75 (.tmp 17) (.const (Value.pointer none)) v7 (Value.pointer none)) fun v8 =>
  Gd v8 true (fun k9 => k9 a0 w) w fun v10 w11 =>
  Gd v8 true (fun k12 => Qu Pr (Is w11) (nilS v10) fun v15 => k12 v15 w11) w11 fun v13 w14 =>
  Gd v8 true (fun k16 => Qu Pr (Is w14) (Instr.fieldAt 194 v13 0) fun v19 => k16 v19 w14) w14 fun v17 w18 =>
  Gd v8 true (fun k20 => Qu Pr (Is w18) (Instr.loadAt 75 v17) fun v23 => k20 v23 w18) w18 fun v21 w22 =>
  Gd v8 true (fun k24 => Cl Pr (callV (fn 95) #[v21]) w22 fun v25x w26x => k24 v25x w26x) w22 fun v25 w26 =>
  Gd v8 true (fun k27 => Cl Pr (callV (fn 96) #[v25]) w26 fun v28x w29x => k27 v28x w29x) w26 fun v28 w29 =>
  Gd v8 true (fun k30 => k30 a1 w29) w29 fun v31 w32 =>
  Gd v8 true (fun k33 => Qu Pr (Is w32) (binS .eql 22 (.tmp 25) (.tmp 26) v28 v31) fun v36 => k33 v36 w32) w32 fun v34 w35 =>
  Qu Pr (Is w35) (pickS v8 v34 (Value.bool false)) fun v37 =>
  If v37 (
   Qu Pr (Is w35) (nilS a0) fun v38 =>
   Qu Pr (Is w35) (Instr.fieldAt 194 v38 0) fun v39 =>
   Qu Pr (Is w35) (Instr.loadAt 75 v39) fun v40 =>
   Cl Pr (callV (fn 95) #[v40]) w35 fun v42 w41 =>
   Cl Pr (callV (fn 99) #[v42]) w41 fun v44 w43 =>
   K (.tuple #[v44, (Value.bool true)]) w43) (
   K (.tuple #[(Value.int .u64 0), (Value.bool false)]) w35)) (
  Cl Pr (callV (fn 158) #[a0]) w fun v46 w45 =>
  Qu Pr (Is w45) (Instr.extract v46 0) fun v47 =>
  Qu Pr (Is w45) (Instr.extract v46 1) fun v48 =>
  Qu Pr (Is w45) (Op.unary .not v48) fun v49 =>
  If v49 (
   K (.tuple #[(Value.int .u64 0), (Value.bool false)]) w45) (
   Qu Pr (Is w45) (binS .gtr 22 (.tmp 42) (.tmp 43) a1 v47) fun v50 =>
   If v50 (
    K (.tuple #[(Value.int .u64 0), (Value.bool false)]) w45) (
    Dr w45 fun S51 w52 =>
    Qu Pr (S51) (nilS a0) fun v53 =>
    Qu Pr (S51) (Instr.fieldAt 194 v53 1) fun v54 =>
    Qu Pr (S51) (Instr.loadAt 115 v54) fun v55 =>
    Qu Pr (S51) (nilS a0) fun v56 =>
    Qu Pr (S51) (Instr.fieldAt 194 v56 2) fun v57 =>
    Qu Pr (S51) (Instr.loadAt 22 v57) fun v58 =>
    Qu Pr (S51) (binS .sub 22 (.tmp 49) (.tmp 53) a1 v58) fun v59 =>
    Qu Pr (S51) (Instr.indexAt 115 v55 v59) fun v60 =>
    Qu Pr (S51) (Instr.loadAt 212 v60) fun v61 =>
    Cl Pr (callV (fn 128) #[v61]) w52 fun v63 w62 => S51 w62 ∧
    K (.tuple #[v63, (Value.bool true)]) w62)))
theorem c214 {a0 a1 : Value} {K : Value → World → Prop} {w : World} (h : t214 a0 a1 K w) : CK Pr 214 #[a0, a1] w K := by
  refine calls_of_RF [] Tryz.func214 rfl ?_ ?_ ?_
  · kernel_rfl
  · exact Nat.le_of_ble_eq_true rfl
  · exact cast (by kernel_rfl) h

/-- (pub/raft/raftpb.ConfChangeType).Enum -/
def t215 (a0 : Value) (K : Value → World → Prop) (w : World) : Prop :=
 Ef Pr (Instr.alloc 306 true (.tuple #[])) w fun v2 w1 =>
 Qu Pr (Is w1) (nilS v2) fun v3 =>
 Eu Pr (Instr.storeAt 306 v3 a0) w1 fun w4 =>
 K v2 w4
theorem c215 {a0 : Value} {K : Value → World → Prop} {w : World} (h : t215 a0 K w) : CK Pr 215 #[a0] w K := by
  refine calls_of_RF [] Tryz.func215 rfl ?_ ?_ ?_
  · kernel_rfl
  · exact Nat.le_of_ble_eq_true rfl
  · exact cast (by kernel_rfl) h

/-- (pub/raft/confchange.Changer).checkAndCopy -/
def t216 (a0 : Value) (K : Value → World → Prop) (w : World) : Prop :=
 Ef Pr (Instr.box 209 a0) w fun v2 w1 =>
 Ef Pr (Instr.alloc 136 true (.tuple #[])) w1 fun v4 w3 =>
 Qu Pr (Is w3) (Instr.fieldAt 209 v2 0) fun v5 =>
 Qu Pr (Is w3) (Instr.fieldAt 141 v5 0) fun v6 =>
 Cl Pr (callV (fn 280) #[v6]) w3 fun v8 w7 =>
 Ef Pr (Instr.alloc 136 true (.tuple #[])) w7 fun v10 w9 =>
 Eu Pr (Instr.storeAt 136 v10 v8) w9 fun w11 =>
 Ef Pr (Instr.makeMap 138 none) w11 fun v13 w12 =>
 Qu Pr (Is w12) (Instr.fieldAt 209 v2 0) fun v14 =>
 Qu Pr (Is w12) (Instr.fieldAt 141 v14 1) fun v15 =>
 Qu Pr (Is w12) (Instr.loadAt 138 v15) fun v16 =>
 Ef Pr (Instr.range 138 v16) w12 fun v18 w17 =>
 LoopW [undef, undef, undef, undef, undef, undef, undef, undef, undef, undef, undef, undef, undef] (fun r19 _ w21 =>
  Ef Pr (Instr.next v18 false 0) w21 fun v23 w22 =>
  Qu Pr (Is w22) (Instr.extract v23 0) fun v24 =>
  If v24 (
   Qu Pr (Is w22) (Instr.entry v18) fun v25 =>
   Qu Pr (Is w22) (Instr.extract v25 0) fun v26 =>
   Qu Pr (Is w22) (Instr.extract v25 1) fun v27 =>
   Qu Pr (Is w22) (nilS v27) fun v28 =>
   Qu Pr (Is w22) (Instr.loadAt 152 v28) fun v29 =>
   Ef Pr (Instr.alloc 152 true (.tuple #[])) w22 fun v31 w30 =>
   Eu Pr (Instr.storeAt 152 v31 v29) w30 fun w32 =>
   Eu Pr (Instr.mapUpdate 138 v13 v26 v31) w32 fun w33 =>
   r19 [v26, v27, v31, v23, v24, v25, v26, v27, v27, v28, v29, v13, v26] w33) (
   Qu Pr (Is w22) (Instr.loadAt 136 v10) fun v34 =>
   Cl Pr (callV (fn 223) #[v34, v13]) w22 fun v36 w35 =>
   Qu Pr (Is w35) (Instr.extract v36 0) fun v37 =>
   Qu Pr (Is w35) (Instr.extract v36 1) fun v38 =>
   Qu Pr (Is w35) (Instr.extract v36 2) fun v39 =>
   Eu Pr (Instr.storeAt 136 v4 v37) w35 fun w40 =>
   Qu Pr (Is w40) (Instr.loadAt 136 v4) fun v41 =>
   K (.tuple #[v41, v38, v39]) w40)) w17
theorem c216 {a0 : Value} {K : Value → World → Prop} {w : World} (h : t216 a0 K w) : CK Pr 216 #[a0] w K := by
  refine calls_of_RF [(4, [7, 8, 9, 18, 19, 20, 21, 22, 23, 24, 25, 26, 27])] Tryz.func216 rfl ?_ ?_ ?_
  · kernel_rfl
  · exact Nat.le_of_ble_eq_true rfl
  · exact cast (by kernel_rfl) h

/-- pub/raft/confchange.joint -/
def t218 (a0 : Value) (K : Value → World → Prop) (w : World) : Prop :=
 Ef Pr (Instr.box 136 a0) w fun v2 w1 =>
 Qu Pr (Is w1) (Instr.fieldAt 136 v2 0) fun v3 =>
 Qu Pr (Is w1) (Instr.loadAt 134 v3) fun v4 =>
 Cl Pr (callV (fn 225) #[v4]) w1 fun v6 w5 =>
 Qu Pr (Is w5) (Builtin.len_ #[132] 3 #[v6]) fun v7 =>
 Qu Pr (Is w5) (binS .gtr 3 (.tmp 6) (.const (Value.int .i64 0)) v7 (Value.int .i64 0)) fun v8 =>
 K v8 w5
theorem c218 {a0 : Value} {K : Value → World → Prop} {w : World} (h : t218 a0 K w) : CK Pr 218 #[a0] w K := by
  refine calls_of_RF [] Tryz.func218 rfl ?_ ?_ ?_
  · kernel_rfl
  · exact Nat.le_of_ble_eq_true rfl
  · exact cast (by kernel_rfl) h

@[irreducible] def t220_1 (τ5 : List Value) (r4 : List Value → World → Prop) (v7 : Value) (w6 : World) (a3 : Value) (v2 : Value) (a1 : Value) (a2 : Value) (K : Value → World → Prop) : Prop :=
   Jo (fun (p8 : Value) (p9 : Value) (p10 : Value) (p11 : Value) (p12 : Value) (p13 : Value) (p14 : Value) (p15 : Value) (p16 : Value) (p17 : Value) (p18 : Value) (p19 : Value) (p20 : Value) (p21 : Value) (p22 : Value) (p23 : Value) (p24 : Value) (p25 : Value) (p26 : Value) (p27 : Value) (p28 : Value) (p29 : Value) (p30 : Value) (p31 : Value) (p32 : Value) (p33 : Value) (p34 : Value) (p35 : Value) (p36 : Value) (p37 : Value) (p38 : Value) (p39 : Value) (p40 : Value) (p41 : Value) (p42 : Value) (p43 : Value) (w44 : World) => (
     Qu Pr (Is w44) (binS .add 3 (.tmp 13) (.const (Value.int .i64 1)) (g τ5 2) (Value.int .i64 1)) fun v46 =>
     r4 [p43, p10, v46, v7, p8, p9, p11, p12, p13, p14, p15, p42, p17, p16, p18, p19, p20, p21, p22, p23, p25, p24, p26, p27, p28, p29, p30, p31, p33, p32, p34, p35, p36, p37, p38, p39, p41, p40, v46] w44 : Prop)) fun J45 =>
   Qu Pr (Is w6) (Instr.indexAt 247 a3 (g τ5 2)) fun v47 =>
   Qu Pr (Is w6) (Instr.loadAt 251 v47) fun v48 =>
   Cl Pr (callV (fn 281) #[v48]) w6 fun v50 w49 =>
   Qu Pr (Is w49) (binS .eql 22 (.tmp 18) (.const (Value.int .u64 0)) v50 (Value.int .u64 0)) fun v51 =>
   If v51 (
    J45 v47 v48 v48 v48 v50 v51 (g τ5 9) (g τ5 10) (g τ5 13) (g τ5 12) (g τ5 14) (g τ5 15) (g τ5 16) (g τ5 17) (g τ5 18) (g τ5 19) (g τ5 21) (g τ5 20) (g τ5 22) (g τ5 23) (g τ5 24) (g τ5 25) (g τ5 26) (g τ5 27) (g τ5 29) (g τ5 28) (g τ5 30) (g τ5 31) (g τ5 32) (g τ5 33) (g τ5 34) (g τ5 35) (g τ5 37) (g τ5 36) (g τ5 11) (g τ5 0) w49) (
    Cl Pr (callV (fn 282) #[v48]) w49 fun v53 w52 =>
    Qu Pr (Is w52) (binS .eql 306 (.tmp 21) (.const (Value.int .i32 0)) v53 (Value.int .i32 0)) fun v54 =>
    Jo (fun (p55 : Value) (p56 : Value) (p57 : Value) (p58 : Value) (p59 : Value) (p60 : Value) (p61 : Value) (p62 : Value) (p63 : Value) (p64 : Value) (p65 : Value) (p66 : Value) (p67 : Value) (p68 : Value) (p69 : Value) (p70 : Value) (p71 : Value) (p72 : Value) (p73 : Value) (p74 : Value) (p75 : Value) (p76 : Value) (p77 : Value) (p78 : Value) (p79 : Value) (p80 : Value) (w81 : World) => (
      J45 v47 v48 v48 v48 v50 v51 v48 v53 v54 v54 p55 p56 p57 p58 p59 p60 p61 p62 p63 p64 p65 p66 p67 p68 p69 p70 p71 p72 p73 p74 p75 p76 p77 p78 p79 p80 w81 : Prop)) fun J82 =>
    If v54 (
     Dr w52 fun S83 w84 =>
     Qu Pr (S83) (Instr.loadAt 209 v2) fun v85 =>
     Cl Pr (callV (fn 281) #[v48]) w84 fun v87 w86 => S83 w86 ∧
     Cl Pr (callV (fn 283) #[v85, a1, a2, v87]) w86 fun v89 w88 => S83 w88 ∧
     J82 v85 a1 a2 v48 v87 v89 (g τ5 21) (g τ5 20) (g τ5 22) (g τ5 23) (g τ5 24) (g τ5 25) (g τ5 26) (g τ5 27) (g τ5 29) (g τ5 28) (g τ5 30) (g τ5 31) (g τ5 32) (g τ5 33) (g τ5 34) (g τ5 35) (g τ5 37) (g τ5 36) (g τ5 11) (g τ5 0) w88) (
     Qu Pr (Is w52) (binS .eql 306 (.tmp 21) (.const (Value.int .i32 3)) v53 (Value.int .i32 3)) fun v90 =>
     Jo (fun (p91 : Value) (p92 : Value) (p93 : Value) (p94 : Value) (p95 : Value) (p96 : Value) (p97 : Value) (p98 : Value) (p99 : Value) (p100 : Value) (p101 : Value) (p102 : Value) (p103 : Value) (p104 : Value) (p105 : Value) (p106 : Value) (p107 : Value) (p108 : Value) (w109 : World) => (
       J82 (g τ5 14) (g τ5 15) (g τ5 16) (g τ5 17) (g τ5 18) (g τ5 19) v90 v90 p91 p92 p93 p94 p95 p96 p97 p98 p99 p100 p101 p102 p103 p104 p105 p106 p107 p108 w109 : Prop)) fun J110 =>
     If v90 (
      Dr w52 fun S111 w112 =>
      Qu Pr (S111) (Instr.loadAt 209 v2) fun v113 =>
      Cl Pr (callV (fn 281) #[v48]) w112 fun v115 w114 => S111 w114 ∧
      Cl Pr (callV (fn 284) #[v113, a1, a2, v115]) w114 fun v117 w116 => S111 w116 ∧
      J110 v113 a1 a2 v48 v115 v117 (g τ5 29) (g τ5 28) (g τ5 30) (g τ5 31) (g τ5 32) (g τ5 33) (g τ5 34) (g τ5 35) (g τ5 37) (g τ5 36) (g τ5 11) (g τ5 0) w116) (
      Qu Pr (Is w52) (binS .eql 306 (.tmp 21) (.const (Value.int .i32 1)) v53 (Value.int .i32 1)) fun v118 =>
      Jo (fun (p119 : Value) (p120 : Value) (p121 : Value) (p122 : Value) (p123 : Value) (p124 : Value) (p125 : Value) (p126 : Value) (p127 : Value) (p128 : Value) (w129 : World) => (
        J110 (g τ5 22) (g τ5 23) (g τ5 24) (g τ5 25) (g τ5 26) (g τ5 27) v118 v118 p119 p120 p121 p122 p123 p124 p125 p126 p127 p128 w129 : Prop)) fun J130 =>
      If v118 (
       Dr w52 fun S131 w132 =>
       Qu Pr (S131) (Instr.loadAt 209 v2) fun v133 =>
       Cl Pr (callV (fn 281) #[v48]) w132 fun v135 w134 => S131 w134 ∧
       Cl Pr (callV (fn 285) #[v133, a1, a2, v135]) w134 fun v137 w136 => S131 w136 ∧
       J130 v133 a1 a2 v48 v135 v137 (g τ5 37) (g τ5 36) (g τ5 11) (g τ5 0) w136) (
       Qu Pr (Is w52) (binS .eql 306 (.tmp 21) (.const (Value.int .i32 2)) v53 (Value.int .i32 2)) fun v138 =>
       If v138 (
        J130 (g τ5 30) (g τ5 31) (g τ5 32) (g τ5 33) (g τ5 34) (g τ5 35) v138 v138 (g τ5 11) (g τ5 0) w52) (
        Cl Pr (callV (fn 219) #[(Value.string (ByteArray.mk #[117, 110, 101, 120, 112, 101, 99, 116, 101, 100, 32, 99, 111, 110, 102, 32, 116, 121, 112, 101]))]) w52 fun v140 w139 =>
        K v140 w139)))))
/-- (pub/raft/confchange.Changer).apply -/
def t220 (a0 a1 a2 a3 : Value) (K : Value → World → Prop) (w : World) : Prop :=
 Ef Pr (Instr.box 209 a0) w fun v2 w1 =>
 Qu Pr (Is w1) (Builtin.len_ #[247] 3 #[a3]) fun v3 =>
 LoopW [Value.nilIface, undef, (Value.int .i64 0), undef, undef, undef, undef, undef, undef, undef, undef, undef, undef, undef, undef, undef, undef, undef, undef, undef, undef, undef, undef, undef, undef, undef, undef, undef, undef, undef, undef, undef, undef, undef, undef, undef, undef, undef, undef] (fun r4 τ5 w6 =>
  Qu Pr (Is w6) (binS .lss 3 (.tmp 13) (.tmp 12) (g τ5 2) v3) fun v7 =>
  If v7 (t220_1 τ5 r4 v7 w6 a3 v2 a1 a2 K) (
   Qu Pr (Is w6) (nilS a1) fun v141 =>
   Qu Pr (Is w6) (Instr.fieldAt 136 v141 0) fun v142 =>
   Qu Pr (Is w6) (Instr.loadAt 134 v142) fun v143 =>
   Cl Pr (callV (fn 222) #[v143]) w6 fun v145 w144 =>
   Qu Pr (Is w144) (Builtin.len_ #[132] 3 #[v145]) fun v146 =>
   Qu Pr (Is w144) (binS .eql 3 (.tmp 55) (.const (Value.int .i64 0)) v146 (Value.int .i64 0)) fun v147 =>
   If v147 (
    Cl Pr (callV (fn 219) #[(Value.string (ByteArray.mk #[114, 101, 109, 111, 118, 101, 100, 32, 97, 108, 108, 32, 118, 111, 116, 101, 114, 115]))]) w144 fun v149 w148 =>
    K v149 w148) (
    K Value.nilIface w144))) w1
theorem c220 {a0 a1 a2 a3 : Value} {K : Value → World → Prop} {w : World} (h : t220 a0 a1 a2 a3 K w) : CK Pr 220 #[a0, a1, a2, a3] w K := by
  refine calls_of_RF [(2, [8, 10, 13, 14, 15, 16, 17, 18, 19, 20, 21, 22, 23, 24, 25, 26, 27, 28, 29, 30, 31, 32, 33, 34, 35, 36, 37, 38, 39, 40, 41, 42, 43, 44, 45, 46, 47, 48, 49])] Tryz.func220 rfl ?_ ?_ ?_
  · kernel_rfl
  · exact Nat.le_of_ble_eq_true rfl
  · exact cast (by kernel_rfl) h

/-- pub/raft/confchange.symdiff -/
def t221 (a0 a1 : Value) (K : Value → World → Prop) (w : World) : Prop :=
 Qu Pr (Is w) (Instr.build 133 #[(0, a0), (1, a1)]) fun v1 =>
 Qu Pr (Is w) (Instr.build 133 #[(0, a1), (1, a0)]) fun v2 =>
 Ef Pr (Instr.buildSlice 379 2 #[(0, v1), (1, v2)]) w fun v4 w3 =>
 Qu Pr (Is w3) (Builtin.len_ #[379] 3 #[v4]) fun v5 =>
 LoopW [(Value.int .i64 0), undef, undef, undef, undef, (Value.int .i64 0), undef, undef, undef, undef, undef, undef, undef, undef, undef, undef, undef, undef, undef, undef, undef, undef, undef, undef, undef, undef, undef, undef] (fun r6 τ7 w8 =>
  Qu Pr (Is w8) (binS .lss 3 (.tmp 21) (.tmp 20) (g τ7 5) v5) fun v9 =>
  If v9 (
   Qu Pr (Is w8) (Instr.indexAt 379 v4 (g τ7 5)) fun v10 =>
   Qu Pr (Is w8) (Instr.loadAt 133 v10) fun v11 =>
   Ef Pr (Instr.alloc 133 true (.tuple #[])) w8 fun v13 w12 =>
   Eu Pr (Instr.storeAt 133 v13 v11) w12 fun w14 =>
   Qu Pr (Is w14) (Instr.indexAt 133 v13 (Value.int .i64 0)) fun v15 =>
   Qu Pr (Is w14) (Instr.loadAt 132 v15) fun v16 =>
   Ef Pr (Instr.range 132 v16) w14 fun v18 w17 =>
   LoopW [(g τ7 0), (g τ7 2), (g τ7 3), (g τ7 4), (g τ7 12), (g τ7 13), (g τ7 14), (g τ7 15), (g τ7 16), (g τ7 17), (g τ7 18), (g τ7 19), (g τ7 20), (g τ7 21), (g τ7 22), (g τ7 23), (g τ7 24), (g τ7 25), (g τ7 26)] (fun r19 τ20 w21 =>
    Ef Pr (Instr.next v18 false 0) w21 fun v23 w22 =>
    Qu Pr (Is w22) (Instr.extract v23 0) fun v24 =>
    If v24 (
     Qu Pr (Is w22) (Instr.entry v18) fun v25 =>
     Qu Pr (Is w22) (Instr.extract v25 0) fun v26 =>
     Qu Pr (Is w22) (Instr.indexAt 133 v13 (Value.int .i64 1)) fun v27 =>
     Qu Pr (Is w22) (Instr.loadAt 132 v27) fun v28 =>
     Qu Pr (Is w22) (Instr.lookup 132 v28 v26 true) fun v29 =>
     Qu Pr (Is w22) (Instr.extract v29 0) fun v30 =>
     Qu Pr (Is w22) (Instr.extract v29 1) fun v31 =>
     Ef Pr (Instr.alloc 156 true (.tuple #[])) w22 fun v33 w32 =>
     Eu Pr (Instr.storeAt 156 v33 v30) w32 fun w34 =>
     Qu Pr (Is w34) (Op.unary .not v31) fun v35 =>
     Jo (fun (p36 : Value) (p37 : Value) (p38 : Value) (w39 : World) => (
       r19 [p38, v26, v33, v31, v23, v24, v25, v26, v29, v27, v28, v26, v29, v30, v31, v31, v35, p36, p37] w39 : Prop)) fun J40 =>
     If v35 (
      Qu Pr (Is w34) (binS .add 3 (.tmp 41) (.const (Value.int .i64 1)) (g τ20 0) (Value.int .i64 1)) fun v41 =>
      J40 (g τ20 0) v41 v41 w34) (
      J40 (g τ20 17) (g τ20 18) (g τ20 0) w34)) (
     Qu Pr (Is w22) (binS .add 3 (.tmp 21) (.const (Value.int .i64 1)) (g τ7 5) (Value.int .i64 1)) fun v42 =>
     r6 [(g τ20 0), v13, (g τ20 1), (g τ20 2), (g τ20 3), v42, v9, v10, v11, v15, v16, v18, v23, v24, (g τ20 6), (g τ20 7), (g τ20 8), (g τ20 9), (g τ20 10), (g τ20 11), (g τ20 12), (g τ20 13), (g τ20 14), (g τ20 15), (g τ20 16), (g τ20 17), (g τ20 18), v42] w22)) w17) (
   K (g τ7 0) w8)) w3
theorem c221 {a0 a1 : Value} {K : Value → World → Prop} {w : World} (h : t221 a0 a1 K w) : CK Pr 221 #[a0, a1] w K := by
  refine calls_of_RF [(4, [5, 8, 9, 10, 11, 21, 22, 23, 24, 25, 26, 27, 28, 29, 30, 31, 32, 33, 34, 35, 36, 37, 38, 39, 40, 41, 42, 43]), (7, [5, 9, 10, 11, 28, 29, 30, 31, 32, 33, 34, 35, 36, 37, 38, 39, 40, 41, 42])] Tryz.func221 rfl ?_ ?_ ?_
  · kernel_rfl
  · exact Nat.le_of_ble_eq_true rfl
  · exact cast (by kernel_rfl) h

/-- pub/raft/confchange.incoming -/
def t222 (a0 : Value) (K : Value → World → Prop) (w : World) : Prop :=
 Ef Pr (Instr.box 134 a0) w fun v2 w1 =>
 Qu Pr (Is w1) (Instr.indexAt 134 v2 (Value.int .i64 0)) fun v3 =>
 Qu Pr (Is w1) (Instr.loadAt 132 v3) fun v4 =>
 K v4 w1
theorem c222 {a0 : Value} {K : Value → World → Prop} {w : World} (h : t222 a0 K w) : CK Pr 222 #[a0] w K := by
  refine calls_of_RF [] Tryz.func222 rfl ?_ ?_ ?_
  · kernel_rfl
  · exact Nat.le_of_ble_eq_true rfl
  · exact cast (by kernel_rfl) h

/-- pub/raft/confchange.checkAndReturn -/
def t223 (a0 a1 : Value) (K : Value → World → Prop) (w : World) : Prop :=
 Ef Pr (Instr.box 136 a0) w fun v2 w1 =>
 Ef Pr (Instr.alloc 136 true (.tuple #[])) w1 fun v4 w3 =>
 Qu Pr (Is w3) (Instr.loadAt 136 v2) fun v5 =>
 Cl Pr (callV (fn 286) #[v5, a1]) w3 fun v7 w6 =>
 Qu Pr (Is w6) (binS .neq 125 (.tmp 11) (.const Value.nilIface) v7 Value.nilIface) fun v8 =>
 If v8 (
  Qu Pr (Is w6) (Instr.build 136 #[]) fun v9 =>
  Ef Pr (Instr.makeMap 138 none) w6 fun v11 w10 =>
  Eu Pr (Instr.storeAt 136 v4 v9) w10 fun w12 =>
  Qu Pr (Is w12) (Instr.loadAt 136 v4) fun v13 =>
  K (.tuple #[v13, v11, v7]) w12) (
  Qu Pr (Is w6) (Instr.loadAt 136 v2) fun v14 =>
  Eu Pr (Instr.storeAt 136 v4 v14) w6 fun w15 =>
  Qu Pr (Is w15) (Instr.loadAt 136 v4) fun v16 =>
  K (.tuple #[v16, a1, Value.nilIface]) w15)
theorem c223 {a0 a1 : Value} {K : Value → World → Prop} {w : World} (h : t223 a0 a1 K w) : CK Pr 223 #[a0, a1] w K := by
  refine calls_of_RF [] Tryz.func223 rfl ?_ ?_ ?_
  · kernel_rfl
  · exact Nat.le_of_ble_eq_true rfl
  · exact cast (by kernel_rfl) h

end Go.Proofs.YtmmpogfbhelioaaGreat
/-
  The machine as plain data: what an argument of a law holds.
  Conditions: none.
-/
namespace Go.Proofs.YtmmpogfbhelioaaGreat
set_option maxRecDepth 10000
set_option linter.unusedVariables false
set_option linter.unusedSimpArgs false

def u64 (n : Int) : Prop := 0 ≤ n ∧ n ≤ 18446744073709551615
def i64 (n : Int) : Prop := -9223372036854775808 ≤ n ∧ n ≤ 9223372036854775807

/-- A peer's progress. -/
structure Pe where
  id : Int
  ma : Int
  ne : Int
  st : Int
  pend : Int
  act : Bool
  pau : Bool
  lea : Bool
  size : Int
  mx : Int
  flV : Value
  byV : Value
  fl : List Int
  byt : List Int

def Pe.pcells (p : Pe) : List Value := [.int .u64 p.ma, .int .u64 p.ne, .int .i64 p.st, .int .u64 p.pend, .bool p.act, .bool p.pau, .bool p.lea, .int .i64 p.size, .int .u64 p.mx, p.flV, p.byV]
def Pe.cells (p : Pe) : List Value := [.int .u64 p.id, .int .u64 p.ma, .int .u64 p.ne, .int .i64 p.st, .int .u64 p.pend, .bool p.act, .bool p.pau, .bool p.lea, .int .i64 p.size, .int .u64 p.mx, p.flV, p.byV]

structure PeOk (p : Pe) : Prop where
  id : u64 p.id
  ma : u64 p.ma
  ne : u64 p.ne
  st : i64 p.st
  pend : u64 p.pend
  size : i64 p.size
  mx : u64 p.mx

/-- Ballots. -/
def bals (l : List (Int × Bool)) : List (List Value) := l.map fun p => [.int .u64 p.1, .bool p.2]

structure EnOk (e : En) : Prop where
  t : u64 e.t
  i : u64 e.i
  k : i64 e.k
  d : e.d.size ≤ 9223372036854775807

structure Mac where
  id : Int
  term : Int
  vote : Int
  lead : Int
  role : Int
  base : Sn
  cvV : Value
  clV : Value
  coV : Value
  cnV : Value
  stV : Value
  frV : Value
  st : List En
  fr : List En
  commit : Int
  applied : Int
  voV : Value
  leV : Value
  peV : Value
  vsV : Value
  vo : List Int
  le : List Int
  pe : List Pe
  vs : List (Int × Bool)
  pv : Bool
  cq : Bool
  el : Int
  hb : Int
  to : Int
  ep : Int
  be : Int
  ms : Int
  mu : Int
  un : Int
  tr : Int

def Mac.cells (m : Mac) : Array Value := #[.int .u64 m.id, .int .u64 m.term, .int .u64 m.vote, .int .u64 m.lead, .int .i64 m.role, .string m.base.d, .int .u64 m.base.i, .int .u64 m.base.t, m.cvV, m.clV, m.coV, m.cnV, .bool m.base.c.a,
  m.stV, m.frV, .int .u64 m.commit, .int .u64 m.applied, m.voV, m.leV, m.peV, m.vsV, .bool m.pv, .bool m.cq, .int .i64 m.el, .int .i64 m.hb, .int .i64 m.to, .int .i64 m.ep, .int .i64 m.be, .int .u64 m.ms, .int .u64 m.mu, .int .u64 m.un, .int .u64 m.tr]

/-- The slices of a snapshot's configuration. -/
structure IsCf (w : World) (v1 v2 v3 v4 : Value) (c : Cf) : Prop where
  v : Nums w none v1 c.v
  l : Nums w none v2 c.l
  o : Nums w none v3 c.o
  n : Nums w none v4 c.n

/-- What a machine's slices hold. -/
structure IsMac (w : World) (m : Mac) : Prop where
  cf : IsCf w m.cvV m.clV m.coV m.cnV m.base.c
  st : Ens w none m.stV m.st
  fr : Ens w none m.frV m.fr
  vo : Nums w none m.voV m.vo
  le : Nums w none m.leV m.le
  pe : Sl w none 12 m.peV (m.pe.map Pe.cells)
  pes : ∀ p ∈ m.pe, Nums w none p.flV p.fl ∧ Nums w none p.byV p.byt
  vs : Sl w none 2 m.vsV (bals m.vs)

/-- What numbers a machine may have. -/
structure MacOk (m : Mac) : Prop where
  id : u64 m.id
  term : u64 m.term
  vote : u64 m.vote
  lead : u64 m.lead
  role : i64 m.role
  bd : m.base.d.size ≤ 9223372036854775807
  bi : u64 m.base.i
  bt : u64 m.base.t
  cv : ∀ x ∈ m.base.c.v, u64 x
  cl : ∀ x ∈ m.base.c.l, u64 x
  co : ∀ x ∈ m.base.c.o, u64 x
  cn : ∀ x ∈ m.base.c.n, u64 x
  st : ∀ e ∈ m.st, EnOk e
  fr : ∀ e ∈ m.fr, EnOk e
  commit : u64 m.commit
  applied : u64 m.applied
  vo : ∀ x ∈ m.vo, u64 x
  le : ∀ x ∈ m.le, u64 x
  pe : ∀ p ∈ m.pe, PeOk p
  el : i64 m.el
  hb : i64 m.hb
  to : i64 m.to
  ep : i64 m.ep
  be : i64 m.be
  ms : u64 m.ms
  mu : u64 m.mu
  un : u64 m.un
  tr : u64 m.tr

theorem IsCf.ex {w w' : World} {v1 v2 v3 v4 : Value} {c : Cf} (e : Ex w w') (h : IsCf w v1 v2 v3 v4 c) : IsCf w' v1 v2 v3 v4 c := ⟨h.v.ex e, h.l.ex e, h.o.ex e, h.n.ex e⟩
theorem IsMac.ex {w w' : World} {m : Mac} (e : Ex w w') (h : IsMac w m) : IsMac w' m :=
  ⟨h.cf.ex e, h.st.ex e, h.fr.ex e, h.vo.ex e, h.le.ex e, h.pe.ex e, fun p hp => ⟨(h.pes p hp).1.ex e, (h.pes p hp).2.ex e⟩, h.vs.ex e⟩

/-- Where all that may turn is newer than a slice's world. -/
theorem Sl.old {C : Nat → Prop} {T : List Nat} {te : Option Nat} {w w' : World} {n : Nat} {v : Value} {xs : List (List Value)} (u : Up C T w w') (hC : ∀ b, b < w.heap.size → ¬ C b) (h : Sl w te n v xs) : Sl w' te n v xs := h.ex (u.no hC)
theorem IsMac.one1 {w : World} {m : Mac} (h : IsMac w m) : one m.cvV = true ∧ one m.clV = true ∧ one m.coV = true ∧ one m.cnV = true ∧ one m.stV = true ∧ one m.frV = true ∧ one m.voV = true ∧ one m.leV = true ∧ one m.peV = true ∧ one m.vsV = true :=
  ⟨h.cf.v.one, h.cf.l.one, h.cf.o.one, h.cf.n.one, h.st.one, h.fr.one, h.vo.one, h.le.one, h.pe.one, h.vs.one⟩

end Go.Proofs.YtmmpogfbhelioaaGreat
/-
  Contracts: the getters of the package's entries, configurations and snapshots; plain data made out of them.
  Conditions: each one's own.
-/
namespace Go.Proofs.YtmmpogfbhelioaaGreat
set_option maxRecDepth 10000
set_option linter.unusedVariables false
set_option linter.unusedSimpArgs false
set_option linter.unusedVariables false
set_option linter.unusedSimpArgs false
attribute [local irreducible] Instr.box Instr.alloc Instr.loadAt Instr.storeAt Instr.fieldAt Instr.indexAt Instr.build Instr.buildSlice Instr.makeSlice Instr.makeMap Instr.mapUpdate Instr.lookup Instr.range Instr.next Instr.entry Instr.extract Instr.makeInterface Instr.makeFunc Instr.sliceAt Instr.typeAssert Instr.field Instr.index Builtin.len_ Builtin.cap_ Builtin.max_ Builtin.min_ Builtin.append_ Builtin.copy_ Builtin.delete_ convert binS pickS nilS callV callM Op.unary Own Mp It Cu


variable {K : Value → World → Prop} {w : World} {te : Option Nat}

theorem k95 {v : Value} {s : Sn} (h : PS v s w) (k : ∀ v', PM v' s.i s.t s.c w → K v' w) : CK Pr 95 #[v] w K := by
  obtain ⟨b, v1, v2, rfl, hb, hd, hm⟩ := h
  refine c95 ?_
  unfold t95
  (repeat (first | (refine go ?_; intros) | (refine gon ?_; intros)))
  exact k _ hm

theorem k132 {v : Value} {s : Sn} (h : PS v s w) (k : ∀ v', Sl w (some 5) 1 v' (byteList s.d) → K v' w) : CK Pr 132 #[v] w K := by
  obtain ⟨b, v1, v2, rfl, hb, hd, hm⟩ := h
  refine c132 ?_
  unfold t132
  (repeat (first | (refine go ?_; intros) | (refine gon ?_; intros)))
  exact k _ hd

theorem k96 {v : Value} {i t : Int} {c : Cf} (h : PM v i t c w) (k : K (.int .u64 i) w) : CK Pr 96 #[v] w K := by
  obtain ⟨b, v1, v2, v3, rfl, hb, hc, ⟨bi, rfl, hbi⟩, ⟨bt, rfl, hbt⟩⟩ := h
  refine c96 ?_
  unfold t96
  (repeat (first | (refine go ?_; intros) | (refine gon ?_; intros)))
  exact k

theorem k99 {v : Value} {i t : Int} {c : Cf} (h : PM v i t c w) (k : K (.int .u64 t) w) : CK Pr 99 #[v] w K := by
  obtain ⟨b, v1, v2, v3, rfl, hb, hc, ⟨bi, rfl, hbi⟩, ⟨bt, rfl, hbt⟩⟩ := h
  refine c99 ?_
  unfold t99
  (repeat (first | (refine go ?_; intros) | (refine gon ?_; intros)))
  exact k

theorem k97 {v : Value} {i t : Int} {c : Cf} (h : PM v i t c w) (k : ∀ v', PC v' c w → K v' w) : CK Pr 97 #[v] w K := by
  obtain ⟨b, v1, v2, v3, rfl, hb, hc, ⟨bi, rfl, hbi⟩, ⟨bt, rfl, hbt⟩⟩ := h
  refine c97 ?_
  unfold t97
  (repeat (first | (refine go ?_; intros) | (refine gon ?_; intros)))
  exact k _ hc

theorem k210 {v : Value} {c : Cf} (h : PC v c w) (k : ∀ v', Nums w (some 22) v' c.v → K v' w) : CK Pr 210 #[v] w K := by
  obtain ⟨b, v1, v2, v3, v4, v5, rfl, hb, h1, h2, h3, h4, ⟨b5, rfl, hb5⟩⟩ := h
  refine c210 ?_
  unfold t210
  (repeat (first | (refine go ?_; intros) | (refine gon ?_; intros)))
  exact k _ h1

theorem k211 {v : Value} {c : Cf} (h : PC v c w) (k : ∀ v', Nums w (some 22) v' c.l → K v' w) : CK Pr 211 #[v] w K := by
  obtain ⟨b, v1, v2, v3, v4, v5, rfl, hb, h1, h2, h3, h4, ⟨b5, rfl, hb5⟩⟩ := h
  refine c211 ?_
  unfold t211
  (repeat (first | (refine go ?_; intros) | (refine gon ?_; intros)))
  exact k _ h2

theorem k212 {v : Value} {c : Cf} (h : PC v c w) (k : ∀ v', Nums w (some 22) v' c.o → K v' w) : CK Pr 212 #[v] w K := by
  obtain ⟨b, v1, v2, v3, v4, v5, rfl, hb, h1, h2, h3, h4, ⟨b5, rfl, hb5⟩⟩ := h
  refine c212 ?_
  unfold t212
  (repeat (first | (refine go ?_; intros) | (refine gon ?_; intros)))
  exact k _ h3

theorem k213 {v : Value} {c : Cf} (h : PC v c w) (k : ∀ v', Nums w (some 22) v' c.n → K v' w) : CK Pr 213 #[v] w K := by
  obtain ⟨b, v1, v2, v3, v4, v5, rfl, hb, h1, h2, h3, h4, ⟨b5, rfl, hb5⟩⟩ := h
  refine c213 ?_
  unfold t213
  (repeat (first | (refine go ?_; intros) | (refine gon ?_; intros)))
  exact k _ h4

theorem k156 {v : Value} {c : Cf} (h : PC v c w) (k : K (.bool c.a) w) : CK Pr 156 #[v] w K := by
  obtain ⟨b, v1, v2, v3, v4, v5, rfl, hb, h1, h2, h3, h4, ⟨b5, rfl, hb5⟩⟩ := h
  refine c156 ?_
  unfold t156
  (repeat (first | (refine go ?_; intros) | (refine gon ?_; intros)))
  exact k

theorem k124 {v : Value} {e : En} (h : PE v e w) (k : K (.int .u64 e.i) w) : CK Pr 124 #[v] w K := by
  obtain ⟨b, vt, vi, vk, vd, rfl, hb, ht, hi, hk, hd⟩ := h
  refine c124 ?_
  unfold t124
  rcases hi with ⟨rfl, h0⟩ | ⟨b2, rfl, hb2⟩
  · (repeat (first | (refine go ?_; intros) | (refine gon ?_; intros)))
    rw [h0] at k
    exact k
  · (repeat (first | (refine go ?_; intros) | (refine gon ?_; intros)))
    exact k

theorem k128 {v : Value} {e : En} (h : PE v e w) (k : K (.int .u64 e.t) w) : CK Pr 128 #[v] w K := by
  obtain ⟨b, vt, vi, vk, vd, rfl, hb, ht, hi, hk, hd⟩ := h
  refine c128 ?_
  unfold t128
  rcases ht with ⟨rfl, h0⟩ | ⟨b2, rfl, hb2⟩
  · (repeat (first | (refine go ?_; intros) | (refine gon ?_; intros)))
    rw [h0] at k
    exact k
  · (repeat (first | (refine go ?_; intros) | (refine gon ?_; intros)))
    exact k

theorem k129 {v : Value} {e : En} (h : PE v e w) (k : K (.int .i32 e.k) w) : CK Pr 129 #[v] w K := by
  obtain ⟨b, vt, vi, vk, vd, rfl, hb, ht, hi, hk, hd⟩ := h
  refine c129 ?_
  unfold t129
  rcases hk with ⟨rfl, h0⟩ | ⟨b2, rfl, hb2⟩
  · (repeat (first | (refine go ?_; intros) | (refine gon ?_; intros)))
    rw [h0] at k
    exact k
  · (repeat (first | (refine go ?_; intros) | (refine gon ?_; intros)))
    exact k

theorem k130 {v : Value} {e : En} (h : PE v e w) (k : ∀ v', Sl w (some 5) 1 v' (byteList e.d) → K v' w) : CK Pr 130 #[v] w K := by
  obtain ⟨b, vt, vi, vk, vd, rfl, hb, ht, hi, hk, hd⟩ := h
  refine c130 ?_
  unfold t130
  (repeat (first | (refine go ?_; intros) | (refine gon ?_; intros)))
  exact k _ hd

theorem k133 {v : Value} {c : Cf} (h : PC v c w) (l1 : c.v.length ≤ 1000000) (l2 : c.l.length ≤ 1000000) (l3 : c.o.length ≤ 1000000) (l4 : c.n.length ≤ 1000000)
    (k : ∀ v1 v2 v3 v4 w', Ex w w' → Own w' w.heap.size 22 1 v1 (nums c.v) → Own w' w.heap.size 22 1 v2 (nums c.l) → Own w' w.heap.size 22 1 v3 (nums c.o) → Own w' w.heap.size 22 1 v4 (nums c.n) → K (.agg #[v1, v2, v3, v4, .bool c.a]) w') : CK Pr 133 #[v] w K := by
  refine c133 ?_
  unfold t133
  refine e_allocA fun b0 w0 e0 hb0 sa sb => ?_
  refine cl_fn (k210 (h.ex ex_) fun v1 h1 => ?_)
  refine cl_fn (k107 h1 l1 fun u1 w1 e1 o1 => ?_)
  have z1 := e1.size
  refine cl_fn (k211 (h.ex ex_) fun v2 h2 => ?_)
  refine cl_fn (k107 h2 l2 fun u2 w2 e2 o2 => ?_)
  have z2 := e2.size
  refine cl_fn (k212 (h.ex ex_) fun v3 h3 => ?_)
  refine cl_fn (k107 h3 l3 fun u3 w3 e3 o3 => ?_)
  have z3 := e3.size
  refine cl_fn (k213 (h.ex ex_) fun v4 h4 => ?_)
  refine cl_fn (k107 h4 l4 fun u4 w4 e4 o4 => ?_)
  have z4 := e4.size
  refine cl_fn (k156 (h.ex ex_) ?_)
  refine b25_0_1_2_3_4 o1.sl.one o2.sl.one o3.sl.one o4.sl.one rfl ?_
  refine u_stA bk_ (Nat.le_of_ble_eq_true rfl) (by rfl) (by simp only [List.all_cons, List.all_nil, o1.sl.one, o2.sl.one, o3.sl.one, o4.sl.one]; rfl) nm_ fun w5 u5 hb5 z5 => ?_
  (repeat (first | (refine go ?_; intros) | (refine gon ?_; intros)))
  refine k u1 u2 u3 u4 w5 ex_ ?_ ?_ ?_ ?_
  · exact ((((o1.ex e2).ex e3).ex e4).mono (by omega)).up u5 fun _ _ => .inl rfl
  · exact (((o2.ex e3).ex e4).mono (by omega)).up u5 fun _ _ => .inl rfl
  · exact ((o3.ex e4).mono (by omega)).up u5 fun _ _ => .inl rfl
  · exact (o4.mono (by omega)).up u5 fun _ _ => .inl rfl

theorem k90 {v : Value} {s : Sn} (h : PS v s w) (l1 : s.c.v.length ≤ 1000000) (l2 : s.c.l.length ≤ 1000000) (l3 : s.c.o.length ≤ 1000000) (l4 : s.c.n.length ≤ 1000000)
    (k : ∀ v1 v2 v3 v4 w', Ex w w' → Own w' w.heap.size 22 1 v1 (nums s.c.v) → Own w' w.heap.size 22 1 v2 (nums s.c.l) → Own w' w.heap.size 22 1 v3 (nums s.c.o) → Own w' w.heap.size 22 1 v4 (nums s.c.n) → K (.agg (snCells s v1 v2 v3 v4)) w') : CK Pr 90 #[v] w K := by
  refine c90 ?_
  unfold t90
  refine e_allocA fun b0 w0 e0 hb0 sa sb => ?_
  refine cl_fn (k95 (h.ex ex_) fun vm hm => ?_)
  refine dr_rule (fun b => b = b0) [29] fun w1 e1 z1 => ?_
  refine cl_fn (k132 (h.ex ex_) fun vd hd => ⟨.refl _ _ _, ?_⟩)
  refine q_strS (s := s.d) (fun w' hw => hd.typ hw rfl) ?_
  refine cl_fn (k96 (hm.ex e1) ⟨.refl _ _ _, ?_⟩)
  refine cl_fn (k99 (hm.ex e1) ⟨.refl _ _ _, ?_⟩)
  refine cl_fn (k97 (hm.ex e1) fun vc hc => ⟨.refl _ _ _, ?_⟩)
  refine cl_fn (k133 hc l1 l2 l3 l4 fun u1 u2 u3 u4 w2 e2 o1 o2 o3 o4 => ⟨.of_ex e2, ?_⟩)
  have z2 := e2.size
  refine b27_0_1_2_3 rfl rfl rfl ?_
  refine u_stA bk_ (Nat.le_of_ble_eq_true rfl) (by rfl) (by simp only [List.all_cons, List.all_nil, o1.sl.one, o2.sl.one, o3.sl.one, o4.sl.one]; rfl) nm_ fun w5 u5 hb5 z5 => ⟨(Up.of_ex e2).trans u5, ?_⟩
  (repeat (first | (refine go ?_; intros) | (refine gon ?_; intros)))
  refine k u1 u2 u3 u4 w5 ex_ ?_ ?_ ?_ ?_
  · exact (o1.mono (by omega)).up u5 fun _ _ => .inl rfl
  · exact (o2.mono (by omega)).up u5 fun _ _ => .inl rfl
  · exact (o3.mono (by omega)).up u5 fun _ _ => .inl rfl
  · exact (o4.mono (by omega)).up u5 fun _ _ => .inl rfl

theorem En.one {e : En} : ∀ u ∈ (Value.agg e.cells.toArray).cells.toList, one u = true := by
  intro u hu
  simp only [Value.cells, En.cells, List.mem_cons, List.not_mem_nil, or_false] at hu
  rcases hu with rfl | rfl | rfl | rfl <;> rfl

theorem k86 {v : Value} {ps : List Value} {l : List En} (hv : Sl w te 1 v (ones ps)) (hps : PEs ps l w) (hl : l.length ≤ 1000000) (hk : ∀ e ∈ l, i64 e.k)
    (h : ∀ v' w', Ex w w' → Own w' w.heap.size 56 4 v' (l.map En.cells) → K v' w') : CK Pr 86 #[v] w K := by
  refine c86 ?_
  unfold t86
  refine q_lenSl hv ?_
  have hol : (ones ps).length = l.length := by rw [ones, List.length_map, hps.len]
  rw [hol]
  refine loop_n (α := Nat) (fun j τ w' => g τ 2 = .int .i64 j ∧ j ≤ l.length ∧ Ex w w' ∧ Own w' w.heap.size 56 4 (g τ 0) ((l.take j).map En.cells)) (fun j => l.length - j) 0
    ⟨rfl, Nat.zero_le _, .refl _ _ _, Own.nil _ _ _ _⟩ ?_
  intro j τ w' R ⟨hj, hle, hex, hown⟩ hR
  rw [hj]
  (repeat (first | (refine go ?_; intros) | (refine gon ?_; intros)))
  have zz := hex.size
  refine if_split (fun hb => ?_) (fun hb => ?_)
  · have hj' : j < l.length := by simpa using hb
    obtain ⟨p, hp⟩ : ∃ p, ps[j]? = some p := ⟨_, List.getElem?_eq_getElem (by rw [hps.len]; exact hj')⟩
    obtain ⟨e, he, hpe⟩ := hps.get hp
    have hpe' := hpe.ex hex
    refine q_ixs j (hv.ex hex) rfl (by rw [ones, List.getElem?_map, hp]; rfl) fun _ => ?_
    refine cl_fn (k128 hpe' ?_)
    refine cl_fn (k124 hpe' ?_)
    refine cl_fn (k129 hpe' ?_)
    (repeat (first | (refine go ?_; intros) | (refine gon ?_; intros)))
    refine cl_fn (k130 hpe' fun vd hd => ?_)
    refine q_strS (s := e.d) (fun w2 h2 => by cases h2; exact hd) ?_
    have hke := hk e (List.mem_of_getElem? he)
    rw [wrap64 hke.1 hke.2]
    refine b56_0_1_2_3 rfl rfl rfl rfl ?_
    have hlt : ((l.take j).map En.cells).length = j := by rw [List.length_map, List.length_take]; omega
    refine e_push (n := 4) hown (by rfl) (by omega) En.one (by rw [hlt]; omega) (by rw [hlt]; omega) (by omega) fun _ v' w3 u3 ow3 hbl z3 => ?_
    (repeat (first | (refine go ?_; intros) | (refine gon ?_; intros)))
    refine hR (j + 1) _ _ ⟨by rw [← wrapS (by omega)]; rfl, hj', ?_, ?_⟩ (by omega)
    · exact hex.new u3 fun b hb => (hown.lt b hb).1
    · rw [take_snoc he, List.map_append]; exact ow3
  · have : ¬ ((j : Int) < (l.length : Nat)) := of_decide_eq_false hb
    have hjl : j = l.length := by omega
    rw [hjl, List.take_length] at hown
    exact h _ _ hex hown

end Go.Proofs.YtmmpogfbhelioaaGreat
/-
  The readable texts of the program's functions, printed by gen.py, and their links with the program.
  Conditions: none.
-/
namespace Go.Proofs.YtmmpogfbhelioaaGreat
set_option maxRecDepth 10000
set_option linter.unusedVariables false
set_option linter.unusedSimpArgs false
set_option linter.unusedVariables false
/-- pub/raft/confchange.outgoing -/
def t225 (a0 : Value) (K : Value → World → Prop) (w : World) : Prop :=
 Ef Pr (Instr.box 134 a0) w fun v2 w1 =>
 Qu Pr (Is w1) (Instr.indexAt 134 v2 (Value.int .i64 1)) fun v3 =>
 Qu Pr (Is w1) (Instr.loadAt 132 v3) fun v4 =>
 K v4 w1
theorem c225 {a0 : Value} {K : Value → World → Prop} {w : World} (h : t225 a0 K w) : CK Pr 225 #[a0] w K := by
  refine calls_of_RF [] Tryz.func225 rfl ?_ ?_ ?_
  · kernel_rfl
  · exact Nat.le_of_ble_eq_true rfl
  · exact cast (by kernel_rfl) h

/-- (*pub/raft/raftpb.ConfState).ZzClone -/
def t226 (a0 : Value) (K : Value → World → Prop) (w : World) : Prop :=
 Qu Pr (Is w) (binS .eql 102 (.tmp 3) (.const (Value.pointer none)) a0 (Value.pointer none)) fun v1 =>
 If v1 (
  K (Value.pointer none) w) (
  Dr w fun S2 w3 =>
  Qu Pr (S2) (nilS a0) fun v4 =>
  Qu Pr (S2) (Instr.fieldAt 200 v4 0) fun v5 =>
  Qu Pr (S2) (Instr.loadAt 23 v5) fun v6 =>
  Cl Pr (callV (fn 287) #[v6]) w3 fun v8 w7 => S2 w7 ∧
  Qu Pr (S2) (nilS a0) fun v9 =>
  Qu Pr (S2) (Instr.fieldAt 200 v9 1) fun v10 =>
  Qu Pr (S2) (Instr.loadAt 23 v10) fun v11 =>
  Cl Pr (callV (fn 287) #[v11]) w7 fun v13 w12 => S2 w12 ∧
  Qu Pr (S2) (nilS a0) fun v14 =>
  Qu Pr (S2) (Instr.fieldAt 200 v14 2) fun v15 =>
  Qu Pr (S2) (Instr.loadAt 23 v15) fun v16 =>
  Cl Pr (callV (fn 287) #[v16]) w12 fun v18 w17 => S2 w17 ∧
  Qu Pr (S2) (nilS a0) fun v19 =>
  Qu Pr (S2) (Instr.fieldAt 200 v19 3) fun v20 =>
  Qu Pr (S2) (Instr.loadAt 23 v20) fun v21 =>
  Cl Pr (callV (fn 287) #[v21]) w17 fun v23 w22 => S2 w22 ∧
  Qu Pr (S2) (nilS a0) fun v24 =>
  Qu Pr (S2) (Instr.fieldAt 200 v24 4) fun v25 =>
  Qu Pr (S2) (Instr.loadAt 117 v25) fun v26 =>
  Cl Pr (callV (fn 288) #[v26]) w22 fun v28 w27 => S2 w27 ∧
  Qu Pr (S2) (Instr.build 200 #[(0, v8), (1, v13), (2, v18), (3, v23), (4, v28)]) fun v29 =>
  Ef Pr (Instr.box 200 v29) w27 fun v31 w30 => S2 w30 ∧
  K v31 w30)
theorem c226 {a0 : Value} {K : Value → World → Prop} {w : World} (h : t226 a0 K w) : CK Pr 226 #[a0] w K := by
  refine calls_of_RF [] Tryz.func226 rfl ?_ ?_ ?_
  · kernel_rfl
  · exact Nat.le_of_ble_eq_true rfl
  · exact cast (by kernel_rfl) h

/-- (*pub/raft/raftpb.ConfState).Equivalent$1 -/
def t227 (a0 : Value) (K : Value → World → Prop) (w : World) : Prop :=
 Qu Pr (Is w) (nilS a0) fun v1 =>
 Qu Pr (Is w) (Instr.loadAt 23 v1) fun v2 =>
 Cl Pr (callV (fn 131) #[v2]) w fun _ w3 =>
 K (.tuple #[]) w3
theorem c227 {a0 : Value} {K : Value → World → Prop} {w : World} (h : t227 a0 K w) : CK Pr 227 #[a0] w K := by
  refine calls_of_RF [] Tryz.func227 rfl ?_ ?_ ?_
  · kernel_rfl
  · exact Nat.le_of_ble_eq_true rfl
  · exact cast (by kernel_rfl) h

/-- (*pub/raft/raftpb.ConfState).ZzEqual -/
def t228 (a0 a1 : Value) (K : Value → World → Prop) (w : World) : Prop :=
 Dr w fun S1 w2 =>
 Qu Pr (S1) (nilS a0) fun v3 =>
 Qu Pr (S1) (Instr.fieldAt 200 v3 0) fun v4 =>
 Qu Pr (S1) (Instr.loadAt 23 v4) fun v5 =>
 Qu Pr (S1) (nilS a1) fun v6 =>
 Qu Pr (S1) (Instr.fieldAt 200 v6 0) fun v7 =>
 Qu Pr (S1) (Instr.loadAt 23 v7) fun v8 =>
 Cl Pr (callV (fn 289) #[v5, v8]) w2 fun v10 w9 => S1 w9 ∧
 Gd v10 true (fun k11 => k11 a0 w9) w9 fun v12 w13 =>
 Gd v10 true (fun k14 => Qu Pr (S1) (nilS v12) fun v17 => k14 v17 w13) w13 fun v15 w16 =>
 Gd v10 true (fun k18 => Qu Pr (S1) (Instr.fieldAt 200 v15 1) fun v21 => k18 v21 w16) w16 fun v19 w20 =>
 Gd v10 true (fun k22 => Qu Pr (S1) (Instr.loadAt 23 v19) fun v25 => k22 v25 w20) w20 fun v23 w24 =>
 Gd v10 true (fun k26 => k26 a1 w24) w24 fun v27 w28 =>
 Gd v10 true (fun k29 => Qu Pr (S1) (nilS v27) fun v32 => k29 v32 w28) w28 fun v30 w31 =>
 Gd v10 true (fun k33 => Qu Pr (S1) (Instr.fieldAt 200 v30 1) fun v36 => k33 v36 w31) w31 fun v34 w35 =>
 Gd v10 true (fun k37 => Qu Pr (S1) (Instr.loadAt 23 v34) fun v40 => k37 v40 w35) w35 fun v38 w39 =>
 Gd v10 true (fun k41 => Cl Pr (callV (fn 289) #[v23, v38]) w39 fun v42x w43x => S1 w43x ∧ k41 v42x w43x) w39 fun v42 w43 =>
 Qu Pr (S1) (pickS v10 v42 (Value.bool false)) fun v44 =>
 Gd v44 true (fun k45 => k45 a0 w43) w43 fun v46 w47 =>
 Gd v44 true (fun k48 => Qu Pr (S1) (nilS v46) fun v51 => k48 v51 w47) w47 fun v49 w50 =>
 Gd v44 true (fun k52 => Qu Pr (S1) (Instr.fieldAt 200 v49 2) fun v55 => k52 v55 w50) w50 fun v53 w54 =>
 Gd v44 true (fun k56 => Qu Pr (S1) (Instr.loadAt 23 v53) fun v59 => k56 v59 w54) w54 fun v57 w58 =>
 Gd v44 true (fun k60 => k60 a1 w58) w58 fun v61 w62 =>
 Gd v44 true (fun k63 => Qu Pr (S1) (nilS v61) fun v66 => k63 v66 w62) w62 fun v64 w65 =>
 Gd v44 true (fun k67 => Qu Pr (S1) (Instr.fieldAt 200 v64 2) fun v70 => k67 v70 w65) w65 fun v68 w69 =>
 Gd v44 true (fun k71 => Qu Pr (S1) (Instr.loadAt 23 v68) fun v74 => k71 v74 w69) w69 fun v72 w73 =>
 Gd v44 true (fun k75 => Cl Pr (callV (fn 289) #[v57, v72]) w73 fun v76x w77x => S1 w77x ∧ k75 v76x w77x) w73 fun v76 w77 =>
 Qu Pr (S1) (pickS v44 v76 (Value.bool false)) fun v78 =>
 Gd v78 true (fun k79 => k79 a0 w77) w77 fun v80 w81 =>
 Gd v78 true (fun k82 => Qu Pr (S1) (nilS v80) fun v85 => k82 v85 w81) w81 fun v83 w84 =>
 Gd v78 true (fun k86 => Qu Pr (S1) (Instr.fieldAt 200 v83 3) fun v89 => k86 v89 w84) w84 fun v87 w88 =>
 Gd v78 true (fun k90 => Qu Pr (S1) (Instr.loadAt 23 v87) fun v93 => k90 v93 w88) w88 fun v91 w92 =>
 Gd v78 true (fun k94 => k94 a1 w92) w92 fun v95 w96 =>
 Gd v78 true (fun k97 => Qu Pr (S1) (nilS v95) fun v100 => k97 v100 w96) w96 fun v98 w99 =>
 Gd v78 true (fun k101 => Qu Pr (S1) (Instr.fieldAt 200 v98 3) fun v104 => k101 v104 w99) w99 fun v102 w103 =>
 Gd v78 true (fun k105 => Qu Pr (S1) (Instr.loadAt 23 v102) fun v108 => k105 v108 w103) w103 fun v106 w107 =>
 Gd v78 true (fun k109 => Cl Pr (callV (fn 289) #[v91, v106]) w107 fun v110x w111x => S1 w111x ∧ k109 v110x w111x) w107 fun v110 w111 =>
 Qu Pr (S1) (pickS v78 v110 (Value.bool false)) fun v112 =>
 Gd v112 true (fun k113 => k113 a0 w111) w111 fun v114 w115 =>
 Gd v112 true (fun k116 => Qu Pr (S1) (nilS v114) fun v119 => k116 v119 w115) w115 fun v117 w118 =>
 Gd v112 true (fun k120 => Qu Pr (S1) (Instr.fieldAt 200 v117 4) fun v123 => k120 v123 w118) w118 fun v121 w122 =>
 Gd v112 true (fun k124 => Qu Pr (S1) (Instr.loadAt 117 v121) fun v127 => k124 v127 w122) w122 fun v125 w126 =>
 Gd v112 true (fun k128 => Qu Pr (S1) (binS .eql 117 (.tmp 51) (.const (Value.pointer none)) v125 (Value.pointer none)) fun v131 => k128 v131 w126) w126 fun v129 w130 =>
 Gd v112 true (fun k132 => k132 a1 w130) w130 fun v133 w134 =>
 Gd v112 true (fun k135 => Qu Pr (S1) (nilS v133) fun v138 => k135 v138 w134) w134 fun v136 w137 =>
 Gd v112 true (fun k139 => Qu Pr (S1) (Instr.fieldAt 200 v136 4) fun v142 => k139 v142 w137) w137 fun v140 w141 =>
 Gd v112 true (fun k143 => Qu Pr (S1) (Instr.loadAt 117 v140) fun v146 => k143 v146 w141) w141 fun v144 w145 =>
 Gd v112 true (fun k147 => Qu Pr (S1) (binS .eql 117 (.tmp 56) (.const (Value.pointer none)) v144 (Value.pointer none)) fun v150 => k147 v150 w145) w145 fun v148 w149 =>
 Gd v112 true (fun k151 => Qu Pr (S1) (binS .eql 4 (.tmp 52) (.tmp 57) v129 v148) fun v154 => k151 v154 w149) w149 fun v152 w153 =>
 Qu Pr (S1) (pickS v112 v152 (Value.bool false)) fun v155 =>
 Gd v155 true (fun k156 => k156 a0 w153) w153 fun v157 w158 =>
 Gd v155 true (fun k159 => Cl Pr (callV (fn 156) #[v157]) w158 fun v160x w161x => S1 w161x ∧ k159 v160x w161x) w158 fun v160 w161 =>
 Gd v155 true (fun k162 => k162 a1 w161) w161 fun v163 w164 =>
 Gd v155 true (fun k165 => Cl Pr (callV (fn 156) #[v163]) w164 fun v166x w167x => S1 w167x ∧ k165 v166x w167x) w164 fun v166 w167 =>
 Gd v155 true (fun k168 => Qu Pr (S1) (binS .eql 4 (.tmp 62) (.tmp 64) v160 v166) fun v171 => k168 v171 w167) w167 fun v169 w170 =>
 Qu Pr (S1) (pickS v155 v169 (Value.bool false)) fun v172 =>
 K v172 w170
theorem c228 {a0 a1 : Value} {K : Value → World → Prop} {w : World} (h : t228 a0 a1 K w) : CK Pr 228 #[a0, a1] w K := by
  refine calls_of_RF [] Tryz.func228 rfl ?_ ?_ ?_
  · kernel_rfl
  · exact Nat.le_of_ble_eq_true rfl
  · exact cast (by kernel_rfl) h

/-- (*pub/raft.unstable).maybeFirstIndex -/
def t262 (a0 : Value) (K : Value → World → Prop) (w : World) : Prop :=
 Qu Pr (Is w) (nilS a0) fun v1 =>
 Qu Pr (Is w) (Instr.fieldAt 194 v1 0) fun v2 =>
 Qu Pr (Is w) (Instr.loadAt 75 v2) fun v3 =>
 Qu Pr (Is w) (binS .neq 75 (.tmp 7) (.const (Value.pointer none)) v3 (Value.pointer none)) fun v4 =>
 If v4 (
  Qu Pr (Is w) (nilS a0) fun v5 =>
  Qu Pr (Is w) (Instr.fieldAt 194 v5 0) fun v6 =>
  Qu Pr (Is w) (Instr.loadAt 75 v6) fun v7 =>
  Cl Pr (callV (fn 95) #[v7]) w fun v9 w8 =>
  Cl Pr (callV (fn 96) #[v9]) w8 fun v11 w10 =>
  Qu Pr (Is w10) (binS .add 22 (.tmp 14) (.const (Value.int .u64 1)) v11 (Value.int .u64 1)) fun v12 =>
  K (.tuple #[v12, (Value.bool true)]) w10) (
  K (.tuple #[(Value.int .u64 0), (Value.bool false)]) w)
theorem c262 {a0 : Value} {K : Value → World → Prop} {w : World} (h : t262 a0 K w) : CK Pr 262 #[a0] w K := by
  refine calls_of_RF [] Tryz.func262 rfl ?_ ?_ ?_
  · kernel_rfl
  · exact Nat.le_of_ble_eq_true rfl
  · exact cast (by kernel_rfl) h

/-- pub/raft/raftpb.zzPointer[uint64] -/
def t266 (a0 : Value) (K : Value → World → Prop) (w : World) : Prop :=
 Qu Pr (Is w) (binS .eql 104 (.tmp 4) (.const (Value.pointer none)) a0 (Value.pointer none)) fun v1 =>
 If v1 (
  K (Value.pointer none) w) (
  Qu Pr (Is w) (nilS a0) fun v2 =>
  Qu Pr (Is w) (Instr.loadAt 22 v2) fun v3 =>
  Ef Pr (Instr.alloc 22 true (.tuple #[])) w fun v5 w4 =>
  Eu Pr (Instr.storeAt 22 v5 v3) w4 fun w6 =>
  K v5 w6)
theorem c266 {a0 : Value} {K : Value → World → Prop} {w : World} (h : t266 a0 K w) : CK Pr 266 #[a0] w K := by
  refine calls_of_RF [] Tryz.func266 rfl ?_ ?_ ?_
  · kernel_rfl
  · exact Nat.le_of_ble_eq_true rfl
  · exact cast (by kernel_rfl) h

/-- (*pub/raft/tracker.Config).Clone -/
def t280 (a0 : Value) (K : Value → World → Prop) (w : World) : Prop :=
 Ef Pr (Instr.alloc 136 true (.tuple #[])) w fun v2 w1 =>
 Dr w1 fun S3 w4 =>
 Qu Pr (S3) (nilS a0) fun v5 =>
 Qu Pr (S3) (Instr.fieldAt 136 v5 0) fun v6 =>
 Qu Pr (S3) (Instr.indexAt 134 v6 (Value.int .i64 0)) fun v7 =>
 Qu Pr (S3) (Instr.loadAt 132 v7) fun v8 =>
 Cl Pr (callV (fn 316) #[v8]) w4 fun v10 w9 => S3 w9 ∧
 Qu Pr (S3) (nilS a0) fun v11 =>
 Qu Pr (S3) (Instr.fieldAt 136 v11 0) fun v12 =>
 Qu Pr (S3) (Instr.indexAt 134 v12 (Value.int .i64 1)) fun v13 =>
 Qu Pr (S3) (Instr.loadAt 132 v13) fun v14 =>
 Cl Pr (callV (fn 316) #[v14]) w9 fun v16 w15 => S3 w15 ∧
 Qu Pr (S3) (Instr.build 134 #[(0, v10), (1, v16)]) fun v17 =>
 Qu Pr (S3) (nilS a0) fun v18 =>
 Qu Pr (S3) (Instr.fieldAt 136 v18 2) fun v19 =>
 Qu Pr (S3) (Instr.loadAt 131 v19) fun v20 =>
 Cl Pr (callV (fn 316) #[v20]) w15 fun v22 w21 => S3 w21 ∧
 Qu Pr (S3) (nilS a0) fun v23 =>
 Qu Pr (S3) (Instr.fieldAt 136 v23 3) fun v24 =>
 Qu Pr (S3) (Instr.loadAt 131 v24) fun v25 =>
 Cl Pr (callV (fn 316) #[v25]) w21 fun v27 w26 => S3 w26 ∧
 Qu Pr (S3) (Instr.build 136 #[(0, v17), (2, v22), (3, v27)]) fun v28 =>
 Eu Pr (Instr.storeAt 136 v2 v28) w26 fun w29 => S3 w29 ∧
 Qu Pr (Is w29) (Instr.loadAt 136 v2) fun v30 =>
 K v30 w29
theorem c280 {a0 : Value} {K : Value → World → Prop} {w : World} (h : t280 a0 K w) : CK Pr 280 #[a0] w K := by
  refine calls_of_RF [] Tryz.func280 rfl ?_ ?_ ?_
  · kernel_rfl
  · exact Nat.le_of_ble_eq_true rfl
  · exact cast (by kernel_rfl) h

/-- (*pub/raft/raftpb.ConfChangeSingle).GetNodeId -/
def t281 (a0 : Value) (K : Value → World → Prop) (w : World) : Prop :=
 Qu Pr (Is w) (binS .neq 251 (.tmp 3) (.const (Value.pointer none)) a0 (Value.pointer none)) fun v1 =>
 Gd v1 true (fun k2 => k2 a0 w) w fun v3 w4 =>
 Gd v1 true (fun k5 => Qu Pr (Is w4) (nilS v3) fun v8 => k5 v8 w4) w4 fun v6 w7 =>
 Gd v1 true (fun k9 => Qu Pr (Is w7) (Instr.fieldAt 309 v6 1) fun v12 => k9 v12 w7) w7 fun v10 w11 =>
 Gd v1 true (fun k13 => Qu Pr (Is w11) (Instr.loadAt 104 v10) fun v16 => k13 v16 w11) w11 fun v14 w15 =>
 Gd v1 true (fun k17 => Qu Pr (Is w15) (binS .neq 104 (.tmp 9) (.const (Value.pointer none)) v14 (Value.pointer none)) fun v20 => k17 v20 w15) w15 fun v18 w19 =>
 Qu Pr (Is w19) (pickS v1 v18 (Value.bool false)) fun v21 =>
 If v21 (
  Qu Pr (Is w19) (nilS a0) fun v22 =>
  Qu Pr (Is w19) (Instr.fieldAt 309 v22 1) fun v23 =>
  Qu Pr (Is w19) (Instr.loadAt 104 v23) fun v24 =>
  Qu Pr (Is w19) (nilS v24) fun v25 =>
  Qu Pr (Is w19) (Instr.loadAt 22 v25) fun v26 =>
  K v26 w19) (
  K (Value.int .u64 0) w19)
theorem c281 {a0 : Value} {K : Value → World → Prop} {w : World} (h : t281 a0 K w) : CK Pr 281 #[a0] w K := by
  refine calls_of_RF [] Tryz.func281 rfl ?_ ?_ ?_
  · kernel_rfl
  · exact Nat.le_of_ble_eq_true rfl
  · exact cast (by kernel_rfl) h

/-- (*pub/raft/raftpb.ConfChangeSingle).GetType -/
def t282 (a0 : Value) (K : Value → World → Prop) (w : World) : Prop :=
 Qu Pr (Is w) (binS .neq 251 (.tmp 3) (.const (Value.pointer none)) a0 (Value.pointer none)) fun v1 =>
 Gd v1 true (fun k2 => k2 a0 w) w fun v3 w4 =>
 Gd v1 true (fun k5 => Qu Pr (Is w4) (nilS v3) fun v8 => k5 v8 w4) w4 fun v6 w7 =>
 Gd v1 true (fun k9 => Qu Pr (Is w7) (Instr.fieldAt 309 v6 0) fun v12 => k9 v12 w7) w7 fun v10 w11 =>
 Gd v1 true (fun k13 => Qu Pr (Is w11) (Instr.loadAt 277 v10) fun v16 => k13 v16 w11) w11 fun v14 w15 =>
 Gd v1 true (fun k17 => Qu Pr (Is w15) (binS .neq 277 (.tmp 9) (.const (Value.pointer none)) v14 (Value.pointer none)) fun v20 => k17 v20 w15) w15 fun v18 w19 =>
 Qu Pr (Is w19) (pickS v1 v18 (Value.bool false)) fun v21 =>
 If v21 (
  Qu Pr (Is w19) (nilS a0) fun v22 =>
  Qu Pr (Is w19) (Instr.fieldAt 309 v22 0) fun v23 =>
  Qu Pr (Is w19) (Instr.loadAt 277 v23) fun v24 =>
  Qu Pr (Is w19) (nilS v24) fun v25 =>
  Qu Pr (Is w19) (Instr.loadAt 306 v25) fun v26 =>
  K v26 w19) (
  K (Value.int .i32 0) w19)
theorem c282 {a0 : Value} {K : Value → World → Prop} {w : World} (h : t282 a0 K w) : CK Pr 282 #[a0] w K := by
  refine calls_of_RF [] Tryz.func282 rfl ?_ ?_ ?_
  · kernel_rfl
  · exact Nat.le_of_ble_eq_true rfl
  · exact cast (by kernel_rfl) h

/-- (pub/raft/confchange.Changer).makeVoter -/
def t283 (a0 a1 a2 a3 : Value) (K : Value → World → Prop) (w : World) : Prop :=
 Ef Pr (Instr.box 209 a0) w fun v2 w1 =>
 Qu Pr (Is w1) (Instr.lookup 138 a2 a3 false) fun v3 =>
 Qu Pr (Is w1) (binS .eql 146 (.tmp 12) (.const (Value.pointer none)) v3 (Value.pointer none)) fun v4 =>
 If v4 (
  Qu Pr (Is w1) (Instr.loadAt 209 v2) fun v5 =>
  Cl Pr (callV (fn 317) #[v5, a1, a2, a3, (Value.bool false)]) w1 fun _ w6 =>
  K (.tuple #[]) w6) (
  Qu Pr (Is w1) (nilS v3) fun v8 =>
  Qu Pr (Is w1) (Instr.fieldAt 152 v8 8) fun v9 =>
  Eu Pr (Instr.storeAt 4 v9 (Value.bool false)) w1 fun w10 =>
  Qu Pr (Is w10) (nilS a1) fun v11 =>
  Qu Pr (Is w10) (Instr.fieldAt 136 v11 2) fun v12 =>
  Cl Pr (callV (fn 318) #[v12, a3]) w10 fun _ w13 =>
  Qu Pr (Is w13) (nilS a1) fun v15 =>
  Qu Pr (Is w13) (Instr.fieldAt 136 v15 3) fun v16 =>
  Cl Pr (callV (fn 318) #[v16, a3]) w13 fun _ w17 =>
  Qu Pr (Is w17) (nilS a1) fun v19 =>
  Qu Pr (Is w17) (Instr.fieldAt 136 v19 0) fun v20 =>
  Qu Pr (Is w17) (Instr.loadAt 134 v20) fun v21 =>
  Cl Pr (callV (fn 222) #[v21]) w17 fun v23 w22 =>
  Qu Pr (Is w22) (Instr.build 156 #[]) fun v24 =>
  Eu Pr (Instr.mapUpdate 132 v23 a3 v24) w22 fun w25 =>
  K (.tuple #[]) w25)
theorem c283 {a0 a1 a2 a3 : Value} {K : Value → World → Prop} {w : World} (h : t283 a0 a1 a2 a3 K w) : CK Pr 283 #[a0, a1, a2, a3] w K := by
  refine calls_of_RF [] Tryz.func283 rfl ?_ ?_ ?_
  · kernel_rfl
  · exact Nat.le_of_ble_eq_true rfl
  · exact cast (by kernel_rfl) h

/-- (pub/raft/confchange.Changer).makeLearner -/
def t284 (a0 a1 a2 a3 : Value) (K : Value → World → Prop) (w : World) : Prop :=
 Ef Pr (Instr.box 209 a0) w fun v2 w1 =>
 Qu Pr (Is w1) (Instr.lookup 138 a2 a3 false) fun v3 =>
 Qu Pr (Is w1) (binS .eql 146 (.tmp 14) (.const (Value.pointer none)) v3 (Value.pointer none)) fun v4 =>
 If v4 (
  Qu Pr (Is w1) (Instr.loadAt 209 v2) fun v5 =>
  Cl Pr (callV (fn 317) #[v5, a1, a2, a3, (Value.bool true)]) w1 fun _ w6 =>
  K (.tuple #[]) w6) (
  Qu Pr (Is w1) (nilS v3) fun v8 =>
  Qu Pr (Is w1) (Instr.fieldAt 152 v8 8) fun v9 =>
  Qu Pr (Is w1) (Instr.loadAt 4 v9) fun v10 =>
  If v10 (
   K (.tuple #[]) w1) (
   Qu Pr (Is w1) (Instr.loadAt 209 v2) fun v11 =>
   Cl Pr (callV (fn 285) #[v11, a1, a2, a3]) w1 fun _ w12 =>
   Eu Pr (Instr.mapUpdate 138 a2 a3 v3) w12 fun w14 =>
   Qu Pr (Is w14) (nilS a1) fun v15 =>
   Qu Pr (Is w14) (Instr.fieldAt 136 v15 0) fun v16 =>
   Qu Pr (Is w14) (Instr.loadAt 134 v16) fun v17 =>
   Cl Pr (callV (fn 225) #[v17]) w14 fun v19 w18 =>
   Qu Pr (Is w18) (Instr.lookup 132 v19 a3 true) fun v20 =>
   Qu Pr (Is w18) (Instr.extract v20 0) fun v21 =>
   Qu Pr (Is w18) (Instr.extract v20 1) fun v22 =>
   Ef Pr (Instr.alloc 156 true (.tuple #[])) w18 fun v24 w23 =>
   Eu Pr (Instr.storeAt 156 v24 v21) w23 fun w25 =>
   Jo (fun  (w39 : World) => (
     K (.tuple #[]) w39 : Prop)) fun J40 =>
   If v22 (
    Qu Pr (Is w25) (nilS a1) fun v41 =>
    Qu Pr (Is w25) (Instr.fieldAt 136 v41 3) fun v42 =>
    Cl Pr (callV (fn 319) #[v42, a3]) w25 fun _ w43 =>
    J40 w43) (
    Qu Pr (Is w25) (nilS v3) fun v45 =>
    Qu Pr (Is w25) (Instr.fieldAt 152 v45 8) fun v46 =>
    Eu Pr (Instr.storeAt 4 v46 (Value.bool true)) w25 fun w47 =>
    Qu Pr (Is w47) (nilS a1) fun v48 =>
    Qu Pr (Is w47) (Instr.fieldAt 136 v48 2) fun v49 =>
    Cl Pr (callV (fn 319) #[v49, a3]) w47 fun _ w50 =>
    J40 w50)))
theorem c284 {a0 a1 a2 a3 : Value} {K : Value → World → Prop} {w : World} (h : t284 a0 a1 a2 a3 K w) : CK Pr 284 #[a0, a1, a2, a3] w K := by
  refine calls_of_RF [] Tryz.func284 rfl ?_ ?_ ?_
  · kernel_rfl
  · exact Nat.le_of_ble_eq_true rfl
  · exact cast (by kernel_rfl) h

@[irreducible] def t286_1 (w46 : World) (v2 : Value) (τ44 : List Value) (K : Value → World → Prop) (a1 : Value) : Prop :=
     Qu Pr (Is w46) (Instr.fieldAt 136 v2 2) fun v70 =>
     Qu Pr (Is w46) (Instr.loadAt 131 v70) fun v71 =>
     Ef Pr (Instr.range 131 v71) w46 fun v73 w72 =>
     LoopW [(g τ44 0), undef, undef, undef, undef, undef, undef, undef, undef, undef, undef, undef, undef, undef, undef, undef, undef, undef, undef, undef, undef, undef, undef, undef, undef, undef, undef, undef, undef, undef, undef, undef, undef, undef, undef, undef, undef, undef] (fun r74 τ75 w76 =>
      Ef Pr (Instr.next v73 false 0) w76 fun v78 w77 =>
      Qu Pr (Is w77) (Instr.extract v78 0) fun v79 =>
      If v79 (
       Qu Pr (Is w77) (Instr.entry v73) fun v80 =>
       Qu Pr (Is w77) (Instr.extract v80 0) fun v81 =>
       Qu Pr (Is w77) (Instr.fieldAt 136 v2 0) fun v82 =>
       Qu Pr (Is w77) (Instr.loadAt 134 v82) fun v83 =>
       Cl Pr (callV (fn 225) #[v83]) w77 fun v85 w84 =>
       Qu Pr (Is w84) (Instr.lookup 132 v85 v81 true) fun v86 =>
       Qu Pr (Is w84) (Instr.extract v86 0) fun v87 =>
       Qu Pr (Is w84) (Instr.extract v86 1) fun v88 =>
       Ef Pr (Instr.alloc 156 true (.tuple #[])) w84 fun v90 w89 =>
       Eu Pr (Instr.storeAt 156 v90 v87) w89 fun w91 =>
       If v88 (
        Cl Pr (callV (fn 219) #[(Value.string (ByteArray.mk #[105, 110, 32, 76, 101, 97, 114, 110, 101, 114, 115, 32, 97, 110, 100, 32, 86, 111, 116, 101, 114, 115, 91, 49, 93]))]) w91 fun v93 w92 =>
        K v93 w92) (
        Qu Pr (Is w91) (Instr.fieldAt 136 v2 0) fun v94 =>
        Qu Pr (Is w91) (Instr.loadAt 134 v94) fun v95 =>
        Cl Pr (callV (fn 222) #[v95]) w91 fun v97 w96 =>
        Qu Pr (Is w96) (Instr.lookup 132 v97 v81 true) fun v98 =>
        Qu Pr (Is w96) (Instr.extract v98 0) fun v99 =>
        Qu Pr (Is w96) (Instr.extract v98 1) fun v100 =>
        Ef Pr (Instr.alloc 156 true (.tuple #[])) w96 fun v102 w101 =>
        Eu Pr (Instr.storeAt 156 v102 v99) w101 fun w103 =>
        If v100 (
         Cl Pr (callV (fn 219) #[(Value.string (ByteArray.mk #[105, 110, 32, 76, 101, 97, 114, 110, 101, 114, 115, 32, 97, 110, 100, 32, 86, 111, 116, 101, 114, 115, 91, 48, 93]))]) w103 fun v105 w104 =>
         K v105 w104) (
         Qu Pr (Is w103) (Instr.lookup 138 a1 v81 false) fun v106 =>
         Qu Pr (Is w103) (nilS v106) fun v107 =>
         Qu Pr (Is w103) (Instr.fieldAt 152 v107 8) fun v108 =>
         Qu Pr (Is w103) (Instr.loadAt 4 v108) fun v109 =>
         Qu Pr (Is w103) (Op.unary .not v109) fun v110 =>
         If v110 (
          Cl Pr (callV (fn 219) #[(Value.string (ByteArray.mk #[105, 110, 32, 76, 101, 97, 114, 110, 101, 114, 115, 44, 32, 98, 117, 116, 32, 110, 111, 116, 32, 109, 97, 114, 107, 101, 100, 32, 97, 115, 32, 108, 101, 97, 114, 110, 101, 114]))]) w103 fun v112 w111 =>
          K v112 w111) (
          r74 [(g τ75 0), v81, v90, v88, v102, v100, v78, v79, v80, v81, v86, v82, v83, v85, v81, v86, v87, v88, v88, (g τ75 19), v98, v94, v95, v97, v81, v98, v99, v100, v100, (g τ75 29), a1, v81, v106, v107, v108, v109, v110, (g τ75 37)] w103)))) (
       Qu Pr (Is w77) (Instr.loadAt 136 v2) fun v113 =>
       Cl Pr (callV (fn 218) #[v113]) w77 fun v115 w114 =>
       Qu Pr (Is w114) (Op.unary .not v115) fun v116 =>
       Jo (fun  (w130 : World) => (
         K Value.nilIface w130 : Prop)) fun J131 =>
       If v116 (
        Qu Pr (Is w114) (Instr.fieldAt 136 v2 0) fun v132 =>
        Qu Pr (Is w114) (Instr.loadAt 134 v132) fun v133 =>
        Cl Pr (callV (fn 225) #[v133]) w114 fun v135 w134 =>
        Qu Pr (Is w134) (binS .neq 132 (.tmp 112) (.const (Value.map none)) v135 (Value.map none)) fun v136 =>
        If v136 (
         Cl Pr (callV (fn 219) #[(Value.string (ByteArray.mk #[99, 102, 103, 46, 86, 111, 116, 101, 114, 115, 91, 49, 93, 32, 109, 117, 115, 116, 32, 98, 101, 32, 110, 105, 108, 32, 119, 104, 101, 110, 32, 110, 111, 116, 32, 106, 111, 105, 110, 116]))]) w134 fun v138 w137 =>
         K v138 w137) (
         Qu Pr (Is w134) (Instr.fieldAt 136 v2 3) fun v139 =>
         Qu Pr (Is w134) (Instr.loadAt 131 v139) fun v140 =>
         Qu Pr (Is w134) (binS .neq 131 (.tmp 116) (.const (Value.map none)) v140 (Value.map none)) fun v141 =>
         If v141 (
          Cl Pr (callV (fn 219) #[(Value.string (ByteArray.mk #[99, 102, 103, 46, 76, 101, 97, 114, 110, 101, 114, 115, 78, 101, 120, 116, 32, 109, 117, 115, 116, 32, 98, 101, 32, 110, 105, 108, 32, 119, 104, 101, 110, 32, 110, 111, 116, 32, 106, 111, 105, 110, 116]))]) w134 fun v143 w142 =>
          K v143 w142) (
          Qu Pr (Is w134) (Instr.fieldAt 136 v2 1) fun v144 =>
          Qu Pr (Is w134) (Instr.loadAt 4 v144) fun v145 =>
          If v145 (
           Cl Pr (callV (fn 219) #[(Value.string (ByteArray.mk #[65, 117, 116, 111, 76, 101, 97, 118, 101, 32, 109, 117, 115, 116, 32, 98, 101, 32, 102, 97, 108, 115, 101, 32, 119, 104, 101, 110, 32, 110, 111, 116, 32, 106, 111, 105, 110, 116]))]) w134 fun v147 w146 =>
           K v147 w146) (
           J131 w134)))) (
        J131 w114))) w72
@[irreducible] def t286_2 (w18 : World) (v2 : Value) (τ17 : List Value) (K : Value → World → Prop) (a1 : Value) : Prop :=
   Qu Pr (Is w18) (Instr.fieldAt 136 v2 3) fun v39 =>
   Qu Pr (Is w18) (Instr.loadAt 131 v39) fun v40 =>
   Ef Pr (Instr.range 131 v40) w18 fun v42 w41 =>
   LoopW [(g τ17 0), undef, undef, undef, undef, undef, undef, undef, undef, undef, undef, undef, undef, undef, undef, undef, undef, undef, undef, undef, undef, undef, undef, undef, undef, undef] (fun r43 τ44 w45 =>
    Ef Pr (Instr.next v42 false 0) w45 fun v47 w46 =>
    Qu Pr (Is w46) (Instr.extract v47 0) fun v48 =>
    If v48 (
     Qu Pr (Is w46) (Instr.entry v42) fun v49 =>
     Qu Pr (Is w46) (Instr.extract v49 0) fun v50 =>
     Qu Pr (Is w46) (Instr.fieldAt 136 v2 0) fun v51 =>
     Qu Pr (Is w46) (Instr.loadAt 134 v51) fun v52 =>
     Cl Pr (callV (fn 225) #[v52]) w46 fun v54 w53 =>
     Qu Pr (Is w53) (Instr.lookup 132 v54 v50 true) fun v55 =>
     Qu Pr (Is w53) (Instr.extract v55 0) fun v56 =>
     Qu Pr (Is w53) (Instr.extract v55 1) fun v57 =>
     Ef Pr (Instr.alloc 156 true (.tuple #[])) w53 fun v59 w58 =>
     Eu Pr (Instr.storeAt 156 v59 v56) w58 fun w60 =>
     Qu Pr (Is w60) (Op.unary .not v57) fun v61 =>
     If v61 (
      Cl Pr (callV (fn 219) #[(Value.string (ByteArray.mk #[105, 110, 32, 76, 101, 97, 114, 110, 101, 114, 115, 78, 101, 120, 116, 44, 32, 98, 117, 116, 32, 110, 111, 116, 32, 86, 111, 116, 101, 114, 115, 91, 49, 93]))]) w60 fun v63 w62 =>
      K v63 w62) (
      Qu Pr (Is w60) (Instr.lookup 138 a1 v50 false) fun v64 =>
      Qu Pr (Is w60) (nilS v64) fun v65 =>
      Qu Pr (Is w60) (Instr.fieldAt 152 v65 8) fun v66 =>
      Qu Pr (Is w60) (Instr.loadAt 4 v66) fun v67 =>
      If v67 (
       Cl Pr (callV (fn 219) #[(Value.string (ByteArray.mk #[105, 110, 32, 76, 101, 97, 114, 110, 101, 114, 115, 78, 101, 120, 116, 44, 32, 98, 117, 116, 32, 97, 108, 114, 101, 97, 100, 121, 32, 109, 97, 114, 107, 101, 100, 32, 97, 115, 32, 108, 101, 97, 114, 110, 101, 114]))]) w60 fun v69 w68 =>
       K v69 w68) (
       r43 [(g τ44 0), v50, v59, v57, v47, v48, v49, v50, v55, v51, v52, v54, v50, v55, v56, v57, v57, v61, (g τ44 18), a1, v50, v64, v65, v66, v67, (g τ44 25)] w60))) (t286_1 w46 v2 τ44 K a1)) w41
/-- pub/raft/confchange.checkInvariants -/
def t286 (a0 a1 : Value) (K : Value → World → Prop) (w : World) : Prop :=
 Ef Pr (Instr.box 136 a0) w fun v2 w1 =>
 Dr w1 fun S3 w4 =>
 Qu Pr (S3) (Instr.fieldAt 136 v2 0) fun v5 =>
 Qu Pr (S3) (Instr.loadAt 134 v5) fun v6 =>
 Cl Pr (callV (fn 165) #[v6]) w4 fun v8 w7 => S3 w7 ∧
 Qu Pr (S3) (Instr.fieldAt 136 v2 2) fun v9 =>
 Qu Pr (S3) (Instr.loadAt 131 v9) fun v10 =>
 Qu Pr (S3) (Instr.fieldAt 136 v2 3) fun v11 =>
 Qu Pr (S3) (Instr.loadAt 131 v11) fun v12 =>
 Ef Pr (Instr.buildSlice 408 3 #[(0, v8), (1, v10), (2, v12)]) w7 fun v14 w13 => S3 w13 ∧
 Qu Pr (S3) (Builtin.len_ #[408] 3 #[v14]) fun v15 =>
 LoopW [Value.nilIface, undef, undef, undef, undef, (Value.int .i64 0), undef, undef, undef, undef, undef, undef, undef, undef, undef, undef, undef, undef, undef, undef, undef, undef, undef, undef, undef] (fun r16 τ17 w18 =>
  Qu Pr (Is w18) (binS .lss 3 (.tmp 27) (.tmp 26) (g τ17 5) v15) fun v19 =>
  If v19 (
   Qu Pr (Is w18) (Instr.indexAt 408 v14 (g τ17 5)) fun v20 =>
   Qu Pr (Is w18) (Instr.loadAt 131 v20) fun v21 =>
   Ef Pr (Instr.range 131 v21) w18 fun v23 w22 =>
   LoopW [(g τ17 0), (g τ17 2), (g τ17 3), (g τ17 4), (g τ17 11), (g τ17 12), (g τ17 13), (g τ17 14), (g τ17 15), (g τ17 16), (g τ17 17), (g τ17 18), (g τ17 19), (g τ17 20), (g τ17 21), (g τ17 22), (g τ17 23)] (fun r24 τ25 w26 =>
    Ef Pr (Instr.next v23 false 0) w26 fun v28 w27 =>
    Qu Pr (Is w27) (Instr.extract v28 0) fun v29 =>
    If v29 (
     Qu Pr (Is w27) (Instr.entry v23) fun v30 =>
     Qu Pr (Is w27) (Instr.extract v30 0) fun v31 =>
     Qu Pr (Is w27) (Instr.lookup 138 a1 v31 true) fun v32 =>
     Qu Pr (Is w27) (Instr.extract v32 0) fun v33 =>
     Qu Pr (Is w27) (Instr.extract v32 1) fun v34 =>
     Qu Pr (Is w27) (Op.unary .not v34) fun v35 =>
     If v35 (
      Cl Pr (callV (fn 219) #[(Value.string (ByteArray.mk #[110, 111, 32, 112, 114, 111, 103, 114, 101, 115, 115]))]) w27 fun v37 w36 =>
      K v37 w36) (
      r24 [(g τ25 0), v31, v33, v34, v28, v29, v30, v31, v32, a1, v31, v32, v33, v34, v34, v35, (g τ25 16)] w27)) (
     Qu Pr (Is w27) (binS .add 3 (.tmp 27) (.const (Value.int .i64 1)) (g τ17 5) (Value.int .i64 1)) fun v38 =>
     r16 [(g τ25 0), v21, (g τ25 1), (g τ25 2), (g τ25 3), v38, v19, v20, v21, v21, v23, v28, v29, (g τ25 6), (g τ25 7), (g τ25 8), (g τ25 9), (g τ25 10), (g τ25 11), (g τ25 12), (g τ25 13), (g τ25 14), (g τ25 15), (g τ25 16), v38] w27)) w22) (t286_2 w18 v2 τ17 K a1)) w13
theorem c286 {a0 a1 : Value} {K : Value → World → Prop} {w : World} (h : t286 a0 a1 K w) : CK Pr 286 #[a0, a1] w K := by
  refine calls_of_RF [(2, [4, 6, 7, 8, 9, 27, 28, 29, 30, 31, 32, 33, 34, 35, 36, 37, 38, 39, 40, 41, 42, 43, 44, 45, 46]), (5, [4, 7, 8, 9, 33, 34, 35, 36, 37, 38, 39, 40, 41, 42, 43, 44, 45]), (12, [4, 10, 11, 12, 50, 51, 52, 53, 54, 55, 56, 57, 58, 59, 60, 61, 62, 63, 64, 65, 66, 67, 68, 69, 70, 71]), (20, [4, 13, 14, 15, 16, 17, 75, 76, 77, 78, 79, 80, 81, 82, 83, 84, 85, 86, 87, 88, 89, 90, 91, 92, 93, 94, 95, 96, 97, 98, 99, 100, 101, 102, 103, 104, 105, 106])] Tryz.func286 rfl ?_ ?_ ?_
  · kernel_rfl
  · exact Nat.le_of_ble_eq_true rfl
  · exact cast (by kernel_rfl) h

/-- pub/raft/raftpb.zzNumbers -/
def t287 (a0 : Value) (K : Value → World → Prop) (w : World) : Prop :=
 Qu Pr (Is w) (binS .eql 23 (.tmp 4) (.const (Value.slice none 0 0)) a0 (Value.slice none 0 0)) fun v1 =>
 If v1 (
  K (Value.slice none 0 0) w) (
  Qu Pr (Is w) (Builtin.len_ #[23] 3 #[a0]) fun v2 =>
  Ef Pr (Instr.makeSlice 23 v2 v2) w fun v4 w3 =>
  Ef Pr (Builtin.copy_ #[23, 23] 3 #[v4, a0]) w3 fun _ w5 =>
  K v4 w5)
theorem c287 {a0 : Value} {K : Value → World → Prop} {w : World} (h : t287 a0 K w) : CK Pr 287 #[a0] w K := by
  refine calls_of_RF [] Tryz.func287 rfl ?_ ?_ ?_
  · kernel_rfl
  · exact Nat.le_of_ble_eq_true rfl
  · exact cast (by kernel_rfl) h

/-- pub/raft/raftpb.zzPointer[bool] -/
def t288 (a0 : Value) (K : Value → World → Prop) (w : World) : Prop :=
 Qu Pr (Is w) (binS .eql 117 (.tmp 4) (.const (Value.pointer none)) a0 (Value.pointer none)) fun v1 =>
 If v1 (
  K (Value.pointer none) w) (
  Qu Pr (Is w) (nilS a0) fun v2 =>
  Qu Pr (Is w) (Instr.loadAt 4 v2) fun v3 =>
  Ef Pr (Instr.alloc 4 true (.tuple #[])) w fun v5 w4 =>
  Eu Pr (Instr.storeAt 4 v5 v3) w4 fun w6 =>
  K v5 w6)
theorem c288 {a0 : Value} {K : Value → World → Prop} {w : World} (h : t288 a0 K w) : CK Pr 288 #[a0] w K := by
  refine calls_of_RF [] Tryz.func288 rfl ?_ ?_ ?_
  · kernel_rfl
  · exact Nat.le_of_ble_eq_true rfl
  · exact cast (by kernel_rfl) h

/-- pub/raft/raftpb.zzSame -/
def t289 (a0 a1 : Value) (K : Value → World → Prop) (w : World) : Prop :=
 Qu Pr (Is w) (Builtin.len_ #[23] 3 #[a0]) fun v1 =>
 Qu Pr (Is w) (Builtin.len_ #[23] 3 #[a1]) fun v2 =>
 Qu Pr (Is w) (binS .neq 3 (.tmp 7) (.tmp 9) v1 v2) fun v3 =>
 If v3 (
  K (Value.bool false) w) (
  Qu Pr (Is w) (Builtin.len_ #[23] 3 #[a0]) fun v4 =>
  LoopW [(Value.bool false), undef, (Value.int .i64 0), undef, undef, undef, undef, undef, undef, undef, undef, undef, undef, undef, undef] (fun r5 τ6 w7 =>
   Qu Pr (Is w7) (binS .lss 3 (.tmp 13) (.tmp 12) (g τ6 2) v4) fun v8 =>
   If v8 (
    Dr w7 fun S9 w10 =>
    Qu Pr (S9) (Instr.indexAt 23 a0 (g τ6 2)) fun v11 =>
    Qu Pr (S9) (Instr.loadAt 22 v11) fun v12 =>
    Qu Pr (S9) (Instr.indexAt 23 a1 (g τ6 2)) fun v13 =>
    Qu Pr (S9) (Instr.loadAt 22 v13) fun v14 =>
    Qu Pr (S9) (binS .neq 22 (.tmp 19) (.tmp 23) v12 v14) fun v15 =>
    If v15 (
     K (Value.bool false) w10) (
     Qu Pr (Is w10) (binS .add 3 (.tmp 13) (.const (Value.int .i64 1)) (g τ6 2) (Value.int .i64 1)) fun v16 =>
     r5 [(g τ6 0), (g τ6 2), v16, v8, (g τ6 2), a0, (g τ6 2), v11, v12, a1, (g τ6 2), v13, v14, v15, v16] w10)) (
    K (Value.bool true) w7)) w)
theorem c289 {a0 a1 : Value} {K : Value → World → Prop} {w : World} (h : t289 a0 a1 K w) : CK Pr 289 #[a0, a1] w K := by
  refine calls_of_RF [(4, [4, 5, 13, 14, 15, 16, 17, 18, 19, 20, 21, 22, 23, 24, 25])] Tryz.func289 rfl ?_ ?_ ?_
  · kernel_rfl
  · exact Nat.le_of_ble_eq_true rfl
  · exact cast (by kernel_rfl) h

/-- (*pub/raft/tracker.Config).Clone$1 -/
def t316 (a0 : Value) (K : Value → World → Prop) (w : World) : Prop :=
 Qu Pr (Is w) (binS .eql 131 (.tmp 5) (.const (Value.map none)) a0 (Value.map none)) fun v1 =>
 If v1 (
  K (Value.map none) w) (
  Qu Pr (Is w) (Builtin.len_ #[131] 3 #[a0]) fun v2 =>
  Ef Pr (Instr.makeMap 131 (some v2)) w fun v4 w3 =>
  Ef Pr (Instr.range 131 a0) w3 fun v6 w5 =>
  LoopW [undef, undef, undef, undef, undef, undef, undef, undef] (fun r7 _ w9 =>
   Ef Pr (Instr.next v6 false 0) w9 fun v11 w10 =>
   Qu Pr (Is w10) (Instr.extract v11 0) fun v12 =>
   If v12 (
    Qu Pr (Is w10) (Instr.entry v6) fun v13 =>
    Qu Pr (Is w10) (Instr.extract v13 0) fun v14 =>
    Qu Pr (Is w10) (Instr.build 156 #[]) fun v15 =>
    Eu Pr (Instr.mapUpdate 131 v4 v14 v15) w10 fun w16 =>
    r7 [v14, v11, v12, v13, v14, v4, v14, v15] w16) (
    K v4 w10)) w5)
theorem c316 {a0 : Value} {K : Value → World → Prop} {w : World} (h : t316 a0 K w) : CK Pr 316 #[a0] w K := by
  refine calls_of_RF [(5, [4, 12, 13, 14, 15, 16, 17, 18])] Tryz.func316 rfl ?_ ?_ ?_
  · kernel_rfl
  · exact Nat.le_of_ble_eq_true rfl
  · exact cast (by kernel_rfl) h

/-- (pub/raft/confchange.Changer).initProgress -/
def t317 (a0 a1 a2 a3 a4 : Value) (K : Value → World → Prop) (w : World) : Prop :=
 Ef Pr (Instr.box 209 a0) w fun v2 w1 =>
 Qu Pr (Is w1) (Op.unary .not a4) fun v3 =>
 Jo (fun  (w16 : World) => (
   Dr w16 fun S18 w19 =>
   Qu Pr (S18) (Instr.fieldAt 209 v2 1) fun v20 =>
   Qu Pr (S18) (Instr.loadAt 22 v20) fun v21 =>
   Qu Pr (S18) (Builtin.max_ #[22, 22] 22 #[v21, (Value.int .u64 1)]) fun v22 =>
   Qu Pr (S18) (Instr.fieldAt 209 v2 0) fun v23 =>
   Qu Pr (S18) (Instr.fieldAt 141 v23 3) fun v24 =>
   Qu Pr (S18) (Instr.loadAt 3 v24) fun v25 =>
   Qu Pr (S18) (Instr.fieldAt 209 v2 0) fun v26 =>
   Qu Pr (S18) (Instr.fieldAt 141 v26 4) fun v27 =>
   Qu Pr (S18) (Instr.loadAt 22 v27) fun v28 =>
   Cl Pr (callV (fn 78) #[v25, v28]) w19 fun v30 w29 => S18 w29 ∧
   Qu Pr (S18) (Instr.build 152 #[(0, (Value.int .u64 0)), (1, v22), (7, v30), (8, a4), (5, (Value.bool true))]) fun v31 =>
   Ef Pr (Instr.box 152 v31) w29 fun v33 w32 => S18 w32 ∧
   Eu Pr (Instr.mapUpdate 138 a2 a3 v33) w32 fun w34 => S18 w34 ∧
   K (.tuple #[]) w34 : Prop)) fun J17 =>
 If v3 (
  Qu Pr (Is w1) (nilS a1) fun v35 =>
  Qu Pr (Is w1) (Instr.fieldAt 136 v35 0) fun v36 =>
  Qu Pr (Is w1) (Instr.loadAt 134 v36) fun v37 =>
  Cl Pr (callV (fn 222) #[v37]) w1 fun v39 w38 =>
  Qu Pr (Is w38) (Instr.build 156 #[]) fun v40 =>
  Eu Pr (Instr.mapUpdate 132 v39 a3 v40) w38 fun w41 =>
  J17 w41) (
  Qu Pr (Is w1) (nilS a1) fun v42 =>
  Qu Pr (Is w1) (Instr.fieldAt 136 v42 2) fun v43 =>
  Cl Pr (callV (fn 319) #[v43, a3]) w1 fun _ w44 =>
  J17 w44)
theorem c317 {a0 a1 a2 a3 a4 : Value} {K : Value → World → Prop} {w : World} (h : t317 a0 a1 a2 a3 a4 K w) : CK Pr 317 #[a0, a1, a2, a3, a4] w K := by
  refine calls_of_RF [] Tryz.func317 rfl ?_ ?_ ?_
  · kernel_rfl
  · exact Nat.le_of_ble_eq_true rfl
  · exact cast (by kernel_rfl) h

/-- pub/raft/confchange.nilAwareAdd -/
def t319 (a0 a1 : Value) (K : Value → World → Prop) (w : World) : Prop :=
 Qu Pr (Is w) (nilS a0) fun v1 =>
 Qu Pr (Is w) (Instr.loadAt 131 v1) fun v2 =>
 Qu Pr (Is w) (binS .eql 131 (.tmp 6) (.const (Value.map none)) v2 (Value.map none)) fun v3 =>
 Jo (fun  (w7 : World) => (
   Qu Pr (Is w7) (nilS a0) fun v9 =>
   Qu Pr (Is w7) (Instr.loadAt 131 v9) fun v10 =>
   Qu Pr (Is w7) (Instr.build 156 #[]) fun v11 =>
   Eu Pr (Instr.mapUpdate 131 v10 a1 v11) w7 fun w12 =>
   K (.tuple #[]) w12 : Prop)) fun J8 =>
 If v3 (
  Ef Pr (Instr.makeMap 131 none) w fun v14 w13 =>
  Qu Pr (Is w13) (nilS a0) fun v15 =>
  Eu Pr (Instr.storeAt 131 v15 v14) w13 fun w16 =>
  J8 w16) (
  J8 w)
theorem c319 {a0 a1 : Value} {K : Value → World → Prop} {w : World} (h : t319 a0 a1 K w) : CK Pr 319 #[a0, a1] w K := by
  refine calls_of_RF [] Tryz.func319 rfl ?_ ?_ ?_
  · kernel_rfl
  · exact Nat.le_of_ble_eq_true rfl
  · exact cast (by kernel_rfl) h

/-- (*pub/raft.MemoryStorage).FirstIndex -/
def t351 (a0 : Value) (K : Value → World → Prop) (w : World) : Prop :=
 Qu Pr (Is w) (nilS a0) fun v1 =>
 Qu Pr (Is w) (Instr.fieldAt 225 v1 3) fun v2 =>
 Qu Pr (Is w) (Instr.fieldAt 223 v2 1) fun v3 =>
 Qu Pr (Is w) (Instr.loadAt 3 v3) fun v4 =>
 Qu Pr (Is w) (binS .add 3 (.tmp 8) (.const (Value.int .i64 1)) v4 (Value.int .i64 1)) fun v5 =>
 Qu Pr (Is w) (nilS a0) fun v6 =>
 Qu Pr (Is w) (Instr.fieldAt 225 v6 3) fun v7 =>
 Qu Pr (Is w) (Instr.fieldAt 223 v7 1) fun v8 =>
 Eu Pr (Instr.storeAt 3 v8 v5) w fun w9 =>
 Cl Pr (callV (fn 123) #[a0]) w9 fun v11 w10 =>
 K (.tuple #[v11, Value.nilIface]) w10
theorem c351 {a0 : Value} {K : Value → World → Prop} {w : World} (h : t351 a0 K w) : CK Pr 351 #[a0] w K := by
  refine calls_of_RF [] Tryz.func351 rfl ?_ ?_ ?_
  · kernel_rfl
  · exact Nat.le_of_ble_eq_true rfl
  · exact cast (by kernel_rfl) h

/-- (*pub/raft.MemoryStorage).LastIndex -/
def t352 (a0 : Value) (K : Value → World → Prop) (w : World) : Prop :=
 Qu Pr (Is w) (nilS a0) fun v1 =>
 Qu Pr (Is w) (Instr.fieldAt 225 v1 3) fun v2 =>
 Qu Pr (Is w) (Instr.fieldAt 223 v2 2) fun v3 =>
 Qu Pr (Is w) (Instr.loadAt 3 v3) fun v4 =>
 Qu Pr (Is w) (binS .add 3 (.tmp 8) (.const (Value.int .i64 1)) v4 (Value.int .i64 1)) fun v5 =>
 Qu Pr (Is w) (nilS a0) fun v6 =>
 Qu Pr (Is w) (Instr.fieldAt 225 v6 3) fun v7 =>
 Qu Pr (Is w) (Instr.fieldAt 223 v7 2) fun v8 =>
 Eu Pr (Instr.storeAt 3 v8 v5) w fun w9 =>
 Cl Pr (callV (fn 355) #[a0]) w9 fun v11 w10 =>
 K (.tuple #[v11, Value.nilIface]) w10
theorem c352 {a0 : Value} {K : Value → World → Prop} {w : World} (h : t352 a0 K w) : CK Pr 352 #[a0] w K := by
  refine calls_of_RF [] Tryz.func352 rfl ?_ ?_ ?_
  · kernel_rfl
  · exact Nat.le_of_ble_eq_true rfl
  · exact cast (by kernel_rfl) h

/-- (*pub/raft.MemoryStorage).Term -/
def t354 (a0 a1 : Value) (K : Value → World → Prop) (w : World) : Prop :=
 Qu Pr (Is w) (nilS a0) fun v1 =>
 Qu Pr (Is w) (Instr.fieldAt 225 v1 3) fun v2 =>
 Qu Pr (Is w) (Instr.fieldAt 223 v2 4) fun v3 =>
 Qu Pr (Is w) (Instr.loadAt 3 v3) fun v4 =>
 Qu Pr (Is w) (binS .add 3 (.tmp 11) (.const (Value.int .i64 1)) v4 (Value.int .i64 1)) fun v5 =>
 Qu Pr (Is w) (nilS a0) fun v6 =>
 Qu Pr (Is w) (Instr.fieldAt 225 v6 3) fun v7 =>
 Qu Pr (Is w) (Instr.fieldAt 223 v7 4) fun v8 =>
 Eu Pr (Instr.storeAt 3 v8 v5) w fun w9 =>
 Qu Pr (Is w9) (nilS a0) fun v10 =>
 Qu Pr (Is w9) (Instr.fieldAt 225 v10 2) fun v11 =>
 Qu Pr (Is w9) (Instr.loadAt 115 v11) fun v12 =>
 Qu Pr (Is w9) (Instr.indexAt 115 v12 (Value.int .i64 0)) fun v13 =>
 Qu Pr (Is w9) (Instr.loadAt 212 v13) fun v14 =>
 Cl Pr (callV (fn 124) #[v14]) w9 fun v16 w15 =>
 Qu Pr (Is w15) (binS .lss 22 (.tmp 23) (.tmp 24) a1 v16) fun v17 =>
 If v17 (
  Qu Pr (Is w15) (Instr.makeInterface 226 (Value.string (ByteArray.mk #[114, 101, 113, 117, 101, 115, 116, 101, 100, 32, 105, 110, 100, 101, 120, 32, 105, 115, 32, 117, 110, 97, 118, 97, 105, 108, 97, 98, 108, 101, 32, 100, 117, 101, 32, 116, 111, 32, 99, 111, 109, 112, 97, 99, 116, 105, 111, 110]))) fun v18 =>
  K (.tuple #[(Value.int .u64 0), v18]) w15) (
  Qu Pr (Is w15) (binS .sub 22 (.tmp 27) (.tmp 28) a1 v16) fun v19 =>
  Qu Pr (Is w15) (convert 22 3 v19) fun v20 =>
  Qu Pr (Is w15) (nilS a0) fun v21 =>
  Qu Pr (Is w15) (Instr.fieldAt 225 v21 2) fun v22 =>
  Qu Pr (Is w15) (Instr.loadAt 115 v22) fun v23 =>
  Qu Pr (Is w15) (Builtin.len_ #[115] 3 #[v23]) fun v24 =>
  Qu Pr (Is w15) (binS .geq 3 (.tmp 30) (.tmp 35) v20 v24) fun v25 =>
  If v25 (
   Qu Pr (Is w15) (Instr.makeInterface 226 (Value.string (ByteArray.mk #[114, 101, 113, 117, 101, 115, 116, 101, 100, 32, 101, 110, 116, 114, 121, 32, 97, 116, 32, 105, 110, 100, 101, 120, 32, 105, 115, 32, 117, 110, 97, 118, 97, 105, 108, 97, 98, 108, 101]))) fun v26 =>
   K (.tuple #[(Value.int .u64 0), v26]) w15) (
   Qu Pr (Is w15) (nilS a0) fun v27 =>
   Qu Pr (Is w15) (Instr.fieldAt 225 v27 2) fun v28 =>
   Qu Pr (Is w15) (Instr.loadAt 115 v28) fun v29 =>
   Qu Pr (Is w15) (binS .sub 22 (.tmp 42) (.tmp 43) a1 v16) fun v30 =>
   Qu Pr (Is w15) (Instr.indexAt 115 v29 v30) fun v31 =>
   Qu Pr (Is w15) (Instr.loadAt 212 v31) fun v32 =>
   Cl Pr (callV (fn 128) #[v32]) w15 fun v34 w33 =>
   K (.tuple #[v34, Value.nilIface]) w33))
theorem c354 {a0 a1 : Value} {K : Value → World → Prop} {w : World} (h : t354 a0 a1 K w) : CK Pr 354 #[a0, a1] w K := by
  refine calls_of_RF [] Tryz.func354 rfl ?_ ?_ ?_
  · kernel_rfl
  · exact Nat.le_of_ble_eq_true rfl
  · exact cast (by kernel_rfl) h

/-- (*pub/raft.MemoryStorage).lastIndex -/
def t355 (a0 : Value) (K : Value → World → Prop) (w : World) : Prop :=
 Dr w fun S1 w2 =>
 Qu Pr (S1) (nilS a0) fun v3 =>
 Qu Pr (S1) (Instr.fieldAt 225 v3 2) fun v4 =>
 Qu Pr (S1) (Instr.loadAt 115 v4) fun v5 =>
 Qu Pr (S1) (Instr.indexAt 115 v5 (Value.int .i64 0)) fun v6 =>
 Qu Pr (S1) (Instr.loadAt 212 v6) fun v7 =>
 Cl Pr (callV (fn 124) #[v7]) w2 fun v9 w8 => S1 w8 ∧
 Qu Pr (S1) (nilS a0) fun v10 =>
 Qu Pr (S1) (Instr.fieldAt 225 v10 2) fun v11 =>
 Qu Pr (S1) (Instr.loadAt 115 v11) fun v12 =>
 Qu Pr (S1) (Builtin.len_ #[115] 3 #[v12]) fun v13 =>
 Qu Pr (S1) (convert 3 22 v13) fun v14 =>
 Qu Pr (S1) (binS .add 22 (.tmp 9) (.tmp 15) v9 v14) fun v15 =>
 Qu Pr (S1) (binS .sub 22 (.tmp 16) (.const (Value.int .u64 1)) v15 (Value.int .u64 1)) fun v16 =>
 K v16 w8
theorem c355 {a0 : Value} {K : Value → World → Prop} {w : World} (h : t355 a0 K w) : CK Pr 355 #[a0] w K := by
  refine calls_of_RF [] Tryz.func355 rfl ?_ ?_ ?_
  · kernel_rfl
  · exact Nat.le_of_ble_eq_true rfl
  · exact cast (by kernel_rfl) h

end Go.Proofs.YtmmpogfbhelioaaGreat
/-
  Contracts: clones of configurations and snapshots.
  Conditions: each one's own.
-/
namespace Go.Proofs.YtmmpogfbhelioaaGreat
set_option maxRecDepth 10000
set_option linter.unusedVariables false
set_option linter.unusedSimpArgs false
set_option linter.unusedVariables false
set_option linter.unusedSimpArgs false
attribute [local irreducible] Instr.box Instr.alloc Instr.loadAt Instr.storeAt Instr.fieldAt Instr.indexAt Instr.build Instr.buildSlice Instr.makeSlice Instr.makeMap Instr.mapUpdate Instr.lookup Instr.range Instr.next Instr.entry Instr.extract Instr.makeInterface Instr.makeFunc Instr.sliceAt Instr.typeAssert Instr.field Instr.index Builtin.len_ Builtin.cap_ Builtin.max_ Builtin.min_ Builtin.append_ Builtin.copy_ Builtin.delete_ convert binS pickS nilS callV callM Op.unary Own Mp It Cu


variable {K : Value → World → Prop} {w : World} {te : Option Nat}

theorem k287 {v : Value} {l : List Int} (hv : Nums w te v l) (hl : l.length ≤ 1000000) (h : ∀ v' w', Ex w w' → Sl w' (some 22) 1 v' (nums l) → K v' w') : CK Pr 287 #[v] w K := by
  refine c287 ?_
  unfold t287
  have hz := nums_len l
  obtain ⟨a, c, hvv⟩ := hv.sh
  cases a with
  | none =>
    have h0 : nums l = [] := hv.none_ hvv
    subst hvv
    (repeat (first | (refine go ?_; intros) | (refine gon ?_; intros)))
    refine h _ _ (.refl _ _ _) ?_
    rw [h0]
    exact .nil _ _
  | some a =>
    rw [hvv]
    (repeat (first | (refine go ?_; intros) | (refine gon ?_; intros)))
    rw [← hvv]
    refine e_make (m := (nums l).length) (zv := .int .u64 0) rfl rfl rfl (by omega) (by omega) fun w1 e1 o1 z1 => ?_
    refine e_copy o1 (hv.ex e1) (by rw [List.length_replicate]) nums_one fun r w2 u2 o2 z2 => ?_
    refine h _ _ ?_ o2.sl
    refine e1.new u2 fun b hb => ?_
    cases hb
    exact Nat.le_refl _

theorem k288 {v : Value} {p : Bool} (hv : PB1 v p w) (h : ∀ v' w', Ex w w' → PB1 v' p w' → K v' w') : CK Pr 288 #[v] w K := by
  refine c288 ?_
  unfold t288
  obtain ⟨b, rfl, hb⟩ := hv
  (repeat (first | (refine go ?_; intros) | (refine gon ?_; intros)))
  exact h _ _ ex_ ⟨_, rfl, by exact bk_⟩

theorem k266 {v : Value} {p : Int} (hv : PN1 22 .u64 v p w) (h : ∀ v' w', Ex w w' → PN1 22 .u64 v' p w' → K v' w') : CK Pr 266 #[v] w K := by
  refine c266 ?_
  unfold t266
  obtain ⟨b, rfl, hb⟩ := hv
  (repeat (first | (refine go ?_; intros) | (refine gon ?_; intros)))
  exact h _ _ ex_ ⟨_, rfl, by exact bk_⟩

theorem bytes_one {s : ByteArray} : ∀ y ∈ byteList s, ∀ u ∈ y, one u = true := by
  intro y hy u hu
  obtain ⟨x, _, rfl⟩ := List.mem_map.1 hy
  rw [List.mem_singleton.1 hu]; rfl

theorem k204 {v : Value} {s : ByteArray} (hv : Sl w te 1 v (byteList s)) (hl : s.size ≤ 1000000) (h : ∀ v' w', Ex w w' → Sl w' (some 5) 1 v' (byteList s) → K v' w') : CK Pr 204 #[v] w K := by
  refine c204 ?_
  unfold t204
  have hz : (byteList s).length = s.size := by simp only [byteList, List.length_map, Array.length_toList]; rfl
  obtain ⟨a, c, hvv⟩ := hv.sh
  cases a with
  | none =>
    have h0 : byteList s = [] := hv.none_ hvv
    subst hvv
    (repeat (first | (refine go ?_; intros) | (refine gon ?_; intros)))
    refine h _ _ (.refl _ _ _) ?_
    rw [h0]
    exact .nil _ _
  | some a =>
    rw [hvv]
    (repeat (first | (refine go ?_; intros) | (refine gon ?_; intros)))
    rw [← hvv]
    refine e_make (m := (byteList s).length) (zv := .int .u8 0) rfl rfl rfl (by omega) (by omega) fun w1 e1 o1 z1 => ?_
    refine e_copy o1 (hv.ex e1) (by rw [List.length_replicate]) bytes_one fun r w2 u2 o2 z2 => ?_
    refine h _ _ ?_ o2.sl
    refine e1.new u2 fun b hb => ?_
    cases hb
    exact Nat.le_refl _

/-- Lists that are small. -/
structure CfSm (c : Cf) : Prop where
  v : c.v.length ≤ 1000000
  l : c.l.length ≤ 1000000
  o : c.o.length ≤ 1000000
  n : c.n.length ≤ 1000000

theorem k226 {v : Value} {c : Cf} (hv : PC v c w) (sm : CfSm c) (h : ∀ v' w', Ex w w' → PC v' c w' → K v' w') : CK Pr 226 #[v] w K := by
  obtain ⟨b, v1, v2, v3, v4, v5, rfl, hb, h1, h2, h3, h4, h5⟩ := hv
  refine c226 ?_
  unfold t226
  (repeat (first | (refine go ?_; intros) | (refine gon ?_; intros)))
  refine dr_rule No [] fun w1 e1 z1 => ?_
  (repeat (first | (refine go ?_; intros) | (refine gon ?_; intros)))
  refine cl_fn (k287 (h1.ex ex_) sm.v fun u1 w2 e2 o1 => ⟨by exact ex_, ?_⟩)
  (repeat (first | (refine go ?_; intros) | (refine gon ?_; intros)))
  refine cl_fn (k287 (h2.ex ex_) sm.l fun u2 w3 e3 o2 => ⟨by exact ex_, ?_⟩)
  (repeat (first | (refine go ?_; intros) | (refine gon ?_; intros)))
  refine cl_fn (k287 (h3.ex ex_) sm.o fun u3 w4 e4 o3 => ⟨by exact ex_, ?_⟩)
  (repeat (first | (refine go ?_; intros) | (refine gon ?_; intros)))
  refine cl_fn (k287 (h4.ex ex_) sm.n fun u4 w5 e5 o4 => ⟨by exact ex_, ?_⟩)
  (repeat (first | (refine go ?_; intros) | (refine gon ?_; intros)))
  refine cl_fn (k288 (h5.ex ex_) fun u5 w6 e6 o5 => ⟨by exact ex_, ?_⟩)
  refine b200_0_1_2_3_4 o1.one o2.one o3.one o4.one o5.one ?_
  refine e_boxA fun b0 w7 e7 hb7 s1 s2 => ⟨by exact ex_, ?_⟩
  refine h _ _ ex_ ⟨_, _, _, _, _, _, rfl, hb7, ?_, ?_, ?_, ?_, ?_⟩ <;> exact lf_

theorem k205 {v : Value} {i t : Int} {c : Cf} (hv : PM v i t c w) (sm : CfSm c) (h : ∀ v' w', Ex w w' → PM v' i t c w' → K v' w') : CK Pr 205 #[v] w K := by
  obtain ⟨b, v1, v2, v3, rfl, hb, h1, h2, h3⟩ := hv
  refine c205 ?_
  unfold t205
  (repeat (first | (refine go ?_; intros) | (refine gon ?_; intros)))
  refine dr_rule No [] fun w1 e1 z1 => ?_
  (repeat (first | (refine go ?_; intros) | (refine gon ?_; intros)))
  refine cl_fn (k226 (h1.ex ex_) sm fun u1 w2 e2 o1 => ⟨by exact ex_, ?_⟩)
  (repeat (first | (refine go ?_; intros) | (refine gon ?_; intros)))
  refine cl_fn (k266 (h2.ex ex_) fun u2 w3 e3 o2 => ⟨by exact ex_, ?_⟩)
  (repeat (first | (refine go ?_; intros) | (refine gon ?_; intros)))
  refine cl_fn (k266 (h3.ex ex_) fun u3 w4 e4 o3 => ⟨by exact ex_, ?_⟩)
  refine b106_0_1_2 o1.one o2.one o3.one ?_
  refine e_boxA fun b0 w7 e7 hb7 s1 s2 => ⟨by exact ex_, ?_⟩
  refine h _ _ ex_ ⟨_, _, _, _, rfl, hb7, ?_, ?_, ?_⟩ <;> exact lf_

theorem k122 {v : Value} {s : Sn} (hv : PS v s w) (hd : s.d.size ≤ 1000000) (sm : CfSm s.c) (h : ∀ v' w', Ex w w' → PS v' s w' → K v' w') : CK Pr 122 #[v] w K := by
  obtain ⟨b, v1, v2, rfl, hb, h1, h2⟩ := hv
  refine c122 ?_
  unfold t122
  (repeat (first | (refine go ?_; intros) | (refine gon ?_; intros)))
  refine dr_rule No [] fun w1 e1 z1 => ?_
  (repeat (first | (refine go ?_; intros) | (refine gon ?_; intros)))
  refine cl_fn (k204 (h1.ex ex_) hd fun u1 w2 e2 o1 => ⟨by exact ex_, ?_⟩)
  (repeat (first | (refine go ?_; intros) | (refine gon ?_; intros)))
  refine cl_fn (k205 (h2.ex ex_) sm fun u2 w3 e3 o2 => ⟨by exact ex_, ?_⟩)
  refine b108_0_1 o1.one o2.one ?_
  refine e_boxA fun b0 w7 e7 hb7 s1 s2 => ⟨by exact ex_, ?_⟩
  refine h _ _ ex_ ⟨_, _, _, rfl, hb7, ?_, ?_⟩ <;> exact lf_

theorem k98 {v : Value} {c : Cf} (hv : PC v c w) (h : K v w) : CK Pr 98 #[v] w K := by
  obtain ⟨b, v1, v2, v3, v4, v5, rfl, hb, h1, h2, h3, h4, ⟨b5, rfl, hb5⟩⟩ := hv
  refine c98 ?_
  unfold t98
  unfold Jo
  (repeat (first | (refine go ?_; intros) | (refine gon ?_; intros)))
  exact h

theorem k69 (h : K (.tuple #[]) w) : CK Pr 69 #[.nilIface] w K := by
  refine c69 ?_
  unfold t69
  (repeat (first | (refine go ?_; intros) | (refine gon ?_; intros)))
  exact h

theorem k203 {v : Value} {i t : Int} {c : Cf} (hv : PM v i t c w) (h : K v w) : CK Pr 203 #[v] w K := by
  have hv' := hv
  obtain ⟨b, v1, v2, v3, rfl, hb, h1, ⟨b2, rfl, h2⟩, ⟨b3, rfl, h3⟩⟩ := hv
  refine c203 ?_
  unfold t203
  unfold Jo
  (repeat (first | (refine go ?_; intros) | (refine gon ?_; intros)))
  unfold t203_1
  unfold Jo
  (repeat (first | (refine go ?_; intros) | (refine gon ?_; intros)))
  refine cl_fn (k98 h1 ?_)
  obtain ⟨b5, _, _, _, _, _, rfl, _⟩ := h1
  (repeat (first | (refine go ?_; intros) | (refine gon ?_; intros)))
  exact h

theorem k118 {v : Value} {s : Sn} (hv : PS v s w) (h : K v w) : CK Pr 118 #[v] w K := by
  obtain ⟨b, v1, v2, rfl, hb, h1, h2⟩ := hv
  refine c118 ?_
  unfold t118
  unfold Jo
  (repeat (first | (refine go ?_; intros) | (refine gon ?_; intros)))
  refine cl_fn (k203 h2 ?_)
  obtain ⟨b5, _, _, _, rfl, _⟩ := h2
  (repeat (first | (refine go ?_; intros) | (refine gon ?_; intros)))
  exact h

theorem PC.typ {C : Nat → Prop} {T : List Nat} {w w' : World} {v : Value} {c : Cf} (u : Up C T w w') (h : PC v c w) (t1 : T.contains 202 = false) (t2 : T.contains 24 = false) (t3 : T.contains 6 = false) : PC v c w' := by
  obtain ⟨b, v1, v2, v3, v4, v5, rfl, hb, h1, h2, h3, h4, ⟨b5, rfl, hb5⟩⟩ := h
  exact ⟨b, _, _, _, _, _, rfl, u.at_ hb t1, h1.typ u t2, h2.typ u t2, h3.typ u t2, h4.typ u t2, ⟨_, rfl, u.at_ hb5 t3⟩⟩

abbrev Cf0 : Cf := ⟨[], [], [], [], false⟩

theorem k98n (h : ∀ v w', Ex w w' → PC v Cf0 w' → K v w') : CK Pr 98 #[.pointer none] w K := by
  refine c98 ?_
  unfold t98
  unfold Jo
  (repeat (first | (refine go ?_; intros) | (refine gon ?_; intros)))
  exact h _ _ ex_ ⟨_, _, _, _, _, _, rfl, by exact bk_, .nil _ _, .nil _ _, .nil _ _, .nil _ _, ⟨_, rfl, by exact bk_⟩⟩

theorem k203n (h : ∀ v w', Ex w w' → PM v 0 0 Cf0 w' → K v w') : CK Pr 203 #[.pointer none] w K := by
  refine c203 ?_
  unfold t203
  unfold Jo
  (repeat (first | (refine go ?_; intros) | (refine gon ?_; intros)))
  unfold t203_1
  unfold Jo
  (repeat (first | (refine go ?_; intros) | (refine gon ?_; intros)))
  refine cl_fn (k98n fun v1 w1 e1 h1 => ?_)
  have z1 := e1.size
  have o1 := h1.one
  (repeat (first | (refine go ?_; intros) | (refine gon ?_; intros)))
  refine h _ _ ex_ ⟨_, _, _, _, rfl, by exact bk_, by (repeat (first | assumption | refine PC.ex (by assumption) ?_ | refine PC.typ (by assumption) ?_ rfl rfl rfl)), ⟨_, rfl, by exact bk_⟩, ⟨_, rfl, by exact bk_⟩⟩

theorem PM.typ {C : Nat → Prop} {T : List Nat} {w w' : World} {v : Value} {i t : Int} {c : Cf} (u : Up C T w w') (h : PM v i t c w) (t0 : T.contains 108 = false) (t1 : T.contains 202 = false) (t2 : T.contains 24 = false) (t3 : T.contains 6 = false) : PM v i t c w' := by
  obtain ⟨b, v1, v2, v3, rfl, hb, h1, ⟨b2, rfl, h2⟩, ⟨b3, rfl, h3⟩⟩ := h
  exact ⟨b, _, _, _, rfl, u.at_ hb t0, h1.typ u t1 t2 t3, ⟨_, rfl, u.at_ h2 t2⟩, ⟨_, rfl, u.at_ h3 t2⟩⟩

abbrev Sn0 : Sn := ⟨ByteArray.empty, 0, 0, Cf0⟩

theorem k118n (h : ∀ v w', Ex w w' → PS v Sn0 w' → K v w') : CK Pr 118 #[.pointer none] w K := by
  refine c118 ?_
  unfold t118
  unfold Jo
  (repeat (first | (refine go ?_; intros) | (refine gon ?_; intros)))
  refine cl_fn (k203n fun v1 w1 e1 h1 => ?_)
  have z1 := e1.size
  have o1 := h1.one
  (repeat (first | (refine go ?_; intros) | (refine gon ?_; intros)))
  refine h _ _ ex_ ⟨_, _, _, rfl, by exact bk_, .nil _ _, by (repeat (first | assumption | refine PM.ex (by assumption) ?_ | refine PM.typ (by assumption) ?_ rfl rfl rfl rfl))⟩

end Go.Proofs.YtmmpogfbhelioaaGreat
/-
  Contracts: the storage.
  Conditions: each one's own.
-/
namespace Go.Proofs.YtmmpogfbhelioaaGreat
set_option maxRecDepth 10000
set_option linter.unusedVariables false
set_option linter.unusedSimpArgs false
set_option linter.unusedVariables false
set_option linter.unusedSimpArgs false
attribute [local irreducible] Instr.box Instr.alloc Instr.loadAt Instr.storeAt Instr.fieldAt Instr.indexAt Instr.build Instr.buildSlice Instr.makeSlice Instr.makeMap Instr.mapUpdate Instr.lookup Instr.range Instr.next Instr.entry Instr.extract Instr.makeInterface Instr.makeFunc Instr.sliceAt Instr.typeAssert Instr.field Instr.index Builtin.len_ Builtin.cap_ Builtin.max_ Builtin.min_ Builtin.append_ Builtin.copy_ Builtin.delete_ convert binS pickS nilS callV callM Op.unary Own Mp It Cu


variable {K : Value → World → Prop} {w : World} {te : Option Nat}

/-- Block b is a memory storage of a snapshot and of entries. -/
def MS (base b : Nat) (s : Sn) (es : List En) (w : World) : Prop :=
  ∃ vs ve ps c1 c2 c3 c4 c5 c6, Bk w b (.cells #[.pointer none, vs, ve, .int .i64 c1, .int .i64 c2, .int .i64 c3, .int .i64 c4, .int .i64 c5, .int .i64 c6] 225 (0, 0)) ∧ PS vs s w ∧ base ≤ w.heap.size ∧ Own w base 212 1 ve (ones ps) ∧ PEs ps es w

theorem k68 (h : ∀ b w', Ex w w' → w.heap.size ≤ b → MS w.heap.size b Sn0 [⟨0, 0, 0, ByteArray.empty⟩] w' → K (.pointer (some ⟨b, 0, none⟩)) w') : CK Pr 68 #[] w K := by
  refine c68 ?_
  unfold t68
  refine b215_ ?_
  refine e_boxA fun b1 w1 e1 hb1 s1 s2 => ?_
  refine e_bs1 (n := 1) rfl (by omega) fun w2 e2 o2 z2 => ?_
  refine b225_2 o2.sl.one ?_
  refine e_boxA fun b3 w3 e3 hb3 s3 s4 => ?_
  (repeat (first | (refine go ?_; intros) | (refine gon ?_; intros)))
  refine cl_fn (k118n fun v4 w4 e4 h4 => ?_)
  have z4 := e4.size
  have o4 := h4.one
  (repeat (first | (refine go ?_; intros) | (refine gon ?_; intros)))
  rename_i w5 u5 hb5 z5
  refine h _ _ ex_ (by omega) ⟨_, _, [.pointer (some ⟨b1, 0, none⟩)], _, _, _, _, _, _, hb5, h4.mt rfl u5, by omega, ?_, ?_⟩
  · exact (((o2.ex e3).ex e4).mono (by omega)).up u5 fun _ _ => .inl rfl
  · refine .cons ?_ (.nil _)
    have hb1' : Bk w5 b1 _ := u5.at_ (e4.at_ (e3.at_ (e2.at_ hb1))) rfl
    exact ⟨_, _, _, _, _, rfl, hb1', .inl ⟨rfl, rfl⟩, .inl ⟨rfl, rfl⟩, .inl ⟨rfl, rfl⟩, .nil _ _⟩

theorem k70 {base b : Nat} {v : Value} {s : Sn} {es : List En} (hm : MS base b Sn0 es w) (hs : PS v s w) (hd : s.d.size ≤ 1000000) (sm : CfSm s.c)
    (h : ∀ w', Up (fun x => x = b) [227] w w' → MS base b s [⟨s.t, s.i, 0, ByteArray.empty⟩] w' → K .nilIface w') : CK Pr 70 #[.pointer (some ⟨b, 0, none⟩), v] w K := by
  refine c70 ?_
  unfold t70
  obtain ⟨vs, ve, ps, c1, c2, c3, c4, c5, c6, hb, hvs, hbase, hve, hps⟩ := hm
  refine cl_fn (k118 hs ?_)
  (repeat (first | (refine go ?_; intros) | (refine gon ?_; intros)))
  refine cl_fn (k95 hvs fun vm hvm => ?_)
  refine cl_fn (k96 hvm ?_)
  refine cl_fn (k95 hs fun vn hvn => ?_)
  refine cl_fn (k96 hvn ?_)
  (repeat (first | (refine go ?_; intros) | (refine gon ?_; intros)))
  refine cl_fn (k122 hs hd sm fun u1 w1 e1 h1 => ?_)
  have o1 := h1.one
  have z1 := e1.size
  (repeat (first | (refine go ?_; intros) | (refine gon ?_; intros)))
  rename_i w2 u2 hb2 z2
  have hs2 : PS v s w2 := (hs.ex e1).mt rfl u2
  refine cl_fn (k95 hs2 fun va ha => ?_)
  refine cl_fn (k99 ha ?_)
  refine e_box1 rfl fun b3 w3 e3 hb3 s3a s3b => ?_
  refine cl_fn (k95 (hs2.ex e3) fun vc hc => ?_)
  refine cl_fn (k96 hc ?_)
  refine e_box1 rfl fun b4 w4 e4 hb4 s4a s4b => ?_
  refine b215_0_1 rfl rfl ?_
  refine e_boxA fun b5 w5 e5 hb5 s5a s5b => ?_
  refine e_bs1 (n := 1) rfl (by omega) fun w6 e6 o6 z6 => ?_
  have hb6 : Bk w6 b _ := e6.at_ (e5.at_ (e4.at_ (e3.at_ hb2)))
  (repeat (first | (refine go ?_; intros) | (refine gon ?_; intros)))
  rename_i w7 u7 hb7 z7
  refine h w7 ?_ ⟨_, _, [.pointer (some ⟨b5, 0, none⟩)], _, _, _, _, _, _, hb7, ?_, by omega, (o6.mono (by omega)).up u7 fun _ _ => .inl rfl, .cons ?_ (.nil _)⟩
  · exact Up.trans (((((Up.of_ex e1 : Up (fun x => x = b) [227] w w1).trans u2).ex e3).ex e4).ex (e5.trans e6)) u7
  · exact ((((((h1.mt rfl u2).ex e3).ex e4).ex e5).ex e6)).mt rfl u7
  · have q5 : Bk w7 b5 _ := u7.at_ (e6.at_ hb5) rfl
    have q3 : Bk w7 b3 _ := u7.at_ (e6.at_ (e5.at_ (e4.at_ hb3))) rfl
    have q4 : Bk w7 b4 _ := u7.at_ (e6.at_ (e5.at_ hb4)) rfl
    exact ⟨_, _, _, _, _, rfl, q5, .inr ⟨_, rfl, q3⟩, .inr ⟨_, rfl, q4⟩, .inl ⟨rfl, rfl⟩, .nil _ _⟩

theorem k123 {base b : Nat} {s : Sn} {e : En} {es : List En} (hm : MS base b s (e :: es) w) (hi : 0 ≤ e.i ∧ e.i ≤ 1000000000000000) (h : K (.int .u64 (e.i + 1)) w) : CK Pr 123 #[.pointer (some ⟨b, 0, none⟩)] w K := by
  refine c123 ?_
  unfold t123
  obtain ⟨vs, ve, ps, c1, c2, c3, c4, c5, c6, hb, hvs, hbase, hve, hps⟩ := hm
  cases hps with
  | cons hp hr =>
    (repeat (first | (refine go ?_; intros) | (refine gon ?_; intros)))
    refine q_ixs 0 hve.sl rfl rfl fun _ => ?_
    refine cl_fn (k124 hp ?_)
    (repeat (first | (refine go ?_; intros) | (refine gon ?_; intros)))
    rw [wrapU (by omega) (by omega)]
    exact h

end Go.Proofs.YtmmpogfbhelioaaGreat
/-
  Contracts: the storage's Append.
  Conditions: what is appended follows the snapshot.
-/
namespace Go.Proofs.YtmmpogfbhelioaaGreat
set_option maxRecDepth 10000
set_option linter.unusedVariables false
set_option linter.unusedSimpArgs false
set_option linter.unusedVariables false
set_option linter.unusedSimpArgs false
attribute [local irreducible] Instr.box Instr.alloc Instr.loadAt Instr.storeAt Instr.fieldAt Instr.indexAt Instr.build Instr.buildSlice Instr.makeSlice Instr.makeMap Instr.mapUpdate Instr.lookup Instr.range Instr.next Instr.entry Instr.extract Instr.makeInterface Instr.makeFunc Instr.sliceAt Instr.typeAssert Instr.field Instr.index Builtin.len_ Builtin.cap_ Builtin.max_ Builtin.min_ Builtin.append_ Builtin.copy_ Builtin.delete_ convert binS pickS nilS callV callM Op.unary Own Mp It Cu


variable {K : Value → World → Prop} {w : World} {te : Option Nat}

theorem PEs.ones {vs : List Value} {es : List En} (h : PEs vs es w) : ∀ v ∈ vs, one v = true := by
  induction h with
  | nil => intro v hv; cases hv
  | cons h _ ih =>
    intro v hv
    rcases List.mem_cons.1 hv with rfl | hv
    · exact h.one
    · exact ih v hv

theorem k71 {base b : Nat} {v : Value} {s : Sn} {e0 : En} {qs : List Value} {l : List En} (hm : MS base b s [e0] w) (hv : Sl w te 1 v (ones qs)) (hq : PEs qs l w) (hl : l.length ≤ 1000) (hi : 0 ≤ e0.i ∧ e0.i ≤ 1000000000000000)
    (hrow : ∀ e, l[0]? = some e → e.i = e0.i + 1) (h : ∀ w', Up (fun x => x = b ∨ base ≤ x) [227, 214] w w' → MS base b s (e0 :: l) w' → K .nilIface w') : CK Pr 71 #[.pointer (some ⟨b, 0, none⟩), v] w K := by
  refine c71 ?_
  unfold t71
  have hol : (ones qs).length = l.length := by rw [ones, List.length_map, hq.len]
  refine q_lenSl hv ?_
  rw [hol]
  (repeat (first | (refine go ?_; intros) | (refine gon ?_; intros)))
  cases l with
  | nil =>
    (repeat (first | (refine go ?_; intros) | (refine gon ?_; intros)))
    exact h w (.refl _ _ _) hm
  | cons e1 r =>
    refine if_f ?_
    unfold t71_3
    obtain ⟨q1, qr, rfl⟩ : ∃ q1 qr, qs = q1 :: qr := by
      cases hq with
      | cons _ _ => exact ⟨_, _, rfl⟩
    have hq' := hq
    cases hq with
    | cons hq1 hqr =>
    have he1 := hrow e1 rfl
    have hl' : r.length + 1 ≤ 1000 := by simpa using hl
    refine cl_fn (k123 hm ⟨hi.1, hi.2⟩ ?_)
    refine q_ixs 0 hv rfl rfl fun _ => ?_
    refine cl_fn (k124 hq1 ?_)
    refine q_lenSl hv ?_
    rw [hol]
    (repeat (first | (refine go ?_; intros) | (refine gon ?_; intros)))
    simp only [List.length_cons]
    have hw : IntKind.u64.wrap (IntKind.u64.wrap (e1.i + IntKind.u64.wrap ((r.length + 1 : Nat) : Int)) - 1) = e1.i + r.length := by
      rw [wrapU (n := ((r.length + 1 : Nat) : Int)) (by omega) (by omega), wrapU (n := e1.i + ((r.length + 1 : Nat) : Int)) (by omega) (by omega), wrapU (by omega) (by omega)]
      omega
    simp only [hw]
    refine if_split (fun hb => ?_) (fun hb => ?_)
    · have := of_decide_eq_true hb
      omega
    unfold t71_2
    refine q_ixs 0 hv rfl rfl fun _ => ?_
    refine cl_fn (k124 hq1 ?_)
    unfold Jo
    (repeat (first | (refine go ?_; intros) | (refine gon ?_; intros)))
    refine if_split (fun hb => ?_) (fun hb => ?_)
    · have := of_decide_eq_true hb
      omega
    unfold t71_1
    refine dr_rule No [] fun w1 x1 z1 => ?_
    obtain ⟨vs, ve, ps, c1, c2, c3, c4, c5, c6, hb1, hvs, hbase, hve, hps⟩ := hm
    cases hps with
    | cons hp0 hpr =>
    cases hpr
    refine q_ixsE 0 (hv.ex x1) rfl rfl fun _ => ?_
    refine cl_fn (k124 (hq1.ex x1) ⟨.refl _ _ _, ?_⟩)
    (repeat (first | (refine go ?_; intros) | (refine gon ?_; intros)))
    refine q_ixsE 0 (hve.sl.ex x1) rfl rfl fun _ => ?_
    refine cl_fn (k124 (hp0.ex x1) ⟨.refl _ _ _, ?_⟩)
    (repeat (first | (refine go ?_; intros) | (refine gon ?_; intros)))
    refine q_lenSl hve.sl ?_
    rw [he1, wrapU (n := e0.i + 1 - e0.i) (by omega) (by omega), show e0.i + 1 - e0.i = (1 : Int) by omega]
    unfold Jo
    (repeat (first | (refine go ?_; intros) | (refine gon ?_; intros)))
    refine q_lenSl hve.sl ?_
    (repeat (first | (refine go ?_; intros) | (refine gon ?_; intros)))
    have hb1w : Bk w1 b _ := x1.at_ hb1
    refine e_app (base := base) (hve.ex x1) (hv.ex x1) (by intro y hy u hu; obtain ⟨z, hz, rfl⟩ := List.mem_map.1 hy; rw [List.mem_singleton.1 hu]; exact hq'.ones z hz) (by rw [hol]; simp [ones]; omega) (by rw [hol]; simp [ones]; omega) (by omega) fun v2 w2 u2 o2 hbl z2 => ?_
    have hb2w := u2.at_ hb1w rfl
    have lt1 := hve.lt
    have o2o := o2.sl.one
    (repeat (first | (refine go ?_; intros) | (refine gon ?_; intros)))
    rename_i w3 u3 hb3 z3
    have ua : Up (fun x => x = b ∨ base ≤ x) [227, 214] w w3 :=
      ((Up.of_ex x1).step u2 (fun y _ hy => .inr (lt1 y hy).1) (fun k hk => by simp at hk; simp [hk])).step u3 (fun y _ hy => .inl hy) (fun k hk => by simp at hk; simp [hk])
    refine h w3 ua ⟨_, _, _, _, _, _, _, _, _, hb3, hvs.mt rfl ua, by have := ua.size; omega, (show Own w2 base 212 1 v2 (ones (_ :: q1 :: qr)) from o2).up u3 fun _ _ => .inl rfl, .cons (hp0.mt rfl ua) (hq'.mt rfl ua)⟩

end Go.Proofs.YtmmpogfbhelioaaGreat
/-
  Contracts: the storage's indices and terms; the log over it.
  Conditions: each one's own.
-/
namespace Go.Proofs.YtmmpogfbhelioaaGreat
set_option maxRecDepth 10000
set_option linter.unusedVariables false
set_option linter.unusedSimpArgs false
set_option linter.unusedVariables false
set_option linter.unusedSimpArgs false
attribute [local irreducible] Instr.box Instr.alloc Instr.loadAt Instr.storeAt Instr.fieldAt Instr.indexAt Instr.build Instr.buildSlice Instr.makeSlice Instr.makeMap Instr.mapUpdate Instr.lookup Instr.range Instr.next Instr.entry Instr.extract Instr.makeInterface Instr.makeFunc Instr.sliceAt Instr.typeAssert Instr.field Instr.index Builtin.len_ Builtin.cap_ Builtin.max_ Builtin.min_ Builtin.append_ Builtin.copy_ Builtin.delete_ convert binS pickS nilS callV callM Op.unary Own Mp It Cu


variable {K : Value → World → Prop} {w : World} {te : Option Nat}

/-- A storage whose entries lie in a block below lim. -/
def MSl (base lim b : Nat) (s : Sn) (es : List En) (w : World) : Prop :=
  ∃ vs ve ps c1 c2 c3 c4 c5 c6, Bk w b (.cells #[.pointer none, vs, ve, .int .i64 c1, .int .i64 c2, .int .i64 c3, .int .i64 c4, .int .i64 c5, .int .i64 c6] 225 (0, 0)) ∧ PS vs s w ∧ base ≤ w.heap.size ∧ Own w base 212 1 ve (ones ps) ∧ PEs ps es w ∧ ∀ x, ve.ownBlock = some x → x < lim

theorem MSl.ms {base lim b : Nat} {s : Sn} {es : List En} (h : MSl base lim b s es w) : MS base b s es w := by
  obtain ⟨vs, ve, ps, c1, c2, c3, c4, c5, c6, h1, h2, h3, h4, h5, h6⟩ := h
  exact ⟨vs, ve, ps, c1, c2, c3, c4, c5, c6, h1, h2, h3, h4, h5⟩
theorem MS.lim {base b : Nat} {s : Sn} {es : List En} (h : MS base b s es w) : MSl base w.heap.size b s es w := by
  obtain ⟨vs, ve, ps, c1, c2, c3, c4, c5, c6, h1, h2, h3, h4, h5⟩ := h
  exact ⟨vs, ve, ps, c1, c2, c3, c4, c5, c6, h1, h2, h3, h4, h5, fun x hx => (h4.lt x hx).2⟩
theorem MSl.up {base lim b : Nat} {s : Sn} {es : List En} {C : Nat → Prop} {T : List Nat} {w' : World} (o : okT T = true) (u : Up C T w w') (hb : T.contains 227 = false ∨ ¬ C b) (hv : T.contains 214 = false ∨ ∀ x, base ≤ x → x < lim → ¬ C x) (h : MSl base lim b s es w) : MSl base lim b s es w' := by
  obtain ⟨vs, ve, ps, c1, c2, c3, c4, c5, c6, h1, h2, h3, h4, h5, h6⟩ := h
  refine ⟨vs, ve, ps, c1, c2, c3, c4, c5, c6, ?_, h2.mt o u, by have := u.size; omega, h4.up u fun x hx => hv.imp id fun hv => hv x (h4.lt x hx).1 (h6 x hx), h5.mt o u, h6⟩
  rcases hb with hb | hb
  · exact u.at_ h1 hb
  · exact u.off h1 hb
theorem MSl.ex {base lim b : Nat} {s : Sn} {es : List En} {w' : World} (u : Ex w w') (h : MSl base lim b s es w) : MSl base lim b s es w' := h.up rfl u (.inr id) (.inr fun _ _ _ => id)
/-- The block itself was stored to: a counter. -/
theorem MSl.cnt {base lim b : Nat} {s : Sn} {es : List En} {w' : World} (u : Up (fun x => x = b) [227] w w') {vs ve : Value} {ps : List Value} {c1 c2 c3 c4 c5 c6 : Int}
    (hb : Bk w' b (.cells #[.pointer none, vs, ve, .int .i64 c1, .int .i64 c2, .int .i64 c3, .int .i64 c4, .int .i64 c5, .int .i64 c6] 225 (0, 0))) (h2 : PS vs s w) (h3 : base ≤ w.heap.size) (h4 : Own w base 212 1 ve (ones ps)) (h5 : PEs ps es w) (h6 : ∀ x, ve.ownBlock = some x → x < lim) : MSl base lim b s es w' :=
  ⟨vs, ve, ps, c1, c2, c3, c4, c5, c6, hb, h2.mt rfl u, by have := u.size; omega, h4.up u fun _ _ => .inl rfl, h5.mt rfl u, h6⟩

instance tmeth121FirstIndex : TMeth Pr 121 "FirstIndex" 351 := ⟨by kernel_rfl⟩
instance tmeth121LastIndex : TMeth Pr 121 "LastIndex" 352 := ⟨by kernel_rfl⟩
instance tmeth121Term : TMeth Pr 121 "Term" 354 := ⟨by kernel_rfl⟩

theorem k351 {base lim b : Nat} {s : Sn} {e : En} {es : List En} (hm : MSl base lim b s (e :: es) w) (hi : 0 ≤ e.i ∧ e.i ≤ 1000000000000000)
    (h : ∀ w', Up (fun x => x = b) [227] w w' → w'.heap.size = w.heap.size → MSl base lim b s (e :: es) w' → K (.tuple #[.int .u64 (e.i + 1), .nilIface]) w') : CK Pr 351 #[.pointer (some ⟨b, 0, none⟩)] w K := by
  refine c351 ?_
  unfold t351
  obtain ⟨vs, ve, ps, c1, c2, c3, c4, c5, c6, h1, h2, h3, h4, h5, h6⟩ := hm
  (repeat (first | (refine go ?_; intros) | (refine gon ?_; intros)))
  rename_i w1 u1 hb1 z1
  have hm1 : MSl base lim b s (e :: es) w1 := MSl.cnt u1 hb1 h2 h3 h4 h5 h6
  exact cl_fn (k123 hm1.ms hi (h w1 u1 z1 hm1))

theorem k355 {base lim b : Nat} {s : Sn} {e : En} {es : List En} (hm : MSl base lim b s (e :: es) w) (hi : 0 ≤ e.i ∧ e.i ≤ 1000000000000000) (hl : es.length ≤ 100000)
    (h : ∀ w', Ex w w' → w'.heap.size = w.heap.size → K (.int .u64 (e.i + es.length)) w') : CK Pr 355 #[.pointer (some ⟨b, 0, none⟩)] w K := by
  refine c355 ?_
  unfold t355
  refine dr_rule No [] fun w1 x1 z1 => ?_
  obtain ⟨vs, ve, ps, c1, c2, c3, c4, c5, c6, h1, h2, h3, h4, h5, h6⟩ := hm.ex x1
  have hl5 := h5.len
  cases h5 with
  | cons hp hr =>
    (repeat (first | (refine go ?_; intros) | (refine gon ?_; intros)))
    refine q_ixsE 0 h4.sl rfl rfl fun _ => ?_
    refine cl_fn (k124 hp ⟨.refl _ _ _, ?_⟩)
    (repeat (first | (refine go ?_; intros) | (refine gon ?_; intros)))
    refine q_lenSl h4.sl ?_
    rw [show (ones (_ :: _)).length = es.length + 1 by simpa [ones] using hl5]
    (repeat (first | (refine go ?_; intros) | (refine gon ?_; intros)))
    rw [wrapU (n := ((es.length + 1 : Nat) : Int)) (by omega) (by omega), wrapU (n := e.i + ((es.length + 1 : Nat) : Int)) (by omega) (by omega), wrapU (by omega) (by omega), show e.i + ((es.length + 1 : Nat) : Int) - 1 = e.i + es.length by omega]
    exact h _ x1 z1

theorem k352 {base lim b : Nat} {s : Sn} {e : En} {es : List En} (hm : MSl base lim b s (e :: es) w) (hi : 0 ≤ e.i ∧ e.i ≤ 1000000000000000) (hl : es.length ≤ 100000)
    (h : ∀ w', Up (fun x => x = b) [227] w w' → w'.heap.size = w.heap.size → MSl base lim b s (e :: es) w' → K (.tuple #[.int .u64 (e.i + es.length), .nilIface]) w') : CK Pr 352 #[.pointer (some ⟨b, 0, none⟩)] w K := by
  refine c352 ?_
  unfold t352
  obtain ⟨vs, ve, ps, c1, c2, c3, c4, c5, c6, h1, h2, h3, h4, h5, h6⟩ := hm
  (repeat (first | (refine go ?_; intros) | (refine gon ?_; intros)))
  rename_i w1 u1 hb1 z1
  have hm1 : MSl base lim b s (e :: es) w1 := MSl.cnt u1 hb1 h2 h3 h4 h5 h6
  exact cl_fn (k355 hm1 hi hl fun w2 x2 z2 => h w2 (u1.ex x2) (by omega) (hm1.ex x2))

theorem k354 {base lim b : Nat} {s : Sn} {e : En} {es : List En} {i : Int} {j : Nat} {x : En} (hm : MSl base lim b s (e :: es) w) (hi : 0 ≤ e.i ∧ e.i ≤ 1000000000000000) (hl : es.length ≤ 100000) (hij : i = e.i + j) (hx : (e :: es)[j]? = some x)
    (h : ∀ w', Up (fun x => x = b) [227] w w' → w'.heap.size = w.heap.size → MSl base lim b s (e :: es) w' → K (.tuple #[.int .u64 x.t, .nilIface]) w') : CK Pr 354 #[.pointer (some ⟨b, 0, none⟩), .int .u64 i] w K := by
  refine c354 ?_
  unfold t354
  obtain ⟨vs, ve, ps, c1, c2, c3, c4, c5, c6, h1, h2, h3, h4, h5, h6⟩ := hm
  have hj : j < es.length + 1 := by simpa using (List.getElem?_eq_some_iff.1 hx).1
  (repeat (first | (refine go ?_; intros) | (refine gon ?_; intros)))
  rename_i w1 u1 hb1 z1
  have hm1 : MSl base lim b s (e :: es) w1 := MSl.cnt u1 hb1 h2 h3 h4 h5 h6
  have h4' : Own w1 base 212 1 ve (ones ps) := h4.up u1 fun _ _ => .inl rfl
  have h5' : PEs ps (e :: es) w1 := h5.mt rfl u1
  have hlen := h5'.len
  have hx' := h5'
  obtain ⟨v, hv⟩ : ∃ v, ps[j]? = some v := by
    have : j < ps.length := by rw [hlen]; simpa using hj
    exact ⟨ps[j], by simp [this]⟩
  obtain ⟨x', hxe, hxp⟩ := h5'.get hv
  rw [hx] at hxe
  cases hxe
  obtain ⟨p0, hp0⟩ : ∃ v, ps[0]? = some v := by
    have : 0 < ps.length := by rw [hlen]; simp
    exact ⟨ps[0], by simp [this]⟩
  obtain ⟨x0, hx0, hp00⟩ := h5'.get hp0
  cases hx0
  refine q_ixs (x := p0) 0 h4'.sl rfl (by simp [ones, hp0]) fun _ => ?_
  refine cl_fn (k124 hp00 ?_)
  (repeat (first | (refine go ?_; intros) | (refine gon ?_; intros)))
  refine if_split (fun hb => ?_) (fun hb => ?_)
  · have := of_decide_eq_true hb
    omega
  (repeat (first | (refine go ?_; intros) | (refine gon ?_; intros)))
  refine q_lenSl h4'.sl ?_
  rw [show (ones ps).length = es.length + 1 by simpa [ones] using hlen]
  have e1 : IntKind.u64.wrap (i - e.i) = (j : Int) := by rw [wrapU (by omega) (by omega)]; omega
  (repeat (first | (refine go ?_; intros) | (refine gon ?_; intros)))
  rw [e1, wrap64 (by omega) (by omega)]
  refine if_split (fun hb => ?_) (fun hb => ?_)
  · have := of_decide_eq_true hb
    omega
  (repeat (first | (refine go ?_; intros) | (refine gon ?_; intros)))
  rw [e1]
  refine q_ixs (x := v) j h4'.sl rfl (by simp [ones, hv]) fun _ => ?_
  exact cl_fn (k128 hxp (h w1 u1 z1 hm1))

end Go.Proofs.YtmmpogfbhelioaaGreat
/-
  Contracts: the log over the storage.
  Conditions: each one's own.
-/
namespace Go.Proofs.YtmmpogfbhelioaaGreat
set_option maxRecDepth 10000
set_option linter.unusedVariables false
set_option linter.unusedSimpArgs false
theorem nmK11 {p : Prop} (h : p := by (try simp only [List.getElem?_toArray, List.getElem?_cons_zero, List.getElem?_cons_succ, List.setIfInBounds_toArray, List.set_cons_zero, List.set_cons_succ, List.toList_toArray, List.drop_zero, List.drop_succ_cons, List.take_zero, List.take_succ_cons, Nat.zero_add, Nat.add_zero, Nat.reduceAdd, putCells, Lg.cells]) <;> rfl) : p := h
theorem goK11 {G H : Prop} (h : H) (s : Stp G H := by (apply Stp.of; intro hS; (first | (refine q_ld bk_ nmK11 ?_) | (refine q_ldU bk_ rfl nmK11 ?_) | (refine q_ldW bk_ (by rfl) ?_) | (refine q_ldWU bk_ rfl (by rfl) ?_) | (refine q_ldP bk_ (Nat.le_of_ble_eq_true rfl) nmK11 ?_) | (refine q_ldPU bk_ rfl (Nat.le_of_ble_eq_true rfl) nmK11 ?_) | (refine q_ext nmK11 ?_) | (refine u_st bk_ (Nat.le_of_ble_eq_true rfl) (by first | rfl | assumption) nmK11 ?_) | (refine u_stA bk_ (Nat.le_of_ble_eq_true rfl) (by rfl) (by rfl) nmK11 ?_) | (refine q_field nmK11 ?_)); exact hS.out)) : G := s.f h
set_option linter.unusedVariables false
set_option linter.unusedSimpArgs false
attribute [local irreducible] Instr.box Instr.alloc Instr.loadAt Instr.storeAt Instr.fieldAt Instr.indexAt Instr.build Instr.buildSlice Instr.makeSlice Instr.makeMap Instr.mapUpdate Instr.lookup Instr.range Instr.next Instr.entry Instr.extract Instr.makeInterface Instr.makeFunc Instr.sliceAt Instr.typeAssert Instr.field Instr.index Builtin.len_ Builtin.cap_ Builtin.max_ Builtin.min_ Builtin.append_ Builtin.copy_ Builtin.delete_ convert binS pickS nilS callV callM Op.unary Own Mp It Cu


variable {K : Value → World → Prop} {w : World} {te : Option Nat}

/-- A log as plain data: the storage's block, its snapshot and entries (with the one ahead of them), the snapshot and the entries that are not stable, and the marks. -/
structure Lg where
  sb : Nat
  s : Sn
  es : List En
  us : Option Sn
  un : List En
  off : Int
  sip : Bool
  oip : Int
  cm : Int
  ag : Int
  ap : Int
  mx : Int

def US (v : Value) : Option Sn → World → Prop
  | none, _ => v = .pointer none
  | some s, w => PS v s w
theorem US.mt {v : Value} {o : Option Sn} {C : Nat → Prop} {T : List Nat} {w' : World} (ok : okT T = true) (u : Up C T w w') (h : US v o w) : US v o w' := by
  cases o with
  | none => exact h
  | some s => exact PS.mt ok u h
theorem US.ex {v : Value} {o : Option Sn} {w' : World} (u : Ex w w') (h : US v o w) : US v o w' := h.mt rfl u
theorem US.one {v : Value} {o : Option Sn} (h : US v o w) : one v = true := by
  cases o with
  | none => cases h; rfl
  | some s => exact PS.one h
theorem US.sh {v : Value} {o : Option Sn} (h : US v o w) : ∃ a, v = .pointer a ∧ a.isNone = o.isNone := by
  cases o with
  | none => cases h; exact ⟨_, rfl, rfl⟩
  | some s =>
    obtain ⟨b, _, _, rfl, _⟩ := h
    exact ⟨_, rfl, rfl⟩

def Lg.cells (L : Lg) (vs ve : Value) : Array Value :=
  #[.iface 121 (.pointer (some ⟨L.sb, 0, none⟩)), vs, ve, .int .u64 L.off, .bool L.sip, .int .u64 L.oip, .int .u64 L.cm, .int .u64 L.ag, .int .u64 L.ap, .int .u64 L.mx, .int .u64 0, .bool false]

def LG (base lb : Nat) (L : Lg) (w : World) : Prop :=
  ∃ lim vs ve ps, Bk w lb (.cells (L.cells vs ve) 196 (0, 0)) ∧ MSl base lim L.sb L.s L.es w ∧ base ≤ lim ∧ lim ≤ w.heap.size ∧ US vs L.us w ∧ Own w lim 212 1 ve (ones ps) ∧ PEs ps L.un w ∧ base ≤ lb ∧ base ≤ L.sb ∧ L.sb < w.heap.size

structure Lg.Ok (L : Lg) : Prop where
  ne : ∃ e r, L.es = e :: r ∧ 0 ≤ e.i ∧ e.i ≤ 1000000000000000
  len : L.es.length ≤ 100000
  off : 0 ≤ L.off ∧ L.off ≤ 1000000000000000
  un : L.un.length ≤ 100000
  us : ∀ s, L.us = some s → 0 ≤ s.i ∧ s.i ≤ 1000000000000000

/-- The last index. -/
def Lg.last (L : Lg) : Int :=
  match L.un with
  | _ :: _ => L.off + L.un.length - 1
  | [] => match L.us, L.es with
    | some s, _ => s.i
    | none, e :: r => e.i + r.length
    | none, [] => 0
theorem Lg.Ok.last {L : Lg} (h : L.Ok) : 0 ≤ L.last + 1 ∧ L.last ≤ 1000000000200000 := by
  obtain ⟨⟨e, r, h1, h2, h3⟩, h4, h5, h6, h7⟩ := h
  unfold Lg.last
  cases hu : L.un with
  | cons x l => simp only; rw [hu] at h6; simp at h6 ⊢; omega
  | nil =>
    cases hs : L.us with
    | some s => simp only; have := h7 s hs; omega
    | none => rw [h1] at h4 ⊢; simp only [List.length_cons] at h4 ⊢; omega

theorem LG.up {base lb : Nat} {L : Lg} {C : Nat → Prop} {T : List Nat} {w' : World} (o : okT T = true) (u : Up C T w w') (hb : T.contains 198 = false ∨ ¬ C lb) (hs : T.contains 227 = false ∨ ¬ C L.sb) (hv : T.contains 214 = false ∨ ∀ x, base ≤ x → x < w.heap.size → ¬ C x) (h : LG base lb L w) : LG base lb L w' := by
  obtain ⟨lim, vs, ve, ps, h1, h2, h3, h4, h5, h6, h7, h8, h9, h10⟩ := h
  have z := u.size
  refine ⟨lim, vs, ve, ps, ?_, h2.up o u hs (hv.imp id fun hv x h1 h2 => hv x h1 (by omega)), h3, by omega, h5.mt o u, h6.up u fun x hx => hv.imp id fun hv => hv x (by have := (h6.lt x hx).1; omega) (h6.lt x hx).2, h7.mt o u, h8, h9, by omega⟩
  rcases hb with hb | hb
  · exact u.at_ h1 hb
  · exact u.off h1 hb
theorem LG.ex {base lb : Nat} {L : Lg} {w' : World} (u : Ex w w') (h : LG base lb L w) : LG base lb L w' := h.up rfl u (.inr id) (.inr id) (.inr fun _ _ _ => id)
/-- The log stands where neither it nor its storage nor lists of entries turn. -/
theorem LG.mt {base lb : Nat} {L : Lg} {C : Nat → Prop} {T : List Nat} {w' : World} (o : okT T = true) (h1 : T.contains 198 = false) (h2 : T.contains 227 = false) (h3 : T.contains 214 = false) (u : Up C T w w') (h : LG base lb L w) : LG base lb L w' := h.up o u (.inl h1) (.inl h2) (.inl h3)
/-- The storage's counters turned. -/
theorem LG.sto {base lb : Nat} {L : Lg} {w' : World} (u : Up (fun x => x = L.sb) [227] w w') (h : LG base lb L w) (hm : ∀ lim, MSl base lim L.sb L.s L.es w → MSl base lim L.sb L.s L.es w') : LG base lb L w' := by
  obtain ⟨lim, vs, ve, ps, h1, h2, h3, h4, h5, h6, h7, h8, h9, h10⟩ := h
  have z := u.size
  exact ⟨lim, vs, ve, ps, u.at_ h1 rfl, hm _ h2, h3, by omega, h5.mt rfl u, h6.up u fun _ _ => .inl rfl, h7.mt rfl u, h8, h9, by omega⟩

instance tfn351 : TFn Pr 351 := ⟨by kernel_rfl⟩
instance tfn352 : TFn Pr 352 := ⟨by kernel_rfl⟩
instance tfn354 : TFn Pr 354 := ⟨by kernel_rfl⟩

theorem k125 {base b : Nat} {s : Sn} {e : En} {es : List En} {n : Int} (hm : MS base b s (e :: es) w) (hb : base ≤ b) (hi : 0 ≤ e.i ∧ e.i ≤ 1000000000000000) (hl : es.length ≤ 100000) (hsz : b < w.heap.size)
    (h : ∀ lb w', Up (fun x => x = b) [227] w w' → w.heap.size ≤ lb → LG base lb ⟨b, s, e :: es, none, [], e.i + es.length + 1, false, e.i + es.length + 1, e.i, e.i, e.i, n⟩ w' → K (.pointer (some ⟨lb, 0, none⟩)) w') : CK Pr 125 #[.iface 121 (.pointer (some ⟨b, 0, none⟩)), .int .u64 n] w K := by
  refine c125 ?_
  unfold t125
  have hbase := hm.lim
  refine cl_m (k351 hm.lim hi fun w1 u1 z1 m1 => ?_)
  (repeat (first | (refine go ?_; intros) | (refine goK11 ?_; intros)))
  refine cl_m (k352 m1 hi hl fun w2 u2 z2 m2 => ?_)
  (repeat (first | (refine go ?_; intros) | (refine goK11 ?_; intros)))
  rw [wrapU (n := e.i + es.length + 1) (by omega) (by omega)]
  (repeat (first | (refine go ?_; intros) | (refine goK11 ?_; intros) | refine b194_2_4 (by first | rfl | assumption) (by first | rfl | assumption) ?_))
  rw [wrapU (n := e.i + 1 - 1) (by omega) (by omega), show e.i + 1 - 1 = e.i by omega]
  (repeat (first | (refine go ?_; intros) | (refine goK11 ?_; intros) | refine b196_0_1_5_2_3_4 (by first | rfl | assumption) (by first | rfl | assumption) (by first | rfl | assumption) (by first | rfl | assumption) (by first | rfl | assumption) ?_))
  rename_i lb w3 e3 hb3 s3 s4
  obtain ⟨vs, ve, ps, c1, c2, c3, c4, c5, c6, q1, q2, q3, q4, q5, q6⟩ := m2.ex e3
  refine h lb w3 ((u1.trans u2).ex e3) (by omega) ⟨w.heap.size, _, _, [], hb3, m2.ex e3, ?_, by omega, rfl, Own.nil _ _ _ _, .nil _, ?_, hb, ?_⟩
  all_goals
    have := u1.size
    have := u2.size
    obtain ⟨_, _, _, _, _, _, _, _, _, qb, _, qs, _⟩ := hm
    have := qb.lt
    first | omega | (show b < _; omega)

theorem k72 {base b : Nat} {s : Sn} {e : En} {es : List En} {n : Int} (hm : MS base b s (e :: es) w) (hb : base ≤ b) (hi : 0 ≤ e.i ∧ e.i ≤ 1000000000000000) (hl : es.length ≤ 100000) (hsz : b < w.heap.size)
    (h : ∀ lb w', Up (fun x => x = b) [227] w w' → w.heap.size ≤ lb → LG base lb ⟨b, s, e :: es, none, [], e.i + es.length + 1, false, e.i + es.length + 1, e.i, e.i, e.i, n⟩ w' → K (.pointer (some ⟨lb, 0, none⟩)) w') : CK Pr 72 #[.iface 121 (.pointer (some ⟨b, 0, none⟩)), .int .u64 n] w K := by
  refine c72 ?_
  unfold t72
  exact cl_fn (k125 hm hb hi hl hsz h)

theorem k73 {base lb : Nat} {L : Lg} {v : Value} {qs : List Value} {l : List En} {c a : Int} {w0 : World} (hL : LG base lb L w0) (e : Ex w0 w) (hv : Own w w0.heap.size 212 1 v (ones qs)) (hq : PEs qs l w)
    (h : ∀ w', Up (fun x => x = lb) [198] w w' → w'.heap.size = w.heap.size → LG base lb { L with un := l, cm := c, ag := a, ap := a } w' → K (.tuple #[]) w') : CK Pr 73 #[.pointer (some ⟨lb, 0, none⟩), v, .int .u64 c, .int .u64 a] w K := by
  refine c73 ?_
  unfold t73
  obtain ⟨lim, vs, ve, ps, h1, m0, l3, h4, h5, h6, h7, h8, h9, h10⟩ := hL
  have zz := e.size
  have m2 := m0.ex e
  have ho := hv.mono h4
  have h1' : Bk w lb _ := e.at_ h1
  clear h1
  have o1 := ho.sl.one
  (repeat (first | (refine go ?_; intros) | (refine goK11 ?_; intros)))
  rename_i w1 u1 hb1 z1 w2 u2 hb2 z2 w3 u3 hb3 z3 w4 u4 hb4 z4
  have u : Up (fun x => x = lb) [198] w w4 := ((u1.trans u2).trans u3).trans u4
  refine h w4 u (by omega) ⟨lim, vs, v, qs, hb4, m2.up rfl u (.inl rfl) (.inl rfl), l3, by omega, (h5.ex e).mt rfl u, ho.up u fun _ _ => .inl rfl, hq.mt rfl u, h8, h9, by show L.sb < _; omega⟩

theorem k158 {base lb : Nat} {L : Lg} (hL : LG base lb L w) (hok : L.Ok)
    (h : K (.tuple #[.int .u64 (match L.un with | _ :: _ => L.last | [] => match L.us with | some s => s.i | none => 0), .bool (match L.un with | _ :: _ => true | [] => L.us.isSome)]) w) : CK Pr 158 #[.pointer (some ⟨lb, 1, none⟩)] w K := by
  refine c158 ?_
  unfold t158
  obtain ⟨lim, vs, ve, ps, h1, h2, h3, h4, h5, h6, h7, h8, h9, h10⟩ := hL
  have hl := h7.len
  (repeat (first | (refine go ?_; intros) | (refine goK11 ?_; intros)))
  refine q_lenSl h6.sl ?_
  rw [show (ones ps).length = L.un.length by simp [ones, hl]]
  obtain ⟨_, _, hoff, hun, _⟩ := hok
  cases hu : L.un with
  | cons x l =>
    rw [hu] at h hun
    (repeat (first | (refine go ?_; intros) | (refine goK11 ?_; intros)))
    have e1 : IntKind.u64.wrap (IntKind.u64.wrap (L.off + IntKind.u64.wrap ((x :: l).length : Nat)) - 1) = L.last := by
      simp only [Lg.last, hu]
      rw [wrapU (n := ((x :: l).length : Nat)) (by omega) (by omega), wrapU (n := L.off + ((x :: l).length : Nat)) (by omega) (by omega), wrapU (by simp; omega) (by omega)]
    rw [e1]
    exact h
  | nil =>
    rw [hu] at h
    (repeat (first | (refine go ?_; intros) | (refine goK11 ?_; intros)))
    cases hs : L.us with
    | none =>
      rw [hs] at h h5
      cases h5
      (repeat (first | (refine go ?_; intros) | (refine goK11 ?_; intros)))
      exact h
    | some s =>
      rw [hs] at h h5
      have h5' : PS vs s w := h5
      have h55 := h5'
      obtain ⟨b', _, _, rfl, _⟩ := h55
      (repeat (first | (refine go ?_; intros) | (refine goK11 ?_; intros)))
      refine cl_fn (k95 h5' fun vm hvm => ?_)
      refine cl_fn (k96 hvm ?_)
      exact h

theorem k104 {base lb : Nat} {L : Lg} (hL : LG base lb L w) (hok : L.Ok)
    (h : ∀ w', Up (fun x => x = L.sb) [227] w w' → w'.heap.size = w.heap.size → LG base lb L w' → K (.int .u64 L.last) w') : CK Pr 104 #[.pointer (some ⟨lb, 0, none⟩)] w K := by
  refine c104 ?_
  unfold t104
  (repeat (first | (refine go ?_; intros) | (refine goK11 ?_; intros)))
  refine cl_fn (k158 hL hok ?_)
  cases hu : L.un with
  | cons x l =>
    (repeat (first | (refine go ?_; intros) | (refine goK11 ?_; intros)))
    exact h w (.refl _ _ _) rfl hL
  | nil =>
    cases hs : L.us with
    | some s =>
      (repeat (first | (refine go ?_; intros) | (refine goK11 ?_; intros)))
      have := h w (.refl _ _ _) rfl hL
      simp only [Lg.last, hu, hs] at this
      exact this
    | none =>
      obtain ⟨⟨e, r, he, hi⟩, hlen, _, _, _⟩ := hok
      obtain ⟨lim, vs, ve, ps, h1, h2, h3, h4, h5, h6, h7, h8, h9, h10⟩ := hL
      (repeat (first | (refine go ?_; intros) | (refine goK11 ?_; intros)))
      have hlen' : r.length ≤ 100000 := by rw [he] at hlen; simp at hlen; omega
      refine cl_m (k352 (he ▸ h2) hi hlen' fun w1 u1 z1 m1 => ?_)
      (repeat (first | (refine go ?_; intros) | (refine goK11 ?_; intros)))
      have zz := u1.size
      have hL1 : LG base lb L w1 := ⟨lim, vs, ve, ps, u1.at_ h1 rfl, by rw [he]; exact m1, h3, by omega, h5.mt rfl u1, h6.up u1 fun _ _ => .inl rfl, h7.mt rfl u1, h8, h9, by omega⟩
      have := h w1 u1 z1 hL1
      simp only [Lg.last, hu, hs, he] at this
      exact this

theorem k77 {base lb : Nat} {L : Lg} (hL : LG base lb L w) (hok : L.Ok)
    (h : ∀ w', Up (fun x => x = L.sb) [227] w w' → w'.heap.size = w.heap.size → LG base lb L w' → K (.int .u64 L.last) w') : CK Pr 77 #[.pointer (some ⟨lb, 0, none⟩)] w K := by
  refine c77 ?_
  unfold t77
  exact cl_fn (k104 hL hok h)

theorem k85 {lb : Nat} (h : K (.pointer (some ⟨lb, 1, none⟩)) w) : CK Pr 85 #[.pointer (some ⟨lb, 0, none⟩)] w K := by
  refine c85 ?_
  unfold t85
  (repeat (first | (refine go ?_; intros) | (refine goK11 ?_; intros)))
  exact h

theorem k84 {base lb : Nat} {L : Lg} (hL : LG base lb L w)
    (h : ∀ vs ve ps w', Ex w w' → w'.heap.size = w.heap.size → US vs L.us w' → Sl w' (some 212) 1 ve (ones ps) → PEs ps L.un w' → K (.tuple #[vs, ve, .int .u64 L.off, .bool L.sip, .int .u64 L.oip]) w') : CK Pr 84 #[.pointer (some ⟨lb, 1, none⟩)] w K := by
  refine c84 ?_
  unfold t84
  obtain ⟨lim, vs, ve, ps, h1, h2, h3, h4, h5, h6, h7, h8, h9, h10⟩ := hL
  refine dr_rule No [] fun w1 x1 z1 => ?_
  have hb : Bk w1 lb _ := x1.at_ h1
  (repeat (first | (refine go ?_; intros) | (refine goK11 ?_; intros)))
  exact h vs ve ps w1 x1 z1 (h5.ex x1) (h6.ex x1).sl (h7.ex x1)

theorem k89 {base lb : Nat} {L : Lg} (hL : LG base lb L w)
    (h : ∀ w', Ex w w' → w'.heap.size = w.heap.size → K (.tuple #[.int .u64 L.cm, .int .u64 L.ag, .int .u64 L.ap, .bool false]) w') : CK Pr 89 #[.pointer (some ⟨lb, 0, none⟩)] w K := by
  refine c89 ?_
  unfold t89
  obtain ⟨lim, vs, ve, ps, h1, h2, h3, h4, h5, h6, h7, h8, h9, h10⟩ := hL
  refine dr_rule No [] fun w1 x1 z1 => ?_
  have hb : Bk w1 lb _ := x1.at_ h1
  (repeat (first | (refine go ?_; intros) | (refine goK11 ?_; intros)))
  exact h w1 x1 z1

end Go.Proofs.YtmmpogfbhelioaaGreat
/-
  Contracts: the tracker's parts; sets of members.
  Conditions: each one's own.
-/
namespace Go.Proofs.YtmmpogfbhelioaaGreat
set_option maxRecDepth 10000
set_option linter.unusedVariables false
set_option linter.unusedSimpArgs false
theorem nmK12 {p : Prop} (h : p := by (try simp only [List.getElem?_toArray, List.getElem?_cons_zero, List.getElem?_cons_succ, List.setIfInBounds_toArray, List.set_cons_zero, List.set_cons_succ, List.toList_toArray, List.drop_zero, List.drop_succ_cons, List.take_zero, List.take_succ_cons, Nat.zero_add, Nat.add_zero, Nat.reduceAdd, putCells, Pe.pcells]) <;> rfl) : p := h
theorem goK12 {G H : Prop} (h : H) (s : Stp G H := by (apply Stp.of; intro hS; (first | (refine q_ld bk_ nmK12 ?_) | (refine q_ldU bk_ rfl nmK12 ?_) | (refine q_ldW bk_ (by rfl) ?_) | (refine q_ldWU bk_ rfl (by rfl) ?_) | (refine q_ldP bk_ (Nat.le_of_ble_eq_true rfl) nmK12 ?_) | (refine q_ldPU bk_ rfl (Nat.le_of_ble_eq_true rfl) nmK12 ?_) | (refine q_ext nmK12 ?_) | (refine u_st bk_ (Nat.le_of_ble_eq_true rfl) (by first | rfl | assumption) nmK12 ?_) | (refine u_stA bk_ (Nat.le_of_ble_eq_true rfl) (by rfl) (by rfl) nmK12 ?_) | (refine q_field nmK12 ?_)); exact hS.out)) : G := s.f h
set_option linter.unusedVariables false
set_option linter.unusedSimpArgs false
attribute [local irreducible] Instr.box Instr.alloc Instr.loadAt Instr.storeAt Instr.fieldAt Instr.indexAt Instr.build Instr.buildSlice Instr.makeSlice Instr.makeMap Instr.mapUpdate Instr.lookup Instr.range Instr.next Instr.entry Instr.extract Instr.makeInterface Instr.makeFunc Instr.sliceAt Instr.typeAssert Instr.field Instr.index Builtin.len_ Builtin.cap_ Builtin.max_ Builtin.min_ Builtin.append_ Builtin.copy_ Builtin.delete_ convert binS pickS nilS callV callM Op.unary Own Mp It Cu


variable {K : Value → World → Prop} {w : World} {te : Option Nat}

/-- A set as a map. -/
def ms (l : List Int) : KV := l.map fun x => (x, .agg #[])
theorem put_ms {l : List Int} {x : Int} (h : x ∉ l) : put (ms l) x (.agg #[]) = ms (l ++ [x]) := by
  induction l with
  | nil => rfl
  | cons y r ih =>
    have h1 : y ≠ x := fun e => h (e ▸ List.mem_cons_self ..)
    simp only [ms, List.map_cons, put, if_neg h1, List.cons_append] at ih ⊢
    rw [ih (fun hx => h (List.mem_cons_of_mem _ hx))]
theorem lk_ms {l : List Int} {x : Int} : lk (ms l) x = if x ∈ l then some (.agg #[]) else none := by
  induction l with
  | nil => rfl
  | cons y r ih =>
    simp only [ms, List.map_cons, lk] at ih ⊢
    by_cases h : y = x
    · simp [h]
    · rw [if_neg h, ih]
      have : x ≠ y := fun e => h e.symm
      simp [List.mem_cons, this]

theorem notin_take {α : Type} : ∀ {l : List α} {j : Nat} {x : α}, l.Nodup → l[j]? = some x → x ∉ l.take j
  | [], j, x, _, h => by simp at h
  | y :: r, 0, x, _, _ => by simp
  | y :: r, j + 1, x, hn, h => by
    have hn' := List.nodup_cons.1 hn
    rw [List.take_succ_cons, List.mem_cons]
    rintro (rfl | h2)
    · exact hn'.1 (List.mem_of_getElem? (by simpa using h))
    · exact notin_take hn'.2 (by simpa using h) h2

theorem k75 {v : Value} {l : List Int} (hv : Nums w te v l) (hl : l.length ≤ 1000000) (hn : l.Nodup) (h : ∀ b w', Ex w w' → w.heap.size ≤ b → Mp w' b (ms l) → K (.map (some b)) w') : CK Pr 75 #[v] w K := by
  refine c75 ?_
  unfold t75
  refine e_mkmap (by intro v hv; cases hv) fun w1 e1 m1 s1 => ?_
  refine q_lenSl hv ?_
  rw [nums_len]
  refine loop_n (α := Nat) (fun j τ w' => g τ 1 = .int .i64 j ∧ j ≤ l.length ∧ Ex w w' ∧ Mp w' w.heap.size (ms (l.take j))) (fun j => l.length - j) 0 ⟨rfl, Nat.zero_le _, e1, by simpa [ms] using m1⟩ ?_
  intro j τ w' R ⟨hj, hle, hex, hm⟩ hR
  rw [hj]
  (repeat (first | (refine go ?_; intros) | (refine goK12 ?_; intros)))
  refine if_split (fun hb => ?_) (fun hb => ?_)
  · have hj' : j < l.length := by simpa using hb
    obtain ⟨x, hx⟩ : ∃ x, l[j]? = some x := ⟨_, List.getElem?_eq_getElem hj'⟩
    refine q_ixs (x := .int .u64 x) j (hv.ex hex) rfl (by simp [nums, hx]) fun _ => ?_
    (repeat (first | (refine go ?_; intros) | (refine goK12 ?_; intros) | refine b156_  ?_))
    refine u_put hm fun w2 u2 m2 z2 => ?_
    (repeat (first | (refine go ?_; intros) | (refine goK12 ?_; intros)))
    rw [wrapS (by omega)]
    have hnx : x ∉ l.take j := notin_take hn hx
    refine hR (j + 1) _ _ ⟨rfl, by omega, hex.new u2 (by intro b hb; subst hb; exact Nat.le_refl _), ?_⟩ (by omega)
    rw [take_snoc hx, ← put_ms hnx]
    exact m2
  · have hjl : j = l.length := by
      have : ¬ ((j : Int) < _) := of_decide_eq_false hb
      omega
    subst hjl
    refine h _ _ hex (Nat.le_refl _) ?_
    simpa using hm

/-- A map, or nil: the empty one. -/
def MpO (w : World) (o : Option Nat) (l : KV) : Prop := match o with | none => l = [] | some b => Mp w b l
theorem MpO.ex {w' : World} {o : Option Nat} {l : KV} (e : Ex w w') (h : MpO w o l) : MpO w' o l := by
  cases o with
  | none => exact h
  | some b => exact Mp.ex e h
theorem MpO.up {C : Nat → Prop} {T : List Nat} {w' : World} {o : Option Nat} {l : KV} (e : Up C T w w') (h : MpO w o l) (hc : T.contains 0 = false ∨ ∀ b, o = some b → ¬ C b) : MpO w' o l := by
  cases o with
  | none => exact h
  | some b => exact Mp.up e h (hc.imp id fun h => h b rfl)

theorem k76 {v : Value} {l : List Int} (hv : Nums w te v l) (hl : l.length ≤ 1000000) (hn : l.Nodup) (h : ∀ o w', Ex w w' → (∀ b, o = some b → w.heap.size ≤ b) → MpO w' o (ms l) → K (.map o) w') : CK Pr 76 #[v] w K := by
  refine c76 ?_
  unfold t76
  refine q_lenSl hv ?_
  rw [nums_len]
  by_cases h0 : l = []
  · subst h0
    (repeat (first | (refine go ?_; intros) | (refine goK12 ?_; intros)))
    exact h none w (.refl _ _ _) (by intro b hb; cases hb) rfl
  have hz : l.length ≠ 0 := fun e => h0 (List.eq_nil_of_length_eq_zero e)
  (repeat (first | (refine go ?_; intros) | (refine goK12 ?_; intros)))
  refine if_split (fun hb => absurd (by simpa using hb) h0) (fun _ => ?_)
  refine e_mkmap (by intro v hv; cases hv) fun w1 e1 m1 s1 => ?_
  refine q_lenSl (hv.ex e1) ?_
  rw [nums_len]
  refine loop_n (α := Nat) (fun j τ w' => g τ 1 = .int .i64 j ∧ j ≤ l.length ∧ Ex w w' ∧ Mp w' w.heap.size (ms (l.take j))) (fun j => l.length - j) 0 ⟨rfl, Nat.zero_le _, e1, by simpa [ms] using m1⟩ ?_
  intro j τ w' R ⟨hj, hle, hex, hm⟩ hR
  rw [hj]
  (repeat (first | (refine go ?_; intros) | (refine goK12 ?_; intros)))
  refine if_split (fun hb => ?_) (fun hb => ?_)
  · have hj' : j < l.length := by simpa using hb
    obtain ⟨x, hx⟩ : ∃ x, l[j]? = some x := ⟨_, List.getElem?_eq_getElem hj'⟩
    refine q_ixs (x := .int .u64 x) j (hv.ex hex) rfl (by simp [nums, hx]) fun _ => ?_
    (repeat (first | (refine go ?_; intros) | (refine goK12 ?_; intros) | refine b156_  ?_))
    refine u_put hm fun w2 u2 m2 z2 => ?_
    (repeat (first | (refine go ?_; intros) | (refine goK12 ?_; intros)))
    rw [wrapS (by omega)]
    have hnx : x ∉ l.take j := notin_take hn hx
    refine hR (j + 1) _ _ ⟨rfl, by omega, hex.new u2 (by intro b hb; subst hb; exact Nat.le_refl _), ?_⟩ (by omega)
    rw [take_snoc hx, ← put_ms hnx]
    exact m2
  · have hjl : j = l.length := by
      have : ¬ ((j : Int) < _) := of_decide_eq_false hb
      omega
    subst hjl
    refine h (some w.heap.size) _ hex (by intro b hb; cases hb; exact Nat.le_refl _) ?_
    show Mp _ _ _
    simpa using hm

/-! Progress. -/

structure Pg where
  ma : Int
  ne : Int
  sc : Int
  st : Int
  pend : Int
  act : Bool
  pau : Bool
  le : Bool
  size : Int
  mx : Int

def Inf (ib : Nat) (size mx : Int) (w : World) : Prop := Bk w ib (.cells #[.int .i64 0, .int .i64 0, .int .u64 0, .int .i64 size, .int .u64 mx, .slice none 0 0] 230 (0, 0))
def Pg.cells (q : Pg) (ib : Nat) : Array Value := #[.int .u64 q.ma, .int .u64 q.ne, .int .u64 q.sc, .int .u64 q.st, .int .u64 q.pend, .bool q.act, .bool q.pau, .pointer (some ⟨ib, 0, none⟩), .bool q.le]

/-- Block b is a progress, with its inflights. -/
def PG (base b : Nat) (q : Pg) (w : World) : Prop := base ≤ b ∧ ∃ ib, base ≤ ib ∧ Bk w b (.cells (q.cells ib) 152 (0, 0)) ∧ Inf ib q.size q.mx w
theorem PG.up {base b : Nat} {q : Pg} {C : Nat → Prop} {T : List Nat} {w' : World} (u : Up C T w w') (h1 : T.contains 154 = false ∨ ¬ C b) (h2 : T.contains 232 = false) (h : PG base b q w) : PG base b q w' := by
  obtain ⟨hb, ib, hi, hp, hf⟩ := h
  refine ⟨hb, ib, hi, ?_, u.at_ hf h2⟩
  rcases h1 with h1 | h1
  · exact u.at_ hp h1
  · exact u.off hp h1
theorem PG.ex {base b : Nat} {q : Pg} {w' : World} (u : Ex w w') (h : PG base b q w) : PG base b q w' := h.up u (.inl rfl) rfl
theorem PG.lt {base b : Nat} {q : Pg} (h : PG base b q w) : b < w.heap.size := by
  obtain ⟨_, ib, _, hp, _⟩ := h
  exact hp.lt

theorem k78 {n mx : Int} (h : ∀ ib w', Ex w w' → w.heap.size ≤ ib → Inf ib n mx w' → K (.pointer (some ⟨ib, 0, none⟩)) w') : CK Pr 78 #[.int .i64 n, .int .u64 mx] w K := by
  refine c78 ?_
  unfold t78
  (repeat (first | (refine go ?_; intros) | (refine goK12 ?_; intros) | refine b230_3_4 (by first | rfl | assumption) (by first | rfl | assumption) ?_))
  rename_i ib w1 e1 hb1 s1 s2
  exact h ib w1 e1 (by omega) hb1

theorem k79 {base : Nat} {p : Pe} (h1 : Nums w none p.flV p.fl) (h2 : Nums w none p.byV p.byt) (hf : p.fl = []) (hst : 0 ≤ p.st ∧ p.st ≤ 1) (hbase : base ≤ w.heap.size)
    (h : ∀ b w', Ex w w' → w.heap.size ≤ b → PG base b ⟨p.ma, p.ne, 0, p.st, p.pend, p.act, p.pau, p.lea, p.size, p.mx⟩ w' → K (.pointer (some ⟨b, 0, none⟩)) w') : CK Pr 79 #[.agg p.pcells.toArray] w K := by
  refine c79 ?_
  unfold t79
  unfold Pe.pcells
  have o1 := h1.one
  have o2 := h2.one
  (repeat (first | (refine go ?_; intros) | (refine goK12 ?_; intros)))
  rename_i b1 w1 e1 hb1 s1 s2
  refine cl_fn (k78 fun ib w2 e2 s3 hi => ?_)
  refine loop_n (α := Unit) (fun _ τ w' => g τ 0 = .int .i64 0 ∧ w' = w2) (fun _ => 0) () ⟨rfl, rfl⟩ ?_
  rintro _ τ w' R ⟨hj, rfl⟩ hR
  rw [hj]
  have h1' : Nums w' none p.flV [] := by rw [← hf]; exact (h1.ex e1).ex e2
  (repeat (first | (refine go ?_; intros) | (refine goK12 ?_; intros)))
  have e3 : IntKind.u64.wrap p.st = p.st := wrapU (by omega) (by omega)
  try rw [e3]
  (repeat (first | (refine go ?_; intros) | (refine goK12 ?_; intros) | refine b152_0_1_3_4_5_6_8_7 (by first | rfl | assumption) (by first | rfl | assumption) (by first | rfl | assumption) (by first | rfl | assumption) (by first | rfl | assumption) (by first | rfl | assumption) (by first | rfl | assumption) (by first | rfl | assumption) ?_))
  rename_i b3 w3 e4 hb3 s4 s5
  have z1 := e1.size
  have z2 := e2.size
  exact h b3 w3 ex_ (by omega) ⟨by omega, ib, by omega, hb3, e4.at_ hi⟩

theorem k127 (h : ∀ b rb w', Ex w w' → w.heap.size ≤ b → Bk w' b (.cells #[.int .i64 0, .map (some rb), .slice none 0 0, .int .u64 0] 265 (0, 0)) → K (.pointer (some ⟨b, 0, none⟩)) w') : CK Pr 127 #[.int .i64 0] w K := by
  refine c127 ?_
  unfold t127
  refine e_mkmap (by intro v hv; cases hv) fun w1 e1 m1 s1 => ?_
  (repeat (first | (refine go ?_; intros) | (refine goK12 ?_; intros) | refine b265_0_1 (by first | rfl | assumption) (by first | rfl | assumption) ?_))
  rename_i b2 w2 e2 hb2 s2 s3
  exact h b2 _ w2 ex_ (by omega) hb2

theorem k74 {n mx : Int} (h : ∀ vb pm vt w', Ex w w' → w.heap.size ≤ vb → w.heap.size ≤ pm → w.heap.size ≤ vt → vb ≠ pm → vb ≠ vt → pm ≠ vt → Mp w' vb [] → Mp w' pm [] → Mp w' vt [] →
    K (.agg #[.map (some vb), .map none, .bool false, .map none, .map none, .map (some pm), .map (some vt), .int .i64 n, .int .u64 mx]) w') : CK Pr 74 #[.int .i64 n, .int .u64 mx] w K := by
  refine c74 ?_
  unfold t74
  (repeat (first | (refine go ?_; intros) | (refine goK12 ?_; intros)))
  rename_i b1 w1 e1 hb1 s1 s2
  refine e_mkmap (by intro v hv; cases hv) fun w2 e2 m2 s3 => ?_
  (repeat (first | (refine go ?_; intros) | (refine goK12 ?_; intros) | refine b134_0_1 (by first | rfl | assumption) (by first | rfl | assumption) ?_ | refine b136_0_2_3 (by first | rfl | assumption) (by first | rfl | assumption) ?_))
  refine e_mkmap (by intro v hv; cases hv) fun w3 e3 m3 s4 => ?_
  refine e_mkmap (by intro v hv; cases hv) fun w4 e4 m4 s5 => ?_
  have hb1' : Bk w4 b1 _ := e4.at_ (e3.at_ (e2.at_ hb1))
  (repeat (first | (refine go ?_; intros) | (refine goK12 ?_; intros) | refine b141_3_4_0_2_1 (by first | rfl | assumption) (by first | rfl | assumption) (by first | rfl | assumption) (by first | rfl | assumption) ?_))
  rename_i b5 w5 e5 hb5 sa sb w6 u6 hb6 z6 w7 u7 hb7 z7
  have z1 := e1.size
  have z2 := e2.size
  have z3 := e3.size
  have z4 := e4.size
  exact h _ _ _ w7 ex_ (by omega) (by omega) (by omega) (by omega) (by omega) (by omega)
    ((((((m2.ex e3).ex e4).ex e5).up u6 (.inl rfl)).up u7 (.inl rfl))) (((((m4).ex e5).up u6 (.inl rfl)).up u7 (.inl rfl))) ((((m3.ex e4).ex e5).up u6 (.inl rfl)).up u7 (.inl rfl))

end Go.Proofs.YtmmpogfbhelioaaGreat
/-
  Rules: slices of two elements; arrays' elements and slices.
  Conditions: elements of one cell.
-/
namespace Go.Proofs.YtmmpogfbhelioaaGreat
set_option maxRecDepth 10000
set_option linter.unusedVariables false
set_option linter.unusedSimpArgs false
set_option linter.unusedVariables false
variable {P : Program} {w : World} {S : World → Prop}

theorem TArr.facts (t k e n : Nat) [h : TArr P t k e n] : ∃ i, P.underlying t = some (.array k e) ∧ P.info? e = some i ∧ i.size = n ∧ n ≠ 0 := by
  have hk := h.ok
  unfold tarrB at hk
  split at hk
  · rename_i k' e' hu
    simp only [Bool.and_eq_true] at hk
    obtain ⟨⟨h1, h2⟩, h3⟩ := hk
    have h1 := Nat.eq_of_beq_eq_true h1
    have h2 := Nat.eq_of_beq_eq_true h2
    subst h1 h2
    split at h3
    · rename_i i hi
      simp only [Bool.and_eq_true] at h3
      have h4 := Nat.eq_of_beq_eq_true h3.1
      refine ⟨i, hu, hi, h4, ?_⟩
      intro h0
      rw [h0] at h4
      rw [h4] at h3
      simp at h3
    · cases h3
  · cases hk

theorem q_ia {t k e n b o : Nat} [TArr P t k e n] {K : Value → Prop} {i : Int} {q : IntKind} (j : Nat) (hi : i = j) (hj : j < k) (kk : K (.pointer (some ⟨b, o + j * n, none⟩))) : Qu P S (Instr.indexAt t (.pointer (some ⟨b, o, none⟩)) (.int q i)) K := by
  obtain ⟨inf, hu, hinf, hn, hn0⟩ := TArr.facts (P := P) t k e n
  subst hi
  have h1 : (0 : Int) ≤ j ∧ (j : Int) < k := by omega
  refine .mk _ (fun w' _ => ?_) kk
  simp only [Instr.indexAt, asIntOf, Sem.run_bind, Sem.run_pure, Result.andThen_ok, run_und hu, Instr.sureAddr]
  rw [if_pos h1]
  simp [add_addr, run_size hinf, hn]

theorem q_slArr {t k e n b o : Nat} [TArr P t k e n] {K : Value → Prop} {i : Int} {q : IntKind} (j : Nat) (hi : i = j) (hj : j ≤ k) (hk : k ≠ 0) (kk : K (.slice (some ⟨b, o, none⟩) j k)) : Qu P S (Instr.sliceAt t (.pointer (some ⟨b, o, none⟩)) none (some (.int q i)) none) K := by
  obtain ⟨inf, hu, hinf, hn, hn0⟩ := TArr.facts (P := P) t k e n
  subst hi
  have h1 : (0 : Int) ≤ j ∧ (j : Int) ≤ k := by omega
  refine .mk _ (fun w' _ => ?_) kk
  simp only [Instr.sliceAt, Sem.run_bind, run_und hu, Result.andThen_ok, Instr.sureAddr, Instr.sliceBounds, Instr.sliceBound, asIntOf, Sem.run_pure, if_pos h1, run_size hinf, Int.toNat_natCast, Nat.sub_zero, Nat.zero_mul, if_neg hk, add_addr, Nat.add_zero]

variable {KW : Value → World → Prop}
/-- A slice of two elements. -/
theorem e_bs2 {t e by' : Nat} [TSli P t e 1] [TElm P e 1 by'] {x y : Value} (hx : one x = true) (hy : one y = true)
    (k : ∀ w', Ex w w' → Own w' w.heap.size e 1 (.slice (some ⟨w.heap.size, 0, none⟩) 2 2) [[x], [y]] → w'.heap.size = w.heap.size + 1 → KW (.slice (some ⟨w.heap.size, 0, none⟩) 2 2) w') :
    Ef P (Instr.buildSlice t 2 #[(0, x), (1, y)]) w KW := by
  obtain ⟨i, z', hi, hz, his, hib, hzs, h0⟩ := TElm.facts (P := P) e 1 by'
  haveI : TZero P e z' := ⟨by rw [hi]; exact hz⟩
  have hcx := one_cells' hx
  have hcy := one_cells' hy
  have hf : Instr.fill (fun i => some (i * 1, 1)) ((Array.range (2 * 1)).map (z'.cells[· % z'.cells.size]!)) #[(0, x), (1, y)].toList = some #[x, y] := by
    rw [show #[(0, x), (1, y)].toList = [(0, x), (1, y)] from rfl, fill_cons rfl (by rw [hcx]; rfl) (by simp), fill_cons rfl (by rw [hcy]; rfl) (by simp [hcx, putCells]), Instr.fill, hcx, hcy]
    simp [putCells]
    apply Array.ext
    · simp
    · intro j h1 h2
      simp at h2
      have : j = 0 ∨ j = 1 := by omega
      rcases this with rfl | rfl <;> simp
  refine .mk _ _ (run_bs (P := P) (t := t) (e := e) (n := 1) (m := 2) (cs := #[x, y]) (by omega) (by omega) hf) (k _ (Up.alloc _ _) ⟨⟨?_, .inr ⟨_, 2, #[x, y], rfl, Nat.le_refl _, Bk.alloc_new _ _, Nat.le_refl _, by simp [maxLen], by simp, ?_⟩⟩, ?_⟩ (by simp))
  · simp
  · simp
  · intro u hu
    simp at hu
    rcases hu with rfl | rfl <;> rfl

end Go.Proofs.YtmmpogfbhelioaaGreat
/-
  The machine in memory; contract: it is made of its parts.
  Conditions: each one's own.
-/
namespace Go.Proofs.YtmmpogfbhelioaaGreat
set_option maxRecDepth 10000
set_option linter.unusedVariables false
set_option linter.unusedSimpArgs false
set_option linter.unusedVariables false
set_option linter.unusedSimpArgs false
attribute [local irreducible] Instr.box Instr.alloc Instr.loadAt Instr.storeAt Instr.fieldAt Instr.indexAt Instr.build Instr.buildSlice Instr.makeSlice Instr.makeMap Instr.mapUpdate Instr.lookup Instr.range Instr.next Instr.entry Instr.extract Instr.makeInterface Instr.makeFunc Instr.sliceAt Instr.typeAssert Instr.field Instr.index Builtin.len_ Builtin.cap_ Builtin.max_ Builtin.min_ Builtin.append_ Builtin.copy_ Builtin.delete_ convert binS pickS nilS callV callM Op.unary Own Mp It Cu


variable {K : Value → World → Prop} {w : World} {te : Option Nat}

/-- The fields of a machine in memory. -/
structure Rf where
  id : Int
  term : Int
  vote : Int
  lb : Nat
  mm : Int
  mu : Int
  vb : Option Nat
  v1 : Option Nat
  al : Bool
  lm : Option Nat
  lx : Option Nat
  pm : Nat
  vt : Nat
  mi : Int
  mb : Int
  st : Int
  il : Bool
  ms : Value
  af : Value
  lead : Int
  tr : Int
  pc : Int
  us : Int
  ro : Nat
  ee : Int
  he : Int
  cq : Bool
  pv : Bool
  ht : Int
  et : Int
  rt : Int
  tick : Value
  step : Value

def Rf.cells (r : Rf) : Array Value :=
  #[.int .u64 r.id, .int .u64 r.term, .int .u64 r.vote, .slice none 0 0, .pointer (some ⟨r.lb, 0, none⟩), .int .u64 r.mm, .int .u64 r.mu, .map r.vb, .map r.v1, .bool r.al, .map r.lm, .map r.lx, .map (some r.pm), .map (some r.vt), .int .i64 r.mi, .int .u64 r.mb,
    .int .u64 r.st, .bool r.il, r.ms, r.af, .int .u64 r.lead, .int .u64 r.tr, .int .u64 r.pc, .bool false, .int .u64 r.us, .pointer (some ⟨r.ro, 0, none⟩), .int .i64 r.ee, .int .i64 r.he, .bool r.cq, .bool r.pv, .int .i64 r.ht, .int .i64 r.et, .int .i64 r.rt, .bool false, .bool false, r.tick, r.step,
    .slice none 0 0, .slice none 0 0, .int .i64 0]

/-- A machine's reads that wait. -/
def RdO (b : Nat) (w : World) : Prop := ∃ rb, Bk w b (.cells #[.int .i64 0, .map (some rb), .slice none 0 0, .int .u64 0] 265 (0, 0))
theorem RdO.ex {b : Nat} {w' : World} (u : Ex w w') (h : RdO b w) : RdO b w' := by
  obtain ⟨rb, h⟩ := h
  exact ⟨rb, u.at_ h⟩
theorem RdO.mt {b : Nat} {C : Nat → Prop} {T : List Nat} {w' : World} (u : Up C T w w') (hT : T.contains 267 = false) (h : RdO b w) : RdO b w' := by
  obtain ⟨rb, h⟩ := h
  exact ⟨rb, u.at_ h hT⟩

theorem k80 {id term vote lead tr st mm mu us : Int} {il pv cq : Bool} {et ht rt ee he : Int} {lb pm vt : Nat} {vb v1 lm lx : Option Nat} {al : Bool} {mi mb : Int}
    (h : ∀ b ro w', Ex w w' → w.heap.size ≤ b → w.heap.size ≤ ro → RdO ro w' →
      Bk w' b (.cells (Rf.cells ⟨id, term, vote, lb, mm, mu, vb, v1, al, lm, lx, pm, vt, mi, mb, st, il, .slice none 0 0, .slice none 0 0, lead, tr, 0, us, ro, ee, he, cq, pv, ht, et, rt, .nilFunc, .nilFunc⟩) 187 (0, 0)) → K (.pointer (some ⟨b, 0, none⟩)) w') :
    CK Pr 80 #[.agg #[.int .u64 id, .int .u64 term, .int .u64 vote, .int .u64 lead, .int .u64 tr, .int .u64 st, .bool il, .bool pv, .bool cq, .int .i64 et, .int .i64 ht, .int .i64 rt, .int .i64 ee, .int .i64 he, .int .u64 mm, .int .u64 mu, .int .u64 us],
      .pointer (some ⟨lb, 0, none⟩), .agg #[.map vb, .map v1, .bool al, .map lm, .map lx, .map (some pm), .map (some vt), .int .i64 mi, .int .u64 mb]] w K := by
  refine c80 ?_
  unfold t80
  (repeat (first | (refine go ?_; intros) | (refine gon ?_; intros)))
  rename_i b1 w1 e1 hb1 s1 s2 b2 w2 e2 hb2 s3 s4
  refine dr_rule No [] fun w3 e3 z3 => ?_
  have hb1' : Bk w3 b1 _ := e3.at_ (e2.at_ hb1)
  have hb2' : Bk w3 b2 _ := e3.at_ hb2
  (repeat (first | (refine go ?_; intros) | (refine gon ?_; intros)))
  refine cl_fn (k127 fun ro rb w4 e4 s5 hro => ⟨e4, ?_⟩)
  (repeat (first | (refine go ?_; intros) | (refine gon ?_; intros) | refine b187_0_1_2_12_13_8_9_21_20_23_22_24_18_19_5_6_16_4_7_17 (by first | rfl | assumption) (by first | rfl | assumption) (by first | rfl | assumption) (by first | rfl | assumption) (by first | rfl | assumption) (by first | rfl | assumption) (by first | rfl | assumption) (by first | rfl | assumption) (by first | rfl | assumption) (by first | rfl | assumption) (by first | rfl | assumption) (by first | rfl | assumption) (by first | rfl | assumption) (by first | rfl | assumption) (by first | rfl | assumption) (by first | rfl | assumption) (by first | rfl | assumption) (by first | rfl | assumption) (by first | rfl | assumption) ?_))
  have z1 := e1.size
  have z2 := e2.size
  have z4 := e4.size
  rename_i b5 w5 e5 hb5 s6 s7
  refine ⟨e4.trans e5, ?_⟩
  exact h b5 ro w5 ex_ (by omega) (by omega) ⟨rb, e5.at_ hro⟩ hb5

end Go.Proofs.YtmmpogfbhelioaaGreat
