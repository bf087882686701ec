/-
  PARTS: T2 T3 K0 T4 Db K6 Dc T5 K7 K8 K9 Dd De K10.
-/
import Derived.Test.YtmmpogfbhelioaaGreatFla
import Derived.Test.YtmmpogfbhelioaaGreatFlb
import Derived.Test.YtmmpogfbhelioaaGreatFlc
/-
  The readable texts of the program's functions, printed by gen.py, and their links with the program.
  Conditions: none.
-/
namespace Go.Proofs.YtmmpogfbhelioaaGreat
set_option maxRecDepth 10000
set_option linter.unusedVariables false
set_option linter.unusedSimpArgs false
set_option linter.unusedVariables false
/-- impl.voters -/
def t75 (a0 : Value) (K : Value → World → Prop) (w : World) : Prop :=
  Ef Pr (Instr.makeMap 132 none) w fun v2 w1 => 
  Qu Pr (Is w1) (Builtin.len_ #[23] 3 #[a0]) fun v3 =>
  LoopW [undef, (Value.int .i64 0), undef, undef, undef, undef, undef, undef, undef] (fun r4 τ5 w6 =>
    Qu Pr (Is w6) (binS .lss 3 (.tmp 9) (.tmp 8) (g τ5 1) v3) fun v7 =>
    If v7 (
      Qu Pr (Is w6) (Instr.indexAt 23 a0 (g τ5 1)) fun v8 =>
      Qu Pr (Is w6) (Instr.loadAt 22 v8) fun v9 =>
      Qu Pr (Is w6) (Instr.build 156 #[]) fun v10 =>
      Eu Pr (Instr.mapUpdate 132 v2 v9 v10) w6 fun w11 => 
      Qu Pr (Is w11) (binS .add 3 (.tmp 9) (.const (Value.int .i64 1)) (g τ5 1) (Value.int .i64 1)) fun v12 =>
      r4 [v9, v12, v7, v8, v9, v2, v9, v10, v12] w11) (
      K v2 w6)) w1
theorem c75 {a0 : Value} {K : Value → World → Prop} {w : World} (h : t75 a0 K w) : CK Pr 75 #[a0] w K := by
  refine calls_of_RF [(3, [5, 9, 10, 11, 12, 13, 14, 15, 16])] Tryz.func75 rfl ?_ ?_ ?_
  · kernel_rfl
  · exact Nat.le_of_ble_eq_true rfl
  · exact cast (by kernel_rfl) h

/-- impl.setOf -/
def t76 (a0 : Value) (K : Value → World → Prop) (w : World) : Prop :=
  Qu Pr (Is w) (Builtin.len_ #[23] 3 #[a0]) fun v1 =>
  Qu Pr (Is w) (binS .eql 3 (.tmp 7) (.const (Value.int .i64 0)) v1 (Value.int .i64 0)) fun v2 =>
  If v2 (
    K (Value.map none) w) (
    Ef Pr (Instr.makeMap 131 none) w fun v4 w3 => 
    Qu Pr (Is w3) (Builtin.len_ #[23] 3 #[a0]) fun v5 =>
    LoopW [undef, (Value.int .i64 0), undef, undef, undef, undef, undef, undef, undef] (fun r6 τ7 w8 =>
      Qu Pr (Is w8) (binS .lss 3 (.tmp 12) (.tmp 11) (g τ7 1) v5) fun v9 =>
      If v9 (
        Qu Pr (Is w8) (Instr.indexAt 23 a0 (g τ7 1)) fun v10 =>
        Qu Pr (Is w8) (Instr.loadAt 22 v10) fun v11 =>
        Qu Pr (Is w8) (Instr.build 156 #[]) fun v12 =>
        Eu Pr (Instr.mapUpdate 131 v4 v11 v12) w8 fun w13 => 
        Qu Pr (Is w13) (binS .add 3 (.tmp 12) (.const (Value.int .i64 1)) (g τ7 1) (Value.int .i64 1)) fun v14 =>
        r6 [v11, v14, v9, v10, v11, v4, v11, v12, v14] w13) (
        K v4 w8)) w3)
theorem c76 {a0 : Value} {K : Value → World → Prop} {w : World} (h : t76 a0 K w) : CK Pr 76 #[a0] w K := by
  refine calls_of_RF [(5, [5, 12, 13, 14, 15, 16, 17, 18, 19])] Tryz.func76 rfl ?_ ?_ ?_
  · kernel_rfl
  · exact Nat.le_of_ble_eq_true rfl
  · exact cast (by kernel_rfl) h

/-- pub/raft.ZzLastIndex -/
def t77 (a0 : Value) (K : Value → World → Prop) (w : World) : Prop :=
  Cl Pr (callV (fn 104) #[a0]) w fun v2 w1 => 
  K v2 w1
theorem c77 {a0 : Value} {K : Value → World → Prop} {w : World} (h : t77 a0 K w) : CK Pr 77 #[a0] w K := by
  refine calls_of_RF [] Tryz.func77 rfl ?_ ?_ ?_
  · kernel_rfl
  · exact Nat.le_of_ble_eq_true rfl
  · exact cast (by kernel_rfl) h

/-- pub/raft/tracker.NewInflights -/
def t78 (a0 a1 : Value) (K : Value → World → Prop) (w : World) : Prop :=
  Qu Pr (Is w) (Instr.build 230 #[(3, a0), (4, a1)]) fun v1 =>
  Ef Pr (Instr.box 230 v1) w fun v3 w2 => 
  K v3 w2
theorem c78 {a0 a1 : Value} {K : Value → World → Prop} {w : World} (h : t78 a0 a1 K w) : CK Pr 78 #[a0, a1] w K := by
  refine calls_of_RF [] Tryz.func78 rfl ?_ ?_ ?_
  · kernel_rfl
  · exact Nat.le_of_ble_eq_true rfl
  · exact cast (by kernel_rfl) h

/-- impl.progressTo -/
def t79 (a0 : Value) (K : Value → World → Prop) (w : World) : Prop :=
  Ef Pr (Instr.box 58 a0) w fun v2 w1 => 
  Qu Pr (Is w1) (Instr.fieldAt 58 v2 7) fun v3 =>
  Qu Pr (Is w1) (Instr.loadAt 3 v3) fun v4 =>
  Qu Pr (Is w1) (Instr.fieldAt 58 v2 8) fun v5 =>
  Qu Pr (Is w1) (Instr.loadAt 22 v5) fun v6 =>
  Cl Pr (callV (fn 78) #[v4, v6]) w1 fun v8 w7 => 
  LoopW [(Value.int .i64 0), undef, undef, undef, undef, undef, undef, undef, undef, undef, undef, undef, undef, undef, undef, undef, undef, undef, undef, undef, undef, undef, undef, undef, undef, undef, undef] (fun r9 τ10 w11 =>
    Qu Pr (Is w11) (Instr.fieldAt 58 v2 9) fun v12 =>
    Qu Pr (Is w11) (Instr.loadAt 23 v12) fun v13 =>
    Qu Pr (Is w11) (Builtin.len_ #[23] 3 #[v13]) fun v14 =>
    Qu Pr (Is w11) (binS .lss 3 (.tmp 10) (.tmp 13) (g τ10 0) v14) fun v15 =>
    Gd v15 true (fun k16 => k16 (g τ10 0) w11) w11 fun v17 w18 =>
    Gd v15 true (fun k19 => Qu Pr (Is w18) (Instr.fieldAt 58 v2 10) fun v22 => k19 v22 w18) w18 fun v20 w21 =>
    Gd v15 true (fun k23 => Qu Pr (Is w21) (Instr.loadAt 23 v20) fun v26 => k23 v26 w21) w21 fun v24 w25 =>
    Gd v15 true (fun k27 => Qu Pr (Is w25) (Builtin.len_ #[23] 3 #[v24]) fun v30 => k27 v30 w25) w25 fun v28 w29 =>
    Gd v15 true (fun k31 => Qu Pr (Is w29) (binS .lss 3 (.tmp 16) (.tmp 19) v17 v28) fun v34 => k31 v34 w29) w29 fun v32 w33 =>
    Qu Pr (Is w33) (pickS v15 v32 (Value.bool false)) fun v35 =>
    If v35 (
      Dr w33 fun S36 w37 =>
      Qu Pr (S36) (Instr.fieldAt 58 v2 9) fun v38 =>
      Qu Pr (S36) (Instr.loadAt 23 v38) fun v39 =>
      Qu Pr (S36) (Instr.indexAt 23 v39 (g τ10 0)) fun v40 =>
      Qu Pr (S36) (Instr.loadAt 22 v40) fun v41 =>
      Qu Pr (S36) (Instr.fieldAt 58 v2 10) fun v42 =>
      Qu Pr (S36) (Instr.loadAt 23 v42) fun v43 =>
      Qu Pr (S36) (Instr.indexAt 23 v43 (g τ10 0)) fun v44 =>
      Qu Pr (S36) (Instr.loadAt 22 v44) fun v45 =>
      Cl Pr (callV (fn 126) #[v8, v41, v45]) w37 fun v47 w46 => S36 w46 ∧ 
      Qu Pr (Is w46) (binS .add 3 (.tmp 22) (.const (Value.int .i64 1)) (g τ10 0) (Value.int .i64 1)) fun v48 =>
      r9 [v48, (g τ10 0), v12, v13, v14, v15, v15, v17, v20, v24, v28, v32, v35, (g τ10 0), v48, v8, v38, v39, (g τ10 0), v40, v41, v42, v43, (g τ10 0), v44, v45, v47] w46) (
      Qu Pr (Is w33) (Instr.fieldAt 58 v2 0) fun v49 =>
      Qu Pr (Is w33) (Instr.loadAt 22 v49) fun v50 =>
      Qu Pr (Is w33) (Instr.fieldAt 58 v2 1) fun v51 =>
      Qu Pr (Is w33) (Instr.loadAt 22 v51) fun v52 =>
      Qu Pr (Is w33) (Instr.fieldAt 58 v2 2) fun v53 =>
      Qu Pr (Is w33) (Instr.loadAt 3 v53) fun v54 =>
      Qu Pr (Is w33) (convert 3 150 v54) fun v55 =>
      Qu Pr (Is w33) (Instr.fieldAt 58 v2 3) fun v56 =>
      Qu Pr (Is w33) (Instr.loadAt 22 v56) fun v57 =>
      Qu Pr (Is w33) (Instr.fieldAt 58 v2 4) fun v58 =>
      Qu Pr (Is w33) (Instr.loadAt 4 v58) fun v59 =>
      Qu Pr (Is w33) (Instr.fieldAt 58 v2 5) fun v60 =>
      Qu Pr (Is w33) (Instr.loadAt 4 v60) fun v61 =>
      Qu Pr (Is w33) (Instr.fieldAt 58 v2 6) fun v62 =>
      Qu Pr (Is w33) (Instr.loadAt 4 v62) fun v63 =>
      Qu Pr (Is w33) (Instr.build 152 #[(0, v50), (1, v52), (3, v55), (4, v57), (5, v59), (6, v61), (8, v63), (7, v8)]) fun v64 =>
      Ef Pr (Instr.box 152 v64) w33 fun v66 w65 => 
      K v66 w65)) w7
theorem c79 {a0 : Value} {K : Value → World → Prop} {w : World} (h : t79 a0 K w) : CK Pr 79 #[a0] w K := by
  refine calls_of_RF [(3, [4, 10, 11, 12, 13, 14, 15, 16, 17, 18, 19, 20, 21, 22, 23, 24, 25, 26, 27, 28, 29, 30, 31, 32, 33, 34, 35])] Tryz.func79 rfl ?_ ?_ ?_
  · kernel_rfl
  · exact Nat.le_of_ble_eq_true rfl
  · exact cast (by kernel_rfl) h

/-- pub/raft.ZzNewRaft -/
def t80 (a0 a1 a2 : Value) (K : Value → World → Prop) (w : World) : Prop :=
  Ef Pr (Instr.box 161 a0) w fun v2 w1 => 
  Ef Pr (Instr.box 141 a2) w1 fun v4 w3 => 
  Dr w3 fun S5 w6 =>
  Qu Pr (S5) (Instr.fieldAt 161 v2 0) fun v7 =>
  Qu Pr (S5) (Instr.loadAt 22 v7) fun v8 =>
  Qu Pr (S5) (Instr.fieldAt 161 v2 1) fun v9 =>
  Qu Pr (S5) (Instr.loadAt 22 v9) fun v10 =>
  Qu Pr (S5) (Instr.fieldAt 161 v2 2) fun v11 =>
  Qu Pr (S5) (Instr.loadAt 22 v11) fun v12 =>
  Qu Pr (S5) (Instr.fieldAt 161 v2 3) fun v13 =>
  Qu Pr (S5) (Instr.loadAt 22 v13) fun v14 =>
  Qu Pr (S5) (Instr.fieldAt 161 v2 4) fun v15 =>
  Qu Pr (S5) (Instr.loadAt 22 v15) fun v16 =>
  Qu Pr (S5) (Instr.fieldAt 161 v2 5) fun v17 =>
  Qu Pr (S5) (Instr.loadAt 159 v17) fun v18 =>
  Qu Pr (S5) (Instr.fieldAt 161 v2 6) fun v19 =>
  Qu Pr (S5) (Instr.loadAt 4 v19) fun v20 =>
  Qu Pr (S5) (Instr.fieldAt 161 v2 7) fun v21 =>
  Qu Pr (S5) (Instr.loadAt 4 v21) fun v22 =>
  Qu Pr (S5) (Instr.fieldAt 161 v2 8) fun v23 =>
  Qu Pr (S5) (Instr.loadAt 4 v23) fun v24 =>
  Qu Pr (S5) (Instr.fieldAt 161 v2 9) fun v25 =>
  Qu Pr (S5) (Instr.loadAt 3 v25) fun v26 =>
  Qu Pr (S5) (Instr.fieldAt 161 v2 10) fun v27 =>
  Qu Pr (S5) (Instr.loadAt 3 v27) fun v28 =>
  Qu Pr (S5) (Instr.fieldAt 161 v2 11) fun v29 =>
  Qu Pr (S5) (Instr.loadAt 3 v29) fun v30 =>
  Qu Pr (S5) (Instr.fieldAt 161 v2 12) fun v31 =>
  Qu Pr (S5) (Instr.loadAt 3 v31) fun v32 =>
  Qu Pr (S5) (Instr.fieldAt 161 v2 13) fun v33 =>
  Qu Pr (S5) (Instr.loadAt 3 v33) fun v34 =>
  Qu Pr (S5) (Instr.fieldAt 161 v2 14) fun v35 =>
  Qu Pr (S5) (Instr.loadAt 22 v35) fun v36 =>
  Qu Pr (S5) (Instr.fieldAt 161 v2 15) fun v37 =>
  Qu Pr (S5) (Instr.loadAt 22 v37) fun v38 =>
  Qu Pr (S5) (Instr.fieldAt 161 v2 16) fun v39 =>
  Qu Pr (S5) (Instr.loadAt 22 v39) fun v40 =>
  Qu Pr (S5) (Instr.loadAt 141 v4) fun v41 =>
  Cl Pr (callV (fn 127) #[(Value.int .i64 0)]) w6 fun v43 w42 => S5 w42 ∧ 
  Qu Pr (S5) (Instr.build 187 #[(0, v8), (1, v10), (2, v12), (12, v14), (13, v16), (8, v18), (9, v20), (21, v22), (20, v24), (23, v26), (22, v28), (24, v30), (18, v32), (19, v34), (5, v36), (6, v38), (16, v40), (4, a1), (7, v41), (17, v43)]) fun v44 =>
  Ef Pr (Instr.box 187 v44) w42 fun v46 w45 => S5 w45 ∧ 
  K v46 w45
theorem c80 {a0 a1 a2 : Value} {K : Value → World → Prop} {w : World} (h : t80 a0 a1 a2 K w) : CK Pr 80 #[a0, a1, a2] w K := by
  refine calls_of_RF [] Tryz.func80 rfl ?_ ?_ ?_
  · kernel_rfl
  · exact Nat.le_of_ble_eq_true rfl
  · exact cast (by kernel_rfl) h

/-- pub/raft.ZzStateOf -/
def t81 (a0 : Value) (K : Value → World → Prop) (w : World) : Prop :=
  Ef Pr (Instr.alloc 161 true (.tuple #[])) w fun v2 w1 => 
  Dr w1 fun S3 w4 =>
  Qu Pr (S3) (nilS a0) fun v5 =>
  Qu Pr (S3) (Instr.fieldAt 187 v5 0) fun v6 =>
  Qu Pr (S3) (Instr.loadAt 22 v6) fun v7 =>
  Qu Pr (S3) (nilS a0) fun v8 =>
  Qu Pr (S3) (Instr.fieldAt 187 v8 1) fun v9 =>
  Qu Pr (S3) (Instr.loadAt 22 v9) fun v10 =>
  Qu Pr (S3) (nilS a0) fun v11 =>
  Qu Pr (S3) (Instr.fieldAt 187 v11 2) fun v12 =>
  Qu Pr (S3) (Instr.loadAt 22 v12) fun v13 =>
  Qu Pr (S3) (nilS a0) fun v14 =>
  Qu Pr (S3) (Instr.fieldAt 187 v14 12) fun v15 =>
  Qu Pr (S3) (Instr.loadAt 22 v15) fun v16 =>
  Qu Pr (S3) (nilS a0) fun v17 =>
  Qu Pr (S3) (Instr.fieldAt 187 v17 13) fun v18 =>
  Qu Pr (S3) (Instr.loadAt 22 v18) fun v19 =>
  Qu Pr (S3) (nilS a0) fun v20 =>
  Qu Pr (S3) (Instr.fieldAt 187 v20 8) fun v21 =>
  Qu Pr (S3) (Instr.loadAt 159 v21) fun v22 =>
  Qu Pr (S3) (nilS a0) fun v23 =>
  Qu Pr (S3) (Instr.fieldAt 187 v23 9) fun v24 =>
  Qu Pr (S3) (Instr.loadAt 4 v24) fun v25 =>
  Qu Pr (S3) (nilS a0) fun v26 =>
  Qu Pr (S3) (Instr.fieldAt 187 v26 21) fun v27 =>
  Qu Pr (S3) (Instr.loadAt 4 v27) fun v28 =>
  Qu Pr (S3) (nilS a0) fun v29 =>
  Qu Pr (S3) (Instr.fieldAt 187 v29 20) fun v30 =>
  Qu Pr (S3) (Instr.loadAt 4 v30) fun v31 =>
  Qu Pr (S3) (nilS a0) fun v32 =>
  Qu Pr (S3) (Instr.fieldAt 187 v32 23) fun v33 =>
  Qu Pr (S3) (Instr.loadAt 3 v33) fun v34 =>
  Qu Pr (S3) (nilS a0) fun v35 =>
  Qu Pr (S3) (Instr.fieldAt 187 v35 22) fun v36 =>
  Qu Pr (S3) (Instr.loadAt 3 v36) fun v37 =>
  Qu Pr (S3) (nilS a0) fun v38 =>
  Qu Pr (S3) (Instr.fieldAt 187 v38 24) fun v39 =>
  Qu Pr (S3) (Instr.loadAt 3 v39) fun v40 =>
  Qu Pr (S3) (nilS a0) fun v41 =>
  Qu Pr (S3) (Instr.fieldAt 187 v41 18) fun v42 =>
  Qu Pr (S3) (Instr.loadAt 3 v42) fun v43 =>
  Qu Pr (S3) (nilS a0) fun v44 =>
  Qu Pr (S3) (Instr.fieldAt 187 v44 19) fun v45 =>
  Qu Pr (S3) (Instr.loadAt 3 v45) fun v46 =>
  Qu Pr (S3) (nilS a0) fun v47 =>
  Qu Pr (S3) (Instr.fieldAt 187 v47 5) fun v48 =>
  Qu Pr (S3) (Instr.loadAt 180 v48) fun v49 =>
  Qu Pr (S3) (nilS a0) fun v50 =>
  Qu Pr (S3) (Instr.fieldAt 187 v50 6) fun v51 =>
  Qu Pr (S3) (Instr.loadAt 181 v51) fun v52 =>
  Qu Pr (S3) (nilS a0) fun v53 =>
  Qu Pr (S3) (Instr.fieldAt 187 v53 16) fun v54 =>
  Qu Pr (S3) (Instr.loadAt 181 v54) fun v55 =>
  Qu Pr (S3) (Instr.build 161 #[(0, v7), (1, v10), (2, v13), (3, v16), (4, v19), (5, v22), (6, v25), (7, v28), (8, v31), (9, v34), (10, v37), (11, v40), (12, v43), (13, v46), (14, v49), (15, v52), (16, v55)]) fun v56 =>
  Eu Pr (Instr.storeAt 161 v2 v56) w4 fun w57 => S3 w57 ∧ 
  Qu Pr (Is w57) (Instr.loadAt 161 v2) fun v58 =>
  K v58 w57
theorem c81 {a0 : Value} {K : Value → World → Prop} {w : World} (h : t81 a0 K w) : CK Pr 81 #[a0] w K := by
  refine calls_of_RF [] Tryz.func81 rfl ?_ ?_ ?_
  · kernel_rfl
  · exact Nat.le_of_ble_eq_true rfl
  · exact cast (by kernel_rfl) h

/-- pub/raft.ZzRaftLog -/
def t82 (a0 : Value) (K : Value → World → Prop) (w : World) : Prop :=
  Qu Pr (Is w) (nilS a0) fun v1 =>
  Qu Pr (Is w) (Instr.fieldAt 187 v1 4) fun v2 =>
  Qu Pr (Is w) (Instr.loadAt 128 v2) fun v3 =>
  K v3 w
theorem c82 {a0 : Value} {K : Value → World → Prop} {w : World} (h : t82 a0 K w) : CK Pr 82 #[a0] w K := by
  refine calls_of_RF [] Tryz.func82 rfl ?_ ?_ ?_
  · kernel_rfl
  · exact Nat.le_of_ble_eq_true rfl
  · exact cast (by kernel_rfl) h

/-- pub/raft.ZzTracker -/
def t83 (a0 : Value) (K : Value → World → Prop) (w : World) : Prop :=
  Qu Pr (Is w) (nilS a0) fun v1 =>
  Qu Pr (Is w) (Instr.fieldAt 187 v1 7) fun v2 =>
  K v2 w
theorem c83 {a0 : Value} {K : Value → World → Prop} {w : World} (h : t83 a0 K w) : CK Pr 83 #[a0] w K := by
  refine calls_of_RF [] Tryz.func83 rfl ?_ ?_ ?_
  · kernel_rfl
  · exact Nat.le_of_ble_eq_true rfl
  · exact cast (by kernel_rfl) h

/-- pub/raft.ZzUnstableFields -/
def t84 (a0 : Value) (K : Value → World → Prop) (w : World) : Prop :=
  Dr w fun S1 w2 =>
  Qu Pr (S1) (nilS a0) fun v3 =>
  Qu Pr (S1) (Instr.fieldAt 194 v3 0) fun v4 =>
  Qu Pr (S1) (Instr.loadAt 75 v4) fun v5 =>
  Qu Pr (S1) (nilS a0) fun v6 =>
  Qu Pr (S1) (Instr.fieldAt 194 v6 1) fun v7 =>
  Qu Pr (S1) (Instr.loadAt 115 v7) fun v8 =>
  Qu Pr (S1) (nilS a0) fun v9 =>
  Qu Pr (S1) (Instr.fieldAt 194 v9 2) fun v10 =>
  Qu Pr (S1) (Instr.loadAt 22 v10) fun v11 =>
  Qu Pr (S1) (nilS a0) fun v12 =>
  Qu Pr (S1) (Instr.fieldAt 194 v12 3) fun v13 =>
  Qu Pr (S1) (Instr.loadAt 4 v13) fun v14 =>
  Qu Pr (S1) (nilS a0) fun v15 =>
  Qu Pr (S1) (Instr.fieldAt 194 v15 4) fun v16 =>
  Qu Pr (S1) (Instr.loadAt 22 v16) fun v17 =>
  K (.tuple #[v5, v8, v11, v14, v17]) w2
theorem c84 {a0 : Value} {K : Value → World → Prop} {w : World} (h : t84 a0 K w) : CK Pr 84 #[a0] w K := by
  refine calls_of_RF [] Tryz.func84 rfl ?_ ?_ ?_
  · kernel_rfl
  · exact Nat.le_of_ble_eq_true rfl
  · exact cast (by kernel_rfl) h

/-- pub/raft.ZzLogUnstable -/
def t85 (a0 : Value) (K : Value → World → Prop) (w : World) : Prop :=
  Qu Pr (Is w) (nilS a0) fun v1 =>
  Qu Pr (Is w) (Instr.fieldAt 196 v1 1) fun v2 =>
  K v2 w
theorem c85 {a0 : Value} {K : Value → World → Prop} {w : World} (h : t85 a0 K w) : CK Pr 85 #[a0] w K := by
  refine calls_of_RF [] Tryz.func85 rfl ?_ ?_ ?_
  · kernel_rfl
  · exact Nat.le_of_ble_eq_true rfl
  · exact cast (by kernel_rfl) h

/-- impl.entriesFrom -/
def t86 (a0 : Value) (K : Value → World → Prop) (w : World) : Prop :=
  Qu Pr (Is w) (Builtin.len_ #[115] 3 #[a0]) fun v1 =>
  LoopW [(Value.slice none 0 0), undef, (Value.int .i64 0), undef, undef, undef, undef, undef, undef, undef, undef, undef, undef, undef, undef, undef, undef, undef, undef, undef, undef] (fun r2 τ3 w4 =>
    Qu Pr (Is w4) (binS .lss 3 (.tmp 8) (.tmp 7) (g τ3 2) v1) fun v5 =>
    If v5 (
      Qu Pr (Is w4) (Instr.indexAt 115 a0 (g τ3 2)) fun v6 =>
      Qu Pr (Is w4) (Instr.loadAt 212 v6) fun v7 =>
      Cl Pr (callV (fn 128) #[v7]) w4 fun v9 w8 => 
      Cl Pr (callV (fn 124) #[v7]) w8 fun v11 w10 => 
      Cl Pr (callV (fn 129) #[v7]) w10 fun v13 w12 => 
      Qu Pr (Is w12) (convert 233 3 v13) fun v14 =>
      Cl Pr (callV (fn 130) #[v7]) w12 fun v16 w15 => 
      Qu Pr (Is w15) (convert 99 9 v16) fun v17 =>
      Qu Pr (Is w15) (Instr.build 56 #[(0, v9), (1, v11), (2, v14), (3, v17)]) fun v18 =>
      Ef Pr (Instr.buildSlice 28 1 #[(0, v18)]) w15 fun v20 w19 => 
      Ef Pr (Builtin.append_ #[28, 28] 28 #[(g τ3 0), v20]) w19 fun v22 w21 => 
      Qu Pr (Is w21) (binS .add 3 (.tmp 8) (.const (Value.int .i64 1)) (g τ3 2) (Value.int .i64 1)) fun v23 =>
      r2 [v22, v7, v23, v5, v6, v7, (g τ3 0), v7, v9, v7, v11, v7, v13, v14, v7, v16, v17, v18, v20, v22, v23] w21) (
      K (g τ3 0) w4)) w
theorem c86 {a0 : Value} {K : Value → World → Prop} {w : World} (h : t86 a0 K w) : CK Pr 86 #[a0] w K := by
  refine calls_of_RF [(3, [3, 5, 8, 9, 10, 11, 12, 13, 14, 15, 16, 17, 18, 19, 20, 21, 22, 23, 24, 25, 26])] Tryz.func86 rfl ?_ ?_ ?_
  · kernel_rfl
  · exact Nat.le_of_ble_eq_true rfl
  · exact cast (by kernel_rfl) h

/-- (pub/raft/quorum.MajorityConfig).Slice -/
def t87 (a0 : Value) (K : Value → World → Prop) (w : World) : Prop :=
  Ef Pr (Instr.range 132 a0) w fun v2 w1 => 
  LoopW [(Value.slice none 0 0), undef, undef, undef, undef, undef, undef, undef, undef, undef] (fun r3 τ4 w5 =>
    Ef Pr (Instr.next v2 false 0) w5 fun v7 w6 => 
    Qu Pr (Is w6) (Instr.extract v7 0) fun v8 =>
    If v8 (
      Qu Pr (Is w6) (Instr.entry v2) fun v9 =>
      Qu Pr (Is w6) (Instr.extract v9 0) fun v10 =>
      Ef Pr (Instr.buildSlice 23 1 #[(0, v10)]) w6 fun v12 w11 => 
      Ef Pr (Builtin.append_ #[23, 23] 23 #[(g τ4 0), v12]) w11 fun v14 w13 => 
      r3 [v14, v10, v7, v8, v9, v10, (g τ4 0), v10, v12, v14] w13) (
      Cl Pr (callV (fn 131) #[(g τ4 0)]) w6 fun _ w15 => 
      K (g τ4 0) w15)) w1
theorem c87 {a0 : Value} {K : Value → World → Prop} {w : World} (h : t87 a0 K w) : CK Pr 87 #[a0] w K := by
  refine calls_of_RF [(3, [3, 4, 7, 8, 9, 10, 11, 12, 13, 14])] Tryz.func87 rfl ?_ ?_ ?_
  · kernel_rfl
  · exact Nat.le_of_ble_eq_true rfl
  · exact cast (by kernel_rfl) h

/-- impl.rising -/
def t88 (a0 : Value) (K : Value → World → Prop) (w : World) : Prop :=
  Cl Pr (callV (fn 87) #[a0]) w fun v2 w1 => 
  K v2 w1
theorem c88 {a0 : Value} {K : Value → World → Prop} {w : World} (h : t88 a0 K w) : CK Pr 88 #[a0] w K := by
  refine calls_of_RF [] Tryz.func88 rfl ?_ ?_ ?_
  · kernel_rfl
  · exact Nat.le_of_ble_eq_true rfl
  · exact cast (by kernel_rfl) h

/-- pub/raft.ZzLogFields -/
def t89 (a0 : Value) (K : Value → World → Prop) (w : World) : Prop :=
  Dr w fun S1 w2 =>
  Qu Pr (S1) (nilS a0) fun v3 =>
  Qu Pr (S1) (Instr.fieldAt 196 v3 2) fun v4 =>
  Qu Pr (S1) (Instr.loadAt 22 v4) fun v5 =>
  Qu Pr (S1) (nilS a0) fun v6 =>
  Qu Pr (S1) (Instr.fieldAt 196 v6 3) fun v7 =>
  Qu Pr (S1) (Instr.loadAt 22 v7) fun v8 =>
  Qu Pr (S1) (nilS a0) fun v9 =>
  Qu Pr (S1) (Instr.fieldAt 196 v9 4) fun v10 =>
  Qu Pr (S1) (Instr.loadAt 22 v10) fun v11 =>
  Qu Pr (S1) (nilS a0) fun v12 =>
  Qu Pr (S1) (Instr.fieldAt 196 v12 7) fun v13 =>
  Qu Pr (S1) (Instr.loadAt 4 v13) fun v14 =>
  K (.tuple #[v5, v8, v11, v14]) w2
theorem c89 {a0 : Value} {K : Value → World → Prop} {w : World} (h : t89 a0 K w) : CK Pr 89 #[a0] w K := by
  refine calls_of_RF [] Tryz.func89 rfl ?_ ?_ ?_
  · kernel_rfl
  · exact Nat.le_of_ble_eq_true rfl
  · exact cast (by kernel_rfl) h

/-- impl.snapFrom -/
def t90 (a0 : Value) (K : Value → World → Prop) (w : World) : Prop :=
  Ef Pr (Instr.alloc 27 true (.tuple #[])) w fun v2 w1 => 
  Cl Pr (callV (fn 95) #[a0]) w1 fun v4 w3 => 
  Dr w3 fun S5 w6 =>
  Cl Pr (callV (fn 132) #[a0]) w6 fun v8 w7 => S5 w7 ∧ 
  Qu Pr (S5) (convert 99 9 v8) fun v9 =>
  Cl Pr (callV (fn 96) #[v4]) w7 fun v11 w10 => S5 w10 ∧ 
  Cl Pr (callV (fn 99) #[v4]) w10 fun v13 w12 => S5 w12 ∧ 
  Cl Pr (callV (fn 97) #[v4]) w12 fun v15 w14 => S5 w14 ∧ 
  Cl Pr (callV (fn 133) #[v15]) w14 fun v17 w16 => S5 w16 ∧ 
  Qu Pr (S5) (Instr.build 27 #[(0, v9), (1, v11), (2, v13), (3, v17)]) fun v18 =>
  Eu Pr (Instr.storeAt 27 v2 v18) w16 fun w19 => S5 w19 ∧ 
  Qu Pr (Is w19) (Instr.loadAt 27 v2) fun v20 =>
  K v20 w19
theorem c90 {a0 : Value} {K : Value → World → Prop} {w : World} (h : t90 a0 K w) : CK Pr 90 #[a0] w K := by
  refine calls_of_RF [] Tryz.func90 rfl ?_ ?_ ?_
  · kernel_rfl
  · exact Nat.le_of_ble_eq_true rfl
  · exact cast (by kernel_rfl) h

/-- (*pub/raft/tracker.ProgressTracker).Visit -/
def t91 (a0 a1 : Value) (K : Value → World → Prop) (w : World) : Prop :=
  Qu Pr (Is w) (nilS a0) fun v1 =>
  Qu Pr (Is w) (Instr.fieldAt 141 v1 1) fun v2 =>
  Qu Pr (Is w) (Instr.loadAt 138 v2) fun v3 =>
  Qu Pr (Is w) (Builtin.len_ #[138] 3 #[v3]) fun v4 =>
  Ef Pr (Instr.alloc 238 true (.tuple #[])) w fun v6 w5 => 
  Qu Pr (Is w5) (binS .geq 3 (.const (Value.int .i64 7)) (.tmp 15) (Value.int .i64 7) v4) fun v7 =>
  Jo (fun (p12 : Value) (w13 : World) => (
      Qu Pr (Is w13) (nilS a0) fun v15 =>
      Qu Pr (Is w13) (Instr.fieldAt 141 v15 1) fun v16 =>
      Qu Pr (Is w13) (Instr.loadAt 138 v16) fun v17 =>
      Ef Pr (Instr.range 138 v17) w13 fun v19 w18 => 
      LoopW [v4, undef, undef, undef, undef, undef, undef, undef, undef, undef, undef, undef] (fun r20 τ21 w22 =>
        Ef Pr (Instr.next v19 false 0) w22 fun v24 w23 => 
        Qu Pr (Is w23) (Instr.extract v24 0) fun v25 =>
        If v25 (
          Qu Pr (Is w23) (Instr.entry v19) fun v26 =>
          Qu Pr (Is w23) (Instr.extract v26 0) fun v27 =>
          Qu Pr (Is w23) (binS .sub 3 (.tmp 30) (.const (Value.int .i64 1)) (g τ21 0) (Value.int .i64 1)) fun v28 =>
          Qu Pr (Is w23) (Instr.indexAt 23 p12 v28) fun v29 =>
          Eu Pr (Instr.storeAt 22 v29 v27) w23 fun w30 => 
          r20 [v28, v27, v24, v25, v26, v27, (g τ21 0), v28, p12, v28, v27, v29] w30) (
          Cl Pr (callV (fn 131) #[p12]) w23 fun _ w31 => 
          Qu Pr (Is w31) (Builtin.len_ #[23] 3 #[p12]) fun v33 =>
          LoopW [undef, (Value.int .i64 0), undef, undef, undef, undef, undef, undef, undef, undef, undef, undef, undef, undef, undef] (fun r34 τ35 w36 =>
            Qu Pr (Is w36) (binS .lss 3 (.tmp 40) (.tmp 39) (g τ35 1) v33) fun v37 =>
            If v37 (
              Qu Pr (Is w36) (Instr.indexAt 23 p12 (g τ35 1)) fun v38 =>
              Qu Pr (Is w36) (Instr.loadAt 22 v38) fun v39 =>
              Qu Pr (Is w36) (nilS a0) fun v40 =>
              Qu Pr (Is w36) (Instr.fieldAt 141 v40 1) fun v41 =>
              Qu Pr (Is w36) (Instr.loadAt 138 v41) fun v42 =>
              Qu Pr (Is w36) (Instr.lookup 138 v42 v39 false) fun v43 =>
              Cl Pr (callV a1 #[v39, v43]) w36 fun v45 w44 => 
              Qu Pr (Is w44) (binS .add 3 (.tmp 40) (.const (Value.int .i64 1)) (g τ35 1) (Value.int .i64 1)) fun v46 =>
              r34 [v39, v46, v37, v38, v39, a1, v39, a0, v40, v41, v42, v39, v43, v45, v46] w44) (
              K (.tuple #[]) w36)) w31)) w18 : Prop)) fun J14 =>
  If v7 (
    Qu Pr (Is w5) (Instr.sliceAt 238 v6 none (some v4) none) fun v47 =>
    J14 v47 w5) (
    Ef Pr (Instr.makeSlice 23 v4 v4) w5 fun v49 w48 => 
    J14 v49 w48)
theorem c91 {a0 a1 : Value} {K : Value → World → Prop} {w : World} (h : t91 a0 a1 K w) : CK Pr 91 #[a0, a1] w K := by
  refine calls_of_RF [(7, [4, 7, 26, 27, 28, 29, 30, 31, 32, 33, 34, 35]), (13, [9, 40, 41, 42, 43, 44, 45, 46, 47, 48, 49, 50, 51, 52, 53])] Tryz.func91 rfl ?_ ?_ ?_
  · kernel_rfl
  · exact Nat.le_of_ble_eq_true rfl
  · exact cast (by kernel_rfl) h

/-- impl.machineFrom$1 -/
def t92 (a0 a1 a2 : Value) (K : Value → World → Prop) (w : World) : Prop :=
  Dr2 w fun S3 S1 w2 =>
  Qu Pr (S3) (Instr.fieldAt 32 a2 12) fun v4 =>
  Qu Pr (S3) (Instr.loadAt 29 v4) fun v5 =>
  Cl Pr (callV (fn 93) #[a1]) w2 fun v7 w6 => (S3 w6 ∧ S1 w6) ∧ 
  Qu Pr (S3) (Instr.build 60 #[(0, a0), (1, v7)]) fun v8 =>
  Ef Pr (Instr.buildSlice 29 1 #[(0, v8)]) w6 fun v10 w9 => (S3 w9 ∧ S1 w9) ∧ 
  Ef Pr (Builtin.append_ #[29, 29] 29 #[v5, v10]) w9 fun v12 w11 => (S3 w11 ∧ S1 w11) ∧ 
  Qu Pr (S3) (Instr.fieldAt 32 a2 12) fun v13 =>
  Eu Pr (Instr.storeAt 29 v13 v12) w11 fun w14 => S1 w14 ∧ 
  K (.tuple #[]) w14
theorem c92 {a0 a1 a2 : Value} {K : Value → World → Prop} {w : World} (h : t92 a0 a1 a2 K w) : CK Pr 92 #[a0, a1, a2] w K := by
  refine calls_of_RF [] Tryz.func92 rfl ?_ ?_ ?_
  · kernel_rfl
  · exact Nat.le_of_ble_eq_true rfl
  · exact cast (by kernel_rfl) h

/-- impl.progressFrom -/
def t93 (a0 : Value) (K : Value → World → Prop) (w : World) : Prop :=
  Ef Pr (Instr.alloc 58 true (.tuple #[])) w fun v2 w1 => 
  Dr w1 fun S3 w4 =>
  Qu Pr (S3) (nilS a0) fun v5 =>
  Qu Pr (S3) (Instr.fieldAt 152 v5 0) fun v6 =>
  Qu Pr (S3) (Instr.loadAt 22 v6) fun v7 =>
  Qu Pr (S3) (nilS a0) fun v8 =>
  Qu Pr (S3) (Instr.fieldAt 152 v8 1) fun v9 =>
  Qu Pr (S3) (Instr.loadAt 22 v9) fun v10 =>
  Qu Pr (S3) (nilS a0) fun v11 =>
  Qu Pr (S3) (Instr.fieldAt 152 v11 3) fun v12 =>
  Qu Pr (S3) (Instr.loadAt 150 v12) fun v13 =>
  Qu Pr (S3) (convert 150 3 v13) fun v14 =>
  Qu Pr (S3) (nilS a0) fun v15 =>
  Qu Pr (S3) (Instr.fieldAt 152 v15 4) fun v16 =>
  Qu Pr (S3) (Instr.loadAt 22 v16) fun v17 =>
  Qu Pr (S3) (nilS a0) fun v18 =>
  Qu Pr (S3) (Instr.fieldAt 152 v18 5) fun v19 =>
  Qu Pr (S3) (Instr.loadAt 4 v19) fun v20 =>
  Qu Pr (S3) (nilS a0) fun v21 =>
  Qu Pr (S3) (Instr.fieldAt 152 v21 6) fun v22 =>
  Qu Pr (S3) (Instr.loadAt 4 v22) fun v23 =>
  Qu Pr (S3) (nilS a0) fun v24 =>
  Qu Pr (S3) (Instr.fieldAt 152 v24 8) fun v25 =>
  Qu Pr (S3) (Instr.loadAt 4 v25) fun v26 =>
  Qu Pr (S3) (Instr.build 58 #[(0, v7), (1, v10), (2, v14), (3, v17), (4, v20), (5, v23), (6, v26)]) fun v27 =>
  Ef Pr (Instr.alloc 58 true (.tuple #[])) w4 fun v29 w28 => S3 w28 ∧ 
  Eu Pr (Instr.storeAt 58 v29 v27) w28 fun w30 => S3 w30 ∧ 
  Qu Pr (Is w30) (nilS a0) fun v31 =>
  Qu Pr (Is w30) (Instr.fieldAt 152 v31 7) fun v32 =>
  Qu Pr (Is w30) (Instr.loadAt 148 v32) fun v33 =>
  Cl Pr (callV (fn 134) #[v33]) w30 fun v35 w34 => 
  Qu Pr (Is w34) (Instr.extract v35 0) fun v36 =>
  Qu Pr (Is w34) (Instr.extract v35 1) fun v37 =>
  Qu Pr (Is w34) (Instr.extract v35 2) fun v38 =>
  Qu Pr (Is w34) (Instr.extract v35 3) fun v39 =>
  Qu Pr (Is w34) (Instr.fieldAt 58 v29 7) fun v40 =>
  Eu Pr (Instr.storeAt 3 v40 v36) w34 fun w41 => 
  Qu Pr (Is w41) (Instr.fieldAt 58 v29 8) fun v42 =>
  Eu Pr (Instr.storeAt 22 v42 v37) w41 fun w43 => 
  Qu Pr (Is w43) (Instr.fieldAt 58 v29 9) fun v44 =>
  Eu Pr (Instr.storeAt 23 v44 v38) w43 fun w45 => 
  Qu Pr (Is w45) (Instr.fieldAt 58 v29 10) fun v46 =>
  Eu Pr (Instr.storeAt 23 v46 v39) w45 fun w47 => 
  Qu Pr (Is w47) (Instr.loadAt 58 v29) fun v48 =>
  Eu Pr (Instr.storeAt 58 v2 v48) w47 fun w49 => 
  Qu Pr (Is w49) (Instr.loadAt 58 v2) fun v50 =>
  K v50 w49
theorem c93 {a0 : Value} {K : Value → World → Prop} {w : World} (h : t93 a0 K w) : CK Pr 93 #[a0] w K := by
  refine calls_of_RF [] Tryz.func93 rfl ?_ ?_ ?_
  · kernel_rfl
  · exact Nat.le_of_ble_eq_true rfl
  · exact cast (by kernel_rfl) h

/-- impl.messageFrom -/
def t94 (a0 : Value) (K : Value → World → Prop) (w : World) : Prop :=
  Ef Pr (Instr.alloc 64 true (.tuple #[])) w fun v2 w1 => 
  Cl Pr (callV (fn 135) #[a0]) w1 fun v4 w3 => 
  Qu Pr (Is w3) (convert 113 3 v4) fun v5 =>
  Cl Pr (callV (fn 136) #[a0]) w3 fun v7 w6 => 
  Cl Pr (callV (fn 137) #[a0]) w6 fun v9 w8 => 
  Cl Pr (callV (fn 138) #[a0]) w8 fun v11 w10 => 
  Cl Pr (callV (fn 139) #[a0]) w10 fun v13 w12 => 
  Cl Pr (callV (fn 140) #[a0]) w12 fun v15 w14 => 
  Cl Pr (callV (fn 141) #[a0]) w14 fun v17 w16 => 
  Cl Pr (callV (fn 142) #[a0]) w16 fun v19 w18 => 
  Cl Pr (callV (fn 143) #[a0]) w18 fun v21 w20 => 
  Cl Pr (callV (fn 144) #[a0]) w20 fun v23 w22 => 
  Cl Pr (callV (fn 86) #[v23]) w22 fun v25 w24 => 
  Cl Pr (callV (fn 117) #[a0]) w24 fun v27 w26 => 
  Cl Pr (callV (fn 90) #[v27]) w26 fun v29 w28 => 
  Cl Pr (callV (fn 145) #[a0]) w28 fun v31 w30 => 
  Cl Pr (callV (fn 146) #[a0]) w30 fun v33 w32 => 
  Qu Pr (Is w32) (convert 99 9 v33) fun v34 =>
  Qu Pr (Is w32) (Instr.build 64 #[(0, v5), (1, v7), (2, v9), (3, v11), (4, v13), (5, v15), (6, v17), (7, v19), (8, v21), (9, v25), (10, v29), (11, v31), (12, v34)]) fun v35 =>
  Ef Pr (Instr.alloc 64 true (.tuple #[])) w32 fun v37 w36 => 
  Eu Pr (Instr.storeAt 64 v37 v35) w36 fun w38 => 
  Cl Pr (callV (fn 147) #[a0]) w38 fun v40 w39 => 
  Qu Pr (Is w39) (Builtin.len_ #[94] 3 #[v40]) fun v41 =>
  LoopW [undef, (Value.int .i64 0), undef, undef, undef, undef, undef, undef, undef, undef, undef, undef, undef] (fun r42 τ43 w44 =>
    Qu Pr (Is w44) (binS .lss 3 (.tmp 40) (.tmp 39) (g τ43 1) v41) fun v45 =>
    If v45 (
      Qu Pr (Is w44) (Instr.indexAt 94 v40 (g τ43 1)) fun v46 =>
      Qu Pr (Is w44) (Instr.loadAt 86 v46) fun v47 =>
      Dr2 w44 fun S50 S48 w49 =>
      Qu Pr (S50) (Instr.fieldAt 64 v37 13) fun v51 =>
      Qu Pr (S50) (Instr.loadAt 36 v51) fun v52 =>
      Cl Pr (callV (fn 94) #[v47]) w49 fun v54 w53 => (S50 w53 ∧ S48 w53) ∧ 
      Ef Pr (Instr.buildSlice 36 1 #[(0, v54)]) w53 fun v56 w55 => (S50 w55 ∧ S48 w55) ∧ 
      Ef Pr (Builtin.append_ #[36, 36] 36 #[v52, v56]) w55 fun v58 w57 => (S50 w57 ∧ S48 w57) ∧ 
      Qu Pr (S50) (Instr.fieldAt 64 v37 13) fun v59 =>
      Eu Pr (Instr.storeAt 36 v59 v58) w57 fun w60 => S48 w60 ∧ 
      Qu Pr (Is w60) (binS .add 3 (.tmp 40) (.const (Value.int .i64 1)) (g τ43 1) (Value.int .i64 1)) fun v61 =>
      r42 [v47, v61, v45, v46, v47, v51, v52, v47, v54, v56, v58, v59, v61] w60) (
      Qu Pr (Is w44) (Instr.loadAt 64 v37) fun v62 =>
      Eu Pr (Instr.storeAt 64 v2 v62) w44 fun w63 => 
      Qu Pr (Is w63) (Instr.loadAt 64 v2) fun v64 =>
      K v64 w63)) w39
theorem c94 {a0 : Value} {K : Value → World → Prop} {w : World} (h : t94 a0 K w) : CK Pr 94 #[a0] w K := by
  refine calls_of_RF [(3, [5, 40, 41, 42, 43, 44, 45, 46, 47, 48, 49, 50, 51])] Tryz.func94 rfl ?_ ?_ ?_
  · kernel_rfl
  · exact Nat.le_of_ble_eq_true rfl
  · exact cast (by kernel_rfl) h

/-- (*pub/raft/raftpb.Snapshot).GetMetadata -/
def t95 (a0 : Value) (K : Value → World → Prop) (w : World) : Prop :=
  Qu Pr (Is w) (binS .neq 75 (.tmp 3) (.const (Value.pointer none)) a0 (Value.pointer none)) fun v1 =>
  If v1 (
    Qu Pr (Is w) (nilS a0) fun v2 =>
    Qu Pr (Is w) (Instr.fieldAt 108 v2 1) fun v3 =>
    Qu Pr (Is w) (Instr.loadAt 101 v3) fun v4 =>
    K v4 w) (
    K (Value.pointer none) w)
theorem c95 {a0 : Value} {K : Value → World → Prop} {w : World} (h : t95 a0 K w) : CK Pr 95 #[a0] w K := by
  refine calls_of_RF [] Tryz.func95 rfl ?_ ?_ ?_
  · kernel_rfl
  · exact Nat.le_of_ble_eq_true rfl
  · exact cast (by kernel_rfl) h

/-- (*pub/raft/raftpb.SnapshotMetadata).GetIndex -/
def t96 (a0 : Value) (K : Value → World → Prop) (w : World) : Prop :=
  Qu Pr (Is w) (binS .neq 101 (.tmp 3) (.const (Value.pointer none)) a0 (Value.pointer none)) fun v1 =>
  Gd v1 true (fun k2 => k2 a0 w) w fun v3 w4 =>
  Gd v1 true (fun k5 => Qu Pr (Is w4) (nilS v3) fun v8 => k5 v8 w4) w4 fun v6 w7 =>
  Gd v1 true (fun k9 => Qu Pr (Is w7) (Instr.fieldAt 106 v6 1) fun v12 => k9 v12 w7) w7 fun v10 w11 =>
  Gd v1 true (fun k13 => Qu Pr (Is w11) (Instr.loadAt 104 v10) fun v16 => k13 v16 w11) w11 fun v14 w15 =>
  Gd v1 true (fun k17 => Qu Pr (Is w15) (binS .neq 104 (.tmp 9) (.const (Value.pointer none)) v14 (Value.pointer none)) fun v20 => k17 v20 w15) w15 fun v18 w19 =>
  Qu Pr (Is w19) (pickS v1 v18 (Value.bool false)) fun v21 =>
  If v21 (
    Qu Pr (Is w19) (nilS a0) fun v22 =>
    Qu Pr (Is w19) (Instr.fieldAt 106 v22 1) fun v23 =>
    Qu Pr (Is w19) (Instr.loadAt 104 v23) fun v24 =>
    Qu Pr (Is w19) (nilS v24) fun v25 =>
    Qu Pr (Is w19) (Instr.loadAt 22 v25) fun v26 =>
    K v26 w19) (
    K (Value.int .u64 0) w19)
theorem c96 {a0 : Value} {K : Value → World → Prop} {w : World} (h : t96 a0 K w) : CK Pr 96 #[a0] w K := by
  refine calls_of_RF [] Tryz.func96 rfl ?_ ?_ ?_
  · kernel_rfl
  · exact Nat.le_of_ble_eq_true rfl
  · exact cast (by kernel_rfl) h

/-- (*pub/raft/raftpb.SnapshotMetadata).GetConfState -/
def t97 (a0 : Value) (K : Value → World → Prop) (w : World) : Prop :=
  Qu Pr (Is w) (binS .neq 101 (.tmp 3) (.const (Value.pointer none)) a0 (Value.pointer none)) fun v1 =>
  If v1 (
    Qu Pr (Is w) (nilS a0) fun v2 =>
    Qu Pr (Is w) (Instr.fieldAt 106 v2 0) fun v3 =>
    Qu Pr (Is w) (Instr.loadAt 102 v3) fun v4 =>
    K v4 w) (
    K (Value.pointer none) w)
theorem c97 {a0 : Value} {K : Value → World → Prop} {w : World} (h : t97 a0 K w) : CK Pr 97 #[a0] w K := by
  refine calls_of_RF [] Tryz.func97 rfl ?_ ?_ ?_
  · kernel_rfl
  · exact Nat.le_of_ble_eq_true rfl
  · exact cast (by kernel_rfl) h

/-- pub/raft/raftpb.EnsureConfState -/
def t98 (a0 : Value) (K : Value → World → Prop) (w : World) : Prop :=
  Qu Pr (Is w) (binS .eql 102 (.tmp 3) (.const (Value.pointer none)) a0 (Value.pointer none)) fun v1 =>
  Jo (fun (p3 : Value) (w4 : World) => (
      Qu Pr (Is w4) (nilS p3) fun v6 =>
      Qu Pr (Is w4) (Instr.fieldAt 200 v6 4) fun v7 =>
      Qu Pr (Is w4) (Instr.loadAt 117 v7) fun v8 =>
      Qu Pr (Is w4) (binS .eql 117 (.tmp 9) (.const (Value.pointer none)) v8 (Value.pointer none)) fun v9 =>
      Jo (fun  (w14 : World) => (
          K p3 w14 : Prop)) fun J15 =>
      If v9 (
        Ef Pr (Instr.box 4 (Value.bool false)) w4 fun v17 w16 => 
        Qu Pr (Is w16) (nilS p3) fun v18 =>
        Qu Pr (Is w16) (Instr.fieldAt 200 v18 4) fun v19 =>
        Eu Pr (Instr.storeAt 117 v19 v17) w16 fun w20 => 
        J15 w20) (
        J15 w4) : Prop)) fun J5 =>
  If v1 (
    Ef Pr (Instr.alloc 200 true (.tuple #[])) w fun v22 w21 => 
    J5 v22 w21) (
    J5 a0 w)
theorem c98 {a0 : Value} {K : Value → World → Prop} {w : World} (h : t98 a0 K w) : CK Pr 98 #[a0] w K := by
  refine calls_of_RF [] Tryz.func98 rfl ?_ ?_ ?_
  · kernel_rfl
  · exact Nat.le_of_ble_eq_true rfl
  · exact cast (by kernel_rfl) h

/-- (*pub/raft/raftpb.SnapshotMetadata).GetTerm -/
def t99 (a0 : Value) (K : Value → World → Prop) (w : World) : Prop :=
  Qu Pr (Is w) (binS .neq 101 (.tmp 3) (.const (Value.pointer none)) a0 (Value.pointer none)) fun v1 =>
  Gd v1 true (fun k2 => k2 a0 w) w fun v3 w4 =>
  Gd v1 true (fun k5 => Qu Pr (Is w4) (nilS v3) fun v8 => k5 v8 w4) w4 fun v6 w7 =>
  Gd v1 true (fun k9 => Qu Pr (Is w7) (Instr.fieldAt 106 v6 2) fun v12 => k9 v12 w7) w7 fun v10 w11 =>
  Gd v1 true (fun k13 => Qu Pr (Is w11) (Instr.loadAt 104 v10) fun v16 => k13 v16 w11) w11 fun v14 w15 =>
  Gd v1 true (fun k17 => Qu Pr (Is w15) (binS .neq 104 (.tmp 9) (.const (Value.pointer none)) v14 (Value.pointer none)) fun v20 => k17 v20 w15) w15 fun v18 w19 =>
  Qu Pr (Is w19) (pickS v1 v18 (Value.bool false)) fun v21 =>
  If v21 (
    Qu Pr (Is w19) (nilS a0) fun v22 =>
    Qu Pr (Is w19) (Instr.fieldAt 106 v22 2) fun v23 =>
    Qu Pr (Is w19) (Instr.loadAt 104 v23) fun v24 =>
    Qu Pr (Is w19) (nilS v24) fun v25 =>
    Qu Pr (Is w19) (Instr.loadAt 22 v25) fun v26 =>
    K v26 w19) (
    K (Value.int .u64 0) w19)
theorem c99 {a0 : Value} {K : Value → World → Prop} {w : World} (h : t99 a0 K w) : CK Pr 99 #[a0] w K := by
  refine calls_of_RF [] Tryz.func99 rfl ?_ ?_ ?_
  · kernel_rfl
  · exact Nat.le_of_ble_eq_true rfl
  · exact cast (by kernel_rfl) h

/-- (*pub/raft.raftLog).lastIndex -/
def t104 (a0 : Value) (K : Value → World → Prop) (w : World) : Prop :=
  Qu Pr (Is w) (nilS a0) fun v1 =>
  Qu Pr (Is w) (Instr.fieldAt 196 v1 1) fun v2 =>
  Cl Pr (callV (fn 158) #[v2]) w fun v4 w3 => 
  Qu Pr (Is w3) (Instr.extract v4 0) fun v5 =>
  Qu Pr (Is w3) (Instr.extract v4 1) fun v6 =>
  If v6 (
    K v5 w3) (
    Qu Pr (Is w3) (nilS a0) fun v7 =>
    Qu Pr (Is w3) (Instr.fieldAt 196 v7 0) fun v8 =>
    Qu Pr (Is w3) (Instr.loadAt 192 v8) fun v9 =>
    Cl Pr (callM v9 "LastIndex" #[]) w3 fun v11 w10 => 
    Qu Pr (Is w10) (Instr.extract v11 0) fun v12 =>
    Qu Pr (Is w10) (Instr.extract v11 1) fun v13 =>
    Qu Pr (Is w10) (binS .neq 125 (.tmp 24) (.const Value.nilIface) v13 Value.nilIface) fun v14 =>
    If v14 (
      False) (
      K v12 w10))
theorem c104 {a0 : Value} {K : Value → World → Prop} {w : World} (h : t104 a0 K w) : CK Pr 104 #[a0] w K := by
  refine calls_of_RF [] Tryz.func104 rfl ?_ ?_ ?_
  · kernel_rfl
  · exact Nat.le_of_ble_eq_true rfl
  · exact cast (by kernel_rfl) h

/-- impl.numbers -/
def t107 (a0 : Value) (K : Value → World → Prop) (w : World) : Prop :=
  Ef Pr (Builtin.append_ #[23, 23] 23 #[(Value.slice none 0 0), a0]) w fun v2 w1 => 
  K v2 w1
theorem c107 {a0 : Value} {K : Value → World → Prop} {w : World} (h : t107 a0 K w) : CK Pr 107 #[a0] w K := by
  refine calls_of_RF [] Tryz.func107 rfl ?_ ?_ ?_
  · kernel_rfl
  · exact Nat.le_of_ble_eq_true rfl
  · exact cast (by kernel_rfl) h

@[irreducible] def t109_1 (w15 : World) (v2 : Value) (K : Value → World → Prop) : Prop :=
      Qu Pr (Is w15) (Instr.loadAt 73 v2) fun v17 =>
      Qu Pr (Is w15) (nilS v17) fun v18 =>
      Qu Pr (Is w15) (Instr.fieldAt 187 v18 12) fun v19 =>
      Eu Pr (Instr.storeAt 22 v19 (Value.int .u64 0)) w15 fun w20 => 
      Qu Pr (Is w20) (Instr.loadAt 73 v2) fun v21 =>
      Qu Pr (Is w20) (nilS v21) fun v22 =>
      Qu Pr (Is w20) (Instr.fieldAt 187 v22 18) fun v23 =>
      Eu Pr (Instr.storeAt 3 v23 (Value.int .i64 0)) w20 fun w24 => 
      Qu Pr (Is w24) (Instr.loadAt 73 v2) fun v25 =>
      Qu Pr (Is w24) (nilS v25) fun v26 =>
      Qu Pr (Is w24) (Instr.fieldAt 187 v26 19) fun v27 =>
      Eu Pr (Instr.storeAt 3 v27 (Value.int .i64 0)) w24 fun w28 => 
      Qu Pr (Is w28) (Instr.loadAt 73 v2) fun v29 =>
      Cl Pr (callV (fn 170) #[v29]) w28 fun _ w30 => 
      Qu Pr (Is w30) (Instr.loadAt 73 v2) fun v32 =>
      Cl Pr (callV (fn 166) #[v32]) w30 fun _ w33 => 
      Qu Pr (Is w33) (Instr.loadAt 73 v2) fun v35 =>
      Qu Pr (Is w33) (nilS v35) fun v36 =>
      Qu Pr (Is w33) (Instr.fieldAt 187 v36 7) fun v37 =>
      Cl Pr (callV (fn 116) #[v37]) w33 fun _ w38 => 
      Qu Pr (Is w38) (Instr.loadAt 73 v2) fun v40 =>
      Qu Pr (Is w38) (nilS v40) fun v41 =>
      Qu Pr (Is w38) (Instr.fieldAt 187 v41 7) fun v42 =>
      Qu Pr (Is w38) (Instr.makeFunc (Fn.func 171) #[] #[v2]) fun v43 =>
      Cl Pr (callV (fn 91) #[v42, v43]) w38 fun _ w44 => 
      Qu Pr (Is w44) (Instr.loadAt 73 v2) fun v46 =>
      Qu Pr (Is w44) (nilS v46) fun v47 =>
      Qu Pr (Is w44) (Instr.fieldAt 187 v47 14) fun v48 =>
      Eu Pr (Instr.storeAt 22 v48 (Value.int .u64 0)) w44 fun w49 => 
      Qu Pr (Is w49) (Instr.loadAt 73 v2) fun v50 =>
      Qu Pr (Is w49) (nilS v50) fun v51 =>
      Qu Pr (Is w49) (Instr.fieldAt 187 v51 16) fun v52 =>
      Eu Pr (Instr.storeAt 181 v52 (Value.int .u64 0)) w49 fun w53 => 
      Dr2 w53 fun S56 S54 w55 =>
      Qu Pr (S56) (Instr.loadAt 73 v2) fun v57 =>
      Qu Pr (S56) (Instr.loadAt 73 v2) fun v58 =>
      Qu Pr (S56) (nilS v58) fun v59 =>
      Qu Pr (S56) (Instr.fieldAt 187 v59 17) fun v60 =>
      Qu Pr (S56) (Instr.loadAt 182 v60) fun v61 =>
      Qu Pr (S56) (nilS v61) fun v62 =>
      Qu Pr (S56) (Instr.fieldAt 265 v62 0) fun v63 =>
      Qu Pr (S56) (Instr.loadAt 232 v63) fun v64 =>
      Cl Pr (callV (fn 127) #[v64]) w55 fun v66 w65 => (S56 w65 ∧ S54 w65) ∧ 
      Qu Pr (S56) (nilS v57) fun v67 =>
      Qu Pr (S56) (Instr.fieldAt 187 v67 17) fun v68 =>
      Eu Pr (Instr.storeAt 182 v68 v66) w65 fun w69 => S54 w69 ∧ 
      K (.tuple #[]) w69
/-- (*pub/raft.raft).reset -/
def t109 (a0 a1 : Value) (K : Value → World → Prop) (w : World) : Prop :=
  Ef Pr (Instr.box 73 a0) w fun v2 w1 => 
  Qu Pr (Is w1) (Instr.loadAt 73 v2) fun v3 =>
  Qu Pr (Is w1) (nilS v3) fun v4 =>
  Qu Pr (Is w1) (Instr.fieldAt 187 v4 1) fun v5 =>
  Qu Pr (Is w1) (Instr.loadAt 22 v5) fun v6 =>
  Qu Pr (Is w1) (binS .neq 22 (.tmp 7) (.tmp 8) v6 a1) fun v7 =>
  Jo (fun  (w15 : World) => (t109_1 w15 v2 K : Prop)) fun J16 =>
  If v7 (
    Qu Pr (Is w1) (Instr.loadAt 73 v2) fun v70 =>
    Qu Pr (Is w1) (nilS v70) fun v71 =>
    Qu Pr (Is w1) (Instr.fieldAt 187 v71 1) fun v72 =>
    Eu Pr (Instr.storeAt 22 v72 a1) w1 fun w73 => 
    Qu Pr (Is w73) (Instr.loadAt 73 v2) fun v74 =>
    Qu Pr (Is w73) (nilS v74) fun v75 =>
    Qu Pr (Is w73) (Instr.fieldAt 187 v75 2) fun v76 =>
    Eu Pr (Instr.storeAt 22 v76 (Value.int .u64 0)) w73 fun w77 => 
    J16 w77) (
    J16 w1)
theorem c109 {a0 a1 : Value} {K : Value → World → Prop} {w : World} (h : t109 a0 a1 K w) : CK Pr 109 #[a0, a1] w K := by
  refine calls_of_RF [] Tryz.func109 rfl ?_ ?_ ?_
  · kernel_rfl
  · exact Nat.le_of_ble_eq_true rfl
  · exact cast (by kernel_rfl) h

/-- (*pub/raft/tracker.Progress).BecomeReplicate -/
def t114 (a0 : Value) (K : Value → World → Prop) (w : World) : Prop :=
  Cl Pr (callV (fn 199) #[a0, (Value.int .u64 1)]) w fun _ w1 => 
  Qu Pr (Is w1) (nilS a0) fun v3 =>
  Qu Pr (Is w1) (Instr.fieldAt 152 v3 0) fun v4 =>
  Qu Pr (Is w1) (Instr.loadAt 22 v4) fun v5 =>
  Qu Pr (Is w1) (binS .add 22 (.tmp 8) (.const (Value.int .u64 1)) v5 (Value.int .u64 1)) fun v6 =>
  Qu Pr (Is w1) (nilS a0) fun v7 =>
  Qu Pr (Is w1) (Instr.fieldAt 152 v7 1) fun v8 =>
  Eu Pr (Instr.storeAt 22 v8 v6) w1 fun w9 => 
  K (.tuple #[]) w9
theorem c114 {a0 : Value} {K : Value → World → Prop} {w : World} (h : t114 a0 K w) : CK Pr 114 #[a0] w K := by
  refine calls_of_RF [] Tryz.func114 rfl ?_ ?_ ?_
  · kernel_rfl
  · exact Nat.le_of_ble_eq_true rfl
  · exact cast (by kernel_rfl) h

end Go.Proofs.YtmmpogfbhelioaaGreat
/-
  The readable texts of the program's functions, printed by gen.py, and their links with the program.
  Conditions: none.
-/
namespace Go.Proofs.YtmmpogfbhelioaaGreat
set_option maxRecDepth 10000
set_option linter.unusedVariables false
set_option linter.unusedSimpArgs false
set_option linter.unusedVariables false
/-- (*pub/raft.raft).appendEntry -/
def t115 (a0 a1 : Value) (K : Value → World → Prop) (w : World) : Prop :=
  Qu Pr (Is w) (nilS a0) fun v1 =>
  Qu Pr (Is w) (Instr.fieldAt 187 v1 4) fun v2 =>
  Qu Pr (Is w) (Instr.loadAt 128 v2) fun v3 =>
  Cl Pr (callV (fn 104) #[v3]) w fun v5 w4 => 
  Qu Pr (Is w4) (Builtin.len_ #[115] 3 #[a1]) fun v6 =>
  Ef Pr (Instr.makeSlice 115 v6 v6) w4 fun v8 w7 => 
  Qu Pr (Is w7) (Builtin.len_ #[115] 3 #[a1]) fun v9 =>
  LoopW [undef, (Value.int .i64 0), undef, undef, undef, undef, undef, undef, undef, undef, undef, undef, undef, undef, undef, undef, undef, undef, undef, undef, undef, undef, undef, undef, undef, undef, undef, undef, undef, undef, undef, undef, undef, undef, undef, undef] (fun r10 τ11 w12 =>
    Qu Pr (Is w12) (binS .lss 3 (.tmp 18) (.tmp 17) (g τ11 1) v9) fun v13 =>
    If v13 (
      Qu Pr (Is w12) (Instr.indexAt 115 a1 (g τ11 1)) fun v14 =>
      Qu Pr (Is w12) (Instr.loadAt 212 v14) fun v15 =>
      Cl Pr (callV (fn 200) #[v15]) w12 fun v17 w16 => 
      Qu Pr (Is w16) (Instr.indexAt 115 v8 (g τ11 1)) fun v18 =>
      Eu Pr (Instr.storeAt 212 v18 v17) w16 fun w19 => 
      Dr w19 fun S20 w21 =>
      Qu Pr (S20) (Instr.indexAt 115 v8 (g τ11 1)) fun v22 =>
      Qu Pr (S20) (Instr.loadAt 212 v22) fun v23 =>
      Qu Pr (S20) (nilS a0) fun v24 =>
      Qu Pr (S20) (Instr.fieldAt 187 v24 1) fun v25 =>
      Qu Pr (S20) (Instr.loadAt 22 v25) fun v26 =>
      Ef Pr (Instr.box 22 v26) w21 fun v28 w27 => S20 w27 ∧ 
      Qu Pr (S20) (nilS v23) fun v29 =>
      Qu Pr (S20) (Instr.fieldAt 215 v29 0) fun v30 =>
      Eu Pr (Instr.storeAt 104 v30 v28) w27 fun w31 => S20 w31 ∧ 
      Qu Pr (Is w31) (Instr.indexAt 115 v8 (g τ11 1)) fun v32 =>
      Qu Pr (Is w31) (Instr.loadAt 212 v32) fun v33 =>
      Qu Pr (Is w31) (binS .add 22 (.tmp 44) (.const (Value.int .u64 1)) v5 (Value.int .u64 1)) fun v34 =>
      Qu Pr (Is w31) (convert 3 22 (g τ11 1)) fun v35 =>
      Qu Pr (Is w31) (binS .add 22 (.tmp 45) (.tmp 47) v34 v35) fun v36 =>
      Ef Pr (Instr.box 22 v36) w31 fun v38 w37 => 
      Qu Pr (Is w37) (nilS v33) fun v39 =>
      Qu Pr (Is w37) (Instr.fieldAt 215 v39 1) fun v40 =>
      Eu Pr (Instr.storeAt 104 v40 v38) w37 fun w41 => 
      Qu Pr (Is w41) (binS .add 3 (.tmp 18) (.const (Value.int .i64 1)) (g τ11 1) (Value.int .i64 1)) fun v42 =>
      r10 [(g τ11 1), v42, v13, (g τ11 1), v8, (g τ11 1), a1, (g τ11 1), v14, v15, v17, v18, v8, (g τ11 1), v22, v23, a0, v24, v25, v26, v28, v29, v30, v8, (g τ11 1), v32, v33, v5, v34, (g τ11 1), v35, v36, v38, v39, v40, v42] w41) (
      Cl Pr (callV (fn 201) #[a0, v8]) w12 fun v44 w43 => 
      Qu Pr (Is w43) (Op.unary .not v44) fun v45 =>
      If v45 (
        K (Value.bool false) w43) (
        Qu Pr (Is w43) (nilS a0) fun v46 =>
        Qu Pr (Is w43) (Instr.fieldAt 187 v46 4) fun v47 =>
        Qu Pr (Is w43) (Instr.loadAt 128 v47) fun v48 =>
        Cl Pr (callV (fn 202) #[v48, v8]) w43 fun v50 w49 => 
        Qu Pr (Is w49) (nilS a0) fun v51 =>
        Qu Pr (Is w49) (Instr.fieldAt 187 v51 0) fun v52 =>
        Qu Pr (Is w49) (Instr.loadAt 22 v52) fun v53 =>
        Ef Pr (Instr.box 22 v53) w49 fun v55 w54 => 
        Cl Pr (callV (fn 120) #[(Value.int .i32 4)]) w54 fun v57 w56 => 
        Ef Pr (Instr.box 22 v50) w56 fun v59 w58 => 
        Qu Pr (Is w58) (Instr.build 119 #[(1, v55), (0, v57), (5, v59)]) fun v60 =>
        Ef Pr (Instr.box 119 v60) w58 fun v62 w61 => 
        Cl Pr (callV (fn 119) #[a0, v62]) w61 fun _ w63 => 
        K (Value.bool true) w63))) w7
theorem c115 {a0 a1 : Value} {K : Value → World → Prop} {w : World} (h : t115 a0 a1 K w) : CK Pr 115 #[a0, a1] w K := by
  refine calls_of_RF [(4, [7, 18, 19, 20, 21, 22, 23, 24, 25, 26, 27, 28, 29, 30, 31, 32, 33, 34, 35, 36, 37, 38, 39, 40, 41, 42, 43, 44, 45, 46, 47, 48, 49, 50, 51, 52])] Tryz.func115 rfl ?_ ?_ ?_
  · kernel_rfl
  · exact Nat.le_of_ble_eq_true rfl
  · exact cast (by kernel_rfl) h

/-- (*pub/raft/tracker.ProgressTracker).ResetVotes -/
def t116 (a0 : Value) (K : Value → World → Prop) (w : World) : Prop :=
  Ef Pr (Instr.makeMap 139 none) w fun v2 w1 => 
  Qu Pr (Is w1) (nilS a0) fun v3 =>
  Qu Pr (Is w1) (Instr.fieldAt 141 v3 2) fun v4 =>
  Eu Pr (Instr.storeAt 139 v4 v2) w1 fun w5 => 
  K (.tuple #[]) w5
theorem c116 {a0 : Value} {K : Value → World → Prop} {w : World} (h : t116 a0 K w) : CK Pr 116 #[a0] w K := by
  refine calls_of_RF [] Tryz.func116 rfl ?_ ?_ ?_
  · kernel_rfl
  · exact Nat.le_of_ble_eq_true rfl
  · exact cast (by kernel_rfl) h

/-- (*pub/raft/raftpb.Message).GetSnapshot -/
def t117 (a0 : Value) (K : Value → World → Prop) (w : World) : Prop :=
  Qu Pr (Is w) (binS .neq 86 (.tmp 3) (.const (Value.pointer none)) a0 (Value.pointer none)) fun v1 =>
  If v1 (
    Qu Pr (Is w) (nilS a0) fun v2 =>
    Qu Pr (Is w) (Instr.fieldAt 119 v2 9) fun v3 =>
    Qu Pr (Is w) (Instr.loadAt 75 v3) fun v4 =>
    K v4 w) (
    K (Value.pointer none) w)
theorem c117 {a0 : Value} {K : Value → World → Prop} {w : World} (h : t117 a0 K w) : CK Pr 117 #[a0] w K := by
  refine calls_of_RF [] Tryz.func117 rfl ?_ ?_ ?_
  · kernel_rfl
  · exact Nat.le_of_ble_eq_true rfl
  · exact cast (by kernel_rfl) h

/-- pub/raft/raftpb.EnsureSnapshot -/
def t118 (a0 : Value) (K : Value → World → Prop) (w : World) : Prop :=
  Qu Pr (Is w) (binS .eql 75 (.tmp 4) (.const (Value.pointer none)) a0 (Value.pointer none)) fun v1 =>
  Jo (fun (p3 : Value) (w4 : World) => (
      Qu Pr (Is w4) (nilS p3) fun v6 =>
      Qu Pr (Is w4) (Instr.fieldAt 108 v6 1) fun v7 =>
      Qu Pr (Is w4) (Instr.loadAt 101 v7) fun v8 =>
      Cl Pr (callV (fn 203) #[v8]) w4 fun v10 w9 => 
      Qu Pr (Is w9) (nilS p3) fun v11 =>
      Qu Pr (Is w9) (Instr.fieldAt 108 v11 1) fun v12 =>
      Qu Pr (Is w9) (Instr.loadAt 101 v12) fun v13 =>
      Qu Pr (Is w9) (binS .eql 101 (.tmp 15) (.const (Value.pointer none)) v13 (Value.pointer none)) fun v14 =>
      Jo (fun  (w19 : World) => (
          K p3 w19 : Prop)) fun J20 =>
      If v14 (
        Qu Pr (Is w9) (nilS p3) fun v21 =>
        Qu Pr (Is w9) (Instr.fieldAt 108 v21 1) fun v22 =>
        Eu Pr (Instr.storeAt 101 v22 v10) w9 fun w23 => 
        J20 w23) (
        J20 w9) : Prop)) fun J5 =>
  If v1 (
    Ef Pr (Instr.alloc 108 true (.tuple #[])) w fun v25 w24 => 
    J5 v25 w24) (
    J5 a0 w)
theorem c118 {a0 : Value} {K : Value → World → Prop} {w : World} (h : t118 a0 K w) : CK Pr 118 #[a0] w K := by
  refine calls_of_RF [] Tryz.func118 rfl ?_ ?_ ?_
  · kernel_rfl
  · exact Nat.le_of_ble_eq_true rfl
  · exact cast (by kernel_rfl) h

@[irreducible] def t119_1 (a1 : Value) (w74 : World) (K : Value → World → Prop) (a0 : Value) : Prop :=
          Cl Pr (callV (fn 135) #[a1]) w74 fun v77 w76 => 
          Qu Pr (Is w76) (binS .eql 113 (.tmp 58) (.const (Value.int .i32 4)) v77 (Value.int .i32 4)) fun v78 =>
          Gd v78 false (fun k79 => k79 a1 w76) w76 fun v80 w81 =>
          Gd v78 false (fun k82 => Cl Pr (callV (fn 135) #[v80]) w81 fun v83x w84x => k82 v83x w84x) w81 fun v83 w84 =>
          Gd v78 false (fun k85 => Qu Pr (Is w84) (binS .eql 113 (.tmp 62) (.const (Value.int .i32 6)) v83 (Value.int .i32 6)) fun v88 => k85 v88 w84) w84 fun v86 w87 =>
          Qu Pr (Is w87) (pickS v78 (Value.bool true) v86) fun v89 =>
          Gd v89 false (fun k90 => k90 a1 w87) w87 fun v91 w92 =>
          Gd v89 false (fun k93 => Cl Pr (callV (fn 135) #[v91]) w92 fun v94x w95x => k93 v94x w95x) w92 fun v94 w95 =>
          Gd v89 false (fun k96 => Qu Pr (Is w95) (binS .eql 113 (.tmp 67) (.const (Value.int .i32 18)) v94 (Value.int .i32 18)) fun v99 => k96 v99 w95) w95 fun v97 w98 =>
          Qu Pr (Is w98) (pickS v89 (Value.bool true) v97) fun v100 =>
          Jo (fun  (w129 : World) => (
              K (.tuple #[]) w129 : Prop)) fun J130 =>
          If v100 (
            Qu Pr (Is w98) (nilS a0) fun v131 =>
            Qu Pr (Is w98) (Instr.fieldAt 187 v131 11) fun v132 =>
            Qu Pr (Is w98) (Instr.loadAt 94 v132) fun v133 =>
            Ef Pr (Instr.buildSlice 94 1 #[(0, a1)]) w98 fun v135 w134 => 
            Ef Pr (Builtin.append_ #[94, 94] 94 #[v133, v135]) w134 fun v137 w136 => 
            Qu Pr (Is w136) (nilS a0) fun v138 =>
            Qu Pr (Is w136) (Instr.fieldAt 187 v138 11) fun v139 =>
            Eu Pr (Instr.storeAt 94 v139 v137) w136 fun w140 => 
            J130 w140) (
            Dr w98 fun S141 w142 =>
            Cl Pr (callV (fn 136) #[a1]) w142 fun v144 w143 => S141 w143 ∧ 
            Qu Pr (S141) (nilS a0) fun v145 =>
            Qu Pr (S141) (Instr.fieldAt 187 v145 0) fun v146 =>
            Qu Pr (S141) (Instr.loadAt 22 v146) fun v147 =>
            Qu Pr (S141) (binS .eql 22 (.tmp 81) (.tmp 85) v144 v147) fun v148 =>
            If v148 (
              Qu Pr (Is w143) (Instr.makeInterface 9 (Value.string (ByteArray.mk #[109, 101, 115, 115, 97, 103, 101, 32, 115, 104, 111, 117, 108, 100, 32, 110, 111, 116, 32, 98, 101, 32, 115, 101, 108, 102, 45, 97, 100, 100, 114, 101, 115, 115, 101, 100, 32, 119, 104, 101, 110, 32, 115, 101, 110, 100, 105, 110, 103]))) fun _ =>
              False) (
              Qu Pr (Is w143) (nilS a0) fun v150 =>
              Qu Pr (Is w143) (Instr.fieldAt 187 v150 10) fun v151 =>
              Qu Pr (Is w143) (Instr.loadAt 94 v151) fun v152 =>
              Ef Pr (Instr.buildSlice 94 1 #[(0, a1)]) w143 fun v154 w153 => 
              Ef Pr (Builtin.append_ #[94, 94] 94 #[v152, v154]) w153 fun v156 w155 => 
              Qu Pr (Is w155) (nilS a0) fun v157 =>
              Qu Pr (Is w155) (Instr.fieldAt 187 v157 10) fun v158 =>
              Eu Pr (Instr.storeAt 94 v158 v156) w155 fun w159 => 
              J130 w159))
@[irreducible] def t119_2 (a1 : Value) (w12 : World) (K : Value → World → Prop) (a0 : Value) : Prop :=
      Cl Pr (callV (fn 135) #[a1]) w12 fun v15 w14 => 
      Qu Pr (Is w14) (binS .eql 113 (.tmp 16) (.const (Value.int .i32 5)) v15 (Value.int .i32 5)) fun v16 =>
      Gd v16 false (fun k17 => k17 a1 w14) w14 fun v18 w19 =>
      Gd v16 false (fun k20 => Cl Pr (callV (fn 135) #[v18]) w19 fun v21x w22x => k20 v21x w22x) w19 fun v21 w22 =>
      Gd v16 false (fun k23 => Qu Pr (Is w22) (binS .eql 113 (.tmp 20) (.const (Value.int .i32 6)) v21 (Value.int .i32 6)) fun v26 => k23 v26 w22) w22 fun v24 w25 =>
      Qu Pr (Is w25) (pickS v16 (Value.bool true) v24) fun v27 =>
      Gd v27 false (fun k28 => k28 a1 w25) w25 fun v29 w30 =>
      Gd v27 false (fun k31 => Cl Pr (callV (fn 135) #[v29]) w30 fun v32x w33x => k31 v32x w33x) w30 fun v32 w33 =>
      Gd v27 false (fun k34 => Qu Pr (Is w33) (binS .eql 113 (.tmp 25) (.const (Value.int .i32 17)) v32 (Value.int .i32 17)) fun v37 => k34 v37 w33) w33 fun v35 w36 =>
      Qu Pr (Is w36) (pickS v27 (Value.bool true) v35) fun v38 =>
      Gd v38 false (fun k39 => k39 a1 w36) w36 fun v40 w41 =>
      Gd v38 false (fun k42 => Cl Pr (callV (fn 135) #[v40]) w41 fun v43x w44x => k42 v43x w44x) w41 fun v43 w44 =>
      Gd v38 false (fun k45 => Qu Pr (Is w44) (binS .eql 113 (.tmp 30) (.const (Value.int .i32 18)) v43 (Value.int .i32 18)) fun v48 => k45 v48 w44) w44 fun v46 w47 =>
      Qu Pr (Is w47) (pickS v38 (Value.bool true) v46) fun v49 =>
      Jo (fun  (w74 : World) => (t119_1 a1 w74 K a0 : Prop)) fun J75 =>
      If v49 (
        Cl Pr (callV (fn 138) #[a1]) w47 fun v161 w160 => 
        Qu Pr (Is w160) (binS .eql 22 (.tmp 34) (.const (Value.int .u64 0)) v161 (Value.int .u64 0)) fun v162 =>
        If v162 (
          Qu Pr (Is w160) (Instr.makeInterface 9 (Value.string (ByteArray.mk #[116, 101, 114, 109, 32, 115, 104, 111, 117, 108, 100, 32, 98, 101, 32, 115, 101, 116, 32, 119, 104, 101, 110, 32, 115, 101, 110, 100, 105, 110, 103]))) fun _ =>
          False) (
          J75 w160)) (
        Cl Pr (callV (fn 138) #[a1]) w47 fun v165 w164 => 
        Qu Pr (Is w164) (binS .neq 22 (.tmp 38) (.const (Value.int .u64 0)) v165 (Value.int .u64 0)) fun v166 =>
        If v166 (
          Qu Pr (Is w164) (Instr.makeInterface 9 (Value.string (ByteArray.mk #[116, 101, 114, 109, 32, 115, 104, 111, 117, 108, 100, 32, 110, 111, 116, 32, 98, 101, 32, 115, 101, 116, 32, 119, 104, 101, 110, 32, 115, 101, 110, 100, 105, 110, 103, 32, 40, 119, 97, 115]))) fun _ =>
          False) (
          Cl Pr (callV (fn 135) #[a1]) w164 fun v169 w168 => 
          Qu Pr (Is w168) (binS .neq 113 (.tmp 42) (.const (Value.int .i32 2)) v169 (Value.int .i32 2)) fun v170 =>
          Gd v170 true (fun k171 => k171 a1 w168) w168 fun v172 w173 =>
          Gd v170 true (fun k174 => Cl Pr (callV (fn 135) #[v172]) w173 fun v175x w176x => k174 v175x w176x) w173 fun v175 w176 =>
          Gd v170 true (fun k177 => Qu Pr (Is w176) (binS .neq 113 (.tmp 46) (.const (Value.int .i32 15)) v175 (Value.int .i32 15)) fun v180 => k177 v180 w176) w176 fun v178 w179 =>
          Qu Pr (Is w179) (pickS v170 v178 (Value.bool false)) fun v181 =>
          Jo (fun  (w190 : World) => (
              J75 w190 : Prop)) fun J191 =>
          If v181 (
            Qu Pr (Is w179) (nilS a0) fun v192 =>
            Qu Pr (Is w179) (Instr.fieldAt 187 v192 1) fun v193 =>
            Qu Pr (Is w179) (Instr.loadAt 22 v193) fun v194 =>
            Ef Pr (Instr.box 22 v194) w179 fun v196 w195 => 
            Qu Pr (Is w195) (nilS a1) fun v197 =>
            Qu Pr (Is w195) (Instr.fieldAt 119 v197 3) fun v198 =>
            Eu Pr (Instr.storeAt 104 v198 v196) w195 fun w199 => 
            J191 w199) (
            J191 w179)))
/-- (*pub/raft.raft).send -/
def t119 (a0 a1 : Value) (K : Value → World → Prop) (w : World) : Prop :=
  Cl Pr (callV (fn 137) #[a1]) w fun v2 w1 => 
  Qu Pr (Is w1) (binS .eql 22 (.tmp 5) (.const (Value.int .u64 0)) v2 (Value.int .u64 0)) fun v3 =>
  Jo (fun  (w12 : World) => (t119_2 a1 w12 K a0 : Prop)) fun J13 =>
  If v3 (
    Qu Pr (Is w1) (nilS a0) fun v200 =>
    Qu Pr (Is w1) (Instr.fieldAt 187 v200 0) fun v201 =>
    Qu Pr (Is w1) (Instr.loadAt 22 v201) fun v202 =>
    Ef Pr (Instr.box 22 v202) w1 fun v204 w203 => 
    Qu Pr (Is w203) (nilS a1) fun v205 =>
    Qu Pr (Is w203) (Instr.fieldAt 119 v205 2) fun v206 =>
    Eu Pr (Instr.storeAt 104 v206 v204) w203 fun w207 => 
    J13 w207) (
    J13 w1)
theorem c119 {a0 a1 : Value} {K : Value → World → Prop} {w : World} (h : t119 a0 a1 K w) : CK Pr 119 #[a0, a1] w K := by
  refine calls_of_RF [] Tryz.func119 rfl ?_ ?_ ?_
  · kernel_rfl
  · exact Nat.le_of_ble_eq_true rfl
  · exact cast (by kernel_rfl) h

/-- (pub/raft/raftpb.MessageType).Enum -/
def t120 (a0 : Value) (K : Value → World → Prop) (w : World) : Prop :=
  Ef Pr (Instr.alloc 113 true (.tuple #[])) w fun v2 w1 => 
  Qu Pr (Is w1) (nilS v2) fun v3 =>
  Eu Pr (Instr.storeAt 113 v3 a0) w1 fun w4 => 
  K v2 w4
theorem c120 {a0 : Value} {K : Value → World → Prop} {w : World} (h : t120 a0 K w) : CK Pr 120 #[a0] w K := by
  refine calls_of_RF [] Tryz.func120 rfl ?_ ?_ ?_
  · kernel_rfl
  · exact Nat.le_of_ble_eq_true rfl
  · exact cast (by kernel_rfl) h

/-- impl.entryTo -/
def t121 (a0 : Value) (K : Value → World → Prop) (w : World) : Prop :=
  Ef Pr (Instr.box 56 a0) w fun v2 w1 => 
  Qu Pr (Is w1) (Instr.fieldAt 56 v2 0) fun v3 =>
  Qu Pr (Is w1) (Instr.loadAt 22 v3) fun v4 =>
  Ef Pr (Instr.box 22 v4) w1 fun v6 w5 => 
  Qu Pr (Is w5) (Instr.fieldAt 56 v2 1) fun v7 =>
  Qu Pr (Is w5) (Instr.loadAt 22 v7) fun v8 =>
  Ef Pr (Instr.box 22 v8) w5 fun v10 w9 => 
  Qu Pr (Is w9) (Instr.fieldAt 56 v2 3) fun v11 =>
  Qu Pr (Is w9) (Instr.loadAt 9 v11) fun v12 =>
  Cl Pr (callV (fn 55) #[v12]) w9 fun v14 w13 => 
  Qu Pr (Is w13) (Instr.build 215 #[(0, v6), (1, v10), (3, v14)]) fun v15 =>
  Ef Pr (Instr.box 215 v15) w13 fun v17 w16 => 
  Qu Pr (Is w16) (Instr.fieldAt 56 v2 2) fun v18 =>
  Qu Pr (Is w16) (Instr.loadAt 3 v18) fun v19 =>
  Qu Pr (Is w16) (binS .neq 3 (.tmp 16) (.const (Value.int .i64 0)) v19 (Value.int .i64 0)) fun v20 =>
  Jo (fun  (w28 : World) => (
      K v17 w28 : Prop)) fun J29 =>
  If v20 (
    Qu Pr (Is w16) (Instr.fieldAt 56 v2 2) fun v30 =>
    Qu Pr (Is w16) (Instr.loadAt 3 v30) fun v31 =>
    Qu Pr (Is w16) (convert 3 233 v31) fun v32 =>
    Ef Pr (Instr.box 233 v32) w16 fun v34 w33 => 
    Qu Pr (Is w33) (nilS v17) fun v35 =>
    Qu Pr (Is w33) (Instr.fieldAt 215 v35 2) fun v36 =>
    Eu Pr (Instr.storeAt 213 v36 v34) w33 fun w37 => 
    J29 w37) (
    J29 w16)
theorem c121 {a0 : Value} {K : Value → World → Prop} {w : World} (h : t121 a0 K w) : CK Pr 121 #[a0] w K := by
  refine calls_of_RF [] Tryz.func121 rfl ?_ ?_ ?_
  · kernel_rfl
  · exact Nat.le_of_ble_eq_true rfl
  · exact cast (by kernel_rfl) h

/-- (*pub/raft/raftpb.Snapshot).ZzClone -/
def t122 (a0 : Value) (K : Value → World → Prop) (w : World) : Prop :=
  Qu Pr (Is w) (binS .eql 75 (.tmp 3) (.const (Value.pointer none)) a0 (Value.pointer none)) fun v1 =>
  If v1 (
    K (Value.pointer none) w) (
    Dr w fun S2 w3 =>
    Qu Pr (S2) (nilS a0) fun v4 =>
    Qu Pr (S2) (Instr.fieldAt 108 v4 0) fun v5 =>
    Qu Pr (S2) (Instr.loadAt 99 v5) fun v6 =>
    Cl Pr (callV (fn 204) #[v6]) w3 fun v8 w7 => S2 w7 ∧ 
    Qu Pr (S2) (nilS a0) fun v9 =>
    Qu Pr (S2) (Instr.fieldAt 108 v9 1) fun v10 =>
    Qu Pr (S2) (Instr.loadAt 101 v10) fun v11 =>
    Cl Pr (callV (fn 205) #[v11]) w7 fun v13 w12 => S2 w12 ∧ 
    Qu Pr (S2) (Instr.build 108 #[(0, v8), (1, v13)]) fun v14 =>
    Ef Pr (Instr.box 108 v14) w12 fun v16 w15 => S2 w15 ∧ 
    K v16 w15)
theorem c122 {a0 : Value} {K : Value → World → Prop} {w : World} (h : t122 a0 K w) : CK Pr 122 #[a0] w K := by
  refine calls_of_RF [] Tryz.func122 rfl ?_ ?_ ?_
  · kernel_rfl
  · exact Nat.le_of_ble_eq_true rfl
  · exact cast (by kernel_rfl) h

/-- (*pub/raft.MemoryStorage).firstIndex -/
def t123 (a0 : Value) (K : Value → World → Prop) (w : World) : Prop :=
  Qu Pr (Is w) (nilS a0) fun v1 =>
  Qu Pr (Is w) (Instr.fieldAt 225 v1 2) fun v2 =>
  Qu Pr (Is w) (Instr.loadAt 115 v2) fun v3 =>
  Qu Pr (Is w) (Instr.indexAt 115 v3 (Value.int .i64 0)) fun v4 =>
  Qu Pr (Is w) (Instr.loadAt 212 v4) fun v5 =>
  Cl Pr (callV (fn 124) #[v5]) w fun v7 w6 => 
  Qu Pr (Is w6) (binS .add 22 (.tmp 9) (.const (Value.int .u64 1)) v7 (Value.int .u64 1)) fun v8 =>
  K v8 w6
theorem c123 {a0 : Value} {K : Value → World → Prop} {w : World} (h : t123 a0 K w) : CK Pr 123 #[a0] w K := by
  refine calls_of_RF [] Tryz.func123 rfl ?_ ?_ ?_
  · kernel_rfl
  · exact Nat.le_of_ble_eq_true rfl
  · exact cast (by kernel_rfl) h

/-- (*pub/raft/raftpb.Entry).GetIndex -/
def t124 (a0 : Value) (K : Value → World → Prop) (w : World) : Prop :=
  Qu Pr (Is w) (binS .neq 212 (.tmp 3) (.const (Value.pointer none)) a0 (Value.pointer none)) fun v1 =>
  Gd v1 true (fun k2 => k2 a0 w) w fun v3 w4 =>
  Gd v1 true (fun k5 => Qu Pr (Is w4) (nilS v3) fun v8 => k5 v8 w4) w4 fun v6 w7 =>
  Gd v1 true (fun k9 => Qu Pr (Is w7) (Instr.fieldAt 215 v6 1) fun v12 => k9 v12 w7) w7 fun v10 w11 =>
  Gd v1 true (fun k13 => Qu Pr (Is w11) (Instr.loadAt 104 v10) fun v16 => k13 v16 w11) w11 fun v14 w15 =>
  Gd v1 true (fun k17 => Qu Pr (Is w15) (binS .neq 104 (.tmp 9) (.const (Value.pointer none)) v14 (Value.pointer none)) fun v20 => k17 v20 w15) w15 fun v18 w19 =>
  Qu Pr (Is w19) (pickS v1 v18 (Value.bool false)) fun v21 =>
  If v21 (
    Qu Pr (Is w19) (nilS a0) fun v22 =>
    Qu Pr (Is w19) (Instr.fieldAt 215 v22 1) fun v23 =>
    Qu Pr (Is w19) (Instr.loadAt 104 v23) fun v24 =>
    Qu Pr (Is w19) (nilS v24) fun v25 =>
    Qu Pr (Is w19) (Instr.loadAt 22 v25) fun v26 =>
    K v26 w19) (
    K (Value.int .u64 0) w19)
theorem c124 {a0 : Value} {K : Value → World → Prop} {w : World} (h : t124 a0 K w) : CK Pr 124 #[a0] w K := by
  refine calls_of_RF [] Tryz.func124 rfl ?_ ?_ ?_
  · kernel_rfl
  · exact Nat.le_of_ble_eq_true rfl
  · exact cast (by kernel_rfl) h

/-- pub/raft.newLogWithSize -/
def t125 (a0 a1 : Value) (K : Value → World → Prop) (w : World) : Prop :=
  Cl Pr (callM a0 "FirstIndex" #[]) w fun v2 w1 => 
  Qu Pr (Is w1) (Instr.extract v2 0) fun v3 =>
  Qu Pr (Is w1) (Instr.extract v2 1) fun v4 =>
  Qu Pr (Is w1) (binS .neq 125 (.tmp 13) (.const Value.nilIface) v4 Value.nilIface) fun v5 =>
  If v5 (
    False) (
    Cl Pr (callM a0 "LastIndex" #[]) w1 fun v7 w6 => 
    Qu Pr (Is w6) (Instr.extract v7 0) fun v8 =>
    Qu Pr (Is w6) (Instr.extract v7 1) fun v9 =>
    Qu Pr (Is w6) (binS .neq 125 (.tmp 21) (.const Value.nilIface) v9 Value.nilIface) fun v10 =>
    If v10 (
      False) (
      Qu Pr (Is w6) (binS .add 22 (.tmp 25) (.const (Value.int .u64 1)) v8 (Value.int .u64 1)) fun v11 =>
      Qu Pr (Is w6) (binS .add 22 (.tmp 27) (.const (Value.int .u64 1)) v8 (Value.int .u64 1)) fun v12 =>
      Qu Pr (Is w6) (Instr.build 194 #[(2, v11), (4, v12)]) fun v13 =>
      Qu Pr (Is w6) (binS .sub 22 (.tmp 31) (.const (Value.int .u64 1)) v3 (Value.int .u64 1)) fun v14 =>
      Qu Pr (Is w6) (binS .sub 22 (.tmp 33) (.const (Value.int .u64 1)) v3 (Value.int .u64 1)) fun v15 =>
      Qu Pr (Is w6) (binS .sub 22 (.tmp 35) (.const (Value.int .u64 1)) v3 (Value.int .u64 1)) fun v16 =>
      Qu Pr (Is w6) (Instr.build 196 #[(0, a0), (1, v13), (5, a1), (2, v14), (3, v15), (4, v16)]) fun v17 =>
      Ef Pr (Instr.box 196 v17) w6 fun v19 w18 => 
      K v19 w18))
theorem c125 {a0 a1 : Value} {K : Value → World → Prop} {w : World} (h : t125 a0 a1 K w) : CK Pr 125 #[a0, a1] w K := by
  refine calls_of_RF [] Tryz.func125 rfl ?_ ?_ ?_
  · kernel_rfl
  · exact Nat.le_of_ble_eq_true rfl
  · exact cast (by kernel_rfl) h

/-- pub/raft.newReadOnly -/
def t127 (a0 : Value) (K : Value → World → Prop) (w : World) : Prop :=
  Ef Pr (Instr.makeMap 262 none) w fun v2 w1 => 
  Qu Pr (Is w1) (Instr.build 265 #[(0, a0), (1, v2)]) fun v3 =>
  Ef Pr (Instr.box 265 v3) w1 fun v5 w4 => 
  K v5 w4
theorem c127 {a0 : Value} {K : Value → World → Prop} {w : World} (h : t127 a0 K w) : CK Pr 127 #[a0] w K := by
  refine calls_of_RF [] Tryz.func127 rfl ?_ ?_ ?_
  · kernel_rfl
  · exact Nat.le_of_ble_eq_true rfl
  · exact cast (by kernel_rfl) h

/-- (*pub/raft/raftpb.Entry).GetTerm -/
def t128 (a0 : Value) (K : Value → World → Prop) (w : World) : Prop :=
  Qu Pr (Is w) (binS .neq 212 (.tmp 3) (.const (Value.pointer none)) a0 (Value.pointer none)) fun v1 =>
  Gd v1 true (fun k2 => k2 a0 w) w fun v3 w4 =>
  Gd v1 true (fun k5 => Qu Pr (Is w4) (nilS v3) fun v8 => k5 v8 w4) w4 fun v6 w7 =>
  Gd v1 true (fun k9 => Qu Pr (Is w7) (Instr.fieldAt 215 v6 0) fun v12 => k9 v12 w7) w7 fun v10 w11 =>
  Gd v1 true (fun k13 => Qu Pr (Is w11) (Instr.loadAt 104 v10) fun v16 => k13 v16 w11) w11 fun v14 w15 =>
  Gd v1 true (fun k17 => Qu Pr (Is w15) (binS .neq 104 (.tmp 9) (.const (Value.pointer none)) v14 (Value.pointer none)) fun v20 => k17 v20 w15) w15 fun v18 w19 =>
  Qu Pr (Is w19) (pickS v1 v18 (Value.bool false)) fun v21 =>
  If v21 (
    Qu Pr (Is w19) (nilS a0) fun v22 =>
    Qu Pr (Is w19) (Instr.fieldAt 215 v22 0) fun v23 =>
    Qu Pr (Is w19) (Instr.loadAt 104 v23) fun v24 =>
    Qu Pr (Is w19) (nilS v24) fun v25 =>
    Qu Pr (Is w19) (Instr.loadAt 22 v25) fun v26 =>
    K v26 w19) (
    K (Value.int .u64 0) w19)
theorem c128 {a0 : Value} {K : Value → World → Prop} {w : World} (h : t128 a0 K w) : CK Pr 128 #[a0] w K := by
  refine calls_of_RF [] Tryz.func128 rfl ?_ ?_ ?_
  · kernel_rfl
  · exact Nat.le_of_ble_eq_true rfl
  · exact cast (by kernel_rfl) h

/-- (*pub/raft/raftpb.Entry).GetType -/
def t129 (a0 : Value) (K : Value → World → Prop) (w : World) : Prop :=
  Qu Pr (Is w) (binS .neq 212 (.tmp 3) (.const (Value.pointer none)) a0 (Value.pointer none)) fun v1 =>
  Gd v1 true (fun k2 => k2 a0 w) w fun v3 w4 =>
  Gd v1 true (fun k5 => Qu Pr (Is w4) (nilS v3) fun v8 => k5 v8 w4) w4 fun v6 w7 =>
  Gd v1 true (fun k9 => Qu Pr (Is w7) (Instr.fieldAt 215 v6 2) fun v12 => k9 v12 w7) w7 fun v10 w11 =>
  Gd v1 true (fun k13 => Qu Pr (Is w11) (Instr.loadAt 213 v10) fun v16 => k13 v16 w11) w11 fun v14 w15 =>
  Gd v1 true (fun k17 => Qu Pr (Is w15) (binS .neq 213 (.tmp 9) (.const (Value.pointer none)) v14 (Value.pointer none)) fun v20 => k17 v20 w15) w15 fun v18 w19 =>
  Qu Pr (Is w19) (pickS v1 v18 (Value.bool false)) fun v21 =>
  If v21 (
    Qu Pr (Is w19) (nilS a0) fun v22 =>
    Qu Pr (Is w19) (Instr.fieldAt 215 v22 2) fun v23 =>
    Qu Pr (Is w19) (Instr.loadAt 213 v23) fun v24 =>
    Qu Pr (Is w19) (nilS v24) fun v25 =>
    Qu Pr (Is w19) (Instr.loadAt 233 v25) fun v26 =>
    K v26 w19) (
    K (Value.int .i32 0) w19)
theorem c129 {a0 : Value} {K : Value → World → Prop} {w : World} (h : t129 a0 K w) : CK Pr 129 #[a0] w K := by
  refine calls_of_RF [] Tryz.func129 rfl ?_ ?_ ?_
  · kernel_rfl
  · exact Nat.le_of_ble_eq_true rfl
  · exact cast (by kernel_rfl) h

/-- (*pub/raft/raftpb.Entry).GetData -/
def t130 (a0 : Value) (K : Value → World → Prop) (w : World) : Prop :=
  Qu Pr (Is w) (binS .neq 212 (.tmp 3) (.const (Value.pointer none)) a0 (Value.pointer none)) fun v1 =>
  If v1 (
    Qu Pr (Is w) (nilS a0) fun v2 =>
    Qu Pr (Is w) (Instr.fieldAt 215 v2 3) fun v3 =>
    Qu Pr (Is w) (Instr.loadAt 99 v3) fun v4 =>
    K v4 w) (
    K (Value.slice none 0 0) w)
theorem c130 {a0 : Value} {K : Value → World → Prop} {w : World} (h : t130 a0 K w) : CK Pr 130 #[a0] w K := by
  refine calls_of_RF [] Tryz.func130 rfl ?_ ?_ ?_
  · kernel_rfl
  · exact Nat.le_of_ble_eq_true rfl
  · exact cast (by kernel_rfl) h

/-- (*pub/raft/raftpb.Snapshot).GetData -/
def t132 (a0 : Value) (K : Value → World → Prop) (w : World) : Prop :=
  Qu Pr (Is w) (binS .neq 75 (.tmp 3) (.const (Value.pointer none)) a0 (Value.pointer none)) fun v1 =>
  If v1 (
    Qu Pr (Is w) (nilS a0) fun v2 =>
    Qu Pr (Is w) (Instr.fieldAt 108 v2 0) fun v3 =>
    Qu Pr (Is w) (Instr.loadAt 99 v3) fun v4 =>
    K v4 w) (
    K (Value.slice none 0 0) w)
theorem c132 {a0 : Value} {K : Value → World → Prop} {w : World} (h : t132 a0 K w) : CK Pr 132 #[a0] w K := by
  refine calls_of_RF [] Tryz.func132 rfl ?_ ?_ ?_
  · kernel_rfl
  · exact Nat.le_of_ble_eq_true rfl
  · exact cast (by kernel_rfl) h

/-- impl.confFrom -/
def t133 (a0 : Value) (K : Value → World → Prop) (w : World) : Prop :=
  Ef Pr (Instr.alloc 25 true (.tuple #[])) w fun v2 w1 => 
  Cl Pr (callV (fn 210) #[a0]) w1 fun v4 w3 => 
  Cl Pr (callV (fn 107) #[v4]) w3 fun v6 w5 => 
  Cl Pr (callV (fn 211) #[a0]) w5 fun v8 w7 => 
  Cl Pr (callV (fn 107) #[v8]) w7 fun v10 w9 => 
  Cl Pr (callV (fn 212) #[a0]) w9 fun v12 w11 => 
  Cl Pr (callV (fn 107) #[v12]) w11 fun v14 w13 => 
  Cl Pr (callV (fn 213) #[a0]) w13 fun v16 w15 => 
  Cl Pr (callV (fn 107) #[v16]) w15 fun v18 w17 => 
  Cl Pr (callV (fn 156) #[a0]) w17 fun v20 w19 => 
  Qu Pr (Is w19) (Instr.build 25 #[(0, v6), (1, v10), (2, v14), (3, v18), (4, v20)]) fun v21 =>
  Eu Pr (Instr.storeAt 25 v2 v21) w19 fun w22 => 
  Qu Pr (Is w22) (Instr.loadAt 25 v2) fun v23 =>
  K v23 w22
theorem c133 {a0 : Value} {K : Value → World → Prop} {w : World} (h : t133 a0 K w) : CK Pr 133 #[a0] w K := by
  refine calls_of_RF [] Tryz.func133 rfl ?_ ?_ ?_
  · kernel_rfl
  · exact Nat.le_of_ble_eq_true rfl
  · exact cast (by kernel_rfl) h

@[irreducible] def t134_1 (w3 : World) (a0 : Value) (τ2 : List Value) (r1 : List Value → World → Prop) (v4 : Value) (v5 : Value) (v6 : Value) (v7 : Value) : Prop :=
      Dr w3 fun S8 w9 =>
      Qu Pr (S8) (nilS a0) fun v10 =>
      Qu Pr (S8) (Instr.fieldAt 230 v10 5) fun v11 =>
      Qu Pr (S8) (Instr.loadAt 228 v11) fun v12 =>
      Qu Pr (S8) (nilS a0) fun v13 =>
      Qu Pr (S8) (Instr.fieldAt 230 v13 0) fun v14 =>
      Qu Pr (S8) (Instr.loadAt 3 v14) fun v15 =>
      Qu Pr (S8) (binS .add 3 (.tmp 23) (.tmp 24) v15 (g τ2 2)) fun v16 =>
      Qu Pr (S8) (nilS a0) fun v17 =>
      Qu Pr (S8) (Instr.fieldAt 230 v17 3) fun v18 =>
      Qu Pr (S8) (Instr.loadAt 3 v18) fun v19 =>
      Qu Pr (S8) (binS .rem 3 (.tmp 25) (.tmp 29) v16 v19) fun v20 =>
      Qu Pr (S8) (Instr.indexAt 228 v12 v20) fun v21 =>
      Qu Pr (S8) (Instr.loadAt 302 v21) fun v22 =>
      Ef Pr (Instr.alloc 302 true (.tuple #[])) w9 fun v24 w23 => S8 w23 ∧ 
      Eu Pr (Instr.storeAt 302 v24 v22) w23 fun w25 => S8 w25 ∧ 
      Jo (fun (p28 : Value) (p29 : Value) (p30 : Value) (p31 : Value) (p32 : Value) (p33 : Value) (p34 : Value) (p35 : Value) (p36 : Value) (p37 : Value) (p38 : Value) (p39 : Value) (w40 : World) => (
          Qu Pr (Is w40) (binS .add 3 (.tmp 14) (.const (Value.int .i64 1)) (g τ2 2) (Value.int .i64 1)) fun v42 =>
          r1 [p38, p39, v42, v24, (g τ2 2), a0, v4, v5, v6, v7, (g τ2 2), v42, a0, v10, v11, v12, a0, v13, v14, v15, (g τ2 2), v16, a0, v17, v18, v19, v20, v21, v22, p28, p29, p30, p31, p32, p33, p34, p35, p36, p37] w40 : Prop)) fun J41 =>
      Dr w25 fun S26 w27 =>
      Qu Pr (S26) (Instr.fieldAt 302 v24 0) fun v43 =>
      Qu Pr (S26) (Instr.loadAt 22 v43) fun v44 =>
      Qu Pr (S26) (Instr.fieldAt 302 v24 1) fun v45 =>
      Qu Pr (S26) (Instr.loadAt 22 v45) fun v46 =>
      (
        Ef Pr (Instr.buildSlice 23 1 #[(0, v44)]) w27 fun v48 w47 => S26 w47 ∧ 
        (
          Ef Pr (Builtin.append_ #[23, 23] 23 #[(g τ2 0), v48]) w47 fun v50 w49 => S26 w49 ∧ 
          Ef Pr (Instr.buildSlice 23 1 #[(0, v46)]) w49 fun v52 w51 => S26 w51 ∧ 
          Ef Pr (Builtin.append_ #[23, 23] 23 #[(g τ2 1), v52]) w51 fun v54 w53 => S26 w53 ∧ 
          J41 (g τ2 0) v43 v44 v48 v50 (g τ2 1) v45 v46 v52 v54 v50 v54 w53) ∧
        (
          Ef Pr (Instr.buildSlice 23 1 #[(0, v46)]) w47 fun v56 w55 => S26 w55 ∧ 
          Ef Pr (Builtin.append_ #[23, 23] 23 #[(g τ2 0), v48]) w55 fun v58 w57 => S26 w57 ∧ 
          Ef Pr (Builtin.append_ #[23, 23] 23 #[(g τ2 1), v56]) w57 fun v60 w59 => S26 w59 ∧ 
          J41 (g τ2 0) v43 v44 v48 v58 (g τ2 1) v45 v46 v56 v60 v58 v60 w59)) ∧
      (
        Ef Pr (Instr.buildSlice 23 1 #[(0, v46)]) w27 fun v62 w61 => S26 w61 ∧ 
        Ef Pr (Instr.buildSlice 23 1 #[(0, v44)]) w61 fun v64 w63 => S26 w63 ∧ 
        Ef Pr (Builtin.append_ #[23, 23] 23 #[(g τ2 0), v64]) w63 fun v66 w65 => S26 w65 ∧ 
        Ef Pr (Builtin.append_ #[23, 23] 23 #[(g τ2 1), v62]) w65 fun v68 w67 => S26 w67 ∧ 
        J41 (g τ2 0) v43 v44 v64 v66 (g τ2 1) v45 v46 v62 v68 v66 v68 w67)
/-- pub/raft/tracker.ZzFlights -/
def t134 (a0 : Value) (K : Value → World → Prop) (w : World) : Prop :=
  LoopW [(Value.slice none 0 0), (Value.slice none 0 0), (Value.int .i64 0), undef, undef, undef, undef, undef, undef, undef, undef, undef, undef, undef, undef, undef, undef, undef, undef, undef, undef, undef, undef, undef, undef, undef, undef, undef, undef, undef, undef, undef, undef, undef, undef, undef, undef, undef, undef] (fun r1 τ2 w3 =>
    Qu Pr (Is w3) (nilS a0) fun v4 =>
    Qu Pr (Is w3) (Instr.fieldAt 230 v4 1) fun v5 =>
    Qu Pr (Is w3) (Instr.loadAt 3 v5) fun v6 =>
    Qu Pr (Is w3) (binS .lss 3 (.tmp 8) (.tmp 12) (g τ2 2) v6) fun v7 =>
    If v7 (t134_1 w3 a0 τ2 r1 v4 v5 v6 v7) (
      Dr w3 fun S69 w70 =>
      Qu Pr (S69) (nilS a0) fun v71 =>
      Qu Pr (S69) (Instr.fieldAt 230 v71 3) fun v72 =>
      Qu Pr (S69) (Instr.loadAt 3 v72) fun v73 =>
      Qu Pr (S69) (nilS a0) fun v74 =>
      Qu Pr (S69) (Instr.fieldAt 230 v74 4) fun v75 =>
      Qu Pr (S69) (Instr.loadAt 22 v75) fun v76 =>
      K (.tuple #[v73, v76, (g τ2 0), (g τ2 1)]) w70)) w
theorem c134 {a0 : Value} {K : Value → World → Prop} {w : World} (h : t134 a0 K w) : CK Pr 134 #[a0] w K := by
  refine calls_of_RF [(2, [4, 5, 6, 7, 8, 9, 10, 11, 12, 13, 14, 15, 16, 17, 18, 19, 20, 21, 22, 23, 24, 25, 26, 27, 28, 29, 30, 31, 32, 33, 34, 35, 36, 37, 38, 39, 40, 41, 42])] Tryz.func134 rfl ?_ ?_ ?_
  · kernel_rfl
  · exact Nat.le_of_ble_eq_true rfl
  · exact cast (by kernel_rfl) h

/-- (*pub/raft/raftpb.Message).GetType -/
def t135 (a0 : Value) (K : Value → World → Prop) (w : World) : Prop :=
  Qu Pr (Is w) (binS .neq 86 (.tmp 3) (.const (Value.pointer none)) a0 (Value.pointer none)) fun v1 =>
  Gd v1 true (fun k2 => k2 a0 w) w fun v3 w4 =>
  Gd v1 true (fun k5 => Qu Pr (Is w4) (nilS v3) fun v8 => k5 v8 w4) w4 fun v6 w7 =>
  Gd v1 true (fun k9 => Qu Pr (Is w7) (Instr.fieldAt 119 v6 0) fun v12 => k9 v12 w7) w7 fun v10 w11 =>
  Gd v1 true (fun k13 => Qu Pr (Is w11) (Instr.loadAt 112 v10) fun v16 => k13 v16 w11) w11 fun v14 w15 =>
  Gd v1 true (fun k17 => Qu Pr (Is w15) (binS .neq 112 (.tmp 9) (.const (Value.pointer none)) v14 (Value.pointer none)) fun v20 => k17 v20 w15) w15 fun v18 w19 =>
  Qu Pr (Is w19) (pickS v1 v18 (Value.bool false)) fun v21 =>
  If v21 (
    Qu Pr (Is w19) (nilS a0) fun v22 =>
    Qu Pr (Is w19) (Instr.fieldAt 119 v22 0) fun v23 =>
    Qu Pr (Is w19) (Instr.loadAt 112 v23) fun v24 =>
    Qu Pr (Is w19) (nilS v24) fun v25 =>
    Qu Pr (Is w19) (Instr.loadAt 113 v25) fun v26 =>
    K v26 w19) (
    K (Value.int .i32 0) w19)
theorem c135 {a0 : Value} {K : Value → World → Prop} {w : World} (h : t135 a0 K w) : CK Pr 135 #[a0] w K := by
  refine calls_of_RF [] Tryz.func135 rfl ?_ ?_ ?_
  · kernel_rfl
  · exact Nat.le_of_ble_eq_true rfl
  · exact cast (by kernel_rfl) h

/-- (*pub/raft/raftpb.Message).GetTo -/
def t136 (a0 : Value) (K : Value → World → Prop) (w : World) : Prop :=
  Qu Pr (Is w) (binS .neq 86 (.tmp 3) (.const (Value.pointer none)) a0 (Value.pointer none)) fun v1 =>
  Gd v1 true (fun k2 => k2 a0 w) w fun v3 w4 =>
  Gd v1 true (fun k5 => Qu Pr (Is w4) (nilS v3) fun v8 => k5 v8 w4) w4 fun v6 w7 =>
  Gd v1 true (fun k9 => Qu Pr (Is w7) (Instr.fieldAt 119 v6 1) fun v12 => k9 v12 w7) w7 fun v10 w11 =>
  Gd v1 true (fun k13 => Qu Pr (Is w11) (Instr.loadAt 104 v10) fun v16 => k13 v16 w11) w11 fun v14 w15 =>
  Gd v1 true (fun k17 => Qu Pr (Is w15) (binS .neq 104 (.tmp 9) (.const (Value.pointer none)) v14 (Value.pointer none)) fun v20 => k17 v20 w15) w15 fun v18 w19 =>
  Qu Pr (Is w19) (pickS v1 v18 (Value.bool false)) fun v21 =>
  If v21 (
    Qu Pr (Is w19) (nilS a0) fun v22 =>
    Qu Pr (Is w19) (Instr.fieldAt 119 v22 1) fun v23 =>
    Qu Pr (Is w19) (Instr.loadAt 104 v23) fun v24 =>
    Qu Pr (Is w19) (nilS v24) fun v25 =>
    Qu Pr (Is w19) (Instr.loadAt 22 v25) fun v26 =>
    K v26 w19) (
    K (Value.int .u64 0) w19)
theorem c136 {a0 : Value} {K : Value → World → Prop} {w : World} (h : t136 a0 K w) : CK Pr 136 #[a0] w K := by
  refine calls_of_RF [] Tryz.func136 rfl ?_ ?_ ?_
  · kernel_rfl
  · exact Nat.le_of_ble_eq_true rfl
  · exact cast (by kernel_rfl) h

/-- (*pub/raft/raftpb.Message).GetFrom -/
def t137 (a0 : Value) (K : Value → World → Prop) (w : World) : Prop :=
  Qu Pr (Is w) (binS .neq 86 (.tmp 3) (.const (Value.pointer none)) a0 (Value.pointer none)) fun v1 =>
  Gd v1 true (fun k2 => k2 a0 w) w fun v3 w4 =>
  Gd v1 true (fun k5 => Qu Pr (Is w4) (nilS v3) fun v8 => k5 v8 w4) w4 fun v6 w7 =>
  Gd v1 true (fun k9 => Qu Pr (Is w7) (Instr.fieldAt 119 v6 2) fun v12 => k9 v12 w7) w7 fun v10 w11 =>
  Gd v1 true (fun k13 => Qu Pr (Is w11) (Instr.loadAt 104 v10) fun v16 => k13 v16 w11) w11 fun v14 w15 =>
  Gd v1 true (fun k17 => Qu Pr (Is w15) (binS .neq 104 (.tmp 9) (.const (Value.pointer none)) v14 (Value.pointer none)) fun v20 => k17 v20 w15) w15 fun v18 w19 =>
  Qu Pr (Is w19) (pickS v1 v18 (Value.bool false)) fun v21 =>
  If v21 (
    Qu Pr (Is w19) (nilS a0) fun v22 =>
    Qu Pr (Is w19) (Instr.fieldAt 119 v22 2) fun v23 =>
    Qu Pr (Is w19) (Instr.loadAt 104 v23) fun v24 =>
    Qu Pr (Is w19) (nilS v24) fun v25 =>
    Qu Pr (Is w19) (Instr.loadAt 22 v25) fun v26 =>
    K v26 w19) (
    K (Value.int .u64 0) w19)
theorem c137 {a0 : Value} {K : Value → World → Prop} {w : World} (h : t137 a0 K w) : CK Pr 137 #[a0] w K := by
  refine calls_of_RF [] Tryz.func137 rfl ?_ ?_ ?_
  · kernel_rfl
  · exact Nat.le_of_ble_eq_true rfl
  · exact cast (by kernel_rfl) h

/-- (*pub/raft/raftpb.Message).GetTerm -/
def t138 (a0 : Value) (K : Value → World → Prop) (w : World) : Prop :=
  Qu Pr (Is w) (binS .neq 86 (.tmp 3) (.const (Value.pointer none)) a0 (Value.pointer none)) fun v1 =>
  Gd v1 true (fun k2 => k2 a0 w) w fun v3 w4 =>
  Gd v1 true (fun k5 => Qu Pr (Is w4) (nilS v3) fun v8 => k5 v8 w4) w4 fun v6 w7 =>
  Gd v1 true (fun k9 => Qu Pr (Is w7) (Instr.fieldAt 119 v6 3) fun v12 => k9 v12 w7) w7 fun v10 w11 =>
  Gd v1 true (fun k13 => Qu Pr (Is w11) (Instr.loadAt 104 v10) fun v16 => k13 v16 w11) w11 fun v14 w15 =>
  Gd v1 true (fun k17 => Qu Pr (Is w15) (binS .neq 104 (.tmp 9) (.const (Value.pointer none)) v14 (Value.pointer none)) fun v20 => k17 v20 w15) w15 fun v18 w19 =>
  Qu Pr (Is w19) (pickS v1 v18 (Value.bool false)) fun v21 =>
  If v21 (
    Qu Pr (Is w19) (nilS a0) fun v22 =>
    Qu Pr (Is w19) (Instr.fieldAt 119 v22 3) fun v23 =>
    Qu Pr (Is w19) (Instr.loadAt 104 v23) fun v24 =>
    Qu Pr (Is w19) (nilS v24) fun v25 =>
    Qu Pr (Is w19) (Instr.loadAt 22 v25) fun v26 =>
    K v26 w19) (
    K (Value.int .u64 0) w19)
theorem c138 {a0 : Value} {K : Value → World → Prop} {w : World} (h : t138 a0 K w) : CK Pr 138 #[a0] w K := by
  refine calls_of_RF [] Tryz.func138 rfl ?_ ?_ ?_
  · kernel_rfl
  · exact Nat.le_of_ble_eq_true rfl
  · exact cast (by kernel_rfl) h

/-- (*pub/raft/raftpb.Message).GetLogTerm -/
def t139 (a0 : Value) (K : Value → World → Prop) (w : World) : Prop :=
  Qu Pr (Is w) (binS .neq 86 (.tmp 3) (.const (Value.pointer none)) a0 (Value.pointer none)) fun v1 =>
  Gd v1 true (fun k2 => k2 a0 w) w fun v3 w4 =>
  Gd v1 true (fun k5 => Qu Pr (Is w4) (nilS v3) fun v8 => k5 v8 w4) w4 fun v6 w7 =>
  Gd v1 true (fun k9 => Qu Pr (Is w7) (Instr.fieldAt 119 v6 4) fun v12 => k9 v12 w7) w7 fun v10 w11 =>
  Gd v1 true (fun k13 => Qu Pr (Is w11) (Instr.loadAt 104 v10) fun v16 => k13 v16 w11) w11 fun v14 w15 =>
  Gd v1 true (fun k17 => Qu Pr (Is w15) (binS .neq 104 (.tmp 9) (.const (Value.pointer none)) v14 (Value.pointer none)) fun v20 => k17 v20 w15) w15 fun v18 w19 =>
  Qu Pr (Is w19) (pickS v1 v18 (Value.bool false)) fun v21 =>
  If v21 (
    Qu Pr (Is w19) (nilS a0) fun v22 =>
    Qu Pr (Is w19) (Instr.fieldAt 119 v22 4) fun v23 =>
    Qu Pr (Is w19) (Instr.loadAt 104 v23) fun v24 =>
    Qu Pr (Is w19) (nilS v24) fun v25 =>
    Qu Pr (Is w19) (Instr.loadAt 22 v25) fun v26 =>
    K v26 w19) (
    K (Value.int .u64 0) w19)
theorem c139 {a0 : Value} {K : Value → World → Prop} {w : World} (h : t139 a0 K w) : CK Pr 139 #[a0] w K := by
  refine calls_of_RF [] Tryz.func139 rfl ?_ ?_ ?_
  · kernel_rfl
  · exact Nat.le_of_ble_eq_true rfl
  · exact cast (by kernel_rfl) h

/-- (*pub/raft/raftpb.Message).GetIndex -/
def t140 (a0 : Value) (K : Value → World → Prop) (w : World) : Prop :=
  Qu Pr (Is w) (binS .neq 86 (.tmp 3) (.const (Value.pointer none)) a0 (Value.pointer none)) fun v1 =>
  Gd v1 true (fun k2 => k2 a0 w) w fun v3 w4 =>
  Gd v1 true (fun k5 => Qu Pr (Is w4) (nilS v3) fun v8 => k5 v8 w4) w4 fun v6 w7 =>
  Gd v1 true (fun k9 => Qu Pr (Is w7) (Instr.fieldAt 119 v6 5) fun v12 => k9 v12 w7) w7 fun v10 w11 =>
  Gd v1 true (fun k13 => Qu Pr (Is w11) (Instr.loadAt 104 v10) fun v16 => k13 v16 w11) w11 fun v14 w15 =>
  Gd v1 true (fun k17 => Qu Pr (Is w15) (binS .neq 104 (.tmp 9) (.const (Value.pointer none)) v14 (Value.pointer none)) fun v20 => k17 v20 w15) w15 fun v18 w19 =>
  Qu Pr (Is w19) (pickS v1 v18 (Value.bool false)) fun v21 =>
  If v21 (
    Qu Pr (Is w19) (nilS a0) fun v22 =>
    Qu Pr (Is w19) (Instr.fieldAt 119 v22 5) fun v23 =>
    Qu Pr (Is w19) (Instr.loadAt 104 v23) fun v24 =>
    Qu Pr (Is w19) (nilS v24) fun v25 =>
    Qu Pr (Is w19) (Instr.loadAt 22 v25) fun v26 =>
    K v26 w19) (
    K (Value.int .u64 0) w19)
theorem c140 {a0 : Value} {K : Value → World → Prop} {w : World} (h : t140 a0 K w) : CK Pr 140 #[a0] w K := by
  refine calls_of_RF [] Tryz.func140 rfl ?_ ?_ ?_
  · kernel_rfl
  · exact Nat.le_of_ble_eq_true rfl
  · exact cast (by kernel_rfl) h

/-- (*pub/raft/raftpb.Message).GetCommit -/
def t141 (a0 : Value) (K : Value → World → Prop) (w : World) : Prop :=
  Qu Pr (Is w) (binS .neq 86 (.tmp 3) (.const (Value.pointer none)) a0 (Value.pointer none)) fun v1 =>
  Gd v1 true (fun k2 => k2 a0 w) w fun v3 w4 =>
  Gd v1 true (fun k5 => Qu Pr (Is w4) (nilS v3) fun v8 => k5 v8 w4) w4 fun v6 w7 =>
  Gd v1 true (fun k9 => Qu Pr (Is w7) (Instr.fieldAt 119 v6 7) fun v12 => k9 v12 w7) w7 fun v10 w11 =>
  Gd v1 true (fun k13 => Qu Pr (Is w11) (Instr.loadAt 104 v10) fun v16 => k13 v16 w11) w11 fun v14 w15 =>
  Gd v1 true (fun k17 => Qu Pr (Is w15) (binS .neq 104 (.tmp 9) (.const (Value.pointer none)) v14 (Value.pointer none)) fun v20 => k17 v20 w15) w15 fun v18 w19 =>
  Qu Pr (Is w19) (pickS v1 v18 (Value.bool false)) fun v21 =>
  If v21 (
    Qu Pr (Is w19) (nilS a0) fun v22 =>
    Qu Pr (Is w19) (Instr.fieldAt 119 v22 7) fun v23 =>
    Qu Pr (Is w19) (Instr.loadAt 104 v23) fun v24 =>
    Qu Pr (Is w19) (nilS v24) fun v25 =>
    Qu Pr (Is w19) (Instr.loadAt 22 v25) fun v26 =>
    K v26 w19) (
    K (Value.int .u64 0) w19)
theorem c141 {a0 : Value} {K : Value → World → Prop} {w : World} (h : t141 a0 K w) : CK Pr 141 #[a0] w K := by
  refine calls_of_RF [] Tryz.func141 rfl ?_ ?_ ?_
  · kernel_rfl
  · exact Nat.le_of_ble_eq_true rfl
  · exact cast (by kernel_rfl) h

/-- (*pub/raft/raftpb.Message).GetVote -/
def t142 (a0 : Value) (K : Value → World → Prop) (w : World) : Prop :=
  Qu Pr (Is w) (binS .neq 86 (.tmp 3) (.const (Value.pointer none)) a0 (Value.pointer none)) fun v1 =>
  Gd v1 true (fun k2 => k2 a0 w) w fun v3 w4 =>
  Gd v1 true (fun k5 => Qu Pr (Is w4) (nilS v3) fun v8 => k5 v8 w4) w4 fun v6 w7 =>
  Gd v1 true (fun k9 => Qu Pr (Is w7) (Instr.fieldAt 119 v6 8) fun v12 => k9 v12 w7) w7 fun v10 w11 =>
  Gd v1 true (fun k13 => Qu Pr (Is w11) (Instr.loadAt 104 v10) fun v16 => k13 v16 w11) w11 fun v14 w15 =>
  Gd v1 true (fun k17 => Qu Pr (Is w15) (binS .neq 104 (.tmp 9) (.const (Value.pointer none)) v14 (Value.pointer none)) fun v20 => k17 v20 w15) w15 fun v18 w19 =>
  Qu Pr (Is w19) (pickS v1 v18 (Value.bool false)) fun v21 =>
  If v21 (
    Qu Pr (Is w19) (nilS a0) fun v22 =>
    Qu Pr (Is w19) (Instr.fieldAt 119 v22 8) fun v23 =>
    Qu Pr (Is w19) (Instr.loadAt 104 v23) fun v24 =>
    Qu Pr (Is w19) (nilS v24) fun v25 =>
    Qu Pr (Is w19) (Instr.loadAt 22 v25) fun v26 =>
    K v26 w19) (
    K (Value.int .u64 0) w19)
theorem c142 {a0 : Value} {K : Value → World → Prop} {w : World} (h : t142 a0 K w) : CK Pr 142 #[a0] w K := by
  refine calls_of_RF [] Tryz.func142 rfl ?_ ?_ ?_
  · kernel_rfl
  · exact Nat.le_of_ble_eq_true rfl
  · exact cast (by kernel_rfl) h

/-- (*pub/raft/raftpb.Message).GetRejectHint -/
def t143 (a0 : Value) (K : Value → World → Prop) (w : World) : Prop :=
  Qu Pr (Is w) (binS .neq 86 (.tmp 3) (.const (Value.pointer none)) a0 (Value.pointer none)) fun v1 =>
  Gd v1 true (fun k2 => k2 a0 w) w fun v3 w4 =>
  Gd v1 true (fun k5 => Qu Pr (Is w4) (nilS v3) fun v8 => k5 v8 w4) w4 fun v6 w7 =>
  Gd v1 true (fun k9 => Qu Pr (Is w7) (Instr.fieldAt 119 v6 11) fun v12 => k9 v12 w7) w7 fun v10 w11 =>
  Gd v1 true (fun k13 => Qu Pr (Is w11) (Instr.loadAt 104 v10) fun v16 => k13 v16 w11) w11 fun v14 w15 =>
  Gd v1 true (fun k17 => Qu Pr (Is w15) (binS .neq 104 (.tmp 9) (.const (Value.pointer none)) v14 (Value.pointer none)) fun v20 => k17 v20 w15) w15 fun v18 w19 =>
  Qu Pr (Is w19) (pickS v1 v18 (Value.bool false)) fun v21 =>
  If v21 (
    Qu Pr (Is w19) (nilS a0) fun v22 =>
    Qu Pr (Is w19) (Instr.fieldAt 119 v22 11) fun v23 =>
    Qu Pr (Is w19) (Instr.loadAt 104 v23) fun v24 =>
    Qu Pr (Is w19) (nilS v24) fun v25 =>
    Qu Pr (Is w19) (Instr.loadAt 22 v25) fun v26 =>
    K v26 w19) (
    K (Value.int .u64 0) w19)
theorem c143 {a0 : Value} {K : Value → World → Prop} {w : World} (h : t143 a0 K w) : CK Pr 143 #[a0] w K := by
  refine calls_of_RF [] Tryz.func143 rfl ?_ ?_ ?_
  · kernel_rfl
  · exact Nat.le_of_ble_eq_true rfl
  · exact cast (by kernel_rfl) h

/-- (*pub/raft/raftpb.Message).GetEntries -/
def t144 (a0 : Value) (K : Value → World → Prop) (w : World) : Prop :=
  Qu Pr (Is w) (binS .neq 86 (.tmp 3) (.const (Value.pointer none)) a0 (Value.pointer none)) fun v1 =>
  If v1 (
    Qu Pr (Is w) (nilS a0) fun v2 =>
    Qu Pr (Is w) (Instr.fieldAt 119 v2 6) fun v3 =>
    Qu Pr (Is w) (Instr.loadAt 115 v3) fun v4 =>
    K v4 w) (
    K (Value.slice none 0 0) w)
theorem c144 {a0 : Value} {K : Value → World → Prop} {w : World} (h : t144 a0 K w) : CK Pr 144 #[a0] w K := by
  refine calls_of_RF [] Tryz.func144 rfl ?_ ?_ ?_
  · kernel_rfl
  · exact Nat.le_of_ble_eq_true rfl
  · exact cast (by kernel_rfl) h

/-- (*pub/raft/raftpb.Message).GetReject -/
def t145 (a0 : Value) (K : Value → World → Prop) (w : World) : Prop :=
  Qu Pr (Is w) (binS .neq 86 (.tmp 3) (.const (Value.pointer none)) a0 (Value.pointer none)) fun v1 =>
  Gd v1 true (fun k2 => k2 a0 w) w fun v3 w4 =>
  Gd v1 true (fun k5 => Qu Pr (Is w4) (nilS v3) fun v8 => k5 v8 w4) w4 fun v6 w7 =>
  Gd v1 true (fun k9 => Qu Pr (Is w7) (Instr.fieldAt 119 v6 10) fun v12 => k9 v12 w7) w7 fun v10 w11 =>
  Gd v1 true (fun k13 => Qu Pr (Is w11) (Instr.loadAt 117 v10) fun v16 => k13 v16 w11) w11 fun v14 w15 =>
  Gd v1 true (fun k17 => Qu Pr (Is w15) (binS .neq 117 (.tmp 9) (.const (Value.pointer none)) v14 (Value.pointer none)) fun v20 => k17 v20 w15) w15 fun v18 w19 =>
  Qu Pr (Is w19) (pickS v1 v18 (Value.bool false)) fun v21 =>
  If v21 (
    Qu Pr (Is w19) (nilS a0) fun v22 =>
    Qu Pr (Is w19) (Instr.fieldAt 119 v22 10) fun v23 =>
    Qu Pr (Is w19) (Instr.loadAt 117 v23) fun v24 =>
    Qu Pr (Is w19) (nilS v24) fun v25 =>
    Qu Pr (Is w19) (Instr.loadAt 4 v25) fun v26 =>
    K v26 w19) (
    K (Value.bool false) w19)
theorem c145 {a0 : Value} {K : Value → World → Prop} {w : World} (h : t145 a0 K w) : CK Pr 145 #[a0] w K := by
  refine calls_of_RF [] Tryz.func145 rfl ?_ ?_ ?_
  · kernel_rfl
  · exact Nat.le_of_ble_eq_true rfl
  · exact cast (by kernel_rfl) h

/-- (*pub/raft/raftpb.Message).GetContext -/
def t146 (a0 : Value) (K : Value → World → Prop) (w : World) : Prop :=
  Qu Pr (Is w) (binS .neq 86 (.tmp 3) (.const (Value.pointer none)) a0 (Value.pointer none)) fun v1 =>
  If v1 (
    Qu Pr (Is w) (nilS a0) fun v2 =>
    Qu Pr (Is w) (Instr.fieldAt 119 v2 12) fun v3 =>
    Qu Pr (Is w) (Instr.loadAt 99 v3) fun v4 =>
    K v4 w) (
    K (Value.slice none 0 0) w)
theorem c146 {a0 : Value} {K : Value → World → Prop} {w : World} (h : t146 a0 K w) : CK Pr 146 #[a0] w K := by
  refine calls_of_RF [] Tryz.func146 rfl ?_ ?_ ?_
  · kernel_rfl
  · exact Nat.le_of_ble_eq_true rfl
  · exact cast (by kernel_rfl) h

/-- (*pub/raft/raftpb.Message).GetResponses -/
def t147 (a0 : Value) (K : Value → World → Prop) (w : World) : Prop :=
  Qu Pr (Is w) (binS .neq 86 (.tmp 3) (.const (Value.pointer none)) a0 (Value.pointer none)) fun v1 =>
  If v1 (
    Qu Pr (Is w) (nilS a0) fun v2 =>
    Qu Pr (Is w) (Instr.fieldAt 119 v2 13) fun v3 =>
    Qu Pr (Is w) (Instr.loadAt 94 v3) fun v4 =>
    K v4 w) (
    K (Value.slice none 0 0) w)
theorem c147 {a0 : Value} {K : Value → World → Prop} {w : World} (h : t147 a0 K w) : CK Pr 147 #[a0] w K := by
  refine calls_of_RF [] Tryz.func147 rfl ?_ ?_ ?_
  · kernel_rfl
  · exact Nat.le_of_ble_eq_true rfl
  · exact cast (by kernel_rfl) h

end Go.Proofs.YtmmpogfbhelioaaGreat
/-
  Contracts: bytes, numbers, entries and snapshots made out of plain data.
  Conditions: each one's own.
-/
namespace Go.Proofs.YtmmpogfbhelioaaGreat
set_option maxRecDepth 10000
set_option linter.unusedVariables false
set_option linter.unusedSimpArgs false
theorem nmK0 {p : Prop} (h : p := by (try simp only [List.getElem?_toArray, List.getElem?_cons_zero, List.getElem?_cons_succ, List.setIfInBounds_toArray, List.set_cons_zero, List.set_cons_succ, List.toList_toArray, List.drop_zero, List.drop_succ_cons, List.take_zero, List.take_succ_cons, Nat.zero_add, Nat.add_zero, Nat.reduceAdd, putCells, En.cells, snCells]) <;> rfl) : p := h
theorem goK0 {G H : Prop} (h : H) (s : Stp G H := by (apply Stp.of; intro hS; (first | (refine q_ld bk_ nmK0 ?_) | (refine q_ldU bk_ rfl nmK0 ?_) | (refine q_ldW bk_ (by rfl) ?_) | (refine q_ldWU bk_ rfl (by rfl) ?_) | (refine q_ldP bk_ (Nat.le_of_ble_eq_true rfl) nmK0 ?_) | (refine q_ldPU bk_ rfl (Nat.le_of_ble_eq_true rfl) nmK0 ?_) | (refine q_ext nmK0 ?_) | (refine u_st bk_ (Nat.le_of_ble_eq_true rfl) (by first | rfl | assumption) nmK0 ?_) | (refine u_stA bk_ (Nat.le_of_ble_eq_true rfl) (by rfl) (by rfl) nmK0 ?_) | (refine q_field nmK0 ?_)); exact hS.out)) : G := s.f h
set_option linter.unusedVariables false
set_option linter.unusedSimpArgs false
attribute [local irreducible] Instr.box Instr.alloc Instr.loadAt Instr.storeAt Instr.fieldAt Instr.indexAt Instr.build Instr.buildSlice Instr.makeSlice Instr.makeMap Instr.mapUpdate Instr.lookup Instr.range Instr.next Instr.entry Instr.extract Instr.makeInterface Instr.makeFunc Instr.sliceAt Instr.typeAssert Instr.field Instr.index Builtin.len_ Builtin.cap_ Builtin.max_ Builtin.min_ Builtin.append_ Builtin.copy_ Builtin.delete_ convert binS pickS nilS callV callM Op.unary Own Mp It Cu


variable {K : Value → World → Prop} {w : World} {te : Option Nat}

theorem k55 {s : ByteArray} (hs : s.size ≤ 9223372036854775807) (h : ∀ v w', Ex w w' → Sl w' (some 5) 1 v (byteList s) → K v w') : CK Pr 55 #[.string s] w K := by
  refine c55 ?_
  unfold t55
  (repeat (first | (refine go ?_; intros) | (refine goK0 ?_; intros)))
  refine if_split (fun hb => ?_) (fun hb => ?_)
  · refine h _ _ (.refl _ _ _) ?_
    rw [of_decide_eq_true hb]
    exact .nil none 0
  · refine e_bytes hs fun v w' c _ e hv _ => ?_
    exact h _ _ e hv

theorem nums_one {l : List Int} : ∀ y ∈ nums l, ∀ u ∈ y, one u = true := by
  intro y hy u hu
  obtain ⟨x, _, rfl⟩ := List.mem_map.1 hy
  rw [List.mem_singleton.1 hu]; rfl

theorem nums_len (l : List Int) : (nums l).length = l.length := List.length_map ..

theorem k107 {v : Value} {l : List Int} (hv : Nums w te v l) (hl : l.length ≤ 1000000) (h : ∀ v' w', Ex w w' → Own w' w.heap.size 22 1 v' (nums l) → K v' w') : CK Pr 107 #[v] w K := by
  refine c107 ?_
  unfold t107
  have hz := nums_len l
  refine e_app (base := w.heap.size) (Own.nil _ _ _ _) hv nums_one (by simp only [List.length_nil]; omega) (by simp only [List.length_nil]; omega) (Nat.le_refl _) fun v' w' u o _ _ => ?_
  exact h v' w' (u.no fun b _ hb => by cases hb) o

theorem k56 {v1 v2 v3 v4 : Value} {c : Cf} {t1 t2 t3 t4 : Option Nat} (h1 : Nums w t1 v1 c.v) (h2 : Nums w t2 v2 c.l) (h3 : Nums w t3 v3 c.o) (h4 : Nums w t4 v4 c.n)
    (l1 : c.v.length ≤ 1000000) (l2 : c.l.length ≤ 1000000) (l3 : c.o.length ≤ 1000000) (l4 : c.n.length ≤ 1000000) (h : ∀ v w', Ex w w' → PC v c w' → K v w') : CK Pr 56 #[.agg #[v1, v2, v3, v4, .bool c.a]] w K := by
  refine c56 ?_
  unfold t56
  (repeat (first | (refine go ?_; intros) | (refine goK0 ?_; intros)))
  refine dr_rule No [] fun w1 e1 z1 => ?_
  (repeat (first | (refine go ?_; intros) | (refine goK0 ?_; intros)))
  refine cl_fn (k107 (by exact lf_ : Nums w1 t1 v1 c.v) l1 fun u1 w2 e2 o1 => ⟨by exact ex_, ?_⟩)
  (repeat (first | (refine go ?_; intros) | (refine goK0 ?_; intros)))
  refine cl_fn (k107 (by exact lf_ : Nums w2 t2 v2 c.l) l2 fun u2 w3 e3 o2 => ⟨by exact ex_, ?_⟩)
  (repeat (first | (refine go ?_; intros) | (refine goK0 ?_; intros)))
  refine cl_fn (k107 (by exact lf_ : Nums w3 t3 v3 c.o) l3 fun u3 w4 e4 o3 => ⟨by exact ex_, ?_⟩)
  (repeat (first | (refine go ?_; intros) | (refine goK0 ?_; intros)))
  refine cl_fn (k107 (by exact lf_ : Nums w4 t4 v4 c.n) l4 fun u4 w5 e5 o4 => ⟨by exact ex_, ?_⟩)
  (repeat (first | (refine go ?_; intros) | (refine goK0 ?_; intros)))
  refine ⟨by exact ex_, ?_⟩
  refine b200_0_1_2_3_4 o1.sl.one o2.sl.one o3.sl.one o4.sl.one rfl ?_
  (repeat (first | (refine go ?_; intros) | (refine goK0 ?_; intros)))
  refine ⟨by exact ex_, ?_⟩
  refine h _ _ ex_ ⟨_, _, _, _, _, _, rfl, by exact bk_, ?_, ?_, ?_, ?_, ⟨_, rfl, by exact bk_⟩⟩
  · have := o1.sl; exact lf_
  · have := o2.sl; exact lf_
  · have := o3.sl; exact lf_
  · have := o4.sl; exact lf_

/-- A plain snapshot's cells. -/
def snCells (s : Sn) (v1 v2 v3 v4 : Value) : Array Value := #[.string s.d, .int .u64 s.i, .int .u64 s.t, v1, v2, v3, v4, .bool s.c.a]

theorem k32 {v1 v2 v3 v4 : Value} {s : Sn} {t1 t2 t3 t4 : Option Nat} (hd : s.d.size ≤ 9223372036854775807) (h1 : Nums w t1 v1 s.c.v) (h2 : Nums w t2 v2 s.c.l) (h3 : Nums w t3 v3 s.c.o) (h4 : Nums w t4 v4 s.c.n)
    (l1 : s.c.v.length ≤ 1000000) (l2 : s.c.l.length ≤ 1000000) (l3 : s.c.o.length ≤ 1000000) (l4 : s.c.n.length ≤ 1000000) (h : ∀ v w', Ex w w' → PS v s w' → K v w') : CK Pr 32 #[.agg (snCells s v1 v2 v3 v4)] w K := by
  refine c32 ?_
  unfold t32
  (repeat (first | (refine go ?_; intros) | (refine goK0 ?_; intros)))
  refine dr_rule No [] fun w1 e1 z1 => ?_
  (repeat (first | (refine go ?_; intros) | (refine goK0 ?_; intros)))
  refine cl_fn (k55 hd fun u1 w2 e2 o1 => ⟨by exact ex_, ?_⟩)
  (repeat (first | (refine go ?_; intros) | (refine goK0 ?_; intros)))
  refine cl_fn (k56 (by exact lf_ : Nums w2 t1 v1 s.c.v) (by exact lf_ : Nums w2 t2 v2 s.c.l) (by exact lf_ : Nums w2 t3 v3 s.c.o) (by exact lf_ : Nums w2 t4 v4 s.c.n) l1 l2 l3 l4 fun u2 w3 e3 o2 => ⟨by exact ex_, ?_⟩)
  (repeat (first | (refine go ?_; intros) | (refine goK0 ?_; intros)))
  refine ⟨by exact ex_, ?_⟩
  (repeat (first | (refine go ?_; intros) | (refine goK0 ?_; intros)))
  refine ⟨by exact ex_, ?_⟩
  refine b106_0_1_2 o2.one rfl rfl ?_
  (repeat (first | (refine go ?_; intros) | (refine goK0 ?_; intros)))
  refine ⟨by exact ex_, ?_⟩
  refine b108_0_1 o1.one rfl ?_
  (repeat (first | (refine go ?_; intros) | (refine goK0 ?_; intros)))
  refine ⟨by exact ex_, ?_⟩
  refine h _ _ ex_ ⟨_, _, _, rfl, by exact bk_, by exact lf_, _, _, _, _, rfl, by exact bk_, by exact lf_, ⟨_, rfl, by exact bk_⟩, ⟨_, rfl, by exact bk_⟩⟩

theorem k121 {e : En} (hd : e.d.size ≤ 9223372036854775807) (hk : IntKind.i32.wrap e.k = e.k) (h : ∀ v w', Ex w w' → PE v e w' → K v w') : CK Pr 121 #[.agg e.cells.toArray] w K := by
  refine c121 ?_
  unfold t121
  (repeat (first | (refine go ?_; intros) | (refine goK0 ?_; intros)))
  refine cl_fn (k55 hd fun u1 w2 e2 o1 => ?_)
  have z2 := e2.size
  (repeat (first | (refine go ?_; intros) | (refine goK0 ?_; intros)))
  refine b215_0_1_3 rfl rfl o1.one ?_
  (repeat (first | (refine go ?_; intros) | (refine goK0 ?_; intros)))
  unfold Jo
  refine if_split (fun hb => ?_) (fun hb => ?_)
  · (repeat (first | (refine go ?_; intros) | (refine goK0 ?_; intros)))
    refine h _ _ ex_ ⟨_, _, _, _, _, rfl, by exact bk_, .inr ⟨_, rfl, by exact bk_⟩, .inr ⟨_, rfl, by exact bk_⟩, .inr ⟨_, rfl, ?_⟩, by exact lf_⟩
    rw [hk] at *
    exact bk_
  · refine h _ _ ex_ ⟨_, _, _, _, _, rfl, by exact bk_, .inr ⟨_, rfl, by exact bk_⟩, .inr ⟨_, rfl, by exact bk_⟩, .inl ⟨rfl, ?_⟩, by exact lf_⟩
    simpa using hb

theorem k65 {v : Value} {l : List En} (hv : Ens w te v l) (hl : l.length ≤ 1000000) (hd : ∀ e ∈ l, e.d.size ≤ 9223372036854775807 ∧ IntKind.i32.wrap e.k = e.k)
    (h : ∀ v' w' ps, Ex w w' → Own w' w.heap.size 212 1 v' (ones ps) → PEs ps l w' → K v' w') : CK Pr 65 #[v] w K := by
  refine c65 ?_
  unfold t65
  (repeat (first | (refine go ?_; intros) | (refine goK0 ?_; intros)))
  refine loop_n (α := Nat) (fun j τ w' => ∃ ps, g τ 2 = .int .i64 j ∧ j ≤ l.length ∧ Ex w w' ∧ Own w' w.heap.size 212 1 (g τ 0) (ones ps) ∧ PEs ps (l.take j) w') (fun j => l.length - j) 0
    ⟨[], rfl, Nat.zero_le _, .refl _ _ _, Own.nil _ _ _ _, .nil _⟩ ?_
  intro j τ w' R ⟨ps, hj, hle, hex, hown, hps⟩ hR
  rw [hj]
  (repeat (first | (refine go ?_; intros) | (refine goK0 ?_; intros)))
  refine if_split (fun hb => ?_) (fun hb => ?_)
  · have hj' : j < l.length := by simpa using hb
    obtain ⟨e, he⟩ : ∃ e, l[j]? = some e := ⟨_, List.getElem?_eq_getElem hj'⟩
    refine q_ixa j (by exact lf_ : Ens w' te v l) rfl (by rw [List.getElem?_map, he]; rfl) fun _ => ?_
    (repeat (first | (refine go ?_; intros) | (refine goK0 ?_; intros)))
    have hde := hd e (List.mem_of_getElem? he)
    refine cl_fn (k121 hde.1 hde.2 fun u1 w2 e2 o1 => ?_)
    have z2 := e2.size
    have ew : Ex w' w2 := by exact ex_
    have zz := hex.size
    have hlp : (ones ps).length ≤ l.length := by rw [ones, List.length_map, hps.len, List.length_take]; omega
    refine e_push1 (hown.ex ew) o1.one (by omega) (by omega) (by omega) fun _ v' w3 u3 ow3 hbl z3 => ?_
    (repeat (first | (refine go ?_; intros) | (refine goK0 ?_; intros)))
    refine hR (j + 1) _ _ ⟨ps ++ [u1], by rw [← wrapS (by omega)]; rfl, hj', ?_, ?_, ?_⟩ (by omega)
    · exact (hex.trans ew).new u3 fun b hb => (hown.lt b hb).1
    · rw [ones, List.map_append]; exact ow3
    · rw [take_snoc he]
      exact ((hps.ex ew).app (.cons o1 (.nil _))).mt rfl u3
  · have : j = l.length := by
      have hb : ¬ ((j : Int) < ((l.map En.cells).length : Nat)) := of_decide_eq_false hb
      rw [List.length_map] at hb
      omega
    rw [this, List.take_length] at hps
    exact h _ _ _ hex hown hps

end Go.Proofs.YtmmpogfbhelioaaGreat
/-
  The readable texts of the program's functions, printed by gen.py, and their links with the program.
  Conditions: none.
-/
namespace Go.Proofs.YtmmpogfbhelioaaGreat
set_option maxRecDepth 10000
set_option linter.unusedVariables false
set_option linter.unusedSimpArgs false
set_option linter.unusedVariables false
/-- (*pub/raft/raftpb.ConfState).GetAutoLeave -/
def t156 (a0 : Value) (K : Value → World → Prop) (w : World) : Prop :=
  Qu Pr (Is w) (binS .neq 102 (.tmp 3) (.const (Value.pointer none)) a0 (Value.pointer none)) fun v1 =>
  Gd v1 true (fun k2 => k2 a0 w) w fun v3 w4 =>
  Gd v1 true (fun k5 => Qu Pr (Is w4) (nilS v3) fun v8 => k5 v8 w4) w4 fun v6 w7 =>
  Gd v1 true (fun k9 => Qu Pr (Is w7) (Instr.fieldAt 200 v6 4) fun v12 => k9 v12 w7) w7 fun v10 w11 =>
  Gd v1 true (fun k13 => Qu Pr (Is w11) (Instr.loadAt 117 v10) fun v16 => k13 v16 w11) w11 fun v14 w15 =>
  Gd v1 true (fun k17 => Qu Pr (Is w15) (binS .neq 117 (.tmp 9) (.const (Value.pointer none)) v14 (Value.pointer none)) fun v20 => k17 v20 w15) w15 fun v18 w19 =>
  Qu Pr (Is w19) (pickS v1 v18 (Value.bool false)) fun v21 =>
  If v21 (
    Qu Pr (Is w19) (nilS a0) fun v22 =>
    Qu Pr (Is w19) (Instr.fieldAt 200 v22 4) fun v23 =>
    Qu Pr (Is w19) (Instr.loadAt 117 v23) fun v24 =>
    Qu Pr (Is w19) (nilS v24) fun v25 =>
    Qu Pr (Is w19) (Instr.loadAt 4 v25) fun v26 =>
    K v26 w19) (
    K (Value.bool false) w19)
theorem c156 {a0 : Value} {K : Value → World → Prop} {w : World} (h : t156 a0 K w) : CK Pr 156 #[a0] w K := by
  refine calls_of_RF [] Tryz.func156 rfl ?_ ?_ ?_
  · kernel_rfl
  · exact Nat.le_of_ble_eq_true rfl
  · exact cast (by kernel_rfl) h

/-- (*pub/raft.unstable).maybeLastIndex -/
def t158 (a0 : Value) (K : Value → World → Prop) (w : World) : Prop :=
  Qu Pr (Is w) (nilS a0) fun v1 =>
  Qu Pr (Is w) (Instr.fieldAt 194 v1 1) fun v2 =>
  Qu Pr (Is w) (Instr.loadAt 115 v2) fun v3 =>
  Qu Pr (Is w) (Builtin.len_ #[115] 3 #[v3]) fun v4 =>
  Qu Pr (Is w) (binS .neq 3 (.tmp 10) (.const (Value.int .i64 0)) v4 (Value.int .i64 0)) fun v5 =>
  If v5 (
    Qu Pr (Is w) (nilS a0) fun v6 =>
    Qu Pr (Is w) (Instr.fieldAt 194 v6 2) fun v7 =>
    Qu Pr (Is w) (Instr.loadAt 22 v7) fun v8 =>
    Qu Pr (Is w) (convert 3 22 v4) fun v9 =>
    Qu Pr (Is w) (binS .add 22 (.tmp 15) (.tmp 17) v8 v9) fun v10 =>
    Qu Pr (Is w) (binS .sub 22 (.tmp 18) (.const (Value.int .u64 1)) v10 (Value.int .u64 1)) fun v11 =>
    K (.tuple #[v11, (Value.bool true)]) w) (
    Qu Pr (Is w) (nilS a0) fun v12 =>
    Qu Pr (Is w) (Instr.fieldAt 194 v12 0) fun v13 =>
    Qu Pr (Is w) (Instr.loadAt 75 v13) fun v14 =>
    Qu Pr (Is w) (binS .neq 75 (.tmp 23) (.const (Value.pointer none)) v14 (Value.pointer none)) fun v15 =>
    If v15 (
      Qu Pr (Is w) (nilS a0) fun v16 =>
      Qu Pr (Is w) (Instr.fieldAt 194 v16 0) fun v17 =>
      Qu Pr (Is w) (Instr.loadAt 75 v17) fun v18 =>
      Cl Pr (callV (fn 95) #[v18]) w fun v20 w19 => 
      Cl Pr (callV (fn 96) #[v20]) w19 fun v22 w21 => 
      K (.tuple #[v22, (Value.bool true)]) w21) (
      K (.tuple #[(Value.int .u64 0), (Value.bool false)]) w))
theorem c158 {a0 : Value} {K : Value → World → Prop} {w : World} (h : t158 a0 K w) : CK Pr 158 #[a0] w K := by
  refine calls_of_RF [] Tryz.func158 rfl ?_ ?_ ?_
  · kernel_rfl
  · exact Nat.le_of_ble_eq_true rfl
  · exact cast (by kernel_rfl) h

/-- (*pub/raft.raft).abortLeaderTransfer -/
def t166 (a0 : Value) (K : Value → World → Prop) (w : World) : Prop :=
  Qu Pr (Is w) (nilS a0) fun v1 =>
  Qu Pr (Is w) (Instr.fieldAt 187 v1 13) fun v2 =>
  Eu Pr (Instr.storeAt 22 v2 (Value.int .u64 0)) w fun w3 => 
  K (.tuple #[]) w3
theorem c166 {a0 : Value} {K : Value → World → Prop} {w : World} (h : t166 a0 K w) : CK Pr 166 #[a0] w K := by
  refine calls_of_RF [] Tryz.func166 rfl ?_ ?_ ?_
  · kernel_rfl
  · exact Nat.le_of_ble_eq_true rfl
  · exact cast (by kernel_rfl) h

/-- (*pub/raft.raft).resetRandomizedElectionTimeout -/
def t170 (a0 : Value) (K : Value → World → Prop) (w : World) : Prop :=
  Dr w fun S1 w2 =>
  Qu Pr (S1) (nilS a0) fun v3 =>
  Qu Pr (S1) (Instr.fieldAt 187 v3 23) fun v4 =>
  Qu Pr (S1) (Instr.loadAt 3 v4) fun v5 =>
  Qu Pr (S1) (nilS a0) fun v6 =>
  Qu Pr (S1) (Instr.fieldAt 187 v6 23) fun v7 =>
  Qu Pr (S1) (Instr.loadAt 3 v7) fun v8 =>
  Cl Pr (callV (fn 241) #[a0, v8]) w2 fun v10 w9 => S1 w9 ∧ 
  Qu Pr (S1) (binS .add 3 (.tmp 6) (.tmp 12) v5 v10) fun v11 =>
  Qu Pr (S1) (nilS a0) fun v12 =>
  Qu Pr (S1) (Instr.fieldAt 187 v12 24) fun v13 =>
  Eu Pr (Instr.storeAt 3 v13 v11) w9 fun w14 => S1 w14 ∧ 
  K (.tuple #[]) w14
theorem c170 {a0 : Value} {K : Value → World → Prop} {w : World} (h : t170 a0 K w) : CK Pr 170 #[a0] w K := by
  refine calls_of_RF [] Tryz.func170 rfl ?_ ?_ ?_
  · kernel_rfl
  · exact Nat.le_of_ble_eq_true rfl
  · exact cast (by kernel_rfl) h

/-- (*pub/raft.raft).reset$1 -/
def t171 (a0 a1 a2 : Value) (K : Value → World → Prop) (w : World) : Prop :=
  Dr w fun S1 w2 =>
  Qu Pr (S1) (Instr.loadAt 73 a2) fun v3 =>
  Qu Pr (S1) (nilS v3) fun v4 =>
  Qu Pr (S1) (Instr.fieldAt 187 v4 4) fun v5 =>
  Qu Pr (S1) (Instr.loadAt 128 v5) fun v6 =>
  Cl Pr (callV (fn 104) #[v6]) w2 fun v8 w7 => S1 w7 ∧ 
  Qu Pr (S1) (binS .add 22 (.tmp 10) (.const (Value.int .u64 1)) v8 (Value.int .u64 1)) fun v9 =>
  Qu Pr (S1) (Instr.loadAt 73 a2) fun v10 =>
  Qu Pr (S1) (nilS v10) fun v11 =>
  Qu Pr (S1) (Instr.fieldAt 187 v11 7) fun v12 =>
  Qu Pr (S1) (Instr.fieldAt 141 v12 3) fun v13 =>
  Qu Pr (S1) (Instr.loadAt 3 v13) fun v14 =>
  Qu Pr (S1) (Instr.loadAt 73 a2) fun v15 =>
  Qu Pr (S1) (nilS v15) fun v16 =>
  Qu Pr (S1) (Instr.fieldAt 187 v16 7) fun v17 =>
  Qu Pr (S1) (Instr.fieldAt 141 v17 4) fun v18 =>
  Qu Pr (S1) (Instr.loadAt 22 v18) fun v19 =>
  Cl Pr (callV (fn 78) #[v14, v19]) w7 fun v21 w20 => S1 w20 ∧ 
  Qu Pr (S1) (nilS a1) fun v22 =>
  Qu Pr (S1) (Instr.fieldAt 152 v22 8) fun v23 =>
  Qu Pr (S1) (Instr.loadAt 4 v23) fun v24 =>
  Qu Pr (S1) (Instr.build 152 #[(0, (Value.int .u64 0)), (1, v9), (7, v21), (8, v24)]) fun v25 =>
  Qu Pr (S1) (nilS a1) fun v26 =>
  Eu Pr (Instr.storeAt 152 v26 v25) w20 fun w27 => S1 w27 ∧ 
  Qu Pr (Is w27) (Instr.loadAt 73 a2) fun v28 =>
  Qu Pr (Is w27) (nilS v28) fun v29 =>
  Qu Pr (Is w27) (Instr.fieldAt 187 v29 0) fun v30 =>
  Qu Pr (Is w27) (Instr.loadAt 22 v30) fun v31 =>
  Qu Pr (Is w27) (binS .eql 22 (.tmp 29) (.tmp 33) a0 v31) fun v32 =>
  Jo (fun  (w41 : World) => (
      K (.tuple #[]) w41 : Prop)) fun J42 =>
  If v32 (
    Qu Pr (Is w27) (Instr.loadAt 73 a2) fun v43 =>
    Qu Pr (Is w27) (nilS v43) fun v44 =>
    Qu Pr (Is w27) (Instr.fieldAt 187 v44 4) fun v45 =>
    Qu Pr (Is w27) (Instr.loadAt 128 v45) fun v46 =>
    Cl Pr (callV (fn 104) #[v46]) w27 fun v48 w47 => 
    Qu Pr (Is w47) (nilS a1) fun v49 =>
    Qu Pr (Is w47) (Instr.fieldAt 152 v49 0) fun v50 =>
    Eu Pr (Instr.storeAt 22 v50 v48) w47 fun w51 => 
    J42 w51) (
    J42 w27)
theorem c171 {a0 a1 a2 : Value} {K : Value → World → Prop} {w : World} (h : t171 a0 a1 a2 K w) : CK Pr 171 #[a0, a1, a2] w K := by
  refine calls_of_RF [] Tryz.func171 rfl ?_ ?_ ?_
  · kernel_rfl
  · exact Nat.le_of_ble_eq_true rfl
  · exact cast (by kernel_rfl) h

/-- (*pub/raft/tracker.Progress).ResetState -/
def t199 (a0 a1 : Value) (K : Value → World → Prop) (w : World) : Prop :=
  Qu Pr (Is w) (nilS a0) fun v1 =>
  Qu Pr (Is w) (Instr.fieldAt 152 v1 6) fun v2 =>
  Eu Pr (Instr.storeAt 4 v2 (Value.bool false)) w fun w3 => 
  Qu Pr (Is w3) (nilS a0) fun v4 =>
  Qu Pr (Is w3) (Instr.fieldAt 152 v4 4) fun v5 =>
  Eu Pr (Instr.storeAt 22 v5 (Value.int .u64 0)) w3 fun w6 => 
  Qu Pr (Is w6) (nilS a0) fun v7 =>
  Qu Pr (Is w6) (Instr.fieldAt 152 v7 3) fun v8 =>
  Eu Pr (Instr.storeAt 150 v8 a1) w6 fun w9 => 
  Qu Pr (Is w9) (nilS a0) fun v10 =>
  Qu Pr (Is w9) (Instr.fieldAt 152 v10 7) fun v11 =>
  Qu Pr (Is w9) (Instr.loadAt 148 v11) fun v12 =>
  Cl Pr (callV (fn 265) #[v12]) w9 fun _ w13 => 
  K (.tuple #[]) w13
theorem c199 {a0 a1 : Value} {K : Value → World → Prop} {w : World} (h : t199 a0 a1 K w) : CK Pr 199 #[a0, a1] w K := by
  refine calls_of_RF [] Tryz.func199 rfl ?_ ?_ ?_
  · kernel_rfl
  · exact Nat.le_of_ble_eq_true rfl
  · exact cast (by kernel_rfl) h

/-- (*pub/raft/raftpb.Entry).ZzClone -/
def t200 (a0 : Value) (K : Value → World → Prop) (w : World) : Prop :=
  Qu Pr (Is w) (binS .eql 212 (.tmp 3) (.const (Value.pointer none)) a0 (Value.pointer none)) fun v1 =>
  If v1 (
    K (Value.pointer none) w) (
    Dr w fun S2 w3 =>
    Qu Pr (S2) (nilS a0) fun v4 =>
    Qu Pr (S2) (Instr.fieldAt 215 v4 0) fun v5 =>
    Qu Pr (S2) (Instr.loadAt 104 v5) fun v6 =>
    Cl Pr (callV (fn 266) #[v6]) w3 fun v8 w7 => S2 w7 ∧ 
    Qu Pr (S2) (nilS a0) fun v9 =>
    Qu Pr (S2) (Instr.fieldAt 215 v9 1) fun v10 =>
    Qu Pr (S2) (Instr.loadAt 104 v10) fun v11 =>
    Cl Pr (callV (fn 266) #[v11]) w7 fun v13 w12 => S2 w12 ∧ 
    Qu Pr (S2) (nilS a0) fun v14 =>
    Qu Pr (S2) (Instr.fieldAt 215 v14 2) fun v15 =>
    Qu Pr (S2) (Instr.loadAt 213 v15) fun v16 =>
    Cl Pr (callV (fn 267) #[v16]) w12 fun v18 w17 => S2 w17 ∧ 
    Qu Pr (S2) (nilS a0) fun v19 =>
    Qu Pr (S2) (Instr.fieldAt 215 v19 3) fun v20 =>
    Qu Pr (S2) (Instr.loadAt 99 v20) fun v21 =>
    Cl Pr (callV (fn 204) #[v21]) w17 fun v23 w22 => S2 w22 ∧ 
    Qu Pr (S2) (Instr.build 215 #[(0, v8), (1, v13), (2, v18), (3, v23)]) fun v24 =>
    Ef Pr (Instr.box 215 v24) w22 fun v26 w25 => S2 w25 ∧ 
    K v26 w25)
theorem c200 {a0 : Value} {K : Value → World → Prop} {w : World} (h : t200 a0 K w) : CK Pr 200 #[a0] w K := by
  refine calls_of_RF [] Tryz.func200 rfl ?_ ?_ ?_
  · kernel_rfl
  · exact Nat.le_of_ble_eq_true rfl
  · exact cast (by kernel_rfl) h

/-- (*pub/raft.raft).increaseUncommittedSize -/
def t201 (a0 a1 : Value) (K : Value → World → Prop) (w : World) : Prop :=
  Cl Pr (callV (fn 236) #[a1]) w fun v2 w1 => 
  Dr w1 fun S3 w4 =>
  Qu Pr (S3) (nilS a0) fun v5 =>
  Qu Pr (S3) (Instr.fieldAt 187 v5 16) fun v6 =>
  Qu Pr (S3) (Instr.loadAt 181 v6) fun v7 =>
  Qu Pr (S3) (binS .gtr 181 (.tmp 11) (.const (Value.int .u64 0)) v7 (Value.int .u64 0)) fun v8 =>
  Gd v8 true (fun k9 => k9 v2 w4) w4 fun v10 w11 =>
  Gd v8 true (fun k12 => Qu Pr (S3) (binS .gtr 181 (.tmp 14) (.const (Value.int .u64 0)) v10 (Value.int .u64 0)) fun v15 => k12 v15 w11) w11 fun v13 w14 =>
  Qu Pr (S3) (pickS v8 v13 (Value.bool false)) fun v16 =>
  Gd v16 true (fun k17 => k17 a0 w14) w14 fun v18 w19 =>
  Gd v16 true (fun k20 => Qu Pr (S3) (nilS v18) fun v23 => k20 v23 w19) w19 fun v21 w22 =>
  Gd v16 true (fun k24 => Qu Pr (S3) (Instr.fieldAt 187 v21 16) fun v27 => k24 v27 w22) w22 fun v25 w26 =>
  Gd v16 true (fun k28 => Qu Pr (S3) (Instr.loadAt 181 v25) fun v31 => k28 v31 w26) w26 fun v29 w30 =>
  Gd v16 true (fun k32 => k32 v2 w30) w30 fun v33 w34 =>
  Gd v16 true (fun k35 => Qu Pr (S3) (binS .add 181 (.tmp 21) (.tmp 22) v29 v33) fun v38 => k35 v38 w34) w34 fun v36 w37 =>
  Gd v16 true (fun k39 => k39 a0 w37) w37 fun v40 w41 =>
  Gd v16 true (fun k42 => Qu Pr (S3) (nilS v40) fun v45 => k42 v45 w41) w41 fun v43 w44 =>
  Gd v16 true (fun k46 => Qu Pr (S3) (Instr.fieldAt 187 v43 6) fun v49 => k46 v49 w44) w44 fun v47 w48 =>
  Gd v16 true (fun k50 => Qu Pr (S3) (Instr.loadAt 181 v47) fun v53 => k50 v53 w48) w48 fun v51 w52 =>
  Gd v16 true (fun k54 => Qu Pr (S3) (binS .gtr 181 (.tmp 23) (.tmp 27) v36 v51) fun v57 => k54 v57 w52) w52 fun v55 w56 =>
  Qu Pr (S3) (pickS v16 v55 (Value.bool false)) fun v58 =>
  If v58 (
    K (Value.bool false) w56) (
    Qu Pr (Is w56) (nilS a0) fun v59 =>
    Qu Pr (Is w56) (Instr.fieldAt 187 v59 16) fun v60 =>
    Qu Pr (Is w56) (Instr.loadAt 181 v60) fun v61 =>
    Qu Pr (Is w56) (binS .add 181 (.tmp 33) (.tmp 34) v61 v2) fun v62 =>
    Qu Pr (Is w56) (nilS a0) fun v63 =>
    Qu Pr (Is w56) (Instr.fieldAt 187 v63 16) fun v64 =>
    Eu Pr (Instr.storeAt 181 v64 v62) w56 fun w65 => 
    K (Value.bool true) w65)
theorem c201 {a0 a1 : Value} {K : Value → World → Prop} {w : World} (h : t201 a0 a1 K w) : CK Pr 201 #[a0, a1] w K := by
  refine calls_of_RF [] Tryz.func201 rfl ?_ ?_ ?_
  · kernel_rfl
  · exact Nat.le_of_ble_eq_true rfl
  · exact cast (by kernel_rfl) h

/-- (*pub/raft.raftLog).append -/
def t202 (a0 a1 : Value) (K : Value → World → Prop) (w : World) : Prop :=
  Qu Pr (Is w) (Builtin.len_ #[115] 3 #[a1]) fun v1 =>
  Qu Pr (Is w) (binS .eql 3 (.tmp 7) (.const (Value.int .i64 0)) v1 (Value.int .i64 0)) fun v2 =>
  If v2 (
    Cl Pr (callV (fn 104) #[a0]) w fun v4 w3 => 
    K v4 w3) (
    Qu Pr (Is w) (Instr.indexAt 115 a1 (Value.int .i64 0)) fun v5 =>
    Qu Pr (Is w) (Instr.loadAt 212 v5) fun v6 =>
    Cl Pr (callV (fn 124) #[v6]) w fun v8 w7 => 
    Qu Pr (Is w7) (binS .sub 22 (.tmp 14) (.const (Value.int .u64 1)) v8 (Value.int .u64 1)) fun v9 =>
    Qu Pr (Is w7) (nilS a0) fun v10 =>
    Qu Pr (Is w7) (Instr.fieldAt 196 v10 2) fun v11 =>
    Qu Pr (Is w7) (Instr.loadAt 22 v11) fun v12 =>
    Qu Pr (Is w7) (binS .lss 22 (.tmp 16) (.tmp 20) v9 v12) fun v13 =>
    If v13 (
      Qu Pr (Is w7) (Instr.makeInterface 9 (Value.string (ByteArray.mk #[97, 102, 116, 101, 114, 32, 105, 115, 32, 111, 117, 116, 32, 111, 102, 32, 114, 97, 110, 103, 101, 32, 91, 99, 111, 109, 109, 105, 116, 116, 101, 100, 93]))) fun _ =>
      False) (
      Qu Pr (Is w7) (nilS a0) fun v15 =>
      Qu Pr (Is w7) (Instr.fieldAt 196 v15 1) fun v16 =>
      Cl Pr (callV (fn 268) #[v16, a1]) w7 fun _ w17 => 
      Cl Pr (callV (fn 104) #[a0]) w17 fun v20 w19 => 
      K v20 w19))
theorem c202 {a0 a1 : Value} {K : Value → World → Prop} {w : World} (h : t202 a0 a1 K w) : CK Pr 202 #[a0, a1] w K := by
  refine calls_of_RF [] Tryz.func202 rfl ?_ ?_ ?_
  · kernel_rfl
  · exact Nat.le_of_ble_eq_true rfl
  · exact cast (by kernel_rfl) h

@[irreducible] def t203_1 (w4 : World) (p3 : Value) (K : Value → World → Prop) : Prop :=
      Qu Pr (Is w4) (nilS p3) fun v6 =>
      Qu Pr (Is w4) (Instr.fieldAt 106 v6 0) fun v7 =>
      Qu Pr (Is w4) (Instr.loadAt 102 v7) fun v8 =>
      Cl Pr (callV (fn 98) #[v8]) w4 fun v10 w9 => 
      Qu Pr (Is w9) (nilS p3) fun v11 =>
      Qu Pr (Is w9) (Instr.fieldAt 106 v11 0) fun v12 =>
      Qu Pr (Is w9) (Instr.loadAt 102 v12) fun v13 =>
      Qu Pr (Is w9) (binS .eql 102 (.tmp 15) (.const (Value.pointer none)) v13 (Value.pointer none)) fun v14 =>
      Jo (fun  (w19 : World) => (
          Qu Pr (Is w19) (nilS p3) fun v21 =>
          Qu Pr (Is w19) (Instr.fieldAt 106 v21 1) fun v22 =>
          Qu Pr (Is w19) (Instr.loadAt 104 v22) fun v23 =>
          Qu Pr (Is w19) (binS .eql 104 (.tmp 24) (.const (Value.pointer none)) v23 (Value.pointer none)) fun v24 =>
          Jo (fun  (w29 : World) => (
              Qu Pr (Is w29) (nilS p3) fun v31 =>
              Qu Pr (Is w29) (Instr.fieldAt 106 v31 2) fun v32 =>
              Qu Pr (Is w29) (Instr.loadAt 104 v32) fun v33 =>
              Qu Pr (Is w29) (binS .eql 104 (.tmp 33) (.const (Value.pointer none)) v33 (Value.pointer none)) fun v34 =>
              Jo (fun  (w39 : World) => (
                  K p3 w39 : Prop)) fun J40 =>
              If v34 (
                Ef Pr (Instr.alloc 22 true (.tuple #[])) w29 fun v42 w41 => 
                Qu Pr (Is w41) (nilS p3) fun v43 =>
                Qu Pr (Is w41) (Instr.fieldAt 106 v43 2) fun v44 =>
                Eu Pr (Instr.storeAt 104 v44 v42) w41 fun w45 => 
                J40 w45) (
                J40 w29) : Prop)) fun J30 =>
          If v24 (
            Ef Pr (Instr.alloc 22 true (.tuple #[])) w19 fun v47 w46 => 
            Qu Pr (Is w46) (nilS p3) fun v48 =>
            Qu Pr (Is w46) (Instr.fieldAt 106 v48 1) fun v49 =>
            Eu Pr (Instr.storeAt 104 v49 v47) w46 fun w50 => 
            J30 w50) (
            J30 w19) : Prop)) fun J20 =>
      If v14 (
        Qu Pr (Is w9) (nilS p3) fun v51 =>
        Qu Pr (Is w9) (Instr.fieldAt 106 v51 0) fun v52 =>
        Eu Pr (Instr.storeAt 102 v52 v10) w9 fun w53 => 
        J20 w53) (
        J20 w9)
/-- pub/raft/raftpb.EnsureSnapshotMetadata -/
def t203 (a0 : Value) (K : Value → World → Prop) (w : World) : Prop :=
  Qu Pr (Is w) (binS .eql 101 (.tmp 4) (.const (Value.pointer none)) a0 (Value.pointer none)) fun v1 =>
  Jo (fun (p3 : Value) (w4 : World) => (t203_1 w4 p3 K : Prop)) fun J5 =>
  If v1 (
    Ef Pr (Instr.alloc 106 true (.tuple #[])) w fun v55 w54 => 
    J5 v55 w54) (
    J5 a0 w)
theorem c203 {a0 : Value} {K : Value → World → Prop} {w : World} (h : t203 a0 K w) : CK Pr 203 #[a0] w K := by
  refine calls_of_RF [] Tryz.func203 rfl ?_ ?_ ?_
  · kernel_rfl
  · exact Nat.le_of_ble_eq_true rfl
  · exact cast (by kernel_rfl) h

/-- pub/raft/raftpb.zzBytes -/
def t204 (a0 : Value) (K : Value → World → Prop) (w : World) : Prop :=
  Qu Pr (Is w) (binS .eql 99 (.tmp 4) (.const (Value.slice none 0 0)) a0 (Value.slice none 0 0)) fun v1 =>
  If v1 (
    K (Value.slice none 0 0) w) (
    Qu Pr (Is w) (Builtin.len_ #[99] 3 #[a0]) fun v2 =>
    Ef Pr (Instr.makeSlice 99 v2 v2) w fun v4 w3 => 
    Ef Pr (Builtin.copy_ #[99, 99] 3 #[v4, a0]) w3 fun _ w5 => 
    K v4 w5)
theorem c204 {a0 : Value} {K : Value → World → Prop} {w : World} (h : t204 a0 K w) : CK Pr 204 #[a0] w K := by
  refine calls_of_RF [] Tryz.func204 rfl ?_ ?_ ?_
  · kernel_rfl
  · exact Nat.le_of_ble_eq_true rfl
  · exact cast (by kernel_rfl) h

/-- (*pub/raft/raftpb.SnapshotMetadata).ZzClone -/
def t205 (a0 : Value) (K : Value → World → Prop) (w : World) : Prop :=
  Qu Pr (Is w) (binS .eql 101 (.tmp 3) (.const (Value.pointer none)) a0 (Value.pointer none)) fun v1 =>
  If v1 (
    K (Value.pointer none) w) (
    Dr w fun S2 w3 =>
    Qu Pr (S2) (nilS a0) fun v4 =>
    Qu Pr (S2) (Instr.fieldAt 106 v4 0) fun v5 =>
    Qu Pr (S2) (Instr.loadAt 102 v5) fun v6 =>
    Cl Pr (callV (fn 226) #[v6]) w3 fun v8 w7 => S2 w7 ∧ 
    Qu Pr (S2) (nilS a0) fun v9 =>
    Qu Pr (S2) (Instr.fieldAt 106 v9 1) fun v10 =>
    Qu Pr (S2) (Instr.loadAt 104 v10) fun v11 =>
    Cl Pr (callV (fn 266) #[v11]) w7 fun v13 w12 => S2 w12 ∧ 
    Qu Pr (S2) (nilS a0) fun v14 =>
    Qu Pr (S2) (Instr.fieldAt 106 v14 2) fun v15 =>
    Qu Pr (S2) (Instr.loadAt 104 v15) fun v16 =>
    Cl Pr (callV (fn 266) #[v16]) w12 fun v18 w17 => S2 w17 ∧ 
    Qu Pr (S2) (Instr.build 106 #[(0, v8), (1, v13), (2, v18)]) fun v19 =>
    Ef Pr (Instr.box 106 v19) w17 fun v21 w20 => S2 w20 ∧ 
    K v21 w20)
theorem c205 {a0 : Value} {K : Value → World → Prop} {w : World} (h : t205 a0 K w) : CK Pr 205 #[a0] w K := by
  refine calls_of_RF [] Tryz.func205 rfl ?_ ?_ ?_
  · kernel_rfl
  · exact Nat.le_of_ble_eq_true rfl
  · exact cast (by kernel_rfl) h

/-- (*pub/raft/raftpb.ConfState).GetVoters -/
def t210 (a0 : Value) (K : Value → World → Prop) (w : World) : Prop :=
  Qu Pr (Is w) (binS .neq 102 (.tmp 3) (.const (Value.pointer none)) a0 (Value.pointer none)) fun v1 =>
  If v1 (
    Qu Pr (Is w) (nilS a0) fun v2 =>
    Qu Pr (Is w) (Instr.fieldAt 200 v2 0) fun v3 =>
    Qu Pr (Is w) (Instr.loadAt 23 v3) fun v4 =>
    K v4 w) (
    K (Value.slice none 0 0) w)
theorem c210 {a0 : Value} {K : Value → World → Prop} {w : World} (h : t210 a0 K w) : CK Pr 210 #[a0] w K := by
  refine calls_of_RF [] Tryz.func210 rfl ?_ ?_ ?_
  · kernel_rfl
  · exact Nat.le_of_ble_eq_true rfl
  · exact cast (by kernel_rfl) h

/-- (*pub/raft/raftpb.ConfState).GetLearners -/
def t211 (a0 : Value) (K : Value → World → Prop) (w : World) : Prop :=
  Qu Pr (Is w) (binS .neq 102 (.tmp 3) (.const (Value.pointer none)) a0 (Value.pointer none)) fun v1 =>
  If v1 (
    Qu Pr (Is w) (nilS a0) fun v2 =>
    Qu Pr (Is w) (Instr.fieldAt 200 v2 1) fun v3 =>
    Qu Pr (Is w) (Instr.loadAt 23 v3) fun v4 =>
    K v4 w) (
    K (Value.slice none 0 0) w)
theorem c211 {a0 : Value} {K : Value → World → Prop} {w : World} (h : t211 a0 K w) : CK Pr 211 #[a0] w K := by
  refine calls_of_RF [] Tryz.func211 rfl ?_ ?_ ?_
  · kernel_rfl
  · exact Nat.le_of_ble_eq_true rfl
  · exact cast (by kernel_rfl) h

/-- (*pub/raft/raftpb.ConfState).GetVotersOutgoing -/
def t212 (a0 : Value) (K : Value → World → Prop) (w : World) : Prop :=
  Qu Pr (Is w) (binS .neq 102 (.tmp 3) (.const (Value.pointer none)) a0 (Value.pointer none)) fun v1 =>
  If v1 (
    Qu Pr (Is w) (nilS a0) fun v2 =>
    Qu Pr (Is w) (Instr.fieldAt 200 v2 2) fun v3 =>
    Qu Pr (Is w) (Instr.loadAt 23 v3) fun v4 =>
    K v4 w) (
    K (Value.slice none 0 0) w)
theorem c212 {a0 : Value} {K : Value → World → Prop} {w : World} (h : t212 a0 K w) : CK Pr 212 #[a0] w K := by
  refine calls_of_RF [] Tryz.func212 rfl ?_ ?_ ?_
  · kernel_rfl
  · exact Nat.le_of_ble_eq_true rfl
  · exact cast (by kernel_rfl) h

/-- (*pub/raft/raftpb.ConfState).GetLearnersNext -/
def t213 (a0 : Value) (K : Value → World → Prop) (w : World) : Prop :=
  Qu Pr (Is w) (binS .neq 102 (.tmp 3) (.const (Value.pointer none)) a0 (Value.pointer none)) fun v1 =>
  If v1 (
    Qu Pr (Is w) (nilS a0) fun v2 =>
    Qu Pr (Is w) (Instr.fieldAt 200 v2 3) fun v3 =>
    Qu Pr (Is w) (Instr.loadAt 23 v3) fun v4 =>
    K v4 w) (
    K (Value.slice none 0 0) w)
theorem c213 {a0 : Value} {K : Value → World → Prop} {w : World} (h : t213 a0 K w) : CK Pr 213 #[a0] w K := by
  refine calls_of_RF [] Tryz.func213 rfl ?_ ?_ ?_
  · kernel_rfl
  · exact Nat.le_of_ble_eq_true rfl
  · exact cast (by kernel_rfl) h

end Go.Proofs.YtmmpogfbhelioaaGreat
/-
  The machine as plain data: what an argument of a law holds.
  Conditions: none.
-/
namespace Go.Proofs.YtmmpogfbhelioaaGreat
set_option maxRecDepth 10000
set_option linter.unusedVariables false
set_option linter.unusedSimpArgs false

def u64 (n : Int) : Prop := 0 ≤ n ∧ n ≤ 18446744073709551615
def i64 (n : Int) : Prop := -9223372036854775808 ≤ n ∧ n ≤ 9223372036854775807

/-- A peer's progress. -/
structure Pe where
  id : Int
  ma : Int
  ne : Int
  st : Int
  pend : Int
  act : Bool
  pau : Bool
  lea : Bool
  size : Int
  mx : Int
  flV : Value
  byV : Value
  fl : List Int
  byt : List Int

def Pe.pcells (p : Pe) : List Value := [.int .u64 p.ma, .int .u64 p.ne, .int .i64 p.st, .int .u64 p.pend, .bool p.act, .bool p.pau, .bool p.lea, .int .i64 p.size, .int .u64 p.mx, p.flV, p.byV]
def Pe.cells (p : Pe) : List Value := [.int .u64 p.id, .int .u64 p.ma, .int .u64 p.ne, .int .i64 p.st, .int .u64 p.pend, .bool p.act, .bool p.pau, .bool p.lea, .int .i64 p.size, .int .u64 p.mx, p.flV, p.byV]

structure PeOk (p : Pe) : Prop where
  id : u64 p.id
  ma : u64 p.ma
  ne : u64 p.ne
  st : i64 p.st
  pend : u64 p.pend
  size : i64 p.size
  mx : u64 p.mx

/-- Ballots. -/
def bals (l : List (Int × Bool)) : List (List Value) := l.map fun p => [.int .u64 p.1, .bool p.2]

structure EnOk (e : En) : Prop where
  t : u64 e.t
  i : u64 e.i
  k : i64 e.k
  d : e.d.size ≤ 9223372036854775807

structure Mac where
  id : Int
  term : Int
  vote : Int
  lead : Int
  role : Int
  base : Sn
  cvV : Value
  clV : Value
  coV : Value
  cnV : Value
  stV : Value
  frV : Value
  st : List En
  fr : List En
  commit : Int
  applied : Int
  voV : Value
  leV : Value
  peV : Value
  vsV : Value
  vo : List Int
  le : List Int
  pe : List Pe
  vs : List (Int × Bool)
  pv : Bool
  cq : Bool
  el : Int
  hb : Int
  to : Int
  ep : Int
  be : Int
  ms : Int
  mu : Int
  un : Int
  tr : Int

def Mac.cells (m : Mac) : Array Value := #[.int .u64 m.id, .int .u64 m.term, .int .u64 m.vote, .int .u64 m.lead, .int .i64 m.role, .string m.base.d, .int .u64 m.base.i, .int .u64 m.base.t, m.cvV, m.clV, m.coV, m.cnV, .bool m.base.c.a,
  m.stV, m.frV, .int .u64 m.commit, .int .u64 m.applied, m.voV, m.leV, m.peV, m.vsV, .bool m.pv, .bool m.cq, .int .i64 m.el, .int .i64 m.hb, .int .i64 m.to, .int .i64 m.ep, .int .i64 m.be, .int .u64 m.ms, .int .u64 m.mu, .int .u64 m.un, .int .u64 m.tr]

/-- The slices of a snapshot's configuration. -/
structure IsCf (w : World) (v1 v2 v3 v4 : Value) (c : Cf) : Prop where
  v : Nums w none v1 c.v
  l : Nums w none v2 c.l
  o : Nums w none v3 c.o
  n : Nums w none v4 c.n

/-- What a machine's slices hold. -/
structure IsMac (w : World) (m : Mac) : Prop where
  cf : IsCf w m.cvV m.clV m.coV m.cnV m.base.c
  st : Ens w none m.stV m.st
  fr : Ens w none m.frV m.fr
  vo : Nums w none m.voV m.vo
  le : Nums w none m.leV m.le
  pe : Sl w none 12 m.peV (m.pe.map Pe.cells)
  pes : ∀ p ∈ m.pe, Nums w none p.flV p.fl ∧ Nums w none p.byV p.byt
  vs : Sl w none 2 m.vsV (bals m.vs)

/-- What numbers a machine may have. -/
structure MacOk (m : Mac) : Prop where
  id : u64 m.id
  term : u64 m.term
  vote : u64 m.vote
  lead : u64 m.lead
  role : i64 m.role
  bd : m.base.d.size ≤ 9223372036854775807
  bi : u64 m.base.i
  bt : u64 m.base.t
  cv : ∀ x ∈ m.base.c.v, u64 x
  cl : ∀ x ∈ m.base.c.l, u64 x
  co : ∀ x ∈ m.base.c.o, u64 x
  cn : ∀ x ∈ m.base.c.n, u64 x
  st : ∀ e ∈ m.st, EnOk e
  fr : ∀ e ∈ m.fr, EnOk e
  commit : u64 m.commit
  applied : u64 m.applied
  vo : ∀ x ∈ m.vo, u64 x
  le : ∀ x ∈ m.le, u64 x
  pe : ∀ p ∈ m.pe, PeOk p
  el : i64 m.el
  hb : i64 m.hb
  to : i64 m.to
  ep : i64 m.ep
  be : i64 m.be
  ms : u64 m.ms
  mu : u64 m.mu
  un : u64 m.un
  tr : u64 m.tr

theorem IsCf.ex {w w' : World} {v1 v2 v3 v4 : Value} {c : Cf} (e : Ex w w') (h : IsCf w v1 v2 v3 v4 c) : IsCf w' v1 v2 v3 v4 c := ⟨h.v.ex e, h.l.ex e, h.o.ex e, h.n.ex e⟩
theorem IsMac.ex {w w' : World} {m : Mac} (e : Ex w w') (h : IsMac w m) : IsMac w' m :=
  ⟨h.cf.ex e, h.st.ex e, h.fr.ex e, h.vo.ex e, h.le.ex e, h.pe.ex e, fun p hp => ⟨(h.pes p hp).1.ex e, (h.pes p hp).2.ex e⟩, h.vs.ex e⟩

/-- Where all that may turn is newer than a slice's world. -/
theorem Sl.old {C : Nat → Prop} {T : List Nat} {te : Option Nat} {w w' : World} {n : Nat} {v : Value} {xs : List (List Value)} (u : Up C T w w') (hC : ∀ b, b < w.heap.size → ¬ C b) (h : Sl w te n v xs) : Sl w' te n v xs := h.ex (u.no hC)
theorem IsMac.one1 {w : World} {m : Mac} (h : IsMac w m) : one m.cvV = true ∧ one m.clV = true ∧ one m.coV = true ∧ one m.cnV = true ∧ one m.stV = true ∧ one m.frV = true ∧ one m.voV = true ∧ one m.leV = true ∧ one m.peV = true ∧ one m.vsV = true :=
  ⟨h.cf.v.one, h.cf.l.one, h.cf.o.one, h.cf.n.one, h.st.one, h.fr.one, h.vo.one, h.le.one, h.pe.one, h.vs.one⟩

end Go.Proofs.YtmmpogfbhelioaaGreat
/-
  Contracts: the getters of the package's entries, configurations and snapshots; plain data made out of them.
  Conditions: each one's own.
-/
namespace Go.Proofs.YtmmpogfbhelioaaGreat
set_option maxRecDepth 10000
set_option linter.unusedVariables false
set_option linter.unusedSimpArgs false
set_option linter.unusedVariables false
set_option linter.unusedSimpArgs false
attribute [local irreducible] Instr.box Instr.alloc Instr.loadAt Instr.storeAt Instr.fieldAt Instr.indexAt Instr.build Instr.buildSlice Instr.makeSlice Instr.makeMap Instr.mapUpdate Instr.lookup Instr.range Instr.next Instr.entry Instr.extract Instr.makeInterface Instr.makeFunc Instr.sliceAt Instr.typeAssert Instr.field Instr.index Builtin.len_ Builtin.cap_ Builtin.max_ Builtin.min_ Builtin.append_ Builtin.copy_ Builtin.delete_ convert binS pickS nilS callV callM Op.unary Own Mp It Cu


variable {K : Value → World → Prop} {w : World} {te : Option Nat}

theorem k95 {v : Value} {s : Sn} (h : PS v s w) (k : ∀ v', PM v' s.i s.t s.c w → K v' w) : CK Pr 95 #[v] w K := by
  obtain ⟨b, v1, v2, rfl, hb, hd, hm⟩ := h
  refine c95 ?_
  unfold t95
  (repeat (first | (refine go ?_; intros) | (refine gon ?_; intros)))
  exact k _ hm

theorem k132 {v : Value} {s : Sn} (h : PS v s w) (k : ∀ v', Sl w (some 5) 1 v' (byteList s.d) → K v' w) : CK Pr 132 #[v] w K := by
  obtain ⟨b, v1, v2, rfl, hb, hd, hm⟩ := h
  refine c132 ?_
  unfold t132
  (repeat (first | (refine go ?_; intros) | (refine gon ?_; intros)))
  exact k _ hd

theorem k96 {v : Value} {i t : Int} {c : Cf} (h : PM v i t c w) (k : K (.int .u64 i) w) : CK Pr 96 #[v] w K := by
  obtain ⟨b, v1, v2, v3, rfl, hb, hc, ⟨bi, rfl, hbi⟩, ⟨bt, rfl, hbt⟩⟩ := h
  refine c96 ?_
  unfold t96
  (repeat (first | (refine go ?_; intros) | (refine gon ?_; intros)))
  exact k

theorem k99 {v : Value} {i t : Int} {c : Cf} (h : PM v i t c w) (k : K (.int .u64 t) w) : CK Pr 99 #[v] w K := by
  obtain ⟨b, v1, v2, v3, rfl, hb, hc, ⟨bi, rfl, hbi⟩, ⟨bt, rfl, hbt⟩⟩ := h
  refine c99 ?_
  unfold t99
  (repeat (first | (refine go ?_; intros) | (refine gon ?_; intros)))
  exact k

theorem k97 {v : Value} {i t : Int} {c : Cf} (h : PM v i t c w) (k : ∀ v', PC v' c w → K v' w) : CK Pr 97 #[v] w K := by
  obtain ⟨b, v1, v2, v3, rfl, hb, hc, ⟨bi, rfl, hbi⟩, ⟨bt, rfl, hbt⟩⟩ := h
  refine c97 ?_
  unfold t97
  (repeat (first | (refine go ?_; intros) | (refine gon ?_; intros)))
  exact k _ hc

theorem k210 {v : Value} {c : Cf} (h : PC v c w) (k : ∀ v', Nums w (some 22) v' c.v → K v' w) : CK Pr 210 #[v] w K := by
  obtain ⟨b, v1, v2, v3, v4, v5, rfl, hb, h1, h2, h3, h4, ⟨b5, rfl, hb5⟩⟩ := h
  refine c210 ?_
  unfold t210
  (repeat (first | (refine go ?_; intros) | (refine gon ?_; intros)))
  exact k _ h1

theorem k211 {v : Value} {c : Cf} (h : PC v c w) (k : ∀ v', Nums w (some 22) v' c.l → K v' w) : CK Pr 211 #[v] w K := by
  obtain ⟨b, v1, v2, v3, v4, v5, rfl, hb, h1, h2, h3, h4, ⟨b5, rfl, hb5⟩⟩ := h
  refine c211 ?_
  unfold t211
  (repeat (first | (refine go ?_; intros) | (refine gon ?_; intros)))
  exact k _ h2

theorem k212 {v : Value} {c : Cf} (h : PC v c w) (k : ∀ v', Nums w (some 22) v' c.o → K v' w) : CK Pr 212 #[v] w K := by
  obtain ⟨b, v1, v2, v3, v4, v5, rfl, hb, h1, h2, h3, h4, ⟨b5, rfl, hb5⟩⟩ := h
  refine c212 ?_
  unfold t212
  (repeat (first | (refine go ?_; intros) | (refine gon ?_; intros)))
  exact k _ h3

theorem k213 {v : Value} {c : Cf} (h : PC v c w) (k : ∀ v', Nums w (some 22) v' c.n → K v' w) : CK Pr 213 #[v] w K := by
  obtain ⟨b, v1, v2, v3, v4, v5, rfl, hb, h1, h2, h3, h4, ⟨b5, rfl, hb5⟩⟩ := h
  refine c213 ?_
  unfold t213
  (repeat (first | (refine go ?_; intros) | (refine gon ?_; intros)))
  exact k _ h4

theorem k156 {v : Value} {c : Cf} (h : PC v c w) (k : K (.bool c.a) w) : CK Pr 156 #[v] w K := by
  obtain ⟨b, v1, v2, v3, v4, v5, rfl, hb, h1, h2, h3, h4, ⟨b5, rfl, hb5⟩⟩ := h
  refine c156 ?_
  unfold t156
  (repeat (first | (refine go ?_; intros) | (refine gon ?_; intros)))
  exact k

theorem k124 {v : Value} {e : En} (h : PE v e w) (k : K (.int .u64 e.i) w) : CK Pr 124 #[v] w K := by
  obtain ⟨b, vt, vi, vk, vd, rfl, hb, ht, hi, hk, hd⟩ := h
  refine c124 ?_
  unfold t124
  rcases hi with ⟨rfl, h0⟩ | ⟨b2, rfl, hb2⟩
  · (repeat (first | (refine go ?_; intros) | (refine gon ?_; intros)))
    rw [h0] at k
    exact k
  · (repeat (first | (refine go ?_; intros) | (refine gon ?_; intros)))
    exact k

theorem k128 {v : Value} {e : En} (h : PE v e w) (k : K (.int .u64 e.t) w) : CK Pr 128 #[v] w K := by
  obtain ⟨b, vt, vi, vk, vd, rfl, hb, ht, hi, hk, hd⟩ := h
  refine c128 ?_
  unfold t128
  rcases ht with ⟨rfl, h0⟩ | ⟨b2, rfl, hb2⟩
  · (repeat (first | (refine go ?_; intros) | (refine gon ?_; intros)))
    rw [h0] at k
    exact k
  · (repeat (first | (refine go ?_; intros) | (refine gon ?_; intros)))
    exact k

theorem k129 {v : Value} {e : En} (h : PE v e w) (k : K (.int .i32 e.k) w) : CK Pr 129 #[v] w K := by
  obtain ⟨b, vt, vi, vk, vd, rfl, hb, ht, hi, hk, hd⟩ := h
  refine c129 ?_
  unfold t129
  rcases hk with ⟨rfl, h0⟩ | ⟨b2, rfl, hb2⟩
  · (repeat (first | (refine go ?_; intros) | (refine gon ?_; intros)))
    rw [h0] at k
    exact k
  · (repeat (first | (refine go ?_; intros) | (refine gon ?_; intros)))
    exact k

theorem k130 {v : Value} {e : En} (h : PE v e w) (k : ∀ v', Sl w (some 5) 1 v' (byteList e.d) → K v' w) : CK Pr 130 #[v] w K := by
  obtain ⟨b, vt, vi, vk, vd, rfl, hb, ht, hi, hk, hd⟩ := h
  refine c130 ?_
  unfold t130
  (repeat (first | (refine go ?_; intros) | (refine gon ?_; intros)))
  exact k _ hd

theorem k133 {v : Value} {c : Cf} (h : PC v c w) (l1 : c.v.length ≤ 1000000) (l2 : c.l.length ≤ 1000000) (l3 : c.o.length ≤ 1000000) (l4 : c.n.length ≤ 1000000)
    (k : ∀ v1 v2 v3 v4 w', Ex w w' → Own w' w.heap.size 22 1 v1 (nums c.v) → Own w' w.heap.size 22 1 v2 (nums c.l) → Own w' w.heap.size 22 1 v3 (nums c.o) → Own w' w.heap.size 22 1 v4 (nums c.n) → K (.agg #[v1, v2, v3, v4, .bool c.a]) w') : CK Pr 133 #[v] w K := by
  refine c133 ?_
  unfold t133
  refine e_allocA fun b0 w0 e0 hb0 sa sb => ?_
  refine cl_fn (k210 (h.ex ex_) fun v1 h1 => ?_)
  refine cl_fn (k107 h1 l1 fun u1 w1 e1 o1 => ?_)
  have z1 := e1.size
  refine cl_fn (k211 (h.ex ex_) fun v2 h2 => ?_)
  refine cl_fn (k107 h2 l2 fun u2 w2 e2 o2 => ?_)
  have z2 := e2.size
  refine cl_fn (k212 (h.ex ex_) fun v3 h3 => ?_)
  refine cl_fn (k107 h3 l3 fun u3 w3 e3 o3 => ?_)
  have z3 := e3.size
  refine cl_fn (k213 (h.ex ex_) fun v4 h4 => ?_)
  refine cl_fn (k107 h4 l4 fun u4 w4 e4 o4 => ?_)
  have z4 := e4.size
  refine cl_fn (k156 (h.ex ex_) ?_)
  refine b25_0_1_2_3_4 o1.sl.one o2.sl.one o3.sl.one o4.sl.one rfl ?_
  refine u_stA bk_ (Nat.le_of_ble_eq_true rfl) (by rfl) (by simp only [List.all_cons, List.all_nil, o1.sl.one, o2.sl.one, o3.sl.one, o4.sl.one]; rfl) nm_ fun w5 u5 hb5 z5 => ?_
  (repeat (first | (refine go ?_; intros) | (refine gon ?_; intros)))
  refine k u1 u2 u3 u4 w5 ex_ ?_ ?_ ?_ ?_
  · exact ((((o1.ex e2).ex e3).ex e4).mono (by omega)).up u5 fun _ _ => .inl rfl
  · exact (((o2.ex e3).ex e4).mono (by omega)).up u5 fun _ _ => .inl rfl
  · exact ((o3.ex e4).mono (by omega)).up u5 fun _ _ => .inl rfl
  · exact (o4.mono (by omega)).up u5 fun _ _ => .inl rfl

theorem k90 {v : Value} {s : Sn} (h : PS v s w) (l1 : s.c.v.length ≤ 1000000) (l2 : s.c.l.length ≤ 1000000) (l3 : s.c.o.length ≤ 1000000) (l4 : s.c.n.length ≤ 1000000)
    (k : ∀ v1 v2 v3 v4 w', Ex w w' → Own w' w.heap.size 22 1 v1 (nums s.c.v) → Own w' w.heap.size 22 1 v2 (nums s.c.l) → Own w' w.heap.size 22 1 v3 (nums s.c.o) → Own w' w.heap.size 22 1 v4 (nums s.c.n) → K (.agg (snCells s v1 v2 v3 v4)) w') : CK Pr 90 #[v] w K := by
  refine c90 ?_
  unfold t90
  refine e_allocA fun b0 w0 e0 hb0 sa sb => ?_
  refine cl_fn (k95 (h.ex ex_) fun vm hm => ?_)
  refine dr_rule (fun b => b = b0) [29] fun w1 e1 z1 => ?_
  refine cl_fn (k132 (h.ex ex_) fun vd hd => ⟨.refl _ _ _, ?_⟩)
  refine q_strS (s := s.d) (fun w' hw => hd.typ hw rfl) ?_
  refine cl_fn (k96 (hm.ex e1) ⟨.refl _ _ _, ?_⟩)
  refine cl_fn (k99 (hm.ex e1) ⟨.refl _ _ _, ?_⟩)
  refine cl_fn (k97 (hm.ex e1) fun vc hc => ⟨.refl _ _ _, ?_⟩)
  refine cl_fn (k133 hc l1 l2 l3 l4 fun u1 u2 u3 u4 w2 e2 o1 o2 o3 o4 => ⟨.of_ex e2, ?_⟩)
  have z2 := e2.size
  refine b27_0_1_2_3 rfl rfl rfl ?_
  refine u_stA bk_ (Nat.le_of_ble_eq_true rfl) (by rfl) (by simp only [List.all_cons, List.all_nil, o1.sl.one, o2.sl.one, o3.sl.one, o4.sl.one]; rfl) nm_ fun w5 u5 hb5 z5 => ⟨(Up.of_ex e2).trans u5, ?_⟩
  (repeat (first | (refine go ?_; intros) | (refine gon ?_; intros)))
  refine k u1 u2 u3 u4 w5 ex_ ?_ ?_ ?_ ?_
  · exact (o1.mono (by omega)).up u5 fun _ _ => .inl rfl
  · exact (o2.mono (by omega)).up u5 fun _ _ => .inl rfl
  · exact (o3.mono (by omega)).up u5 fun _ _ => .inl rfl
  · exact (o4.mono (by omega)).up u5 fun _ _ => .inl rfl

theorem En.one {e : En} : ∀ u ∈ (Value.agg e.cells.toArray).cells.toList, one u = true := by
  intro u hu
  simp only [Value.cells, En.cells, List.mem_cons, List.not_mem_nil, or_false] at hu
  rcases hu with rfl | rfl | rfl | rfl <;> rfl

theorem k86 {v : Value} {ps : List Value} {l : List En} (hv : Sl w te 1 v (ones ps)) (hps : PEs ps l w) (hl : l.length ≤ 1000000) (hk : ∀ e ∈ l, i64 e.k)
    (h : ∀ v' w', Ex w w' → Own w' w.heap.size 56 4 v' (l.map En.cells) → K v' w') : CK Pr 86 #[v] w K := by
  refine c86 ?_
  unfold t86
  refine q_lenSl hv ?_
  have hol : (ones ps).length = l.length := by rw [ones, List.length_map, hps.len]
  rw [hol]
  refine loop_n (α := Nat) (fun j τ w' => g τ 2 = .int .i64 j ∧ j ≤ l.length ∧ Ex w w' ∧ Own w' w.heap.size 56 4 (g τ 0) ((l.take j).map En.cells)) (fun j => l.length - j) 0
    ⟨rfl, Nat.zero_le _, .refl _ _ _, Own.nil _ _ _ _⟩ ?_
  intro j τ w' R ⟨hj, hle, hex, hown⟩ hR
  rw [hj]
  (repeat (first | (refine go ?_; intros) | (refine gon ?_; intros)))
  have zz := hex.size
  refine if_split (fun hb => ?_) (fun hb => ?_)
  · have hj' : j < l.length := by simpa using hb
    obtain ⟨p, hp⟩ : ∃ p, ps[j]? = some p := ⟨_, List.getElem?_eq_getElem (by rw [hps.len]; exact hj')⟩
    obtain ⟨e, he, hpe⟩ := hps.get hp
    have hpe' := hpe.ex hex
    refine q_ixs j (hv.ex hex) rfl (by rw [ones, List.getElem?_map, hp]; rfl) fun _ => ?_
    refine cl_fn (k128 hpe' ?_)
    refine cl_fn (k124 hpe' ?_)
    refine cl_fn (k129 hpe' ?_)
    (repeat (first | (refine go ?_; intros) | (refine gon ?_; intros)))
    refine cl_fn (k130 hpe' fun vd hd => ?_)
    refine q_strS (s := e.d) (fun w2 h2 => by cases h2; exact hd) ?_
    have hke := hk e (List.mem_of_getElem? he)
    rw [wrap64 hke.1 hke.2]
    refine b56_0_1_2_3 rfl rfl rfl rfl ?_
    have hlt : ((l.take j).map En.cells).length = j := by rw [List.length_map, List.length_take]; omega
    refine e_push (n := 4) hown (by rfl) (by omega) En.one (by rw [hlt]; omega) (by rw [hlt]; omega) (by omega) fun _ v' w3 u3 ow3 hbl z3 => ?_
    (repeat (first | (refine go ?_; intros) | (refine gon ?_; intros)))
    refine hR (j + 1) _ _ ⟨by rw [← wrapS (by omega)]; rfl, hj', ?_, ?_⟩ (by omega)
    · exact hex.new u3 fun b hb => (hown.lt b hb).1
    · rw [take_snoc he, List.map_append]; exact ow3
  · have : ¬ ((j : Int) < (l.length : Nat)) := of_decide_eq_false hb
    have hjl : j = l.length := by omega
    rw [hjl, List.take_length] at hown
    exact h _ _ hex hown

end Go.Proofs.YtmmpogfbhelioaaGreat
/-
  The rule for copy: a made slice takes over what another one holds.
  Conditions: elements of one cell, as many as there are.
-/
namespace Go.Proofs.YtmmpogfbhelioaaGreat
set_option maxRecDepth 10000
set_option linter.unusedVariables false
set_option linter.unusedSimpArgs false
variable {P : Program} {w : World} {KW : Value → World → Prop} {te : Option Nat}

theorem e_copy {t ty e by' base : Nat} [TSli P t e 1] [TElm P e 1 by'] {v x : Value} {xs ys : List (List Value)} (ho : Own w base e 1 v xs) (hx : Sl w te 1 x ys) (hl : xs.length = ys.length) (h1 : ∀ y ∈ ys, ∀ u ∈ y, one u = true)
    (k : ∀ r w', Up (fun b => v.ownBlock = some b) [e + 2] w w' → Own w' base e 1 v ys → w'.heap.size = w.heap.size → KW r w') : Ef P (Builtin.copy_ #[t, t] ty #[v, x]) w KW := by
  obtain ⟨inf, hu, hinf, hn, hn0⟩ := TSli.facts (P := P) t e 1
  obtain ⟨⟨hol, hown⟩, hlen⟩ := ho
  have hfl : ys.flatten.length = ys.length := by
    have := hx.eln
    clear hx h1 hl k
    induction ys with
    | nil => rfl
    | cons y r ih => rw [List.flatten_cons, List.length_append, ih (fun z hz => this z (by simp [hz])), this y (by simp), List.length_cons]; omega
  have hsz : P.info? e = some inf ∧ inf.size = 1 := ⟨hinf, hn⟩
  by_cases h0 : ys = []
  · subst h0
    have hx0 : xs = [] := List.eq_nil_of_length_eq_zero (by simpa using hl)
    subst hx0
    obtain ⟨a, c, rfl⟩ := hx.sh
    have hr : (Builtin.copy_ #[t, t] ty #[v, .slice a ([] : List (List Value)).length c]).run P w = .ok (goInt 0) w := by
      rcases hown with ⟨rfl, _⟩ | ⟨g, cap, cur, rfl, _⟩ <;> cases a <;>
        simp [Builtin.copy_, run_und hu, Builtin.lenOf, Builtin.firstCells, run_size hinf, loadCells, loadCellsFrom, storeCells]
    exact .mk _ w hr (k _ w (.refl _ _ _) ⟨⟨hol, hown⟩, hlen⟩ rfl)
  · have hy0 : ys.length ≠ 0 := fun h => h0 (List.eq_nil_of_length_eq_zero h)
    rcases hown with ⟨rfl, hz⟩ | ⟨g, cap, cur, rfl, hbg, hg, hnc, hmx, hcs, htake⟩
    · omega
    · cases hx with
      | nil => exact absurd rfl h0
      | row b o c cs et fz _ hb hc hm hs hxx hn ht =>
        have hcell : ∀ j u, ys.flatten[j]? = some u → w.cell? ((⟨b, o, none⟩ : Addr).add j) = some u := by
          intro j u hj
          rw [add_addr, hb.cell]
          rw [← hxx, List.getElem?_take, List.getElem?_drop] at hj
          split at hj
          · simpa using hj
          · cases hj
        have hr := run_copy_row (P := P) w t t ty e g 0 xs.length cap ⟨b, o, none⟩ ys.length c cur e ys.flatten hu (by rw [hinf]; simp [hsz.2]) hg (by rw [hfl, hl]; simp) hcell (by rw [hfl, hcs]; omega) (fun u hu' => by
          obtain ⟨y, hy, huy⟩ := List.mem_flatten.1 hu'
          exact one_iff u (h1 y hy u huy))
        refine .mk _ _ hr (k _ _ ?_ ⟨⟨?_, ?_⟩, hn⟩ ?_)
        · refine ⟨by simp [World.setRow], rfl, rfl, rfl, fun b' o' hb' hc' => ?_⟩
          have hne : b' ≠ g := by
            rintro rfl
            rcases hc' with hc' | hc'
            · have := Bk.one hb' hg
              subst this
              simp [kd] at hc'
            · exact hc' rfl
          unfold Bk at *
          rw [setRow_other w g b' _ hne]; exact hb'
        · rw [hfl, Nat.mul_one]
        · refine .inr ⟨g, cap, _, by rw [hl], hbg, setRow_heap w g cur _ e _ hg, by omega, hmx, ?_, ?_⟩
          · simp [hfl, hcs]; omega
          · simp only [List.take_zero, List.nil_append, Nat.zero_add, Nat.mul_one]
            rw [← hfl, List.take_append_of_le_length (Nat.le_refl _), List.take_length]
        · simp [World.setRow]

end Go.Proofs.YtmmpogfbhelioaaGreat
/-
  The readable texts of the program's functions, printed by gen.py, and their links with the program.
  Conditions: none.
-/
namespace Go.Proofs.YtmmpogfbhelioaaGreat
set_option maxRecDepth 10000
set_option linter.unusedVariables false
set_option linter.unusedSimpArgs false
set_option linter.unusedVariables false
/-- (*pub/raft/raftpb.ConfState).ZzClone -/
def t226 (a0 : Value) (K : Value → World → Prop) (w : World) : Prop :=
  Qu Pr (Is w) (binS .eql 102 (.tmp 3) (.const (Value.pointer none)) a0 (Value.pointer none)) fun v1 =>
  If v1 (
    K (Value.pointer none) w) (
    Dr w fun S2 w3 =>
    Qu Pr (S2) (nilS a0) fun v4 =>
    Qu Pr (S2) (Instr.fieldAt 200 v4 0) fun v5 =>
    Qu Pr (S2) (Instr.loadAt 23 v5) fun v6 =>
    Cl Pr (callV (fn 287) #[v6]) w3 fun v8 w7 => S2 w7 ∧ 
    Qu Pr (S2) (nilS a0) fun v9 =>
    Qu Pr (S2) (Instr.fieldAt 200 v9 1) fun v10 =>
    Qu Pr (S2) (Instr.loadAt 23 v10) fun v11 =>
    Cl Pr (callV (fn 287) #[v11]) w7 fun v13 w12 => S2 w12 ∧ 
    Qu Pr (S2) (nilS a0) fun v14 =>
    Qu Pr (S2) (Instr.fieldAt 200 v14 2) fun v15 =>
    Qu Pr (S2) (Instr.loadAt 23 v15) fun v16 =>
    Cl Pr (callV (fn 287) #[v16]) w12 fun v18 w17 => S2 w17 ∧ 
    Qu Pr (S2) (nilS a0) fun v19 =>
    Qu Pr (S2) (Instr.fieldAt 200 v19 3) fun v20 =>
    Qu Pr (S2) (Instr.loadAt 23 v20) fun v21 =>
    Cl Pr (callV (fn 287) #[v21]) w17 fun v23 w22 => S2 w22 ∧ 
    Qu Pr (S2) (nilS a0) fun v24 =>
    Qu Pr (S2) (Instr.fieldAt 200 v24 4) fun v25 =>
    Qu Pr (S2) (Instr.loadAt 117 v25) fun v26 =>
    Cl Pr (callV (fn 288) #[v26]) w22 fun v28 w27 => S2 w27 ∧ 
    Qu Pr (S2) (Instr.build 200 #[(0, v8), (1, v13), (2, v18), (3, v23), (4, v28)]) fun v29 =>
    Ef Pr (Instr.box 200 v29) w27 fun v31 w30 => S2 w30 ∧ 
    K v31 w30)
theorem c226 {a0 : Value} {K : Value → World → Prop} {w : World} (h : t226 a0 K w) : CK Pr 226 #[a0] w K := by
  refine calls_of_RF [] Tryz.func226 rfl ?_ ?_ ?_
  · kernel_rfl
  · exact Nat.le_of_ble_eq_true rfl
  · exact cast (by kernel_rfl) h

/-- pub/raft.payloadsSize -/
def t236 (a0 : Value) (K : Value → World → Prop) (w : World) : Prop :=
  Qu Pr (Is w) (Builtin.len_ #[115] 3 #[a0]) fun v1 =>
  LoopW [(Value.int .u64 0), undef, (Value.int .i64 0), undef, undef, undef, undef, undef, undef, undef, undef] (fun r2 τ3 w4 =>
    Qu Pr (Is w4) (binS .lss 3 (.tmp 8) (.tmp 7) (g τ3 2) v1) fun v5 =>
    If v5 (
      Qu Pr (Is w4) (Instr.indexAt 115 a0 (g τ3 2)) fun v6 =>
      Qu Pr (Is w4) (Instr.loadAt 212 v6) fun v7 =>
      Cl Pr (callV (fn 294) #[v7]) w4 fun v9 w8 => 
      Qu Pr (Is w8) (binS .add 181 (.tmp 12) (.tmp 14) (g τ3 0) v9) fun v10 =>
      Qu Pr (Is w8) (binS .add 3 (.tmp 8) (.const (Value.int .i64 1)) (g τ3 2) (Value.int .i64 1)) fun v11 =>
      r2 [v10, v7, v11, v5, v6, v7, (g τ3 0), v7, v9, v10, v11] w8) (
      K (g τ3 0) w4)) w
theorem c236 {a0 : Value} {K : Value → World → Prop} {w : World} (h : t236 a0 K w) : CK Pr 236 #[a0] w K := by
  refine calls_of_RF [(3, [3, 5, 8, 9, 10, 11, 12, 13, 14, 15, 16])] Tryz.func236 rfl ?_ ?_ ?_
  · kernel_rfl
  · exact Nat.le_of_ble_eq_true rfl
  · exact cast (by kernel_rfl) h

/-- (*pub/raft.raft).zzIntn -/
def t241 (a0 a1 : Value) (K : Value → World → Prop) (w : World) : Prop :=
  Qu Pr (Is w) (nilS a0) fun v1 =>
  Qu Pr (Is w) (Instr.fieldAt 187 v1 30) fun v2 =>
  Qu Pr (Is w) (Instr.loadAt 185 v2) fun v3 =>
  Qu Pr (Is w) (Builtin.len_ #[185] 3 #[v3]) fun v4 =>
  Qu Pr (Is w) (binS .eql 3 (.tmp 10) (.const (Value.int .i64 0)) v4 (Value.int .i64 0)) fun v5 =>
  If v5 (
    K (Value.int .i64 0) w) (
    Dr w fun S6 w7 =>
    Qu Pr (S6) (nilS a0) fun v8 =>
    Qu Pr (S6) (Instr.fieldAt 187 v8 30) fun v9 =>
    Qu Pr (S6) (Instr.loadAt 185 v9) fun v10 =>
    Qu Pr (S6) (nilS a0) fun v11 =>
    Qu Pr (S6) (Instr.fieldAt 187 v11 31) fun v12 =>
    Qu Pr (S6) (Instr.loadAt 3 v12) fun v13 =>
    Qu Pr (S6) (nilS a0) fun v14 =>
    Qu Pr (S6) (Instr.fieldAt 187 v14 30) fun v15 =>
    Qu Pr (S6) (Instr.loadAt 185 v15) fun v16 =>
    Qu Pr (S6) (Builtin.len_ #[185] 3 #[v16]) fun v17 =>
    Qu Pr (S6) (binS .rem 3 (.tmp 19) (.tmp 24) v13 v17) fun v18 =>
    Qu Pr (S6) (Instr.indexAt 185 v10 v18) fun v19 =>
    Qu Pr (S6) (Instr.loadAt 3 v19) fun v20 =>
    Qu Pr (Is w7) (nilS a0) fun v21 =>
    Qu Pr (Is w7) (Instr.fieldAt 187 v21 31) fun v22 =>
    Qu Pr (Is w7) (Instr.loadAt 3 v22) fun v23 =>
    Qu Pr (Is w7) (binS .add 3 (.tmp 31) (.const (Value.int .i64 1)) v23 (Value.int .i64 1)) fun v24 =>
    Qu Pr (Is w7) (nilS a0) fun v25 =>
    Qu Pr (Is w7) (Instr.fieldAt 187 v25 31) fun v26 =>
    Eu Pr (Instr.storeAt 3 v26 v24) w7 fun w27 => 
    Qu Pr (Is w27) (convert 3 22 v20) fun v28 =>
    Qu Pr (Is w27) (convert 3 22 a1) fun v29 =>
    Qu Pr (Is w27) (binS .rem 22 (.tmp 36) (.tmp 38) v28 v29) fun v30 =>
    Qu Pr (Is w27) (convert 22 3 v30) fun v31 =>
    K v31 w27)
theorem c241 {a0 a1 : Value} {K : Value → World → Prop} {w : World} (h : t241 a0 a1 K w) : CK Pr 241 #[a0, a1] w K := by
  refine calls_of_RF [] Tryz.func241 rfl ?_ ?_ ?_
  · kernel_rfl
  · exact Nat.le_of_ble_eq_true rfl
  · exact cast (by kernel_rfl) h

/-- (*pub/raft/tracker.Inflights).reset -/
def t265 (a0 : Value) (K : Value → World → Prop) (w : World) : Prop :=
  Qu Pr (Is w) (nilS a0) fun v1 =>
  Qu Pr (Is w) (Instr.fieldAt 230 v1 0) fun v2 =>
  Eu Pr (Instr.storeAt 3 v2 (Value.int .i64 0)) w fun w3 => 
  Qu Pr (Is w3) (nilS a0) fun v4 =>
  Qu Pr (Is w3) (Instr.fieldAt 230 v4 1) fun v5 =>
  Eu Pr (Instr.storeAt 3 v5 (Value.int .i64 0)) w3 fun w6 => 
  Qu Pr (Is w6) (nilS a0) fun v7 =>
  Qu Pr (Is w6) (Instr.fieldAt 230 v7 2) fun v8 =>
  Eu Pr (Instr.storeAt 22 v8 (Value.int .u64 0)) w6 fun w9 => 
  K (.tuple #[]) w9
theorem c265 {a0 : Value} {K : Value → World → Prop} {w : World} (h : t265 a0 K w) : CK Pr 265 #[a0] w K := by
  refine calls_of_RF [] Tryz.func265 rfl ?_ ?_ ?_
  · kernel_rfl
  · exact Nat.le_of_ble_eq_true rfl
  · exact cast (by kernel_rfl) h

/-- pub/raft/raftpb.zzPointer[uint64] -/
def t266 (a0 : Value) (K : Value → World → Prop) (w : World) : Prop :=
  Qu Pr (Is w) (binS .eql 104 (.tmp 4) (.const (Value.pointer none)) a0 (Value.pointer none)) fun v1 =>
  If v1 (
    K (Value.pointer none) w) (
    Qu Pr (Is w) (nilS a0) fun v2 =>
    Qu Pr (Is w) (Instr.loadAt 22 v2) fun v3 =>
    Ef Pr (Instr.alloc 22 true (.tuple #[])) w fun v5 w4 => 
    Eu Pr (Instr.storeAt 22 v5 v3) w4 fun w6 => 
    K v5 w6)
theorem c266 {a0 : Value} {K : Value → World → Prop} {w : World} (h : t266 a0 K w) : CK Pr 266 #[a0] w K := by
  refine calls_of_RF [] Tryz.func266 rfl ?_ ?_ ?_
  · kernel_rfl
  · exact Nat.le_of_ble_eq_true rfl
  · exact cast (by kernel_rfl) h

/-- pub/raft/raftpb.zzPointer[pub/raft/raftpb.EntryType] -/
def t267 (a0 : Value) (K : Value → World → Prop) (w : World) : Prop :=
  Qu Pr (Is w) (binS .eql 213 (.tmp 4) (.const (Value.pointer none)) a0 (Value.pointer none)) fun v1 =>
  If v1 (
    K (Value.pointer none) w) (
    Qu Pr (Is w) (nilS a0) fun v2 =>
    Qu Pr (Is w) (Instr.loadAt 233 v2) fun v3 =>
    Ef Pr (Instr.alloc 233 true (.tuple #[])) w fun v5 w4 => 
    Eu Pr (Instr.storeAt 233 v5 v3) w4 fun w6 => 
    K v5 w6)
theorem c267 {a0 : Value} {K : Value → World → Prop} {w : World} (h : t267 a0 K w) : CK Pr 267 #[a0] w K := by
  refine calls_of_RF [] Tryz.func267 rfl ?_ ?_ ?_
  · kernel_rfl
  · exact Nat.le_of_ble_eq_true rfl
  · exact cast (by kernel_rfl) h

@[irreducible] def t268_1 (w6 : World) (a0 : Value) (v4 : Value) (J72 : World → Prop) (a1 : Value) : Prop :=
    Qu Pr (Is w6) (nilS a0) fun v81 =>
    Qu Pr (Is w6) (Instr.fieldAt 194 v81 2) fun v82 =>
    Qu Pr (Is w6) (Instr.loadAt 22 v82) fun v83 =>
    Qu Pr (Is w6) (binS .leq 22 (.tmp 56) (.tmp 60) v4 v83) fun v84 =>
    Jo (fun  (w123 : World) => (
        J72 w123 : Prop)) fun J124 =>
    If v84 (
      Qu Pr (Is w6) (nilS a0) fun v125 =>
      Qu Pr (Is w6) (Instr.fieldAt 194 v125 1) fun v126 =>
      Eu Pr (Instr.storeAt 115 v126 a1) w6 fun w127 => 
      Qu Pr (Is w127) (nilS a0) fun v128 =>
      Qu Pr (Is w127) (Instr.fieldAt 194 v128 2) fun v129 =>
      Eu Pr (Instr.storeAt 22 v129 v4) w127 fun w130 => 
      Qu Pr (Is w130) (nilS a0) fun v131 =>
      Qu Pr (Is w130) (Instr.fieldAt 194 v131 2) fun v132 =>
      Qu Pr (Is w130) (Instr.loadAt 22 v132) fun v133 =>
      Qu Pr (Is w130) (nilS a0) fun v134 =>
      Qu Pr (Is w130) (Instr.fieldAt 194 v134 4) fun v135 =>
      Eu Pr (Instr.storeAt 22 v135 v133) w130 fun w136 => 
      J124 w136) (
      Qu Pr (Is w6) (nilS a0) fun v137 =>
      Qu Pr (Is w6) (Instr.fieldAt 194 v137 2) fun v138 =>
      Qu Pr (Is w6) (Instr.loadAt 22 v138) fun v139 =>
      Cl Pr (callV (fn 309) #[a0, v139, v4]) w6 fun v141 w140 => 
      Ef Pr (Builtin.append_ #[115, 115] 115 #[v141, a1]) w140 fun v143 w142 => 
      Qu Pr (Is w142) (nilS a0) fun v144 =>
      Qu Pr (Is w142) (Instr.fieldAt 194 v144 1) fun v145 =>
      Eu Pr (Instr.storeAt 115 v145 v143) w142 fun w146 => 
      Qu Pr (Is w146) (nilS a0) fun v147 =>
      Qu Pr (Is w146) (Instr.fieldAt 194 v147 4) fun v148 =>
      Qu Pr (Is w146) (Instr.loadAt 22 v148) fun v149 =>
      Qu Pr (Is w146) (Builtin.min_ #[22, 22] 22 #[v149, v4]) fun v150 =>
      Qu Pr (Is w146) (nilS a0) fun v151 =>
      Qu Pr (Is w146) (Instr.fieldAt 194 v151 4) fun v152 =>
      Eu Pr (Instr.storeAt 22 v152 v150) w146 fun w153 => 
      J124 w153)
/-- (*pub/raft.unstable).truncateAndAppend -/
def t268 (a0 a1 : Value) (K : Value → World → Prop) (w : World) : Prop :=
  Qu Pr (Is w) (Instr.indexAt 115 a1 (Value.int .i64 0)) fun v1 =>
  Qu Pr (Is w) (Instr.loadAt 212 v1) fun v2 =>
  Cl Pr (callV (fn 124) #[v2]) w fun v4 w3 => 
  Dr w3 fun S5 w6 =>
  Qu Pr (S5) (nilS a0) fun v7 =>
  Qu Pr (S5) (Instr.fieldAt 194 v7 2) fun v8 =>
  Qu Pr (S5) (Instr.loadAt 22 v8) fun v9 =>
  Qu Pr (S5) (nilS a0) fun v10 =>
  Qu Pr (S5) (Instr.fieldAt 194 v10 1) fun v11 =>
  Qu Pr (S5) (Instr.loadAt 115 v11) fun v12 =>
  Qu Pr (S5) (Builtin.len_ #[115] 3 #[v12]) fun v13 =>
  Qu Pr (S5) (convert 3 22 v13) fun v14 =>
  Qu Pr (S5) (binS .add 22 (.tmp 37) (.tmp 43) v9 v14) fun v15 =>
  Qu Pr (S5) (binS .eql 22 (.tmp 33) (.tmp 44) v4 v15) fun v16 =>
  Jo (fun  (w71 : World) => (
      K (.tuple #[]) w71 : Prop)) fun J72 =>
  If v16 (
    Qu Pr (Is w6) (nilS a0) fun v73 =>
    Qu Pr (Is w6) (Instr.fieldAt 194 v73 1) fun v74 =>
    Qu Pr (Is w6) (Instr.loadAt 115 v74) fun v75 =>
    Ef Pr (Builtin.append_ #[115, 115] 115 #[v75, a1]) w6 fun v77 w76 => 
    Qu Pr (Is w76) (nilS a0) fun v78 =>
    Qu Pr (Is w76) (Instr.fieldAt 194 v78 1) fun v79 =>
    Eu Pr (Instr.storeAt 115 v79 v77) w76 fun w80 => 
    J72 w80) (t268_1 w6 a0 v4 J72 a1)
theorem c268 {a0 a1 : Value} {K : Value → World → Prop} {w : World} (h : t268 a0 a1 K w) : CK Pr 268 #[a0, a1] w K := by
  refine calls_of_RF [] Tryz.func268 rfl ?_ ?_ ?_
  · kernel_rfl
  · exact Nat.le_of_ble_eq_true rfl
  · exact cast (by kernel_rfl) h

/-- pub/raft/raftpb.zzNumbers -/
def t287 (a0 : Value) (K : Value → World → Prop) (w : World) : Prop :=
  Qu Pr (Is w) (binS .eql 23 (.tmp 4) (.const (Value.slice none 0 0)) a0 (Value.slice none 0 0)) fun v1 =>
  If v1 (
    K (Value.slice none 0 0) w) (
    Qu Pr (Is w) (Builtin.len_ #[23] 3 #[a0]) fun v2 =>
    Ef Pr (Instr.makeSlice 23 v2 v2) w fun v4 w3 => 
    Ef Pr (Builtin.copy_ #[23, 23] 3 #[v4, a0]) w3 fun _ w5 => 
    K v4 w5)
theorem c287 {a0 : Value} {K : Value → World → Prop} {w : World} (h : t287 a0 K w) : CK Pr 287 #[a0] w K := by
  refine calls_of_RF [] Tryz.func287 rfl ?_ ?_ ?_
  · kernel_rfl
  · exact Nat.le_of_ble_eq_true rfl
  · exact cast (by kernel_rfl) h

/-- pub/raft/raftpb.zzPointer[bool] -/
def t288 (a0 : Value) (K : Value → World → Prop) (w : World) : Prop :=
  Qu Pr (Is w) (binS .eql 117 (.tmp 4) (.const (Value.pointer none)) a0 (Value.pointer none)) fun v1 =>
  If v1 (
    K (Value.pointer none) w) (
    Qu Pr (Is w) (nilS a0) fun v2 =>
    Qu Pr (Is w) (Instr.loadAt 4 v2) fun v3 =>
    Ef Pr (Instr.alloc 4 true (.tuple #[])) w fun v5 w4 => 
    Eu Pr (Instr.storeAt 4 v5 v3) w4 fun w6 => 
    K v5 w6)
theorem c288 {a0 : Value} {K : Value → World → Prop} {w : World} (h : t288 a0 K w) : CK Pr 288 #[a0] w K := by
  refine calls_of_RF [] Tryz.func288 rfl ?_ ?_ ?_
  · kernel_rfl
  · exact Nat.le_of_ble_eq_true rfl
  · exact cast (by kernel_rfl) h

/-- pub/raft.payloadSize -/
def t294 (a0 : Value) (K : Value → World → Prop) (w : World) : Prop :=
  Cl Pr (callV (fn 130) #[a0]) w fun v2 w1 => 
  Qu Pr (Is w1) (Builtin.len_ #[99] 3 #[v2]) fun v3 =>
  Qu Pr (Is w1) (convert 3 181 v3) fun v4 =>
  K v4 w1
theorem c294 {a0 : Value} {K : Value → World → Prop} {w : World} (h : t294 a0 K w) : CK Pr 294 #[a0] w K := by
  refine calls_of_RF [] Tryz.func294 rfl ?_ ?_ ?_
  · kernel_rfl
  · exact Nat.le_of_ble_eq_true rfl
  · exact cast (by kernel_rfl) h

/-- (*pub/raft.MemoryStorage).FirstIndex -/
def t351 (a0 : Value) (K : Value → World → Prop) (w : World) : Prop :=
  Qu Pr (Is w) (nilS a0) fun v1 =>
  Qu Pr (Is w) (Instr.fieldAt 225 v1 3) fun v2 =>
  Qu Pr (Is w) (Instr.fieldAt 223 v2 1) fun v3 =>
  Qu Pr (Is w) (Instr.loadAt 3 v3) fun v4 =>
  Qu Pr (Is w) (binS .add 3 (.tmp 8) (.const (Value.int .i64 1)) v4 (Value.int .i64 1)) fun v5 =>
  Qu Pr (Is w) (nilS a0) fun v6 =>
  Qu Pr (Is w) (Instr.fieldAt 225 v6 3) fun v7 =>
  Qu Pr (Is w) (Instr.fieldAt 223 v7 1) fun v8 =>
  Eu Pr (Instr.storeAt 3 v8 v5) w fun w9 => 
  Cl Pr (callV (fn 123) #[a0]) w9 fun v11 w10 => 
  K (.tuple #[v11, Value.nilIface]) w10
theorem c351 {a0 : Value} {K : Value → World → Prop} {w : World} (h : t351 a0 K w) : CK Pr 351 #[a0] w K := by
  refine calls_of_RF [] Tryz.func351 rfl ?_ ?_ ?_
  · kernel_rfl
  · exact Nat.le_of_ble_eq_true rfl
  · exact cast (by kernel_rfl) h

/-- (*pub/raft.MemoryStorage).LastIndex -/
def t352 (a0 : Value) (K : Value → World → Prop) (w : World) : Prop :=
  Qu Pr (Is w) (nilS a0) fun v1 =>
  Qu Pr (Is w) (Instr.fieldAt 225 v1 3) fun v2 =>
  Qu Pr (Is w) (Instr.fieldAt 223 v2 2) fun v3 =>
  Qu Pr (Is w) (Instr.loadAt 3 v3) fun v4 =>
  Qu Pr (Is w) (binS .add 3 (.tmp 8) (.const (Value.int .i64 1)) v4 (Value.int .i64 1)) fun v5 =>
  Qu Pr (Is w) (nilS a0) fun v6 =>
  Qu Pr (Is w) (Instr.fieldAt 225 v6 3) fun v7 =>
  Qu Pr (Is w) (Instr.fieldAt 223 v7 2) fun v8 =>
  Eu Pr (Instr.storeAt 3 v8 v5) w fun w9 => 
  Cl Pr (callV (fn 355) #[a0]) w9 fun v11 w10 => 
  K (.tuple #[v11, Value.nilIface]) w10
theorem c352 {a0 : Value} {K : Value → World → Prop} {w : World} (h : t352 a0 K w) : CK Pr 352 #[a0] w K := by
  refine calls_of_RF [] Tryz.func352 rfl ?_ ?_ ?_
  · kernel_rfl
  · exact Nat.le_of_ble_eq_true rfl
  · exact cast (by kernel_rfl) h

/-- (*pub/raft.MemoryStorage).Term -/
def t354 (a0 a1 : Value) (K : Value → World → Prop) (w : World) : Prop :=
  Qu Pr (Is w) (nilS a0) fun v1 =>
  Qu Pr (Is w) (Instr.fieldAt 225 v1 3) fun v2 =>
  Qu Pr (Is w) (Instr.fieldAt 223 v2 4) fun v3 =>
  Qu Pr (Is w) (Instr.loadAt 3 v3) fun v4 =>
  Qu Pr (Is w) (binS .add 3 (.tmp 11) (.const (Value.int .i64 1)) v4 (Value.int .i64 1)) fun v5 =>
  Qu Pr (Is w) (nilS a0) fun v6 =>
  Qu Pr (Is w) (Instr.fieldAt 225 v6 3) fun v7 =>
  Qu Pr (Is w) (Instr.fieldAt 223 v7 4) fun v8 =>
  Eu Pr (Instr.storeAt 3 v8 v5) w fun w9 => 
  Qu Pr (Is w9) (nilS a0) fun v10 =>
  Qu Pr (Is w9) (Instr.fieldAt 225 v10 2) fun v11 =>
  Qu Pr (Is w9) (Instr.loadAt 115 v11) fun v12 =>
  Qu Pr (Is w9) (Instr.indexAt 115 v12 (Value.int .i64 0)) fun v13 =>
  Qu Pr (Is w9) (Instr.loadAt 212 v13) fun v14 =>
  Cl Pr (callV (fn 124) #[v14]) w9 fun v16 w15 => 
  Qu Pr (Is w15) (binS .lss 22 (.tmp 23) (.tmp 24) a1 v16) fun v17 =>
  If v17 (
    Qu Pr (Is w15) (Instr.makeInterface 226 (Value.string (ByteArray.mk #[114, 101, 113, 117, 101, 115, 116, 101, 100, 32, 105, 110, 100, 101, 120, 32, 105, 115, 32, 117, 110, 97, 118, 97, 105, 108, 97, 98, 108, 101, 32, 100, 117, 101, 32, 116, 111, 32, 99, 111, 109, 112, 97, 99, 116, 105, 111, 110]))) fun v18 =>
    K (.tuple #[(Value.int .u64 0), v18]) w15) (
    Qu Pr (Is w15) (binS .sub 22 (.tmp 27) (.tmp 28) a1 v16) fun v19 =>
    Qu Pr (Is w15) (convert 22 3 v19) fun v20 =>
    Qu Pr (Is w15) (nilS a0) fun v21 =>
    Qu Pr (Is w15) (Instr.fieldAt 225 v21 2) fun v22 =>
    Qu Pr (Is w15) (Instr.loadAt 115 v22) fun v23 =>
    Qu Pr (Is w15) (Builtin.len_ #[115] 3 #[v23]) fun v24 =>
    Qu Pr (Is w15) (binS .geq 3 (.tmp 30) (.tmp 35) v20 v24) fun v25 =>
    If v25 (
      Qu Pr (Is w15) (Instr.makeInterface 226 (Value.string (ByteArray.mk #[114, 101, 113, 117, 101, 115, 116, 101, 100, 32, 101, 110, 116, 114, 121, 32, 97, 116, 32, 105, 110, 100, 101, 120, 32, 105, 115, 32, 117, 110, 97, 118, 97, 105, 108, 97, 98, 108, 101]))) fun v26 =>
      K (.tuple #[(Value.int .u64 0), v26]) w15) (
      Qu Pr (Is w15) (nilS a0) fun v27 =>
      Qu Pr (Is w15) (Instr.fieldAt 225 v27 2) fun v28 =>
      Qu Pr (Is w15) (Instr.loadAt 115 v28) fun v29 =>
      Qu Pr (Is w15) (binS .sub 22 (.tmp 42) (.tmp 43) a1 v16) fun v30 =>
      Qu Pr (Is w15) (Instr.indexAt 115 v29 v30) fun v31 =>
      Qu Pr (Is w15) (Instr.loadAt 212 v31) fun v32 =>
      Cl Pr (callV (fn 128) #[v32]) w15 fun v34 w33 => 
      K (.tuple #[v34, Value.nilIface]) w33))
theorem c354 {a0 a1 : Value} {K : Value → World → Prop} {w : World} (h : t354 a0 a1 K w) : CK Pr 354 #[a0, a1] w K := by
  refine calls_of_RF [] Tryz.func354 rfl ?_ ?_ ?_
  · kernel_rfl
  · exact Nat.le_of_ble_eq_true rfl
  · exact cast (by kernel_rfl) h

/-- (*pub/raft.MemoryStorage).lastIndex -/
def t355 (a0 : Value) (K : Value → World → Prop) (w : World) : Prop :=
  Dr w fun S1 w2 =>
  Qu Pr (S1) (nilS a0) fun v3 =>
  Qu Pr (S1) (Instr.fieldAt 225 v3 2) fun v4 =>
  Qu Pr (S1) (Instr.loadAt 115 v4) fun v5 =>
  Qu Pr (S1) (Instr.indexAt 115 v5 (Value.int .i64 0)) fun v6 =>
  Qu Pr (S1) (Instr.loadAt 212 v6) fun v7 =>
  Cl Pr (callV (fn 124) #[v7]) w2 fun v9 w8 => S1 w8 ∧ 
  Qu Pr (S1) (nilS a0) fun v10 =>
  Qu Pr (S1) (Instr.fieldAt 225 v10 2) fun v11 =>
  Qu Pr (S1) (Instr.loadAt 115 v11) fun v12 =>
  Qu Pr (S1) (Builtin.len_ #[115] 3 #[v12]) fun v13 =>
  Qu Pr (S1) (convert 3 22 v13) fun v14 =>
  Qu Pr (S1) (binS .add 22 (.tmp 9) (.tmp 15) v9 v14) fun v15 =>
  Qu Pr (S1) (binS .sub 22 (.tmp 16) (.const (Value.int .u64 1)) v15 (Value.int .u64 1)) fun v16 =>
  K v16 w8
theorem c355 {a0 : Value} {K : Value → World → Prop} {w : World} (h : t355 a0 K w) : CK Pr 355 #[a0] w K := by
  refine calls_of_RF [] Tryz.func355 rfl ?_ ?_ ?_
  · kernel_rfl
  · exact Nat.le_of_ble_eq_true rfl
  · exact cast (by kernel_rfl) h

end Go.Proofs.YtmmpogfbhelioaaGreat
/-
  Contracts: clones of configurations and snapshots.
  Conditions: each one's own.
-/
namespace Go.Proofs.YtmmpogfbhelioaaGreat
set_option maxRecDepth 10000
set_option linter.unusedVariables false
set_option linter.unusedSimpArgs false
set_option linter.unusedVariables false
set_option linter.unusedSimpArgs false
attribute [local irreducible] Instr.box Instr.alloc Instr.loadAt Instr.storeAt Instr.fieldAt Instr.indexAt Instr.build Instr.buildSlice Instr.makeSlice Instr.makeMap Instr.mapUpdate Instr.lookup Instr.range Instr.next Instr.entry Instr.extract Instr.makeInterface Instr.makeFunc Instr.sliceAt Instr.typeAssert Instr.field Instr.index Builtin.len_ Builtin.cap_ Builtin.max_ Builtin.min_ Builtin.append_ Builtin.copy_ Builtin.delete_ convert binS pickS nilS callV callM Op.unary Own Mp It Cu


variable {K : Value → World → Prop} {w : World} {te : Option Nat}

theorem k287 {v : Value} {l : List Int} (hv : Nums w te v l) (hl : l.length ≤ 1000000) (h : ∀ v' w', Ex w w' → Sl w' (some 22) 1 v' (nums l) → K v' w') : CK Pr 287 #[v] w K := by
  refine c287 ?_
  unfold t287
  have hz := nums_len l
  obtain ⟨a, c, hvv⟩ := hv.sh
  cases a with
  | none =>
    have h0 : nums l = [] := hv.none_ hvv
    subst hvv
    (repeat (first | (refine go ?_; intros) | (refine gon ?_; intros)))
    refine h _ _ (.refl _ _ _) ?_
    rw [h0]
    exact .nil _ _
  | some a =>
    rw [hvv]
    (repeat (first | (refine go ?_; intros) | (refine gon ?_; intros)))
    rw [← hvv]
    refine e_make (m := (nums l).length) (zv := .int .u64 0) rfl rfl rfl (by omega) (by omega) fun w1 e1 o1 z1 => ?_
    refine e_copy o1 (hv.ex e1) (by rw [List.length_replicate]) nums_one fun r w2 u2 o2 z2 => ?_
    refine h _ _ ?_ o2.sl
    refine e1.new u2 fun b hb => ?_
    cases hb
    exact Nat.le_refl _

theorem k288 {v : Value} {p : Bool} (hv : PB1 v p w) (h : ∀ v' w', Ex w w' → PB1 v' p w' → K v' w') : CK Pr 288 #[v] w K := by
  refine c288 ?_
  unfold t288
  obtain ⟨b, rfl, hb⟩ := hv
  (repeat (first | (refine go ?_; intros) | (refine gon ?_; intros)))
  exact h _ _ ex_ ⟨_, rfl, by exact bk_⟩

theorem k266 {v : Value} {p : Int} (hv : PN1 22 .u64 v p w) (h : ∀ v' w', Ex w w' → PN1 22 .u64 v' p w' → K v' w') : CK Pr 266 #[v] w K := by
  refine c266 ?_
  unfold t266
  obtain ⟨b, rfl, hb⟩ := hv
  (repeat (first | (refine go ?_; intros) | (refine gon ?_; intros)))
  exact h _ _ ex_ ⟨_, rfl, by exact bk_⟩

theorem bytes_one {s : ByteArray} : ∀ y ∈ byteList s, ∀ u ∈ y, one u = true := by
  intro y hy u hu
  obtain ⟨x, _, rfl⟩ := List.mem_map.1 hy
  rw [List.mem_singleton.1 hu]; rfl

theorem k204 {v : Value} {s : ByteArray} (hv : Sl w te 1 v (byteList s)) (hl : s.size ≤ 1000000) (h : ∀ v' w', Ex w w' → Sl w' (some 5) 1 v' (byteList s) → K v' w') : CK Pr 204 #[v] w K := by
  refine c204 ?_
  unfold t204
  have hz : (byteList s).length = s.size := by simp only [byteList, List.length_map, Array.length_toList]; rfl
  obtain ⟨a, c, hvv⟩ := hv.sh
  cases a with
  | none =>
    have h0 : byteList s = [] := hv.none_ hvv
    subst hvv
    (repeat (first | (refine go ?_; intros) | (refine gon ?_; intros)))
    refine h _ _ (.refl _ _ _) ?_
    rw [h0]
    exact .nil _ _
  | some a =>
    rw [hvv]
    (repeat (first | (refine go ?_; intros) | (refine gon ?_; intros)))
    rw [← hvv]
    refine e_make (m := (byteList s).length) (zv := .int .u8 0) rfl rfl rfl (by omega) (by omega) fun w1 e1 o1 z1 => ?_
    refine e_copy o1 (hv.ex e1) (by rw [List.length_replicate]) bytes_one fun r w2 u2 o2 z2 => ?_
    refine h _ _ ?_ o2.sl
    refine e1.new u2 fun b hb => ?_
    cases hb
    exact Nat.le_refl _

/-- Lists that are small. -/
structure CfSm (c : Cf) : Prop where
  v : c.v.length ≤ 1000000
  l : c.l.length ≤ 1000000
  o : c.o.length ≤ 1000000
  n : c.n.length ≤ 1000000

theorem k226 {v : Value} {c : Cf} (hv : PC v c w) (sm : CfSm c) (h : ∀ v' w', Ex w w' → PC v' c w' → K v' w') : CK Pr 226 #[v] w K := by
  obtain ⟨b, v1, v2, v3, v4, v5, rfl, hb, h1, h2, h3, h4, h5⟩ := hv
  refine c226 ?_
  unfold t226
  (repeat (first | (refine go ?_; intros) | (refine gon ?_; intros)))
  refine dr_rule No [] fun w1 e1 z1 => ?_
  (repeat (first | (refine go ?_; intros) | (refine gon ?_; intros)))
  refine cl_fn (k287 (h1.ex ex_) sm.v fun u1 w2 e2 o1 => ⟨by exact ex_, ?_⟩)
  (repeat (first | (refine go ?_; intros) | (refine gon ?_; intros)))
  refine cl_fn (k287 (h2.ex ex_) sm.l fun u2 w3 e3 o2 => ⟨by exact ex_, ?_⟩)
  (repeat (first | (refine go ?_; intros) | (refine gon ?_; intros)))
  refine cl_fn (k287 (h3.ex ex_) sm.o fun u3 w4 e4 o3 => ⟨by exact ex_, ?_⟩)
  (repeat (first | (refine go ?_; intros) | (refine gon ?_; intros)))
  refine cl_fn (k287 (h4.ex ex_) sm.n fun u4 w5 e5 o4 => ⟨by exact ex_, ?_⟩)
  (repeat (first | (refine go ?_; intros) | (refine gon ?_; intros)))
  refine cl_fn (k288 (h5.ex ex_) fun u5 w6 e6 o5 => ⟨by exact ex_, ?_⟩)
  refine b200_0_1_2_3_4 o1.one o2.one o3.one o4.one o5.one ?_
  refine e_boxA fun b0 w7 e7 hb7 s1 s2 => ⟨by exact ex_, ?_⟩
  refine h _ _ ex_ ⟨_, _, _, _, _, _, rfl, hb7, ?_, ?_, ?_, ?_, ?_⟩ <;> exact lf_

theorem k205 {v : Value} {i t : Int} {c : Cf} (hv : PM v i t c w) (sm : CfSm c) (h : ∀ v' w', Ex w w' → PM v' i t c w' → K v' w') : CK Pr 205 #[v] w K := by
  obtain ⟨b, v1, v2, v3, rfl, hb, h1, h2, h3⟩ := hv
  refine c205 ?_
  unfold t205
  (repeat (first | (refine go ?_; intros) | (refine gon ?_; intros)))
  refine dr_rule No [] fun w1 e1 z1 => ?_
  (repeat (first | (refine go ?_; intros) | (refine gon ?_; intros)))
  refine cl_fn (k226 (h1.ex ex_) sm fun u1 w2 e2 o1 => ⟨by exact ex_, ?_⟩)
  (repeat (first | (refine go ?_; intros) | (refine gon ?_; intros)))
  refine cl_fn (k266 (h2.ex ex_) fun u2 w3 e3 o2 => ⟨by exact ex_, ?_⟩)
  (repeat (first | (refine go ?_; intros) | (refine gon ?_; intros)))
  refine cl_fn (k266 (h3.ex ex_) fun u3 w4 e4 o3 => ⟨by exact ex_, ?_⟩)
  refine b106_0_1_2 o1.one o2.one o3.one ?_
  refine e_boxA fun b0 w7 e7 hb7 s1 s2 => ⟨by exact ex_, ?_⟩
  refine h _ _ ex_ ⟨_, _, _, _, rfl, hb7, ?_, ?_, ?_⟩ <;> exact lf_

theorem k122 {v : Value} {s : Sn} (hv : PS v s w) (hd : s.d.size ≤ 1000000) (sm : CfSm s.c) (h : ∀ v' w', Ex w w' → PS v' s w' → K v' w') : CK Pr 122 #[v] w K := by
  obtain ⟨b, v1, v2, rfl, hb, h1, h2⟩ := hv
  refine c122 ?_
  unfold t122
  (repeat (first | (refine go ?_; intros) | (refine gon ?_; intros)))
  refine dr_rule No [] fun w1 e1 z1 => ?_
  (repeat (first | (refine go ?_; intros) | (refine gon ?_; intros)))
  refine cl_fn (k204 (h1.ex ex_) hd fun u1 w2 e2 o1 => ⟨by exact ex_, ?_⟩)
  (repeat (first | (refine go ?_; intros) | (refine gon ?_; intros)))
  refine cl_fn (k205 (h2.ex ex_) sm fun u2 w3 e3 o2 => ⟨by exact ex_, ?_⟩)
  refine b108_0_1 o1.one o2.one ?_
  refine e_boxA fun b0 w7 e7 hb7 s1 s2 => ⟨by exact ex_, ?_⟩
  refine h _ _ ex_ ⟨_, _, _, rfl, hb7, ?_, ?_⟩ <;> exact lf_

theorem k98 {v : Value} {c : Cf} (hv : PC v c w) (h : K v w) : CK Pr 98 #[v] w K := by
  obtain ⟨b, v1, v2, v3, v4, v5, rfl, hb, h1, h2, h3, h4, ⟨b5, rfl, hb5⟩⟩ := hv
  refine c98 ?_
  unfold t98
  unfold Jo
  (repeat (first | (refine go ?_; intros) | (refine gon ?_; intros)))
  exact h

theorem k69 (h : K (.tuple #[]) w) : CK Pr 69 #[.nilIface] w K := by
  refine c69 ?_
  unfold t69
  (repeat (first | (refine go ?_; intros) | (refine gon ?_; intros)))
  exact h

theorem k203 {v : Value} {i t : Int} {c : Cf} (hv : PM v i t c w) (h : K v w) : CK Pr 203 #[v] w K := by
  have hv' := hv
  obtain ⟨b, v1, v2, v3, rfl, hb, h1, ⟨b2, rfl, h2⟩, ⟨b3, rfl, h3⟩⟩ := hv
  refine c203 ?_
  unfold t203
  unfold Jo
  (repeat (first | (refine go ?_; intros) | (refine gon ?_; intros)))
  unfold t203_1
  unfold Jo
  (repeat (first | (refine go ?_; intros) | (refine gon ?_; intros)))
  refine cl_fn (k98 h1 ?_)
  obtain ⟨b5, _, _, _, _, _, rfl, _⟩ := h1
  (repeat (first | (refine go ?_; intros) | (refine gon ?_; intros)))
  exact h

theorem k118 {v : Value} {s : Sn} (hv : PS v s w) (h : K v w) : CK Pr 118 #[v] w K := by
  obtain ⟨b, v1, v2, rfl, hb, h1, h2⟩ := hv
  refine c118 ?_
  unfold t118
  unfold Jo
  (repeat (first | (refine go ?_; intros) | (refine gon ?_; intros)))
  refine cl_fn (k203 h2 ?_)
  obtain ⟨b5, _, _, _, rfl, _⟩ := h2
  (repeat (first | (refine go ?_; intros) | (refine gon ?_; intros)))
  exact h

theorem PC.typ {C : Nat → Prop} {T : List Nat} {w w' : World} {v : Value} {c : Cf} (u : Up C T w w') (h : PC v c w) (t1 : T.contains 202 = false) (t2 : T.contains 24 = false) (t3 : T.contains 6 = false) : PC v c w' := by
  obtain ⟨b, v1, v2, v3, v4, v5, rfl, hb, h1, h2, h3, h4, ⟨b5, rfl, hb5⟩⟩ := h
  exact ⟨b, _, _, _, _, _, rfl, u.at_ hb t1, h1.typ u t2, h2.typ u t2, h3.typ u t2, h4.typ u t2, ⟨_, rfl, u.at_ hb5 t3⟩⟩

abbrev Cf0 : Cf := ⟨[], [], [], [], false⟩

theorem k98n (h : ∀ v w', Ex w w' → PC v Cf0 w' → K v w') : CK Pr 98 #[.pointer none] w K := by
  refine c98 ?_
  unfold t98
  unfold Jo
  (repeat (first | (refine go ?_; intros) | (refine gon ?_; intros)))
  exact h _ _ ex_ ⟨_, _, _, _, _, _, rfl, by exact bk_, .nil _ _, .nil _ _, .nil _ _, .nil _ _, ⟨_, rfl, by exact bk_⟩⟩

theorem k203n (h : ∀ v w', Ex w w' → PM v 0 0 Cf0 w' → K v w') : CK Pr 203 #[.pointer none] w K := by
  refine c203 ?_
  unfold t203
  unfold Jo
  (repeat (first | (refine go ?_; intros) | (refine gon ?_; intros)))
  unfold t203_1
  unfold Jo
  (repeat (first | (refine go ?_; intros) | (refine gon ?_; intros)))
  refine cl_fn (k98n fun v1 w1 e1 h1 => ?_)
  have z1 := e1.size
  have o1 := h1.one
  (repeat (first | (refine go ?_; intros) | (refine gon ?_; intros)))
  refine h _ _ ex_ ⟨_, _, _, _, rfl, by exact bk_, by (repeat (first | assumption | refine PC.ex (by assumption) ?_ | refine PC.typ (by assumption) ?_ rfl rfl rfl)), ⟨_, rfl, by exact bk_⟩, ⟨_, rfl, by exact bk_⟩⟩

theorem PM.typ {C : Nat → Prop} {T : List Nat} {w w' : World} {v : Value} {i t : Int} {c : Cf} (u : Up C T w w') (h : PM v i t c w) (t0 : T.contains 108 = false) (t1 : T.contains 202 = false) (t2 : T.contains 24 = false) (t3 : T.contains 6 = false) : PM v i t c w' := by
  obtain ⟨b, v1, v2, v3, rfl, hb, h1, ⟨b2, rfl, h2⟩, ⟨b3, rfl, h3⟩⟩ := h
  exact ⟨b, _, _, _, rfl, u.at_ hb t0, h1.typ u t1 t2 t3, ⟨_, rfl, u.at_ h2 t2⟩, ⟨_, rfl, u.at_ h3 t2⟩⟩

abbrev Sn0 : Sn := ⟨ByteArray.empty, 0, 0, Cf0⟩

theorem k118n (h : ∀ v w', Ex w w' → PS v Sn0 w' → K v w') : CK Pr 118 #[.pointer none] w K := by
  refine c118 ?_
  unfold t118
  unfold Jo
  (repeat (first | (refine go ?_; intros) | (refine gon ?_; intros)))
  refine cl_fn (k203n fun v1 w1 e1 h1 => ?_)
  have z1 := e1.size
  have o1 := h1.one
  (repeat (first | (refine go ?_; intros) | (refine gon ?_; intros)))
  refine h _ _ ex_ ⟨_, _, _, rfl, by exact bk_, .nil _ _, by (repeat (first | assumption | refine PM.ex (by assumption) ?_ | refine PM.typ (by assumption) ?_ rfl rfl rfl rfl))⟩

end Go.Proofs.YtmmpogfbhelioaaGreat
/-
  Contracts: the storage.
  Conditions: each one's own.
-/
namespace Go.Proofs.YtmmpogfbhelioaaGreat
set_option maxRecDepth 10000
set_option linter.unusedVariables false
set_option linter.unusedSimpArgs false
set_option linter.unusedVariables false
set_option linter.unusedSimpArgs false
attribute [local irreducible] Instr.box Instr.alloc Instr.loadAt Instr.storeAt Instr.fieldAt Instr.indexAt Instr.build Instr.buildSlice Instr.makeSlice Instr.makeMap Instr.mapUpdate Instr.lookup Instr.range Instr.next Instr.entry Instr.extract Instr.makeInterface Instr.makeFunc Instr.sliceAt Instr.typeAssert Instr.field Instr.index Builtin.len_ Builtin.cap_ Builtin.max_ Builtin.min_ Builtin.append_ Builtin.copy_ Builtin.delete_ convert binS pickS nilS callV callM Op.unary Own Mp It Cu


variable {K : Value → World → Prop} {w : World} {te : Option Nat}

/-- Block b is a memory storage of a snapshot and of entries. -/
def MS (base b : Nat) (s : Sn) (es : List En) (w : World) : Prop :=
  ∃ vs ve ps c1 c2 c3 c4 c5 c6, Bk w b (.cells #[.pointer none, vs, ve, .int .i64 c1, .int .i64 c2, .int .i64 c3, .int .i64 c4, .int .i64 c5, .int .i64 c6] 225 (0, 0)) ∧ PS vs s w ∧ base ≤ w.heap.size ∧ Own w base 212 1 ve (ones ps) ∧ PEs ps es w

theorem k68 (h : ∀ b w', Ex w w' → w.heap.size ≤ b → MS w.heap.size b Sn0 [⟨0, 0, 0, ByteArray.empty⟩] w' → K (.pointer (some ⟨b, 0, none⟩)) w') : CK Pr 68 #[] w K := by
  refine c68 ?_
  unfold t68
  refine b215_ ?_
  refine e_boxA fun b1 w1 e1 hb1 s1 s2 => ?_
  refine e_bs1 (n := 1) rfl (by omega) fun w2 e2 o2 z2 => ?_
  refine b225_2 o2.sl.one ?_
  refine e_boxA fun b3 w3 e3 hb3 s3 s4 => ?_
  (repeat (first | (refine go ?_; intros) | (refine gon ?_; intros)))
  refine cl_fn (k118n fun v4 w4 e4 h4 => ?_)
  have z4 := e4.size
  have o4 := h4.one
  (repeat (first | (refine go ?_; intros) | (refine gon ?_; intros)))
  rename_i w5 u5 hb5 z5
  refine h _ _ ex_ (by omega) ⟨_, _, [.pointer (some ⟨b1, 0, none⟩)], _, _, _, _, _, _, hb5, h4.mt rfl u5, by omega, ?_, ?_⟩
  · exact (((o2.ex e3).ex e4).mono (by omega)).up u5 fun _ _ => .inl rfl
  · refine .cons ?_ (.nil _)
    have hb1' : Bk w5 b1 _ := u5.at_ (e4.at_ (e3.at_ (e2.at_ hb1))) rfl
    exact ⟨_, _, _, _, _, rfl, hb1', .inl ⟨rfl, rfl⟩, .inl ⟨rfl, rfl⟩, .inl ⟨rfl, rfl⟩, .nil _ _⟩

theorem k70 {base b : Nat} {v : Value} {s : Sn} {es : List En} (hm : MS base b Sn0 es w) (hs : PS v s w) (hd : s.d.size ≤ 1000000) (sm : CfSm s.c)
    (h : ∀ w', Up (fun x => x = b) [227] w w' → MS base b s [⟨s.t, s.i, 0, ByteArray.empty⟩] w' → K .nilIface w') : CK Pr 70 #[.pointer (some ⟨b, 0, none⟩), v] w K := by
  refine c70 ?_
  unfold t70
  obtain ⟨vs, ve, ps, c1, c2, c3, c4, c5, c6, hb, hvs, hbase, hve, hps⟩ := hm
  refine cl_fn (k118 hs ?_)
  (repeat (first | (refine go ?_; intros) | (refine gon ?_; intros)))
  refine cl_fn (k95 hvs fun vm hvm => ?_)
  refine cl_fn (k96 hvm ?_)
  refine cl_fn (k95 hs fun vn hvn => ?_)
  refine cl_fn (k96 hvn ?_)
  (repeat (first | (refine go ?_; intros) | (refine gon ?_; intros)))
  refine cl_fn (k122 hs hd sm fun u1 w1 e1 h1 => ?_)
  have o1 := h1.one
  have z1 := e1.size
  (repeat (first | (refine go ?_; intros) | (refine gon ?_; intros)))
  rename_i w2 u2 hb2 z2
  have hs2 : PS v s w2 := (hs.ex e1).mt rfl u2
  refine cl_fn (k95 hs2 fun va ha => ?_)
  refine cl_fn (k99 ha ?_)
  refine e_box1 rfl fun b3 w3 e3 hb3 s3a s3b => ?_
  refine cl_fn (k95 (hs2.ex e3) fun vc hc => ?_)
  refine cl_fn (k96 hc ?_)
  refine e_box1 rfl fun b4 w4 e4 hb4 s4a s4b => ?_
  refine b215_0_1 rfl rfl ?_
  refine e_boxA fun b5 w5 e5 hb5 s5a s5b => ?_
  refine e_bs1 (n := 1) rfl (by omega) fun w6 e6 o6 z6 => ?_
  have hb6 : Bk w6 b _ := e6.at_ (e5.at_ (e4.at_ (e3.at_ hb2)))
  (repeat (first | (refine go ?_; intros) | (refine gon ?_; intros)))
  rename_i w7 u7 hb7 z7
  refine h w7 ?_ ⟨_, _, [.pointer (some ⟨b5, 0, none⟩)], _, _, _, _, _, _, hb7, ?_, by omega, (o6.mono (by omega)).up u7 fun _ _ => .inl rfl, .cons ?_ (.nil _)⟩
  · exact Up.trans (((((Up.of_ex e1 : Up (fun x => x = b) [227] w w1).trans u2).ex e3).ex e4).ex (e5.trans e6)) u7
  · exact ((((((h1.mt rfl u2).ex e3).ex e4).ex e5).ex e6)).mt rfl u7
  · have q5 : Bk w7 b5 _ := u7.at_ (e6.at_ hb5) rfl
    have q3 : Bk w7 b3 _ := u7.at_ (e6.at_ (e5.at_ (e4.at_ hb3))) rfl
    have q4 : Bk w7 b4 _ := u7.at_ (e6.at_ (e5.at_ hb4)) rfl
    exact ⟨_, _, _, _, _, rfl, q5, .inr ⟨_, rfl, q3⟩, .inr ⟨_, rfl, q4⟩, .inl ⟨rfl, rfl⟩, .nil _ _⟩

theorem k123 {base b : Nat} {s : Sn} {e : En} {es : List En} (hm : MS base b s (e :: es) w) (hi : 0 ≤ e.i ∧ e.i ≤ 1000000000000000) (h : K (.int .u64 (e.i + 1)) w) : CK Pr 123 #[.pointer (some ⟨b, 0, none⟩)] w K := by
  refine c123 ?_
  unfold t123
  obtain ⟨vs, ve, ps, c1, c2, c3, c4, c5, c6, hb, hvs, hbase, hve, hps⟩ := hm
  cases hps with
  | cons hp hr =>
    (repeat (first | (refine go ?_; intros) | (refine gon ?_; intros)))
    refine q_ixs 0 hve.sl rfl rfl fun _ => ?_
    refine cl_fn (k124 hp ?_)
    (repeat (first | (refine go ?_; intros) | (refine gon ?_; intros)))
    rw [wrapU (by omega) (by omega)]
    exact h

end Go.Proofs.YtmmpogfbhelioaaGreat
/-
  Contracts: the storage's Append.
  Conditions: what is appended follows the snapshot.
-/
namespace Go.Proofs.YtmmpogfbhelioaaGreat
set_option maxRecDepth 10000
set_option linter.unusedVariables false
set_option linter.unusedSimpArgs false
set_option linter.unusedVariables false
set_option linter.unusedSimpArgs false
attribute [local irreducible] Instr.box Instr.alloc Instr.loadAt Instr.storeAt Instr.fieldAt Instr.indexAt Instr.build Instr.buildSlice Instr.makeSlice Instr.makeMap Instr.mapUpdate Instr.lookup Instr.range Instr.next Instr.entry Instr.extract Instr.makeInterface Instr.makeFunc Instr.sliceAt Instr.typeAssert Instr.field Instr.index Builtin.len_ Builtin.cap_ Builtin.max_ Builtin.min_ Builtin.append_ Builtin.copy_ Builtin.delete_ convert binS pickS nilS callV callM Op.unary Own Mp It Cu


variable {K : Value → World → Prop} {w : World} {te : Option Nat}

theorem PEs.ones {vs : List Value} {es : List En} (h : PEs vs es w) : ∀ v ∈ vs, one v = true := by
  induction h with
  | nil => intro v hv; cases hv
  | cons h _ ih =>
    intro v hv
    rcases List.mem_cons.1 hv with rfl | hv
    · exact h.one
    · exact ih v hv

theorem k71 {base b : Nat} {v : Value} {s : Sn} {e0 : En} {qs : List Value} {l : List En} (hm : MS base b s [e0] w) (hv : Sl w te 1 v (ones qs)) (hq : PEs qs l w) (hl : l.length ≤ 1000) (hi : 0 ≤ e0.i ∧ e0.i ≤ 1000000000000000)
    (hrow : ∀ e, l[0]? = some e → e.i = e0.i + 1) (h : ∀ w', Up (fun x => x = b ∨ base ≤ x) [227, 214] w w' → MS base b s (e0 :: l) w' → K .nilIface w') : CK Pr 71 #[.pointer (some ⟨b, 0, none⟩), v] w K := by
  refine c71 ?_
  unfold t71
  have hol : (ones qs).length = l.length := by rw [ones, List.length_map, hq.len]
  refine q_lenSl hv ?_
  rw [hol]
  (repeat (first | (refine go ?_; intros) | (refine gon ?_; intros)))
  cases l with
  | nil =>
    (repeat (first | (refine go ?_; intros) | (refine gon ?_; intros)))
    exact h w (.refl _ _ _) hm
  | cons e1 r =>
    refine if_f ?_
    unfold t71_3
    obtain ⟨q1, qr, rfl⟩ : ∃ q1 qr, qs = q1 :: qr := by
      cases hq with
      | cons _ _ => exact ⟨_, _, rfl⟩
    have hq' := hq
    cases hq with
    | cons hq1 hqr =>
    have he1 := hrow e1 rfl
    have hl' : r.length + 1 ≤ 1000 := by simpa using hl
    refine cl_fn (k123 hm ⟨hi.1, hi.2⟩ ?_)
    refine q_ixs 0 hv rfl rfl fun _ => ?_
    refine cl_fn (k124 hq1 ?_)
    refine q_lenSl hv ?_
    rw [hol]
    (repeat (first | (refine go ?_; intros) | (refine gon ?_; intros)))
    simp only [List.length_cons]
    have hw : IntKind.u64.wrap (IntKind.u64.wrap (e1.i + IntKind.u64.wrap ((r.length + 1 : Nat) : Int)) - 1) = e1.i + r.length := by
      rw [wrapU (n := ((r.length + 1 : Nat) : Int)) (by omega) (by omega), wrapU (n := e1.i + ((r.length + 1 : Nat) : Int)) (by omega) (by omega), wrapU (by omega) (by omega)]
      omega
    simp only [hw]
    refine if_split (fun hb => ?_) (fun hb => ?_)
    · have := of_decide_eq_true hb
      omega
    unfold t71_2
    refine q_ixs 0 hv rfl rfl fun _ => ?_
    refine cl_fn (k124 hq1 ?_)
    unfold Jo
    (repeat (first | (refine go ?_; intros) | (refine gon ?_; intros)))
    refine if_split (fun hb => ?_) (fun hb => ?_)
    · have := of_decide_eq_true hb
      omega
    unfold t71_1
    refine dr_rule No [] fun w1 x1 z1 => ?_
    obtain ⟨vs, ve, ps, c1, c2, c3, c4, c5, c6, hb1, hvs, hbase, hve, hps⟩ := hm
    cases hps with
    | cons hp0 hpr =>
    cases hpr
    refine q_ixsE 0 (hv.ex x1) rfl rfl fun _ => ?_
    refine cl_fn (k124 (hq1.ex x1) ⟨.refl _ _ _, ?_⟩)
    (repeat (first | (refine go ?_; intros) | (refine gon ?_; intros)))
    refine q_ixsE 0 (hve.sl.ex x1) rfl rfl fun _ => ?_
    refine cl_fn (k124 (hp0.ex x1) ⟨.refl _ _ _, ?_⟩)
    (repeat (first | (refine go ?_; intros) | (refine gon ?_; intros)))
    refine q_lenSl hve.sl ?_
    rw [he1, wrapU (n := e0.i + 1 - e0.i) (by omega) (by omega), show e0.i + 1 - e0.i = (1 : Int) by omega]
    unfold Jo
    (repeat (first | (refine go ?_; intros) | (refine gon ?_; intros)))
    refine q_lenSl hve.sl ?_
    (repeat (first | (refine go ?_; intros) | (refine gon ?_; intros)))
    have hb1w : Bk w1 b _ := x1.at_ hb1
    refine e_app (base := base) (hve.ex x1) (hv.ex x1) (by intro y hy u hu; obtain ⟨z, hz, rfl⟩ := List.mem_map.1 hy; rw [List.mem_singleton.1 hu]; exact hq'.ones z hz) (by rw [hol]; simp [ones]; omega) (by rw [hol]; simp [ones]; omega) (by omega) fun v2 w2 u2 o2 hbl z2 => ?_
    have hb2w := u2.at_ hb1w rfl
    have lt1 := hve.lt
    have o2o := o2.sl.one
    (repeat (first | (refine go ?_; intros) | (refine gon ?_; intros)))
    rename_i w3 u3 hb3 z3
    have ua : Up (fun x => x = b ∨ base ≤ x) [227, 214] w w3 :=
      ((Up.of_ex x1).step u2 (fun y _ hy => .inr (lt1 y hy).1) (fun k hk => by simp at hk; simp [hk])).step u3 (fun y _ hy => .inl hy) (fun k hk => by simp at hk; simp [hk])
    refine h w3 ua ⟨_, _, _, _, _, _, _, _, _, hb3, hvs.mt rfl ua, by have := ua.size; omega, (show Own w2 base 212 1 v2 (ones (_ :: q1 :: qr)) from o2).up u3 fun _ _ => .inl rfl, .cons (hp0.mt rfl ua) (hq'.mt rfl ua)⟩

end Go.Proofs.YtmmpogfbhelioaaGreat
/-
  The rule for a method called through an interface.
  Conditions: the dynamic type is a pointer type with the method itself.
-/
namespace Go.Proofs.YtmmpogfbhelioaaGreat
set_option maxRecDepth 10000
set_option linter.unusedVariables false
set_option linter.unusedSimpArgs false
variable {P : Program} {w : World} {KW : Value → World → Prop}

def tmethB (P : Program) (t : Nat) (name : String) (f : Nat) : Bool := match P.info? t, P.underlying t with
  | some i, some (.pointer _) => (match i.methods.find? (·.name == name) with | some m => m.path.isEmpty && (match m.func with | some (g, true) => Nat.beq g f | _ => false) | none => false)
  | _, _ => false
/-- A pointer type's own method. -/
class TMeth (P : Program) (t : TypeId) (name : String) (f : outParam Nat) : Prop where ok : tmethB P t name f = true

theorem cl_m {t : TypeId} {name : String} {f : Nat} [h : TMeth P t name f] [TFn P f] {v : Value} {args : Array Value} (hk : CK P f (#[v] ++ args) w KW) : Cl P (callM (.iface t v) name args) w KW := by
  have hok := h.ok
  unfold tmethB at hok
  split at hok
  · rename_i i e hi hu
    split at hok
    · rename_i m hm
      simp only [Bool.and_eq_true] at hok
      obtain ⟨hp, hf⟩ := hok
      split at hf
      · rename_i g hg
        have hg' := Nat.eq_of_beq_eq_true hf
        subst hg'
        have hpath : m.path.toList = [] := by
          have : m.path = #[] := Array.isEmpty_iff.1 hp
          rw [this]
        have hmeth : ∀ n, (method (n + 1) t v name).run P w = .ok (g, v) w := by
          intro n
          simp [method, run_info hi, hm, hpath, follow, hg, receiverAt, run_und hu, Place.get]
        refine .mk g (#[v] ++ args) ?_ hk
        have hd : P.types.size + Made.depth = (P.types.size + Made.depth - 1) + 1 := by
          have : 0 < Made.depth := by decide
          omega
        have h0 : (#[Value.iface t v] ++ args)[0]? = some (.iface t v) := by simp [Array.getElem?_append]
        have h1 : (#[Value.iface t v] ++ args).extract 1 (#[Value.iface t v] ++ args).size = args := by simp
        simp only [callM, invoke, h0, h1, callMethod]
        have hm2 := hmeth (P.types.size + Made.depth - 1)
        rw [← hd] at hm2
        show (Sem.bind program fun p => Sem.bind (method (p.types.size + Made.depth) t v name) fun x => callFunc x.1 (#[x.2] ++ args)).run P w = _
        rw [Sem.run_bind']
        show ((method (P.types.size + Made.depth) t v name).bind fun x => callFunc x.1 (#[x.2] ++ args)).run P w = _
        rw [Sem.run_bind', hm2]
        exact run_callFunc g _ w
      · cases hf
    · cases hok
  · cases hok

end Go.Proofs.YtmmpogfbhelioaaGreat
/-
  Rules for numbers in place: a slice whose elements are read, and written over.
  Conditions: elements of one cell; no frozen block.
-/
namespace Go.Proofs.YtmmpogfbhelioaaGreat
set_option maxRecDepth 10000
set_option linter.unusedVariables false
set_option linter.unusedSimpArgs false
set_option linter.unusedVariables false
variable {P : Program} {w : World} {S : World → Prop} {te : Nat} {v : Value} {xs : List Int}

/-- The address of a slice's element. -/
def ea : Value → Nat → Value
  | .slice (some ⟨b, o, _⟩) _ _, j => .pointer (some ⟨b, o + j, none⟩)
  | v, _ => v
/-- The block of a slice. -/
def sb : Value → Nat → Prop
  | .slice (some a) _ _, x => a.block = x
  | _, _ => False

/-- Slice v's elements are the numbers xs; they may be written over. -/
def Nm (te : Nat) (v : Value) (xs : List Int) (w : World) : Prop :=
  ∃ a c, v = .slice a xs.length c ∧ xs.length ≤ maxLen ∧ xs.length ≤ c ∧ (xs = [] ∨ ∃ b o cs, a = some ⟨b, o, none⟩ ∧ Bk w b (.cells cs te (0, 0)) ∧ o + xs.length ≤ cs.size ∧ (cs.toList.drop o).take xs.length = xs.map fun x => Value.int .u64 x)

theorem Nm.ex {w' : World} (u : Ex w w') (h : Nm te v xs w) : Nm te v xs w' := by
  obtain ⟨a, c, rfl, hm, hc, h⟩ := h
  refine ⟨a, c, rfl, hm, hc, ?_⟩
  rcases h with h | ⟨b, o, cs, rfl, hb, h1, h2⟩
  · exact .inl h
  · exact .inr ⟨b, o, cs, rfl, u.at_ hb, h1, h2⟩
theorem Nm.up {C : Nat → Prop} {T : List Nat} {w' : World} (u : Up C T w w') (h : Nm te v xs w) (hT : T.contains (te + 2) = false ∨ ∀ b, sb v b → ¬ C b) : Nm te v xs w' := by
  obtain ⟨a, c, rfl, hm, hc, h⟩ := h
  refine ⟨a, c, rfl, hm, hc, ?_⟩
  rcases h with h | ⟨b, o, cs, rfl, hb, h1, h2⟩
  · exact .inl h
  · refine .inr ⟨b, o, cs, rfl, ?_, h1, h2⟩
    rcases hT with hT | hT
    · exact u.at_ hb hT
    · exact u.off hb (hT b rfl)
theorem Nm.sh (h : Nm te v xs w) : ∃ a c, v = .slice a xs.length c := by
  obtain ⟨a, c, h, _⟩ := h; exact ⟨a, c, h⟩
theorem flat_nums : ∀ l : List Int, (nums l).flatten = l.map fun x => Value.int .u64 x
  | [] => rfl
  | x :: r => by
    have := flat_nums r
    unfold nums at *
    simp only [List.map_cons, List.flatten_cons, this]; rfl
theorem Nm.sl (h : Nm te v xs w) : Sl w (some te) 1 v (nums xs) := by
  obtain ⟨a, c, rfl, hm, hc, h⟩ := h
  rcases h with rfl | ⟨b, o, cs, rfl, hb, h1, h2⟩
  · exact .nil _ _
  · have hl : (nums xs).length = xs.length := by simp [nums]
    have := Sl.row (w := w) (te := some te) (n := 1) b o c cs te (0, 0) (nums xs) hb (by omega) (by omega) (by omega) (by rw [hl, Nat.mul_one, h2, flat_nums]) (by intro x hx; simp [nums] at hx; obtain ⟨y, _, rfl⟩ := hx; rfl) (fun t ht => by cases ht; rfl)
    rw [hl] at this; exact this
theorem Own.nm {base : Nat} (h : Own w base te 1 v (nums xs)) : Nm te v xs w := by
  obtain ⟨⟨hl, hx⟩, hn⟩ := h
  have hlen : (nums xs).length = xs.length := by simp [nums]
  rcases hx with ⟨rfl, h0⟩ | ⟨g, cap, cur, rfl, _, hg, hnc, hmx, hcs, htake⟩
  · have : xs = [] := List.eq_nil_of_length_eq_zero (hlen ▸ h0)
    subst this
    exact ⟨none, 0, rfl, Nat.zero_le _, Nat.le_refl _, .inl rfl⟩
  · rw [hlen] at hnc ⊢
    have hcs' : xs.length ≤ cur.size := by omega
    refine ⟨_, cap, rfl, by omega, hnc, .inr ⟨g, 0, cur, rfl, hg, by omega, ?_⟩⟩
    rw [flat_nums] at htake
    simpa [hlen] using htake

theorem q_ixN {t e : Nat} [TSli P t e 1] {K : Value → Prop} {i : Int} {k : IntKind} (j : Nat) (h : Nm te v xs w) (hi : i = j) (hj : j < xs.length) (kk : K (ea v j)) : Qu P S (Instr.indexAt t v (.int k i)) K := by
  obtain ⟨a, c, rfl, hm, hc, h⟩ := h
  rcases h with rfl | ⟨b, o, cs, rfl, hb, h1, h2⟩
  · exact absurd hj (Nat.not_lt_zero _)
  · refine .mk _ (fun w' _ => run_indexAt hi hj) ?_
    rw [Nat.mul_one]; exact kk
theorem q_nilN {K : Value → Prop} {j : Nat} (h : Nm te v xs w) (hj : j < xs.length) (kk : K (ea v j)) : Qu P S (nilS (ea v j)) K := by
  obtain ⟨a, c, rfl, hm, hc, h⟩ := h
  rcases h with rfl | ⟨b, o, cs, rfl, hb, h1, h2⟩
  · exact absurd hj (Nat.not_lt_zero _)
  · exact q_nil kk
theorem q_ldN {t : Nat} [TCell P t] {K : Value → Prop} {j : Nat} {x : Int} (h : ∀ w, S w → Nm te v xs w) (hx : xs[j]? = some x) (kk : K (.int .u64 x)) : Qu P S (Instr.loadAt t (ea v j)) K := by
  refine .mk _ (fun w' hw => ?_) kk
  have hj : j < xs.length := (List.getElem?_eq_some_iff.1 hx).1
  obtain ⟨a, c, rfl, hm, hc, h⟩ := h w' hw
  rcases h with rfl | ⟨b, o, cs, rfl, hb, h1, h2⟩
  · exact absurd hj (Nat.not_lt_zero _)
  · simp only [Instr.loadAt, Instr.sureAddr, ea]
    refine run_loadVar_cell ?_
    rw [hb.cell]
    have h3 : ((cs.toList.drop o).take xs.length)[j]? = some (Value.int .u64 x) := by rw [h2, List.getElem?_map, hx]; rfl
    rw [List.getElem?_take, if_pos hj, List.getElem?_drop] at h3
    rw [← Array.getElem?_toList]; exact h3
theorem set_map (l : List Int) (j : Nat) (y : Int) (f : Int → Value) : (l.map f).set j (f y) = (l.set j y).map f := by
  induction l generalizing j with
  | nil => rfl
  | cons x r ih =>
    cases j with
    | zero => rfl
    | succ j => simp only [List.map_cons, List.set_cons_succ, ih j]
theorem u_stN {KU : World → Prop} {t : Nat} [TCell P t] {j : Nat} {y : Int} (h : Nm te v xs w) (hj : j < xs.length)
    (k : ∀ w', Up (sb v) [te + 2] w w' → Nm te v (xs.set j y) w' → w'.heap.size = w.heap.size → KU w') : Eu P (Instr.storeAt t (ea v j) (.int .u64 y)) w KU := by
  obtain ⟨a, c, rfl, hm, hc, h⟩ := h
  rcases h with rfl | ⟨b, o, cs, rfl, hb, h1, h2⟩
  · exact absurd hj (Nat.not_lt_zero _)
  · refine u_st hb (by omega) rfl rfl fun w' u hb' z => k w' (u.mono (fun x _ hx => hx.symm) fun _ h => h) ⟨some ⟨b, o, none⟩, c, by simp, by simpa using hm, by simpa using hc, .inr ⟨b, o, _, rfl, hb', by simpa using h1, ?_⟩⟩ z
    have h3 : ((cs.setIfInBounds (o + j) (.int .u64 y)).toList.drop o).take xs.length = ((cs.toList.drop o).take xs.length).set j (.int .u64 y) := by
      rw [Array.toList_setIfInBounds]
      apply List.ext_getElem?
      intro i
      simp only [List.getElem?_take, List.getElem?_drop, List.getElem?_set, List.length_take, List.length_drop, List.length_set]
      by_cases hi : i < xs.length
      · by_cases hij : j = i
        · subst hij
          have h5 : o + j < cs.size := by omega
          have h6 : j < cs.size - o := by omega
          have h7 : j < min xs.length (cs.size - o) := by omega
          simp [hi, h5, h6, h7]
        · have : o + j ≠ o + i := by omega
          simp [hi, hij, this]
      · have : j ≠ i := by omega
        simp [hi, this]
    simp only [List.length_set, h3, h2]
    exact set_map xs j y _

/-- Two elements change places. -/
theorem perm_swap {xs : List Int} {i j : Nat} {a b : Int} (ha : xs[i]? = some a) (hb : xs[j]? = some b) : ((xs.set i b).set j a).Perm xs := by
  have hi : i < xs.length := (List.getElem?_eq_some_iff.1 ha).1
  have hj : j < xs.length := (List.getElem?_eq_some_iff.1 hb).1
  rw [List.perm_iff_count]
  intro x
  by_cases hij : i = j
  · subst hij
    rw [ha] at hb
    cases hb
    have he := (List.getElem?_eq_some_iff.1 ha).2
    rw [List.set_set, ← he, List.set_getElem_self]
  · have h1 : (xs.set i b)[j]? = some b := by rw [List.getElem?_set_ne hij]; exact hb
    have hj' : j < (xs.set i b).length := by simpa using hj
    have ea := List.getElem_of_getElem? ha
    have eb := List.getElem_of_getElem? hb
    have eb' := List.getElem_of_getElem? h1
    rw [List.count_set hj', List.count_set hi]
    obtain ⟨_, ea⟩ := ea
    obtain ⟨_, eb⟩ := eb
    obtain ⟨_, eb'⟩ := eb'
    rw [ea, eb']
    have hm : ∀ y, xs[i]? = some y → (y == x) = true → 1 ≤ List.count x xs := by
      intro y hy hyx
      have := beq_iff_eq.1 hyx
      subst this
      exact List.count_pos_iff.2 (List.mem_of_getElem? hy)
    by_cases h1 : (a == x) = true <;> by_cases h2 : (b == x) = true <;> simp [h1, h2]
    · have := hm a ha h1
      omega
    · have := hm a ha h1
      omega

end Go.Proofs.YtmmpogfbhelioaaGreat
/-
  Contracts: the storage's indices and terms; the log over it.
  Conditions: each one's own.
-/
namespace Go.Proofs.YtmmpogfbhelioaaGreat
set_option maxRecDepth 10000
set_option linter.unusedVariables false
set_option linter.unusedSimpArgs false
set_option linter.unusedVariables false
set_option linter.unusedSimpArgs false
attribute [local irreducible] Instr.box Instr.alloc Instr.loadAt Instr.storeAt Instr.fieldAt Instr.indexAt Instr.build Instr.buildSlice Instr.makeSlice Instr.makeMap Instr.mapUpdate Instr.lookup Instr.range Instr.next Instr.entry Instr.extract Instr.makeInterface Instr.makeFunc Instr.sliceAt Instr.typeAssert Instr.field Instr.index Builtin.len_ Builtin.cap_ Builtin.max_ Builtin.min_ Builtin.append_ Builtin.copy_ Builtin.delete_ convert binS pickS nilS callV callM Op.unary Own Mp It Cu


variable {K : Value → World → Prop} {w : World} {te : Option Nat}

/-- A storage whose entries lie in a block below lim. -/
def MSl (base lim b : Nat) (s : Sn) (es : List En) (w : World) : Prop :=
  ∃ vs ve ps c1 c2 c3 c4 c5 c6, Bk w b (.cells #[.pointer none, vs, ve, .int .i64 c1, .int .i64 c2, .int .i64 c3, .int .i64 c4, .int .i64 c5, .int .i64 c6] 225 (0, 0)) ∧ PS vs s w ∧ base ≤ w.heap.size ∧ Own w base 212 1 ve (ones ps) ∧ PEs ps es w ∧ ∀ x, ve.ownBlock = some x → x < lim

theorem MSl.ms {base lim b : Nat} {s : Sn} {es : List En} (h : MSl base lim b s es w) : MS base b s es w := by
  obtain ⟨vs, ve, ps, c1, c2, c3, c4, c5, c6, h1, h2, h3, h4, h5, h6⟩ := h
  exact ⟨vs, ve, ps, c1, c2, c3, c4, c5, c6, h1, h2, h3, h4, h5⟩
theorem MS.lim {base b : Nat} {s : Sn} {es : List En} (h : MS base b s es w) : MSl base w.heap.size b s es w := by
  obtain ⟨vs, ve, ps, c1, c2, c3, c4, c5, c6, h1, h2, h3, h4, h5⟩ := h
  exact ⟨vs, ve, ps, c1, c2, c3, c4, c5, c6, h1, h2, h3, h4, h5, fun x hx => (h4.lt x hx).2⟩
theorem MSl.up {base lim b : Nat} {s : Sn} {es : List En} {C : Nat → Prop} {T : List Nat} {w' : World} (o : okT T = true) (u : Up C T w w') (hb : T.contains 227 = false ∨ ¬ C b) (hv : T.contains 214 = false ∨ ∀ x, base ≤ x → x < lim → ¬ C x) (h : MSl base lim b s es w) : MSl base lim b s es w' := by
  obtain ⟨vs, ve, ps, c1, c2, c3, c4, c5, c6, h1, h2, h3, h4, h5, h6⟩ := h
  refine ⟨vs, ve, ps, c1, c2, c3, c4, c5, c6, ?_, h2.mt o u, by have := u.size; omega, h4.up u fun x hx => hv.imp id fun hv => hv x (h4.lt x hx).1 (h6 x hx), h5.mt o u, h6⟩
  rcases hb with hb | hb
  · exact u.at_ h1 hb
  · exact u.off h1 hb
theorem MSl.ex {base lim b : Nat} {s : Sn} {es : List En} {w' : World} (u : Ex w w') (h : MSl base lim b s es w) : MSl base lim b s es w' := h.up rfl u (.inr id) (.inr fun _ _ _ => id)
/-- The block itself was stored to: a counter. -/
theorem MSl.cnt {base lim b : Nat} {s : Sn} {es : List En} {w' : World} (u : Up (fun x => x = b) [227] w w') {vs ve : Value} {ps : List Value} {c1 c2 c3 c4 c5 c6 : Int}
    (hb : Bk w' b (.cells #[.pointer none, vs, ve, .int .i64 c1, .int .i64 c2, .int .i64 c3, .int .i64 c4, .int .i64 c5, .int .i64 c6] 225 (0, 0))) (h2 : PS vs s w) (h3 : base ≤ w.heap.size) (h4 : Own w base 212 1 ve (ones ps)) (h5 : PEs ps es w) (h6 : ∀ x, ve.ownBlock = some x → x < lim) : MSl base lim b s es w' :=
  ⟨vs, ve, ps, c1, c2, c3, c4, c5, c6, hb, h2.mt rfl u, by have := u.size; omega, h4.up u fun _ _ => .inl rfl, h5.mt rfl u, h6⟩

instance tmeth121FirstIndex : TMeth Pr 121 "FirstIndex" 351 := ⟨by kernel_rfl⟩
instance tmeth121LastIndex : TMeth Pr 121 "LastIndex" 352 := ⟨by kernel_rfl⟩
instance tmeth121Term : TMeth Pr 121 "Term" 354 := ⟨by kernel_rfl⟩

theorem k351 {base lim b : Nat} {s : Sn} {e : En} {es : List En} (hm : MSl base lim b s (e :: es) w) (hi : 0 ≤ e.i ∧ e.i ≤ 1000000000000000)
    (h : ∀ w', Up (fun x => x = b) [227] w w' → w'.heap.size = w.heap.size → MSl base lim b s (e :: es) w' → K (.tuple #[.int .u64 (e.i + 1), .nilIface]) w') : CK Pr 351 #[.pointer (some ⟨b, 0, none⟩)] w K := by
  refine c351 ?_
  unfold t351
  obtain ⟨vs, ve, ps, c1, c2, c3, c4, c5, c6, h1, h2, h3, h4, h5, h6⟩ := hm
  (repeat (first | (refine go ?_; intros) | (refine gon ?_; intros)))
  rename_i w1 u1 hb1 z1
  have hm1 : MSl base lim b s (e :: es) w1 := MSl.cnt u1 hb1 h2 h3 h4 h5 h6
  exact cl_fn (k123 hm1.ms hi (h w1 u1 z1 hm1))

theorem k355 {base lim b : Nat} {s : Sn} {e : En} {es : List En} (hm : MSl base lim b s (e :: es) w) (hi : 0 ≤ e.i ∧ e.i ≤ 1000000000000000) (hl : es.length ≤ 100000)
    (h : ∀ w', Ex w w' → w'.heap.size = w.heap.size → K (.int .u64 (e.i + es.length)) w') : CK Pr 355 #[.pointer (some ⟨b, 0, none⟩)] w K := by
  refine c355 ?_
  unfold t355
  refine dr_rule No [] fun w1 x1 z1 => ?_
  obtain ⟨vs, ve, ps, c1, c2, c3, c4, c5, c6, h1, h2, h3, h4, h5, h6⟩ := hm.ex x1
  have hl5 := h5.len
  cases h5 with
  | cons hp hr =>
    (repeat (first | (refine go ?_; intros) | (refine gon ?_; intros)))
    refine q_ixsE 0 h4.sl rfl rfl fun _ => ?_
    refine cl_fn (k124 hp ⟨.refl _ _ _, ?_⟩)
    (repeat (first | (refine go ?_; intros) | (refine gon ?_; intros)))
    refine q_lenSl h4.sl ?_
    rw [show (ones (_ :: _)).length = es.length + 1 by simpa [ones] using hl5]
    (repeat (first | (refine go ?_; intros) | (refine gon ?_; intros)))
    rw [wrapU (n := ((es.length + 1 : Nat) : Int)) (by omega) (by omega), wrapU (n := e.i + ((es.length + 1 : Nat) : Int)) (by omega) (by omega), wrapU (by omega) (by omega), show e.i + ((es.length + 1 : Nat) : Int) - 1 = e.i + es.length by omega]
    exact h _ x1 z1

theorem k352 {base lim b : Nat} {s : Sn} {e : En} {es : List En} (hm : MSl base lim b s (e :: es) w) (hi : 0 ≤ e.i ∧ e.i ≤ 1000000000000000) (hl : es.length ≤ 100000)
    (h : ∀ w', Up (fun x => x = b) [227] w w' → w'.heap.size = w.heap.size → MSl base lim b s (e :: es) w' → K (.tuple #[.int .u64 (e.i + es.length), .nilIface]) w') : CK Pr 352 #[.pointer (some ⟨b, 0, none⟩)] w K := by
  refine c352 ?_
  unfold t352
  obtain ⟨vs, ve, ps, c1, c2, c3, c4, c5, c6, h1, h2, h3, h4, h5, h6⟩ := hm
  (repeat (first | (refine go ?_; intros) | (refine gon ?_; intros)))
  rename_i w1 u1 hb1 z1
  have hm1 : MSl base lim b s (e :: es) w1 := MSl.cnt u1 hb1 h2 h3 h4 h5 h6
  exact cl_fn (k355 hm1 hi hl fun w2 x2 z2 => h w2 (u1.ex x2) (by omega) (hm1.ex x2))

theorem k354 {base lim b : Nat} {s : Sn} {e : En} {es : List En} {i : Int} {j : Nat} {x : En} (hm : MSl base lim b s (e :: es) w) (hi : 0 ≤ e.i ∧ e.i ≤ 1000000000000000) (hl : es.length ≤ 100000) (hij : i = e.i + j) (hx : (e :: es)[j]? = some x)
    (h : ∀ w', Up (fun x => x = b) [227] w w' → w'.heap.size = w.heap.size → MSl base lim b s (e :: es) w' → K (.tuple #[.int .u64 x.t, .nilIface]) w') : CK Pr 354 #[.pointer (some ⟨b, 0, none⟩), .int .u64 i] w K := by
  refine c354 ?_
  unfold t354
  obtain ⟨vs, ve, ps, c1, c2, c3, c4, c5, c6, h1, h2, h3, h4, h5, h6⟩ := hm
  have hj : j < es.length + 1 := by simpa using (List.getElem?_eq_some_iff.1 hx).1
  (repeat (first | (refine go ?_; intros) | (refine gon ?_; intros)))
  rename_i w1 u1 hb1 z1
  have hm1 : MSl base lim b s (e :: es) w1 := MSl.cnt u1 hb1 h2 h3 h4 h5 h6
  have h4' : Own w1 base 212 1 ve (ones ps) := h4.up u1 fun _ _ => .inl rfl
  have h5' : PEs ps (e :: es) w1 := h5.mt rfl u1
  have hlen := h5'.len
  have hx' := h5'
  obtain ⟨v, hv⟩ : ∃ v, ps[j]? = some v := by
    have : j < ps.length := by rw [hlen]; simpa using hj
    exact ⟨ps[j], by simp [this]⟩
  obtain ⟨x', hxe, hxp⟩ := h5'.get hv
  rw [hx] at hxe
  cases hxe
  obtain ⟨p0, hp0⟩ : ∃ v, ps[0]? = some v := by
    have : 0 < ps.length := by rw [hlen]; simp
    exact ⟨ps[0], by simp [this]⟩
  obtain ⟨x0, hx0, hp00⟩ := h5'.get hp0
  cases hx0
  refine q_ixs (x := p0) 0 h4'.sl rfl (by simp [ones, hp0]) fun _ => ?_
  refine cl_fn (k124 hp00 ?_)
  (repeat (first | (refine go ?_; intros) | (refine gon ?_; intros)))
  refine if_split (fun hb => ?_) (fun hb => ?_)
  · have := of_decide_eq_true hb
    omega
  (repeat (first | (refine go ?_; intros) | (refine gon ?_; intros)))
  refine q_lenSl h4'.sl ?_
  rw [show (ones ps).length = es.length + 1 by simpa [ones] using hlen]
  have e1 : IntKind.u64.wrap (i - e.i) = (j : Int) := by rw [wrapU (by omega) (by omega)]; omega
  (repeat (first | (refine go ?_; intros) | (refine gon ?_; intros)))
  rw [e1, wrap64 (by omega) (by omega)]
  refine if_split (fun hb => ?_) (fun hb => ?_)
  · have := of_decide_eq_true hb
    omega
  (repeat (first | (refine go ?_; intros) | (refine gon ?_; intros)))
  rw [e1]
  refine q_ixs (x := v) j h4'.sl rfl (by simp [ones, hv]) fun _ => ?_
  exact cl_fn (k128 hxp (h w1 u1 z1 hm1))

end Go.Proofs.YtmmpogfbhelioaaGreat
