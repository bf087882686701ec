/-
  PARTS: Ty Bd Gt Da.
-/
import Derived.Test.YtmmpogfbhelioaaGreatFla
/-
  The closed facts on types and functions, as instances, printed by mkTy.py.
  Conditions: none.
-/
namespace Go.Proofs.YtmmpogfbhelioaaGreat
set_option maxRecDepth 10000
set_option linter.unusedVariables false
set_option linter.unusedSimpArgs false
instance : TCell Pr 1 := ⟨by kernel_rfl⟩
instance : TCell Pr 3 := ⟨by kernel_rfl⟩
instance : TCell Pr 4 := ⟨by kernel_rfl⟩
instance : TCell Pr 9 := ⟨by kernel_rfl⟩
instance : TCell Pr 22 := ⟨by kernel_rfl⟩
instance : TCell Pr 23 := ⟨by kernel_rfl⟩
instance : TCell Pr 28 := ⟨by kernel_rfl⟩
instance : TCell Pr 29 := ⟨by kernel_rfl⟩
instance : TCell Pr 30 := ⟨by kernel_rfl⟩
instance : TCell Pr 36 := ⟨by kernel_rfl⟩
instance : TCell Pr 73 := ⟨by kernel_rfl⟩
instance : TCell Pr 75 := ⟨by kernel_rfl⟩
instance : TCell Pr 77 := ⟨by kernel_rfl⟩
instance : TCell Pr 86 := ⟨by kernel_rfl⟩
instance : TCell Pr 94 := ⟨by kernel_rfl⟩
instance : TCell Pr 99 := ⟨by kernel_rfl⟩
instance : TCell Pr 101 := ⟨by kernel_rfl⟩
instance : TCell Pr 102 := ⟨by kernel_rfl⟩
instance : TCell Pr 104 := ⟨by kernel_rfl⟩
instance : TCell Pr 112 := ⟨by kernel_rfl⟩
instance : TCell Pr 113 := ⟨by kernel_rfl⟩
instance : TCell Pr 115 := ⟨by kernel_rfl⟩
instance : TCell Pr 117 := ⟨by kernel_rfl⟩
instance : TCell Pr 128 := ⟨by kernel_rfl⟩
instance : TCell Pr 131 := ⟨by kernel_rfl⟩
instance : TCell Pr 132 := ⟨by kernel_rfl⟩
instance : TCell Pr 138 := ⟨by kernel_rfl⟩
instance : TCell Pr 139 := ⟨by kernel_rfl⟩
instance : TCell Pr 148 := ⟨by kernel_rfl⟩
instance : TCell Pr 150 := ⟨by kernel_rfl⟩
instance : TCell Pr 159 := ⟨by kernel_rfl⟩
instance : TCell Pr 180 := ⟨by kernel_rfl⟩
instance : TCell Pr 181 := ⟨by kernel_rfl⟩
instance : TCell Pr 182 := ⟨by kernel_rfl⟩
instance : TCell Pr 184 := ⟨by kernel_rfl⟩
instance : TCell Pr 185 := ⟨by kernel_rfl⟩
instance : TCell Pr 192 := ⟨by kernel_rfl⟩
instance : TCell Pr 212 := ⟨by kernel_rfl⟩
instance : TCell Pr 213 := ⟨by kernel_rfl⟩
instance : TCell Pr 228 := ⟨by kernel_rfl⟩
instance : TCell Pr 232 := ⟨by kernel_rfl⟩
instance : TCell Pr 233 := ⟨by kernel_rfl⟩
instance : TCell Pr 247 := ⟨by kernel_rfl⟩
instance : TCell Pr 251 := ⟨by kernel_rfl⟩
instance : TCell Pr 253 := ⟨by kernel_rfl⟩
instance : TCell Pr 277 := ⟨by kernel_rfl⟩
instance : TCell Pr 306 := ⟨by kernel_rfl⟩
instance : TCell Pr 399 := ⟨by kernel_rfl⟩
instance : TAgg Pr 25 5 := ⟨by kernel_rfl⟩
instance : TAgg Pr 27 8 := ⟨by kernel_rfl⟩
instance : TAgg Pr 32 32 := ⟨by kernel_rfl⟩
instance : TAgg Pr 38 36 := ⟨by kernel_rfl⟩
instance : TAgg Pr 41 3 := ⟨by kernel_rfl⟩
instance : TAgg Pr 43 14 := ⟨by kernel_rfl⟩
instance : TAgg Pr 56 4 := ⟨by kernel_rfl⟩
instance : TAgg Pr 58 11 := ⟨by kernel_rfl⟩
instance : TAgg Pr 60 12 := ⟨by kernel_rfl⟩
instance : TAgg Pr 64 21 := ⟨by kernel_rfl⟩
instance : TAgg Pr 106 3 := ⟨by kernel_rfl⟩
instance : TAgg Pr 108 2 := ⟨by kernel_rfl⟩
instance : TAgg Pr 119 14 := ⟨by kernel_rfl⟩
instance : TAgg Pr 133 2 := ⟨by kernel_rfl⟩
instance : TAgg Pr 134 2 := ⟨by kernel_rfl⟩
instance : TAgg Pr 136 5 := ⟨by kernel_rfl⟩
instance : TAgg Pr 141 9 := ⟨by kernel_rfl⟩
instance : TAgg Pr 152 9 := ⟨by kernel_rfl⟩
instance : TAgg Pr 155 2 := ⟨by kernel_rfl⟩
instance : TAgg Pr 156 0 := ⟨by kernel_rfl⟩
instance : TAgg Pr 161 17 := ⟨by kernel_rfl⟩
instance : TAgg Pr 187 40 := ⟨by kernel_rfl⟩
instance : TAgg Pr 196 12 := ⟨by kernel_rfl⟩
instance : TAgg Pr 200 5 := ⟨by kernel_rfl⟩
instance : TAgg Pr 202 2 := ⟨by kernel_rfl⟩
instance : TAgg Pr 209 10 := ⟨by kernel_rfl⟩
instance : TAgg Pr 215 4 := ⟨by kernel_rfl⟩
instance : TAgg Pr 225 9 := ⟨by kernel_rfl⟩
instance : TAgg Pr 230 6 := ⟨by kernel_rfl⟩
instance : TAgg Pr 265 4 := ⟨by kernel_rfl⟩
instance : TAgg Pr 302 2 := ⟨by kernel_rfl⟩
instance : TAgg Pr 309 2 := ⟨by kernel_rfl⟩
instance : TAgg Pr 376 1 := ⟨by kernel_rfl⟩
instance : TZero Pr 3 (Value.int .i64 0) := ⟨by kernel_rfl⟩
instance : TZero Pr 4 (Value.bool false) := ⟨by kernel_rfl⟩
instance : TZero Pr 22 (Value.int .u64 0) := ⟨by kernel_rfl⟩
instance : TZero Pr 25 (Value.agg #[(Value.slice none 0 0), (Value.slice none 0 0), (Value.slice none 0 0), (Value.slice none 0 0), (Value.bool false)]) := ⟨by kernel_rfl⟩
instance : TZero Pr 27 (Value.agg #[(Value.string (ByteArray.mk #[])), (Value.int .u64 0), (Value.int .u64 0), (Value.slice none 0 0), (Value.slice none 0 0), (Value.slice none 0 0), (Value.slice none 0 0), (Value.bool false)]) := ⟨by kernel_rfl⟩
instance : TZero Pr 32 (Value.agg #[(Value.int .u64 0), (Value.int .u64 0), (Value.int .u64 0), (Value.int .u64 0), (Value.int .i64 0), (Value.string (ByteArray.mk #[])), (Value.int .u64 0), (Value.int .u64 0), (Value.slice none 0 0), (Value.slice none 0 0), (Value.slice none 0 0), (Value.slice none 0 0), (Value.bool false), (Value.slice none 0 0), (Value.slice none 0 0), (Value.int .u64 0), (Value.int .u64 0), (Value.slice none 0 0), (Value.slice none 0 0), (Value.slice none 0 0), (Value.slice none 0 0), (Value.bool false), (Value.bool false), (Value.int .i64 0), (Value.int .i64 0), (Value.int .i64 0), (Value.int .i64 0), (Value.int .i64 0), (Value.int .u64 0), (Value.int .u64 0), (Value.int .u64 0), (Value.int .u64 0)]) := ⟨by kernel_rfl⟩
instance : TZero Pr 38 (Value.agg #[(Value.int .u64 0), (Value.int .u64 0), (Value.int .u64 0), (Value.int .u64 0), (Value.int .i64 0), (Value.string (ByteArray.mk #[])), (Value.int .u64 0), (Value.int .u64 0), (Value.slice none 0 0), (Value.slice none 0 0), (Value.slice none 0 0), (Value.slice none 0 0), (Value.bool false), (Value.slice none 0 0), (Value.slice none 0 0), (Value.int .u64 0), (Value.int .u64 0), (Value.slice none 0 0), (Value.slice none 0 0), (Value.slice none 0 0), (Value.slice none 0 0), (Value.bool false), (Value.bool false), (Value.int .i64 0), (Value.int .i64 0), (Value.int .i64 0), (Value.int .i64 0), (Value.int .i64 0), (Value.int .u64 0), (Value.int .u64 0), (Value.int .u64 0), (Value.int .u64 0), (Value.slice none 0 0), (Value.slice none 0 0), (Value.bool false), (Value.bool false)]) := ⟨by kernel_rfl⟩
instance : TZero Pr 41 (Value.agg #[(Value.int .u64 0), (Value.int .u64 0), (Value.int .u64 0)]) := ⟨by kernel_rfl⟩
instance : TZero Pr 43 (Value.agg #[(Value.int .u64 0), (Value.int .u64 0), (Value.int .u64 0), (Value.int .u64 0), (Value.int .u64 0), (Value.string (ByteArray.mk #[])), (Value.int .u64 0), (Value.int .u64 0), (Value.slice none 0 0), (Value.slice none 0 0), (Value.slice none 0 0), (Value.slice none 0 0), (Value.bool false), (Value.slice none 0 0)]) := ⟨by kernel_rfl⟩
instance : TZero Pr 56 (Value.agg #[(Value.int .u64 0), (Value.int .u64 0), (Value.int .i64 0), (Value.string (ByteArray.mk #[]))]) := ⟨by kernel_rfl⟩
instance : TZero Pr 58 (Value.agg #[(Value.int .u64 0), (Value.int .u64 0), (Value.int .i64 0), (Value.int .u64 0), (Value.bool false), (Value.bool false), (Value.bool false), (Value.int .i64 0), (Value.int .u64 0), (Value.slice none 0 0), (Value.slice none 0 0)]) := ⟨by kernel_rfl⟩
instance : TZero Pr 60 (Value.agg #[(Value.int .u64 0), (Value.int .u64 0), (Value.int .u64 0), (Value.int .i64 0), (Value.int .u64 0), (Value.bool false), (Value.bool false), (Value.bool false), (Value.int .i64 0), (Value.int .u64 0), (Value.slice none 0 0), (Value.slice none 0 0)]) := ⟨by kernel_rfl⟩
instance : TZero Pr 64 (Value.agg #[(Value.int .i64 0), (Value.int .u64 0), (Value.int .u64 0), (Value.int .u64 0), (Value.int .u64 0), (Value.int .u64 0), (Value.int .u64 0), (Value.int .u64 0), (Value.int .u64 0), (Value.slice none 0 0), (Value.string (ByteArray.mk #[])), (Value.int .u64 0), (Value.int .u64 0), (Value.slice none 0 0), (Value.slice none 0 0), (Value.slice none 0 0), (Value.slice none 0 0), (Value.bool false), (Value.bool false), (Value.string (ByteArray.mk #[])), (Value.slice none 0 0)]) := ⟨by kernel_rfl⟩
instance : TZero Pr 106 (Value.agg #[(Value.pointer none), (Value.pointer none), (Value.pointer none)]) := ⟨by kernel_rfl⟩
instance : TZero Pr 108 (Value.agg #[(Value.slice none 0 0), (Value.pointer none)]) := ⟨by kernel_rfl⟩
instance : TZero Pr 113 (Value.int .i32 0) := ⟨by kernel_rfl⟩
instance : TZero Pr 119 (Value.agg #[(Value.pointer none), (Value.pointer none), (Value.pointer none), (Value.pointer none), (Value.pointer none), (Value.pointer none), (Value.slice none 0 0), (Value.pointer none), (Value.pointer none), (Value.pointer none), (Value.pointer none), (Value.pointer none), (Value.slice none 0 0), (Value.slice none 0 0)]) := ⟨by kernel_rfl⟩
instance : TZero Pr 133 (Value.agg #[(Value.map none), (Value.map none)]) := ⟨by kernel_rfl⟩
instance : TZero Pr 134 (Value.agg #[(Value.map none), (Value.map none)]) := ⟨by kernel_rfl⟩
instance : TZero Pr 136 (Value.agg #[(Value.map none), (Value.map none), (Value.bool false), (Value.map none), (Value.map none)]) := ⟨by kernel_rfl⟩
instance : TZero Pr 141 (Value.agg #[(Value.map none), (Value.map none), (Value.bool false), (Value.map none), (Value.map none), (Value.map none), (Value.map none), (Value.int .i64 0), (Value.int .u64 0)]) := ⟨by kernel_rfl⟩
instance : TZero Pr 146 (Value.pointer none) := ⟨by kernel_rfl⟩
instance : TZero Pr 152 (Value.agg #[(Value.int .u64 0), (Value.int .u64 0), (Value.int .u64 0), (Value.int .u64 0), (Value.int .u64 0), (Value.bool false), (Value.bool false), (Value.pointer none), (Value.bool false)]) := ⟨by kernel_rfl⟩
instance : TZero Pr 155 (Value.agg #[(Value.int .u64 0), (Value.bool false)]) := ⟨by kernel_rfl⟩
instance : TZero Pr 156 (Value.agg #[]) := ⟨by kernel_rfl⟩
instance : TZero Pr 161 (Value.agg #[(Value.int .u64 0), (Value.int .u64 0), (Value.int .u64 0), (Value.int .u64 0), (Value.int .u64 0), (Value.int .u64 0), (Value.bool false), (Value.bool false), (Value.bool false), (Value.int .i64 0), (Value.int .i64 0), (Value.int .i64 0), (Value.int .i64 0), (Value.int .i64 0), (Value.int .u64 0), (Value.int .u64 0), (Value.int .u64 0)]) := ⟨by kernel_rfl⟩
instance : TZero Pr 187 (Value.agg #[(Value.int .u64 0), (Value.int .u64 0), (Value.int .u64 0), (Value.slice none 0 0), (Value.pointer none), (Value.int .u64 0), (Value.int .u64 0), (Value.map none), (Value.map none), (Value.bool false), (Value.map none), (Value.map none), (Value.map none), (Value.map none), (Value.int .i64 0), (Value.int .u64 0), (Value.int .u64 0), (Value.bool false), (Value.slice none 0 0), (Value.slice none 0 0), (Value.int .u64 0), (Value.int .u64 0), (Value.int .u64 0), (Value.bool false), (Value.int .u64 0), (Value.pointer none), (Value.int .i64 0), (Value.int .i64 0), (Value.bool false), (Value.bool false), (Value.int .i64 0), (Value.int .i64 0), (Value.int .i64 0), (Value.bool false), (Value.bool false), Value.nilFunc, Value.nilFunc, (Value.slice none 0 0), (Value.slice none 0 0), (Value.int .i64 0)]) := ⟨by kernel_rfl⟩
instance : TZero Pr 194 (Value.agg #[(Value.pointer none), (Value.slice none 0 0), (Value.int .u64 0), (Value.bool false), (Value.int .u64 0)]) := ⟨by kernel_rfl⟩
instance : TZero Pr 196 (Value.agg #[Value.nilIface, (Value.pointer none), (Value.slice none 0 0), (Value.int .u64 0), (Value.bool false), (Value.int .u64 0), (Value.int .u64 0), (Value.int .u64 0), (Value.int .u64 0), (Value.int .u64 0), (Value.int .u64 0), (Value.bool false)]) := ⟨by kernel_rfl⟩
instance : TZero Pr 200 (Value.agg #[(Value.slice none 0 0), (Value.slice none 0 0), (Value.slice none 0 0), (Value.slice none 0 0), (Value.pointer none)]) := ⟨by kernel_rfl⟩
instance : TZero Pr 202 (Value.agg #[(Value.int .u64 0), (Value.int .u64 0)]) := ⟨by kernel_rfl⟩
instance : TZero Pr 209 (Value.agg #[(Value.map none), (Value.map none), (Value.bool false), (Value.map none), (Value.map none), (Value.map none), (Value.map none), (Value.int .i64 0), (Value.int .u64 0), (Value.int .u64 0)]) := ⟨by kernel_rfl⟩
instance : TZero Pr 215 (Value.agg #[(Value.pointer none), (Value.pointer none), (Value.pointer none), (Value.slice none 0 0)]) := ⟨by kernel_rfl⟩
instance : TZero Pr 225 (Value.agg #[(Value.pointer none), (Value.pointer none), (Value.slice none 0 0), (Value.int .i64 0), (Value.int .i64 0), (Value.int .i64 0), (Value.int .i64 0), (Value.int .i64 0), (Value.int .i64 0)]) := ⟨by kernel_rfl⟩
instance : TZero Pr 230 (Value.agg #[(Value.int .i64 0), (Value.int .i64 0), (Value.int .u64 0), (Value.int .i64 0), (Value.int .u64 0), (Value.slice none 0 0)]) := ⟨by kernel_rfl⟩
instance : TZero Pr 233 (Value.int .i32 0) := ⟨by kernel_rfl⟩
instance : TZero Pr 238 (Value.agg #[(Value.int .u64 0), (Value.int .u64 0), (Value.int .u64 0), (Value.int .u64 0), (Value.int .u64 0), (Value.int .u64 0), (Value.int .u64 0)]) := ⟨by kernel_rfl⟩
instance : TZero Pr 247 (Value.slice none 0 0) := ⟨by kernel_rfl⟩
instance : TZero Pr 251 (Value.pointer none) := ⟨by kernel_rfl⟩
instance : TZero Pr 265 (Value.agg #[(Value.int .i64 0), (Value.map none), (Value.slice none 0 0), (Value.int .u64 0)]) := ⟨by kernel_rfl⟩
instance : TZero Pr 302 (Value.agg #[(Value.int .u64 0), (Value.int .u64 0)]) := ⟨by kernel_rfl⟩
instance : TZero Pr 306 (Value.int .i32 0) := ⟨by kernel_rfl⟩
instance : TZero Pr 309 (Value.agg #[(Value.pointer none), (Value.pointer none)]) := ⟨by kernel_rfl⟩
instance : TZero Pr 376 (Value.agg #[(Value.string (ByteArray.mk #[]))]) := ⟨by kernel_rfl⟩
instance : TZero Pr 399 (Value.int .u64 0) := ⟨by kernel_rfl⟩
instance : TFld Pr 25 0 0 := ⟨by kernel_rfl⟩
instance : TFld Pr 25 1 1 := ⟨by kernel_rfl⟩
instance : TFld Pr 25 2 2 := ⟨by kernel_rfl⟩
instance : TFld Pr 25 3 3 := ⟨by kernel_rfl⟩
instance : TFld Pr 25 4 4 := ⟨by kernel_rfl⟩
instance : TFld Pr 27 0 0 := ⟨by kernel_rfl⟩
instance : TFld Pr 27 1 1 := ⟨by kernel_rfl⟩
instance : TFld Pr 27 2 2 := ⟨by kernel_rfl⟩
instance : TFld Pr 27 3 3 := ⟨by kernel_rfl⟩
instance : TFld Pr 32 0 0 := ⟨by kernel_rfl⟩
instance : TFld Pr 32 1 1 := ⟨by kernel_rfl⟩
instance : TFld Pr 32 2 2 := ⟨by kernel_rfl⟩
instance : TFld Pr 32 3 3 := ⟨by kernel_rfl⟩
instance : TFld Pr 32 4 4 := ⟨by kernel_rfl⟩
instance : TFld Pr 32 5 5 := ⟨by kernel_rfl⟩
instance : TFld Pr 32 6 13 := ⟨by kernel_rfl⟩
instance : TFld Pr 32 7 14 := ⟨by kernel_rfl⟩
instance : TFld Pr 32 8 15 := ⟨by kernel_rfl⟩
instance : TFld Pr 32 9 16 := ⟨by kernel_rfl⟩
instance : TFld Pr 32 10 17 := ⟨by kernel_rfl⟩
instance : TFld Pr 32 11 18 := ⟨by kernel_rfl⟩
instance : TFld Pr 32 12 19 := ⟨by kernel_rfl⟩
instance : TFld Pr 32 13 20 := ⟨by kernel_rfl⟩
instance : TFld Pr 32 14 21 := ⟨by kernel_rfl⟩
instance : TFld Pr 32 15 22 := ⟨by kernel_rfl⟩
instance : TFld Pr 32 16 23 := ⟨by kernel_rfl⟩
instance : TFld Pr 32 17 24 := ⟨by kernel_rfl⟩
instance : TFld Pr 32 18 25 := ⟨by kernel_rfl⟩
instance : TFld Pr 32 19 26 := ⟨by kernel_rfl⟩
instance : TFld Pr 32 20 27 := ⟨by kernel_rfl⟩
instance : TFld Pr 32 21 28 := ⟨by kernel_rfl⟩
instance : TFld Pr 32 22 29 := ⟨by kernel_rfl⟩
instance : TFld Pr 32 23 30 := ⟨by kernel_rfl⟩
instance : TFld Pr 32 24 31 := ⟨by kernel_rfl⟩
instance : TFld Pr 38 0 0 := ⟨by kernel_rfl⟩
instance : TFld Pr 38 1 32 := ⟨by kernel_rfl⟩
instance : TFld Pr 38 2 33 := ⟨by kernel_rfl⟩
instance : TFld Pr 38 3 34 := ⟨by kernel_rfl⟩
instance : TFld Pr 38 4 35 := ⟨by kernel_rfl⟩
instance : TFld Pr 41 0 0 := ⟨by kernel_rfl⟩
instance : TFld Pr 41 1 1 := ⟨by kernel_rfl⟩
instance : TFld Pr 41 2 2 := ⟨by kernel_rfl⟩
instance : TFld Pr 43 1 1 := ⟨by kernel_rfl⟩
instance : TFld Pr 43 2 2 := ⟨by kernel_rfl⟩
instance : TFld Pr 43 3 5 := ⟨by kernel_rfl⟩
instance : TFld Pr 43 4 13 := ⟨by kernel_rfl⟩
instance : TFld Pr 56 0 0 := ⟨by kernel_rfl⟩
instance : TFld Pr 56 1 1 := ⟨by kernel_rfl⟩
instance : TFld Pr 56 2 2 := ⟨by kernel_rfl⟩
instance : TFld Pr 56 3 3 := ⟨by kernel_rfl⟩
instance : TFld Pr 58 0 0 := ⟨by kernel_rfl⟩
instance : TFld Pr 58 1 1 := ⟨by kernel_rfl⟩
instance : TFld Pr 58 2 2 := ⟨by kernel_rfl⟩
instance : TFld Pr 58 3 3 := ⟨by kernel_rfl⟩
instance : TFld Pr 58 4 4 := ⟨by kernel_rfl⟩
instance : TFld Pr 58 5 5 := ⟨by kernel_rfl⟩
instance : TFld Pr 58 6 6 := ⟨by kernel_rfl⟩
instance : TFld Pr 58 7 7 := ⟨by kernel_rfl⟩
instance : TFld Pr 58 8 8 := ⟨by kernel_rfl⟩
instance : TFld Pr 58 9 9 := ⟨by kernel_rfl⟩
instance : TFld Pr 58 10 10 := ⟨by kernel_rfl⟩
instance : TFld Pr 60 0 0 := ⟨by kernel_rfl⟩
instance : TFld Pr 60 1 1 := ⟨by kernel_rfl⟩
instance : TFld Pr 64 0 0 := ⟨by kernel_rfl⟩
instance : TFld Pr 64 1 1 := ⟨by kernel_rfl⟩
instance : TFld Pr 64 2 2 := ⟨by kernel_rfl⟩
instance : TFld Pr 64 3 3 := ⟨by kernel_rfl⟩
instance : TFld Pr 64 4 4 := ⟨by kernel_rfl⟩
instance : TFld Pr 64 5 5 := ⟨by kernel_rfl⟩
instance : TFld Pr 64 6 6 := ⟨by kernel_rfl⟩
instance : TFld Pr 64 7 7 := ⟨by kernel_rfl⟩
instance : TFld Pr 64 8 8 := ⟨by kernel_rfl⟩
instance : TFld Pr 64 9 9 := ⟨by kernel_rfl⟩
instance : TFld Pr 64 10 10 := ⟨by kernel_rfl⟩
instance : TFld Pr 64 11 18 := ⟨by kernel_rfl⟩
instance : TFld Pr 64 12 19 := ⟨by kernel_rfl⟩
instance : TFld Pr 64 13 20 := ⟨by kernel_rfl⟩
instance : TFld Pr 106 0 0 := ⟨by kernel_rfl⟩
instance : TFld Pr 106 1 1 := ⟨by kernel_rfl⟩
instance : TFld Pr 106 2 2 := ⟨by kernel_rfl⟩
instance : TFld Pr 108 0 0 := ⟨by kernel_rfl⟩
instance : TFld Pr 108 1 1 := ⟨by kernel_rfl⟩
instance : TFld Pr 119 0 0 := ⟨by kernel_rfl⟩
instance : TFld Pr 119 1 1 := ⟨by kernel_rfl⟩
instance : TFld Pr 119 2 2 := ⟨by kernel_rfl⟩
instance : TFld Pr 119 3 3 := ⟨by kernel_rfl⟩
instance : TFld Pr 119 4 4 := ⟨by kernel_rfl⟩
instance : TFld Pr 119 5 5 := ⟨by kernel_rfl⟩
instance : TFld Pr 119 6 6 := ⟨by kernel_rfl⟩
instance : TFld Pr 119 7 7 := ⟨by kernel_rfl⟩
instance : TFld Pr 119 8 8 := ⟨by kernel_rfl⟩
instance : TFld Pr 119 9 9 := ⟨by kernel_rfl⟩
instance : TFld Pr 119 10 10 := ⟨by kernel_rfl⟩
instance : TFld Pr 119 11 11 := ⟨by kernel_rfl⟩
instance : TFld Pr 119 12 12 := ⟨by kernel_rfl⟩
instance : TFld Pr 119 13 13 := ⟨by kernel_rfl⟩
instance : TFld Pr 136 0 0 := ⟨by kernel_rfl⟩
instance : TFld Pr 136 1 2 := ⟨by kernel_rfl⟩
instance : TFld Pr 136 2 3 := ⟨by kernel_rfl⟩
instance : TFld Pr 136 3 4 := ⟨by kernel_rfl⟩
instance : TFld Pr 141 0 0 := ⟨by kernel_rfl⟩
instance : TFld Pr 141 1 5 := ⟨by kernel_rfl⟩
instance : TFld Pr 141 2 6 := ⟨by kernel_rfl⟩
instance : TFld Pr 141 3 7 := ⟨by kernel_rfl⟩
instance : TFld Pr 141 4 8 := ⟨by kernel_rfl⟩
instance : TFld Pr 152 0 0 := ⟨by kernel_rfl⟩
instance : TFld Pr 152 1 1 := ⟨by kernel_rfl⟩
instance : TFld Pr 152 3 3 := ⟨by kernel_rfl⟩
instance : TFld Pr 152 4 4 := ⟨by kernel_rfl⟩
instance : TFld Pr 152 5 5 := ⟨by kernel_rfl⟩
instance : TFld Pr 152 6 6 := ⟨by kernel_rfl⟩
instance : TFld Pr 152 7 7 := ⟨by kernel_rfl⟩
instance : TFld Pr 152 8 8 := ⟨by kernel_rfl⟩
instance : TFld Pr 155 0 0 := ⟨by kernel_rfl⟩
instance : TFld Pr 155 1 1 := ⟨by kernel_rfl⟩
instance : TFld Pr 161 0 0 := ⟨by kernel_rfl⟩
instance : TFld Pr 161 1 1 := ⟨by kernel_rfl⟩
instance : TFld Pr 161 2 2 := ⟨by kernel_rfl⟩
instance : TFld Pr 161 3 3 := ⟨by kernel_rfl⟩
instance : TFld Pr 161 4 4 := ⟨by kernel_rfl⟩
instance : TFld Pr 161 5 5 := ⟨by kernel_rfl⟩
instance : TFld Pr 161 6 6 := ⟨by kernel_rfl⟩
instance : TFld Pr 161 7 7 := ⟨by kernel_rfl⟩
instance : TFld Pr 161 8 8 := ⟨by kernel_rfl⟩
instance : TFld Pr 161 9 9 := ⟨by kernel_rfl⟩
instance : TFld Pr 161 10 10 := ⟨by kernel_rfl⟩
instance : TFld Pr 161 11 11 := ⟨by kernel_rfl⟩
instance : TFld Pr 161 12 12 := ⟨by kernel_rfl⟩
instance : TFld Pr 161 13 13 := ⟨by kernel_rfl⟩
instance : TFld Pr 161 14 14 := ⟨by kernel_rfl⟩
instance : TFld Pr 161 15 15 := ⟨by kernel_rfl⟩
instance : TFld Pr 161 16 16 := ⟨by kernel_rfl⟩
instance : TFld Pr 187 0 0 := ⟨by kernel_rfl⟩
instance : TFld Pr 187 1 1 := ⟨by kernel_rfl⟩
instance : TFld Pr 187 2 2 := ⟨by kernel_rfl⟩
instance : TFld Pr 187 4 4 := ⟨by kernel_rfl⟩
instance : TFld Pr 187 5 5 := ⟨by kernel_rfl⟩
instance : TFld Pr 187 6 6 := ⟨by kernel_rfl⟩
instance : TFld Pr 187 7 7 := ⟨by kernel_rfl⟩
instance : TFld Pr 187 8 16 := ⟨by kernel_rfl⟩
instance : TFld Pr 187 9 17 := ⟨by kernel_rfl⟩
instance : TFld Pr 187 10 18 := ⟨by kernel_rfl⟩
instance : TFld Pr 187 11 19 := ⟨by kernel_rfl⟩
instance : TFld Pr 187 12 20 := ⟨by kernel_rfl⟩
instance : TFld Pr 187 13 21 := ⟨by kernel_rfl⟩
instance : TFld Pr 187 14 22 := ⟨by kernel_rfl⟩
instance : TFld Pr 187 16 24 := ⟨by kernel_rfl⟩
instance : TFld Pr 187 17 25 := ⟨by kernel_rfl⟩
instance : TFld Pr 187 18 26 := ⟨by kernel_rfl⟩
instance : TFld Pr 187 19 27 := ⟨by kernel_rfl⟩
instance : TFld Pr 187 20 28 := ⟨by kernel_rfl⟩
instance : TFld Pr 187 21 29 := ⟨by kernel_rfl⟩
instance : TFld Pr 187 22 30 := ⟨by kernel_rfl⟩
instance : TFld Pr 187 23 31 := ⟨by kernel_rfl⟩
instance : TFld Pr 187 24 32 := ⟨by kernel_rfl⟩
instance : TFld Pr 187 26 34 := ⟨by kernel_rfl⟩
instance : TFld Pr 187 27 35 := ⟨by kernel_rfl⟩
instance : TFld Pr 187 28 36 := ⟨by kernel_rfl⟩
instance : TFld Pr 187 30 38 := ⟨by kernel_rfl⟩
instance : TFld Pr 187 31 39 := ⟨by kernel_rfl⟩
instance : TFld Pr 194 0 0 := ⟨by kernel_rfl⟩
instance : TFld Pr 194 1 1 := ⟨by kernel_rfl⟩
instance : TFld Pr 194 2 2 := ⟨by kernel_rfl⟩
instance : TFld Pr 194 3 3 := ⟨by kernel_rfl⟩
instance : TFld Pr 194 4 4 := ⟨by kernel_rfl⟩
instance : TFld Pr 196 0 0 := ⟨by kernel_rfl⟩
instance : TFld Pr 196 1 1 := ⟨by kernel_rfl⟩
instance : TFld Pr 196 2 6 := ⟨by kernel_rfl⟩
instance : TFld Pr 196 3 7 := ⟨by kernel_rfl⟩
instance : TFld Pr 196 4 8 := ⟨by kernel_rfl⟩
instance : TFld Pr 196 7 11 := ⟨by kernel_rfl⟩
instance : TFld Pr 200 0 0 := ⟨by kernel_rfl⟩
instance : TFld Pr 200 1 1 := ⟨by kernel_rfl⟩
instance : TFld Pr 200 2 2 := ⟨by kernel_rfl⟩
instance : TFld Pr 200 3 3 := ⟨by kernel_rfl⟩
instance : TFld Pr 200 4 4 := ⟨by kernel_rfl⟩
instance : TFld Pr 202 0 0 := ⟨by kernel_rfl⟩
instance : TFld Pr 202 1 1 := ⟨by kernel_rfl⟩
instance : TFld Pr 209 0 0 := ⟨by kernel_rfl⟩
instance : TFld Pr 209 1 9 := ⟨by kernel_rfl⟩
instance : TFld Pr 215 0 0 := ⟨by kernel_rfl⟩
instance : TFld Pr 215 1 1 := ⟨by kernel_rfl⟩
instance : TFld Pr 215 2 2 := ⟨by kernel_rfl⟩
instance : TFld Pr 215 3 3 := ⟨by kernel_rfl⟩
instance : TFld Pr 223 1 1 := ⟨by kernel_rfl⟩
instance : TFld Pr 223 2 2 := ⟨by kernel_rfl⟩
instance : TFld Pr 223 4 4 := ⟨by kernel_rfl⟩
instance : TFld Pr 225 1 1 := ⟨by kernel_rfl⟩
instance : TFld Pr 225 2 2 := ⟨by kernel_rfl⟩
instance : TFld Pr 225 3 3 := ⟨by kernel_rfl⟩
instance : TFld Pr 230 0 0 := ⟨by kernel_rfl⟩
instance : TFld Pr 230 1 1 := ⟨by kernel_rfl⟩
instance : TFld Pr 230 2 2 := ⟨by kernel_rfl⟩
instance : TFld Pr 230 3 3 := ⟨by kernel_rfl⟩
instance : TFld Pr 230 4 4 := ⟨by kernel_rfl⟩
instance : TFld Pr 230 5 5 := ⟨by kernel_rfl⟩
instance : TFld Pr 265 0 0 := ⟨by kernel_rfl⟩
instance : TFld Pr 302 0 0 := ⟨by kernel_rfl⟩
instance : TFld Pr 302 1 1 := ⟨by kernel_rfl⟩
instance : TFld Pr 309 0 0 := ⟨by kernel_rfl⟩
instance : TFld Pr 309 1 1 := ⟨by kernel_rfl⟩
instance : TSli Pr 23 22 1 := ⟨by kernel_rfl⟩
instance : TSli Pr 28 56 4 := ⟨by kernel_rfl⟩
instance : TSli Pr 29 60 12 := ⟨by kernel_rfl⟩
instance : TSli Pr 30 155 2 := ⟨by kernel_rfl⟩
instance : TSli Pr 36 64 21 := ⟨by kernel_rfl⟩
instance : TSli Pr 94 86 1 := ⟨by kernel_rfl⟩
instance : TSli Pr 99 5 1 := ⟨by kernel_rfl⟩
instance : TSli Pr 115 212 1 := ⟨by kernel_rfl⟩
instance : TSli Pr 145 23 1 := ⟨by kernel_rfl⟩
instance : TSli Pr 185 3 1 := ⟨by kernel_rfl⟩
instance : TSli Pr 228 302 2 := ⟨by kernel_rfl⟩
instance : TSli Pr 247 251 1 := ⟨by kernel_rfl⟩
instance : TSli Pr 250 253 1 := ⟨by kernel_rfl⟩
instance : TSli Pr 324 102 1 := ⟨by kernel_rfl⟩
instance : TSli Pr 379 133 2 := ⟨by kernel_rfl⟩
instance : TSli Pr 408 131 1 := ⟨by kernel_rfl⟩
instance : TArr Pr 133 2 132 1 := ⟨by kernel_rfl⟩
instance : TArr Pr 134 2 132 1 := ⟨by kernel_rfl⟩
instance : TArr Pr 238 7 22 1 := ⟨by kernel_rfl⟩
instance : TUn Pr 3 (TypeDesc.int IntKind.i64) := ⟨by kernel_rfl⟩
instance : TUn Pr 4 TypeDesc.bool := ⟨by kernel_rfl⟩
instance : TUn Pr 5 (TypeDesc.int IntKind.u8) := ⟨by kernel_rfl⟩
instance : TUn Pr 9 TypeDesc.string := ⟨by kernel_rfl⟩
instance : TUn Pr 22 (TypeDesc.int IntKind.u64) := ⟨by kernel_rfl⟩
instance : TUn Pr 23 (TypeDesc.slice 22) := ⟨by kernel_rfl⟩
instance : TUn Pr 28 (TypeDesc.slice 56) := ⟨by kernel_rfl⟩
instance : TUn Pr 29 (TypeDesc.slice 60) := ⟨by kernel_rfl⟩
instance : TUn Pr 30 (TypeDesc.slice 155) := ⟨by kernel_rfl⟩
instance : TUn Pr 36 (TypeDesc.slice 64) := ⟨by kernel_rfl⟩
instance : TUn Pr 75 (TypeDesc.pointer 108) := ⟨by kernel_rfl⟩
instance : TUn Pr 86 (TypeDesc.pointer 119) := ⟨by kernel_rfl⟩
instance : TUn Pr 94 (TypeDesc.slice 86) := ⟨by kernel_rfl⟩
instance : TUn Pr 99 (TypeDesc.slice 5) := ⟨by kernel_rfl⟩
instance : TUn Pr 101 (TypeDesc.pointer 106) := ⟨by kernel_rfl⟩
instance : TUn Pr 102 (TypeDesc.pointer 200) := ⟨by kernel_rfl⟩
instance : TUn Pr 104 (TypeDesc.pointer 22) := ⟨by kernel_rfl⟩
instance : TUn Pr 112 (TypeDesc.pointer 113) := ⟨by kernel_rfl⟩
instance : TUn Pr 113 (TypeDesc.int IntKind.i32) := ⟨by kernel_rfl⟩
instance : TUn Pr 115 (TypeDesc.slice 212) := ⟨by kernel_rfl⟩
instance : TUn Pr 117 (TypeDesc.pointer 4) := ⟨by kernel_rfl⟩
instance : TUn Pr 121 (TypeDesc.pointer 225) := ⟨by kernel_rfl⟩
instance : TUn Pr 131 (TypeDesc.map 22 156) := ⟨by kernel_rfl⟩
instance : TUn Pr 132 (TypeDesc.map 22 156) := ⟨by kernel_rfl⟩
instance : TUn Pr 133 (TypeDesc.array 2 132) := ⟨by kernel_rfl⟩
instance : TUn Pr 134 (TypeDesc.array 2 132) := ⟨by kernel_rfl⟩
instance : TUn Pr 137 (TypeDesc.map 22 146) := ⟨by kernel_rfl⟩
instance : TUn Pr 138 (TypeDesc.map 22 146) := ⟨by kernel_rfl⟩
instance : TUn Pr 139 (TypeDesc.map 22 4) := ⟨by kernel_rfl⟩
instance : TUn Pr 145 (TypeDesc.slice 23) := ⟨by kernel_rfl⟩
instance : TUn Pr 146 (TypeDesc.pointer 152) := ⟨by kernel_rfl⟩
instance : TUn Pr 150 (TypeDesc.int IntKind.u64) := ⟨by kernel_rfl⟩
instance : TUn Pr 159 (TypeDesc.int IntKind.u64) := ⟨by kernel_rfl⟩
instance : TUn Pr 181 (TypeDesc.int IntKind.u64) := ⟨by kernel_rfl⟩
instance : TUn Pr 185 (TypeDesc.slice 3) := ⟨by kernel_rfl⟩
instance : TUn Pr 212 (TypeDesc.pointer 215) := ⟨by kernel_rfl⟩
instance : TUn Pr 213 (TypeDesc.pointer 233) := ⟨by kernel_rfl⟩
instance : TUn Pr 226 TypeDesc.string := ⟨by kernel_rfl⟩
instance : TUn Pr 228 (TypeDesc.slice 302) := ⟨by kernel_rfl⟩
instance : TUn Pr 233 (TypeDesc.int IntKind.i32) := ⟨by kernel_rfl⟩
instance : TUn Pr 238 (TypeDesc.array 7 22) := ⟨by kernel_rfl⟩
instance : TUn Pr 247 (TypeDesc.slice 251) := ⟨by kernel_rfl⟩
instance : TUn Pr 250 (TypeDesc.slice 253) := ⟨by kernel_rfl⟩
instance : TUn Pr 251 (TypeDesc.pointer 309) := ⟨by kernel_rfl⟩
instance : TUn Pr 262 (TypeDesc.map 22 22) := ⟨by kernel_rfl⟩
instance : TUn Pr 277 (TypeDesc.pointer 306) := ⟨by kernel_rfl⟩
instance : TUn Pr 305 (TypeDesc.int IntKind.u64) := ⟨by kernel_rfl⟩
instance : TUn Pr 306 (TypeDesc.int IntKind.i32) := ⟨by kernel_rfl⟩
instance : TUn Pr 324 (TypeDesc.slice 102) := ⟨by kernel_rfl⟩
instance : TUn Pr 363 (TypeDesc.int IntKind.i64) := ⟨by kernel_rfl⟩
instance : TUn Pr 371 (TypeDesc.int IntKind.u32) := ⟨by kernel_rfl⟩
instance : TUn Pr 374 (TypeDesc.pointer 376) := ⟨by kernel_rfl⟩
instance : TUn Pr 379 (TypeDesc.slice 133) := ⟨by kernel_rfl⟩
instance : TUn Pr 399 (TypeDesc.int IntKind.u64) := ⟨by kernel_rfl⟩
instance : TUn Pr 408 (TypeDesc.slice 131) := ⟨by kernel_rfl⟩
instance : TFn Pr 7 := ⟨by kernel_rfl⟩
instance : TFn Pr 8 := ⟨by kernel_rfl⟩
instance : TFn Pr 9 := ⟨by kernel_rfl⟩
instance : TFn Pr 10 := ⟨by kernel_rfl⟩
instance : TFn Pr 11 := ⟨by kernel_rfl⟩
instance : TFn Pr 12 := ⟨by kernel_rfl⟩
instance : TFn Pr 13 := ⟨by kernel_rfl⟩
instance : TFn Pr 14 := ⟨by kernel_rfl⟩
instance : TFn Pr 15 := ⟨by kernel_rfl⟩
instance : TFn Pr 16 := ⟨by kernel_rfl⟩
instance : TFn Pr 17 := ⟨by kernel_rfl⟩
instance : TFn Pr 18 := ⟨by kernel_rfl⟩
instance : TFn Pr 19 := ⟨by kernel_rfl⟩
instance : TFn Pr 20 := ⟨by kernel_rfl⟩
instance : TFn Pr 21 := ⟨by kernel_rfl⟩
instance : TFn Pr 22 := ⟨by kernel_rfl⟩
instance : TFn Pr 23 := ⟨by kernel_rfl⟩
instance : TFn Pr 24 := ⟨by kernel_rfl⟩
instance : TFn Pr 25 := ⟨by kernel_rfl⟩
instance : TFn Pr 26 := ⟨by kernel_rfl⟩
instance : TFn Pr 27 := ⟨by kernel_rfl⟩
instance : TFn Pr 28 := ⟨by kernel_rfl⟩
instance : TFn Pr 29 := ⟨by kernel_rfl⟩
instance : TFn Pr 30 := ⟨by kernel_rfl⟩
instance : TFn Pr 31 := ⟨by kernel_rfl⟩
instance : TFn Pr 32 := ⟨by kernel_rfl⟩
instance : TFn Pr 33 := ⟨by kernel_rfl⟩
instance : TFn Pr 34 := ⟨by kernel_rfl⟩
instance : TFn Pr 35 := ⟨by kernel_rfl⟩
instance : TFn Pr 36 := ⟨by kernel_rfl⟩
instance : TFn Pr 37 := ⟨by kernel_rfl⟩
instance : TFn Pr 38 := ⟨by kernel_rfl⟩
instance : TFn Pr 39 := ⟨by kernel_rfl⟩
instance : TFn Pr 40 := ⟨by kernel_rfl⟩
instance : TFn Pr 41 := ⟨by kernel_rfl⟩
instance : TFn Pr 42 := ⟨by kernel_rfl⟩
instance : TFn Pr 43 := ⟨by kernel_rfl⟩
instance : TFn Pr 44 := ⟨by kernel_rfl⟩
instance : TFn Pr 45 := ⟨by kernel_rfl⟩
instance : TFn Pr 46 := ⟨by kernel_rfl⟩
instance : TFn Pr 47 := ⟨by kernel_rfl⟩
instance : TFn Pr 48 := ⟨by kernel_rfl⟩
instance : TFn Pr 49 := ⟨by kernel_rfl⟩
instance : TFn Pr 50 := ⟨by kernel_rfl⟩
instance : TFn Pr 51 := ⟨by kernel_rfl⟩
instance : TFn Pr 52 := ⟨by kernel_rfl⟩
instance : TFn Pr 53 := ⟨by kernel_rfl⟩
instance : TFn Pr 54 := ⟨by kernel_rfl⟩
instance : TFn Pr 55 := ⟨by kernel_rfl⟩
instance : TFn Pr 56 := ⟨by kernel_rfl⟩
instance : TFn Pr 57 := ⟨by kernel_rfl⟩
instance : TFn Pr 58 := ⟨by kernel_rfl⟩
instance : TFn Pr 59 := ⟨by kernel_rfl⟩
instance : TFn Pr 60 := ⟨by kernel_rfl⟩
instance : TFn Pr 61 := ⟨by kernel_rfl⟩
instance : TFn Pr 62 := ⟨by kernel_rfl⟩
instance : TFn Pr 63 := ⟨by kernel_rfl⟩
instance : TFn Pr 64 := ⟨by kernel_rfl⟩
instance : TFn Pr 65 := ⟨by kernel_rfl⟩
instance : TFn Pr 66 := ⟨by kernel_rfl⟩
instance : TFn Pr 68 := ⟨by kernel_rfl⟩
instance : TFn Pr 69 := ⟨by kernel_rfl⟩
instance : TFn Pr 70 := ⟨by kernel_rfl⟩
instance : TFn Pr 71 := ⟨by kernel_rfl⟩
instance : TFn Pr 72 := ⟨by kernel_rfl⟩
instance : TFn Pr 73 := ⟨by kernel_rfl⟩
instance : TFn Pr 74 := ⟨by kernel_rfl⟩
instance : TFn Pr 75 := ⟨by kernel_rfl⟩
instance : TFn Pr 76 := ⟨by kernel_rfl⟩
instance : TFn Pr 77 := ⟨by kernel_rfl⟩
instance : TFn Pr 78 := ⟨by kernel_rfl⟩
instance : TFn Pr 79 := ⟨by kernel_rfl⟩
instance : TFn Pr 80 := ⟨by kernel_rfl⟩
instance : TFn Pr 81 := ⟨by kernel_rfl⟩
instance : TFn Pr 82 := ⟨by kernel_rfl⟩
instance : TFn Pr 83 := ⟨by kernel_rfl⟩
instance : TFn Pr 84 := ⟨by kernel_rfl⟩
instance : TFn Pr 85 := ⟨by kernel_rfl⟩
instance : TFn Pr 86 := ⟨by kernel_rfl⟩
instance : TFn Pr 87 := ⟨by kernel_rfl⟩
instance : TFn Pr 88 := ⟨by kernel_rfl⟩
instance : TFn Pr 89 := ⟨by kernel_rfl⟩
instance : TFn Pr 90 := ⟨by kernel_rfl⟩
instance : TFn Pr 91 := ⟨by kernel_rfl⟩
instance : TFn Pr 92 := ⟨by kernel_rfl⟩
instance : TFn Pr 93 := ⟨by kernel_rfl⟩
instance : TFn Pr 94 := ⟨by kernel_rfl⟩
instance : TFn Pr 95 := ⟨by kernel_rfl⟩
instance : TFn Pr 96 := ⟨by kernel_rfl⟩
instance : TFn Pr 97 := ⟨by kernel_rfl⟩
instance : TFn Pr 98 := ⟨by kernel_rfl⟩
instance : TFn Pr 99 := ⟨by kernel_rfl⟩
instance : TFn Pr 100 := ⟨by kernel_rfl⟩
instance : TFn Pr 101 := ⟨by kernel_rfl⟩
instance : TFn Pr 102 := ⟨by kernel_rfl⟩
instance : TFn Pr 103 := ⟨by kernel_rfl⟩
instance : TFn Pr 104 := ⟨by kernel_rfl⟩
instance : TFn Pr 105 := ⟨by kernel_rfl⟩
instance : TFn Pr 106 := ⟨by kernel_rfl⟩
instance : TFn Pr 107 := ⟨by kernel_rfl⟩
instance : TFn Pr 108 := ⟨by kernel_rfl⟩
instance : TFn Pr 109 := ⟨by kernel_rfl⟩
instance : TFn Pr 110 := ⟨by kernel_rfl⟩
instance : TFn Pr 111 := ⟨by kernel_rfl⟩
instance : TFn Pr 112 := ⟨by kernel_rfl⟩
instance : TFn Pr 113 := ⟨by kernel_rfl⟩
instance : TFn Pr 114 := ⟨by kernel_rfl⟩
instance : TFn Pr 115 := ⟨by kernel_rfl⟩
instance : TFn Pr 116 := ⟨by kernel_rfl⟩
instance : TFn Pr 117 := ⟨by kernel_rfl⟩
instance : TFn Pr 118 := ⟨by kernel_rfl⟩
instance : TFn Pr 119 := ⟨by kernel_rfl⟩
instance : TFn Pr 120 := ⟨by kernel_rfl⟩
instance : TFn Pr 121 := ⟨by kernel_rfl⟩
instance : TFn Pr 122 := ⟨by kernel_rfl⟩
instance : TFn Pr 123 := ⟨by kernel_rfl⟩
instance : TFn Pr 124 := ⟨by kernel_rfl⟩
instance : TFn Pr 125 := ⟨by kernel_rfl⟩
instance : TFn Pr 126 := ⟨by kernel_rfl⟩
instance : TFn Pr 127 := ⟨by kernel_rfl⟩
instance : TFn Pr 128 := ⟨by kernel_rfl⟩
instance : TFn Pr 129 := ⟨by kernel_rfl⟩
instance : TFn Pr 130 := ⟨by kernel_rfl⟩
instance : TFn Pr 131 := ⟨by kernel_rfl⟩
instance : TFn Pr 132 := ⟨by kernel_rfl⟩
instance : TFn Pr 133 := ⟨by kernel_rfl⟩
instance : TFn Pr 134 := ⟨by kernel_rfl⟩
instance : TFn Pr 135 := ⟨by kernel_rfl⟩
instance : TFn Pr 136 := ⟨by kernel_rfl⟩
instance : TFn Pr 137 := ⟨by kernel_rfl⟩
instance : TFn Pr 138 := ⟨by kernel_rfl⟩
instance : TFn Pr 139 := ⟨by kernel_rfl⟩
instance : TFn Pr 140 := ⟨by kernel_rfl⟩
instance : TFn Pr 141 := ⟨by kernel_rfl⟩
instance : TFn Pr 142 := ⟨by kernel_rfl⟩
instance : TFn Pr 143 := ⟨by kernel_rfl⟩
instance : TFn Pr 144 := ⟨by kernel_rfl⟩
instance : TFn Pr 145 := ⟨by kernel_rfl⟩
instance : TFn Pr 146 := ⟨by kernel_rfl⟩
instance : TFn Pr 147 := ⟨by kernel_rfl⟩
instance : TFn Pr 148 := ⟨by kernel_rfl⟩
instance : TFn Pr 149 := ⟨by kernel_rfl⟩
instance : TFn Pr 150 := ⟨by kernel_rfl⟩
instance : TFn Pr 151 := ⟨by kernel_rfl⟩
instance : TFn Pr 152 := ⟨by kernel_rfl⟩
instance : TFn Pr 153 := ⟨by kernel_rfl⟩
instance : TFn Pr 154 := ⟨by kernel_rfl⟩
instance : TFn Pr 156 := ⟨by kernel_rfl⟩
instance : TFn Pr 157 := ⟨by kernel_rfl⟩
instance : TFn Pr 158 := ⟨by kernel_rfl⟩
instance : TFn Pr 159 := ⟨by kernel_rfl⟩
instance : TFn Pr 160 := ⟨by kernel_rfl⟩
instance : TFn Pr 161 := ⟨by kernel_rfl⟩
instance : TFn Pr 162 := ⟨by kernel_rfl⟩
instance : TFn Pr 163 := ⟨by kernel_rfl⟩
instance : TFn Pr 165 := ⟨by kernel_rfl⟩
instance : TFn Pr 166 := ⟨by kernel_rfl⟩
instance : TFn Pr 170 := ⟨by kernel_rfl⟩
instance : TFn Pr 171 := ⟨by kernel_rfl⟩
instance : TFn Pr 192 := ⟨by kernel_rfl⟩
instance : TFn Pr 199 := ⟨by kernel_rfl⟩
instance : TFn Pr 200 := ⟨by kernel_rfl⟩
instance : TFn Pr 201 := ⟨by kernel_rfl⟩
instance : TFn Pr 202 := ⟨by kernel_rfl⟩
instance : TFn Pr 203 := ⟨by kernel_rfl⟩
instance : TFn Pr 204 := ⟨by kernel_rfl⟩
instance : TFn Pr 205 := ⟨by kernel_rfl⟩
instance : TFn Pr 206 := ⟨by kernel_rfl⟩
instance : TFn Pr 207 := ⟨by kernel_rfl⟩
instance : TFn Pr 208 := ⟨by kernel_rfl⟩
instance : TFn Pr 209 := ⟨by kernel_rfl⟩
instance : TFn Pr 210 := ⟨by kernel_rfl⟩
instance : TFn Pr 211 := ⟨by kernel_rfl⟩
instance : TFn Pr 212 := ⟨by kernel_rfl⟩
instance : TFn Pr 213 := ⟨by kernel_rfl⟩
instance : TFn Pr 214 := ⟨by kernel_rfl⟩
instance : TFn Pr 215 := ⟨by kernel_rfl⟩
instance : TFn Pr 216 := ⟨by kernel_rfl⟩
instance : TFn Pr 217 := ⟨by kernel_rfl⟩
instance : TFn Pr 218 := ⟨by kernel_rfl⟩
instance : TFn Pr 219 := ⟨by kernel_rfl⟩
instance : TFn Pr 220 := ⟨by kernel_rfl⟩
instance : TFn Pr 221 := ⟨by kernel_rfl⟩
instance : TFn Pr 222 := ⟨by kernel_rfl⟩
instance : TFn Pr 223 := ⟨by kernel_rfl⟩
instance : TFn Pr 225 := ⟨by kernel_rfl⟩
instance : TFn Pr 226 := ⟨by kernel_rfl⟩
instance : TFn Pr 227 := ⟨by kernel_rfl⟩
instance : TFn Pr 228 := ⟨by kernel_rfl⟩
instance : TFn Pr 236 := ⟨by kernel_rfl⟩
instance : TFn Pr 241 := ⟨by kernel_rfl⟩
instance : TFn Pr 262 := ⟨by kernel_rfl⟩
instance : TFn Pr 265 := ⟨by kernel_rfl⟩
instance : TFn Pr 266 := ⟨by kernel_rfl⟩
instance : TFn Pr 267 := ⟨by kernel_rfl⟩
instance : TFn Pr 268 := ⟨by kernel_rfl⟩
instance : TFn Pr 269 := ⟨by kernel_rfl⟩
instance : TFn Pr 270 := ⟨by kernel_rfl⟩
instance : TFn Pr 271 := ⟨by kernel_rfl⟩
instance : TFn Pr 272 := ⟨by kernel_rfl⟩
instance : TFn Pr 273 := ⟨by kernel_rfl⟩
instance : TFn Pr 274 := ⟨by kernel_rfl⟩
instance : TFn Pr 275 := ⟨by kernel_rfl⟩
instance : TFn Pr 276 := ⟨by kernel_rfl⟩
instance : TFn Pr 277 := ⟨by kernel_rfl⟩
instance : TFn Pr 278 := ⟨by kernel_rfl⟩
instance : TFn Pr 279 := ⟨by kernel_rfl⟩
instance : TFn Pr 280 := ⟨by kernel_rfl⟩
instance : TFn Pr 281 := ⟨by kernel_rfl⟩
instance : TFn Pr 282 := ⟨by kernel_rfl⟩
instance : TFn Pr 283 := ⟨by kernel_rfl⟩
instance : TFn Pr 284 := ⟨by kernel_rfl⟩
instance : TFn Pr 285 := ⟨by kernel_rfl⟩
instance : TFn Pr 286 := ⟨by kernel_rfl⟩
instance : TFn Pr 287 := ⟨by kernel_rfl⟩
instance : TFn Pr 288 := ⟨by kernel_rfl⟩
instance : TFn Pr 289 := ⟨by kernel_rfl⟩
instance : TFn Pr 294 := ⟨by kernel_rfl⟩
instance : TFn Pr 309 := ⟨by kernel_rfl⟩
instance : TFn Pr 310 := ⟨by kernel_rfl⟩
instance : TFn Pr 311 := ⟨by kernel_rfl⟩
instance : TFn Pr 312 := ⟨by kernel_rfl⟩
instance : TFn Pr 313 := ⟨by kernel_rfl⟩
instance : TFn Pr 314 := ⟨by kernel_rfl⟩
instance : TFn Pr 315 := ⟨by kernel_rfl⟩
instance : TFn Pr 316 := ⟨by kernel_rfl⟩
instance : TFn Pr 317 := ⟨by kernel_rfl⟩
instance : TFn Pr 318 := ⟨by kernel_rfl⟩
instance : TFn Pr 319 := ⟨by kernel_rfl⟩
instance : TFn Pr 328 := ⟨by kernel_rfl⟩
instance : TFn Pr 329 := ⟨by kernel_rfl⟩
instance : TFn Pr 355 := ⟨by kernel_rfl⟩
instance : TElm Pr 3 1 8 := ⟨by kernel_rfl⟩
instance : TElm Pr 5 1 1 := ⟨by kernel_rfl⟩
instance : TZero Pr 5 (Value.int .u8 0) := ⟨by kernel_rfl⟩
instance : TElm Pr 22 1 8 := ⟨by kernel_rfl⟩
instance : TElm Pr 23 1 24 := ⟨by kernel_rfl⟩
instance : TZero Pr 23 (Value.slice none 0 0) := ⟨by kernel_rfl⟩
instance : TElm Pr 56 4 40 := ⟨by kernel_rfl⟩
instance : TElm Pr 60 12 112 := ⟨by kernel_rfl⟩
instance : TElm Pr 64 21 280 := ⟨by kernel_rfl⟩
instance : TElm Pr 86 1 8 := ⟨by kernel_rfl⟩
instance : TZero Pr 86 (Value.pointer none) := ⟨by kernel_rfl⟩
instance : TElm Pr 102 1 8 := ⟨by kernel_rfl⟩
instance : TZero Pr 102 (Value.pointer none) := ⟨by kernel_rfl⟩
instance : TElm Pr 131 1 8 := ⟨by kernel_rfl⟩
instance : TZero Pr 131 (Value.map none) := ⟨by kernel_rfl⟩
instance : TElm Pr 133 2 16 := ⟨by kernel_rfl⟩
instance : TElm Pr 155 2 16 := ⟨by kernel_rfl⟩
instance : TElm Pr 212 1 8 := ⟨by kernel_rfl⟩
instance : TZero Pr 212 (Value.pointer none) := ⟨by kernel_rfl⟩
instance : TElm Pr 251 1 8 := ⟨by kernel_rfl⟩
instance : TElm Pr 253 1 8 := ⟨by kernel_rfl⟩
instance : TZero Pr 253 Value.nilFunc := ⟨by kernel_rfl⟩
instance : TElm Pr 302 2 16 := ⟨by kernel_rfl⟩
instance : TIf Pr 125 := ⟨by kernel_rfl⟩
instance : TBld Pr 25 [(0, 1), (1, 1), (2, 1), (3, 1), (4, 1)] #[(Value.slice none 0 0), (Value.slice none 0 0), (Value.slice none 0 0), (Value.slice none 0 0), (Value.bool false)] := ⟨by kernel_rfl⟩
instance : TBld Pr 56 [(0, 1), (1, 1), (2, 1), (3, 1)] #[(Value.int .u64 0), (Value.int .u64 0), (Value.int .i64 0), (Value.string (ByteArray.mk #[]))] := ⟨by kernel_rfl⟩
instance : TBld Pr 64 [(0, 1), (1, 1), (2, 1), (3, 1), (4, 1), (5, 1), (6, 1), (7, 1), (8, 1), (9, 1), (10, 8), (18, 1), (19, 1), (20, 1)] #[(Value.int .i64 0), (Value.int .u64 0), (Value.int .u64 0), (Value.int .u64 0), (Value.int .u64 0), (Value.int .u64 0), (Value.int .u64 0), (Value.int .u64 0), (Value.int .u64 0), (Value.slice none 0 0), (Value.string (ByteArray.mk #[])), (Value.int .u64 0), (Value.int .u64 0), (Value.slice none 0 0), (Value.slice none 0 0), (Value.slice none 0 0), (Value.slice none 0 0), (Value.bool false), (Value.bool false), (Value.string (ByteArray.mk #[])), (Value.slice none 0 0)] := ⟨by kernel_rfl⟩
instance : TBld Pr 41 [(0, 1), (1, 1), (2, 1)] #[(Value.int .u64 0), (Value.int .u64 0), (Value.int .u64 0)] := ⟨by kernel_rfl⟩
instance : TBld Pr 43 [(0, 1), (1, 1), (2, 3), (5, 8), (13, 1)] #[(Value.int .u64 0), (Value.int .u64 0), (Value.int .u64 0), (Value.int .u64 0), (Value.int .u64 0), (Value.string (ByteArray.mk #[])), (Value.int .u64 0), (Value.int .u64 0), (Value.slice none 0 0), (Value.slice none 0 0), (Value.slice none 0 0), (Value.slice none 0 0), (Value.bool false), (Value.slice none 0 0)] := ⟨by kernel_rfl⟩
instance : TBld Pr 38 [(0, 32), (32, 1), (33, 1), (34, 1), (35, 1)] #[(Value.int .u64 0), (Value.int .u64 0), (Value.int .u64 0), (Value.int .u64 0), (Value.int .i64 0), (Value.string (ByteArray.mk #[])), (Value.int .u64 0), (Value.int .u64 0), (Value.slice none 0 0), (Value.slice none 0 0), (Value.slice none 0 0), (Value.slice none 0 0), (Value.bool false), (Value.slice none 0 0), (Value.slice none 0 0), (Value.int .u64 0), (Value.int .u64 0), (Value.slice none 0 0), (Value.slice none 0 0), (Value.slice none 0 0), (Value.slice none 0 0), (Value.bool false), (Value.bool false), (Value.int .i64 0), (Value.int .i64 0), (Value.int .i64 0), (Value.int .i64 0), (Value.int .i64 0), (Value.int .u64 0), (Value.int .u64 0), (Value.int .u64 0), (Value.int .u64 0), (Value.slice none 0 0), (Value.slice none 0 0), (Value.bool false), (Value.bool false)] := ⟨by kernel_rfl⟩
instance : TBld Pr 106 [(0, 1), (1, 1), (2, 1)] #[(Value.pointer none), (Value.pointer none), (Value.pointer none)] := ⟨by kernel_rfl⟩
instance : TBld Pr 108 [(0, 1), (1, 1)] #[(Value.slice none 0 0), (Value.pointer none)] := ⟨by kernel_rfl⟩
instance : TBld Pr 119 [(0, 1), (1, 1), (2, 1), (3, 1), (4, 1), (5, 1), (6, 1), (7, 1), (8, 1), (9, 1), (10, 1), (11, 1), (12, 1), (13, 1)] #[(Value.pointer none), (Value.pointer none), (Value.pointer none), (Value.pointer none), (Value.pointer none), (Value.pointer none), (Value.slice none 0 0), (Value.pointer none), (Value.pointer none), (Value.pointer none), (Value.pointer none), (Value.pointer none), (Value.slice none 0 0), (Value.slice none 0 0)] := ⟨by kernel_rfl⟩
instance : TBld Pr 161 [(0, 1), (1, 1), (2, 1), (3, 1), (4, 1), (5, 1), (6, 1), (7, 1), (8, 1), (9, 1), (10, 1), (11, 1), (12, 1), (13, 1), (14, 1), (15, 1), (16, 1)] #[(Value.int .u64 0), (Value.int .u64 0), (Value.int .u64 0), (Value.int .u64 0), (Value.int .u64 0), (Value.int .u64 0), (Value.bool false), (Value.bool false), (Value.bool false), (Value.int .i64 0), (Value.int .i64 0), (Value.int .i64 0), (Value.int .i64 0), (Value.int .i64 0), (Value.int .u64 0), (Value.int .u64 0), (Value.int .u64 0)] := ⟨by kernel_rfl⟩
instance : TBld Pr 152 [(0, 1), (1, 1), (2, 1), (3, 1), (4, 1), (5, 1), (6, 1), (7, 1), (8, 1)] #[(Value.int .u64 0), (Value.int .u64 0), (Value.int .u64 0), (Value.int .u64 0), (Value.int .u64 0), (Value.bool false), (Value.bool false), (Value.pointer none), (Value.bool false)] := ⟨by kernel_rfl⟩
instance : TBld Pr 156 [] #[] := ⟨by kernel_rfl⟩
instance : TBld Pr 155 [(0, 1), (1, 1)] #[(Value.int .u64 0), (Value.bool false)] := ⟨by kernel_rfl⟩
instance : TBld Pr 32 [(0, 1), (1, 1), (2, 1), (3, 1), (4, 1), (5, 8), (13, 1), (14, 1), (15, 1), (16, 1), (17, 1), (18, 1), (19, 1), (20, 1), (21, 1), (22, 1), (23, 1), (24, 1), (25, 1), (26, 1), (27, 1), (28, 1), (29, 1), (30, 1), (31, 1)] #[(Value.int .u64 0), (Value.int .u64 0), (Value.int .u64 0), (Value.int .u64 0), (Value.int .i64 0), (Value.string (ByteArray.mk #[])), (Value.int .u64 0), (Value.int .u64 0), (Value.slice none 0 0), (Value.slice none 0 0), (Value.slice none 0 0), (Value.slice none 0 0), (Value.bool false), (Value.slice none 0 0), (Value.slice none 0 0), (Value.int .u64 0), (Value.int .u64 0), (Value.slice none 0 0), (Value.slice none 0 0), (Value.slice none 0 0), (Value.slice none 0 0), (Value.bool false), (Value.bool false), (Value.int .i64 0), (Value.int .i64 0), (Value.int .i64 0), (Value.int .i64 0), (Value.int .i64 0), (Value.int .u64 0), (Value.int .u64 0), (Value.int .u64 0), (Value.int .u64 0)] := ⟨by kernel_rfl⟩
instance : TBld Pr 209 [(0, 9), (9, 1)] #[(Value.map none), (Value.map none), (Value.bool false), (Value.map none), (Value.map none), (Value.map none), (Value.map none), (Value.int .i64 0), (Value.int .u64 0), (Value.int .u64 0)] := ⟨by kernel_rfl⟩
instance : TBld Pr 202 [(0, 1), (1, 1)] #[(Value.int .u64 0), (Value.int .u64 0)] := ⟨by kernel_rfl⟩
instance : TBld Pr 200 [(0, 1), (1, 1), (2, 1), (3, 1), (4, 1)] #[(Value.slice none 0 0), (Value.slice none 0 0), (Value.slice none 0 0), (Value.slice none 0 0), (Value.pointer none)] := ⟨by kernel_rfl⟩
instance : TBld Pr 215 [(0, 1), (1, 1), (2, 1), (3, 1)] #[(Value.pointer none), (Value.pointer none), (Value.pointer none), (Value.slice none 0 0)] := ⟨by kernel_rfl⟩
instance : TBld Pr 225 [(0, 1), (1, 1), (2, 1), (3, 6)] #[(Value.pointer none), (Value.pointer none), (Value.slice none 0 0), (Value.int .i64 0), (Value.int .i64 0), (Value.int .i64 0), (Value.int .i64 0), (Value.int .i64 0), (Value.int .i64 0)] := ⟨by kernel_rfl⟩
instance : TBld Pr 136 [(0, 2), (2, 1), (3, 1), (4, 1)] #[(Value.map none), (Value.map none), (Value.bool false), (Value.map none), (Value.map none)] := ⟨by kernel_rfl⟩
instance : TBld Pr 141 [(0, 5), (5, 1), (6, 1), (7, 1), (8, 1)] #[(Value.map none), (Value.map none), (Value.bool false), (Value.map none), (Value.map none), (Value.map none), (Value.map none), (Value.int .i64 0), (Value.int .u64 0)] := ⟨by kernel_rfl⟩
instance : TBld Pr 230 [(0, 1), (1, 1), (2, 1), (3, 1), (4, 1), (5, 1)] #[(Value.int .i64 0), (Value.int .i64 0), (Value.int .u64 0), (Value.int .i64 0), (Value.int .u64 0), (Value.slice none 0 0)] := ⟨by kernel_rfl⟩
instance : TBld Pr 187 [(0, 1), (1, 1), (2, 1), (3, 1), (4, 1), (5, 1), (6, 1), (7, 9), (16, 1), (17, 1), (18, 1), (19, 1), (20, 1), (21, 1), (22, 1), (23, 1), (24, 1), (25, 1), (26, 1), (27, 1), (28, 1), (29, 1), (30, 1), (31, 1), (32, 1), (33, 1), (34, 1), (35, 1), (36, 1), (37, 1), (38, 1), (39, 1)] #[(Value.int .u64 0), (Value.int .u64 0), (Value.int .u64 0), (Value.slice none 0 0), (Value.pointer none), (Value.int .u64 0), (Value.int .u64 0), (Value.map none), (Value.map none), (Value.bool false), (Value.map none), (Value.map none), (Value.map none), (Value.map none), (Value.int .i64 0), (Value.int .u64 0), (Value.int .u64 0), (Value.bool false), (Value.slice none 0 0), (Value.slice none 0 0), (Value.int .u64 0), (Value.int .u64 0), (Value.int .u64 0), (Value.bool false), (Value.int .u64 0), (Value.pointer none), (Value.int .i64 0), (Value.int .i64 0), (Value.bool false), (Value.bool false), (Value.int .i64 0), (Value.int .i64 0), (Value.int .i64 0), (Value.bool false), (Value.bool false), Value.nilFunc, Value.nilFunc, (Value.slice none 0 0), (Value.slice none 0 0), (Value.int .i64 0)] := ⟨by kernel_rfl⟩
instance : TBld Pr 27 [(0, 1), (1, 1), (2, 1), (3, 5)] #[(Value.string (ByteArray.mk #[])), (Value.int .u64 0), (Value.int .u64 0), (Value.slice none 0 0), (Value.slice none 0 0), (Value.slice none 0 0), (Value.slice none 0 0), (Value.bool false)] := ⟨by kernel_rfl⟩
instance : TBld Pr 60 [(0, 1), (1, 11)] #[(Value.int .u64 0), (Value.int .u64 0), (Value.int .u64 0), (Value.int .i64 0), (Value.int .u64 0), (Value.bool false), (Value.bool false), (Value.bool false), (Value.int .i64 0), (Value.int .u64 0), (Value.slice none 0 0), (Value.slice none 0 0)] := ⟨by kernel_rfl⟩
instance : TBld Pr 58 [(0, 1), (1, 1), (2, 1), (3, 1), (4, 1), (5, 1), (6, 1), (7, 1), (8, 1), (9, 1), (10, 1)] #[(Value.int .u64 0), (Value.int .u64 0), (Value.int .i64 0), (Value.int .u64 0), (Value.bool false), (Value.bool false), (Value.bool false), (Value.int .i64 0), (Value.int .u64 0), (Value.slice none 0 0), (Value.slice none 0 0)] := ⟨by kernel_rfl⟩
instance : TBld Pr 194 [(0, 1), (1, 1), (2, 1), (3, 1), (4, 1)] #[(Value.pointer none), (Value.slice none 0 0), (Value.int .u64 0), (Value.bool false), (Value.int .u64 0)] := ⟨by kernel_rfl⟩
instance : TBld Pr 196 [(0, 1), (1, 5), (6, 1), (7, 1), (8, 1), (9, 1), (10, 1), (11, 1)] #[Value.nilIface, (Value.pointer none), (Value.slice none 0 0), (Value.int .u64 0), (Value.bool false), (Value.int .u64 0), (Value.int .u64 0), (Value.int .u64 0), (Value.int .u64 0), (Value.int .u64 0), (Value.int .u64 0), (Value.bool false)] := ⟨by kernel_rfl⟩
instance : TBld Pr 302 [(0, 1), (1, 1)] #[(Value.int .u64 0), (Value.int .u64 0)] := ⟨by kernel_rfl⟩
instance : TBld Pr 265 [(0, 1), (1, 1), (2, 1), (3, 1)] #[(Value.int .i64 0), (Value.map none), (Value.slice none 0 0), (Value.int .u64 0)] := ⟨by kernel_rfl⟩
instance : TBld Pr 309 [(0, 1), (1, 1)] #[(Value.pointer none), (Value.pointer none)] := ⟨by kernel_rfl⟩
instance : TBld Pr 376 [(0, 1)] #[(Value.string (ByteArray.mk #[]))] := ⟨by kernel_rfl⟩
end Go.Proofs.YtmmpogfbhelioaaGreat
/-
  The struct values that the program builds, printed by mkTy.py.
  Conditions: none.
-/
namespace Go.Proofs.YtmmpogfbhelioaaGreat
set_option maxRecDepth 10000
set_option linter.unusedVariables false
set_option linter.unusedSimpArgs false
set_option linter.unusedSimpArgs false
theorem cells_agg {cs : Array Value} : (Value.agg cs).cells = cs := rfl
theorem b25_0_1 {S : World → Prop} {K : Value → Prop} {x0 x1 : Value} (h0 : one x0 = true) (h1 : one x1 = true) (k : K (.agg #[x0, x1, (Value.slice none 0 0), (Value.slice none 0 0), (Value.bool false)])) : Qu Pr S (Instr.build 25 #[(0, x0), (1, x1)]) K :=
  q_build (cs := #[x0, x1, (Value.slice none 0 0), (Value.slice none 0 0), (Value.bool false)]) (by simp [Instr.fill, one_cells' h0, one_cells' h1, cells_agg]) k
theorem b56_0_1 {S : World → Prop} {K : Value → Prop} {x0 x1 : Value} (h0 : one x0 = true) (h1 : one x1 = true) (k : K (.agg #[x0, x1, (Value.int .i64 0), (Value.string (ByteArray.mk #[]))])) : Qu Pr S (Instr.build 56 #[(0, x0), (1, x1)]) K :=
  q_build (cs := #[x0, x1, (Value.int .i64 0), (Value.string (ByteArray.mk #[]))]) (by simp [Instr.fill, one_cells' h0, one_cells' h1, cells_agg]) k
theorem b64_0_1_2_3_10 {S : World → Prop} {K : Value → Prop} {x0 x1 x2 x3 x10_0 x10_1 x10_2 x10_3 x10_4 x10_5 x10_6 x10_7 : Value} (h0 : one x0 = true) (h1 : one x1 = true) (h2 : one x2 = true) (h3 : one x3 = true) (k : K (.agg #[x0, x1, x2, x3, (Value.int .u64 0), (Value.int .u64 0), (Value.int .u64 0), (Value.int .u64 0), (Value.int .u64 0), (Value.slice none 0 0), x10_0, x10_1, x10_2, x10_3, x10_4, x10_5, x10_6, x10_7, (Value.bool false), (Value.string (ByteArray.mk #[])), (Value.slice none 0 0)])) : Qu Pr S (Instr.build 64 #[(0, x0), (1, x1), (2, x2), (3, x3), (10, .agg #[x10_0, x10_1, x10_2, x10_3, x10_4, x10_5, x10_6, x10_7])]) K :=
  q_build (cs := #[x0, x1, x2, x3, (Value.int .u64 0), (Value.int .u64 0), (Value.int .u64 0), (Value.int .u64 0), (Value.int .u64 0), (Value.slice none 0 0), x10_0, x10_1, x10_2, x10_3, x10_4, x10_5, x10_6, x10_7, (Value.bool false), (Value.string (ByteArray.mk #[])), (Value.slice none 0 0)]) (by simp [Instr.fill, one_cells' h0, one_cells' h1, one_cells' h2, one_cells' h3, cells_agg]) k
theorem b41_0_1_2 {S : World → Prop} {K : Value → Prop} {x0 x1 x2 : Value} (h0 : one x0 = true) (h1 : one x1 = true) (h2 : one x2 = true) (k : K (.agg #[x0, x1, x2])) : Qu Pr S (Instr.build 41 #[(0, x0), (1, x1), (2, x2)]) K :=
  q_build (cs := #[x0, x1, x2]) (by simp [Instr.fill, one_cells' h0, one_cells' h1, one_cells' h2, cells_agg]) k
theorem b43_0_1_2_3_4 {S : World → Prop} {K : Value → Prop} {x0 x1 x2_0 x2_1 x2_2 x3_0 x3_1 x3_2 x3_3 x3_4 x3_5 x3_6 x3_7 x4 : Value} (h0 : one x0 = true) (h1 : one x1 = true) (h4 : one x4 = true) (k : K (.agg #[x0, x1, x2_0, x2_1, x2_2, x3_0, x3_1, x3_2, x3_3, x3_4, x3_5, x3_6, x3_7, x4])) : Qu Pr S (Instr.build 43 #[(0, x0), (1, x1), (2, .agg #[x2_0, x2_1, x2_2]), (3, .agg #[x3_0, x3_1, x3_2, x3_3, x3_4, x3_5, x3_6, x3_7]), (4, x4)]) K :=
  q_build (cs := #[x0, x1, x2_0, x2_1, x2_2, x3_0, x3_1, x3_2, x3_3, x3_4, x3_5, x3_6, x3_7, x4]) (by simp [Instr.fill, one_cells' h0, one_cells' h1, one_cells' h4, cells_agg]) k
theorem b38_4 {S : World → Prop} {K : Value → Prop} {x4 : Value} (h4 : one x4 = true) (k : K (.agg #[(Value.int .u64 0), (Value.int .u64 0), (Value.int .u64 0), (Value.int .u64 0), (Value.int .i64 0), (Value.string (ByteArray.mk #[])), (Value.int .u64 0), (Value.int .u64 0), (Value.slice none 0 0), (Value.slice none 0 0), (Value.slice none 0 0), (Value.slice none 0 0), (Value.bool false), (Value.slice none 0 0), (Value.slice none 0 0), (Value.int .u64 0), (Value.int .u64 0), (Value.slice none 0 0), (Value.slice none 0 0), (Value.slice none 0 0), (Value.slice none 0 0), (Value.bool false), (Value.bool false), (Value.int .i64 0), (Value.int .i64 0), (Value.int .i64 0), (Value.int .i64 0), (Value.int .i64 0), (Value.int .u64 0), (Value.int .u64 0), (Value.int .u64 0), (Value.int .u64 0), (Value.slice none 0 0), (Value.slice none 0 0), (Value.bool false), x4])) : Qu Pr S (Instr.build 38 #[(4, x4)]) K :=
  q_build (cs := #[(Value.int .u64 0), (Value.int .u64 0), (Value.int .u64 0), (Value.int .u64 0), (Value.int .i64 0), (Value.string (ByteArray.mk #[])), (Value.int .u64 0), (Value.int .u64 0), (Value.slice none 0 0), (Value.slice none 0 0), (Value.slice none 0 0), (Value.slice none 0 0), (Value.bool false), (Value.slice none 0 0), (Value.slice none 0 0), (Value.int .u64 0), (Value.int .u64 0), (Value.slice none 0 0), (Value.slice none 0 0), (Value.slice none 0 0), (Value.slice none 0 0), (Value.bool false), (Value.bool false), (Value.int .i64 0), (Value.int .i64 0), (Value.int .i64 0), (Value.int .i64 0), (Value.int .i64 0), (Value.int .u64 0), (Value.int .u64 0), (Value.int .u64 0), (Value.int .u64 0), (Value.slice none 0 0), (Value.slice none 0 0), (Value.bool false), x4]) (by simp [Instr.fill, one_cells' h4, cells_agg]) k
theorem b106_0_1_2 {S : World → Prop} {K : Value → Prop} {x0 x1 x2 : Value} (h0 : one x0 = true) (h1 : one x1 = true) (h2 : one x2 = true) (k : K (.agg #[x0, x1, x2])) : Qu Pr S (Instr.build 106 #[(0, x0), (1, x1), (2, x2)]) K :=
  q_build (cs := #[x0, x1, x2]) (by simp [Instr.fill, one_cells' h0, one_cells' h1, one_cells' h2, cells_agg]) k
theorem b108_0_1 {S : World → Prop} {K : Value → Prop} {x0 x1 : Value} (h0 : one x0 = true) (h1 : one x1 = true) (k : K (.agg #[x0, x1])) : Qu Pr S (Instr.build 108 #[(0, x0), (1, x1)]) K :=
  q_build (cs := #[x0, x1]) (by simp [Instr.fill, one_cells' h0, one_cells' h1, cells_agg]) k
theorem b119_0_1_2_3_4_5_7_8_11_6_12 {S : World → Prop} {K : Value → Prop} {x0 x1 x2 x3 x4 x5 x7 x8 x11 x6 x12 : Value} (h0 : one x0 = true) (h1 : one x1 = true) (h2 : one x2 = true) (h3 : one x3 = true) (h4 : one x4 = true) (h5 : one x5 = true) (h7 : one x7 = true) (h8 : one x8 = true) (h11 : one x11 = true) (h6 : one x6 = true) (h12 : one x12 = true) (k : K (.agg #[x0, x1, x2, x3, x4, x5, x6, x7, x8, (Value.pointer none), (Value.pointer none), x11, x12, (Value.slice none 0 0)])) : Qu Pr S (Instr.build 119 #[(0, x0), (1, x1), (2, x2), (3, x3), (4, x4), (5, x5), (7, x7), (8, x8), (11, x11), (6, x6), (12, x12)]) K :=
  q_build (cs := #[x0, x1, x2, x3, x4, x5, x6, x7, x8, (Value.pointer none), (Value.pointer none), x11, x12, (Value.slice none 0 0)]) (by simp [Instr.fill, one_cells' h0, one_cells' h1, one_cells' h2, one_cells' h3, one_cells' h4, one_cells' h5, one_cells' h7, one_cells' h8, one_cells' h11, one_cells' h6, one_cells' h12, cells_agg]) k
theorem b161_0_1_2_3_4_5_6_7_8_9_10_11_12_13_14_15_16 {S : World → Prop} {K : Value → Prop} {x0 x1 x2 x3 x4 x5 x6 x7 x8 x9 x10 x11 x12 x13 x14 x15 x16 : Value} (h0 : one x0 = true) (h1 : one x1 = true) (h2 : one x2 = true) (h3 : one x3 = true) (h4 : one x4 = true) (h5 : one x5 = true) (h6 : one x6 = true) (h7 : one x7 = true) (h8 : one x8 = true) (h9 : one x9 = true) (h10 : one x10 = true) (h11 : one x11 = true) (h12 : one x12 = true) (h13 : one x13 = true) (h14 : one x14 = true) (h15 : one x15 = true) (h16 : one x16 = true) (k : K (.agg #[x0, x1, x2, x3, x4, x5, x6, x7, x8, x9, x10, x11, x12, x13, x14, x15, x16])) : Qu Pr S (Instr.build 161 #[(0, x0), (1, x1), (2, x2), (3, x3), (4, x4), (5, x5), (6, x6), (7, x7), (8, x8), (9, x9), (10, x10), (11, x11), (12, x12), (13, x13), (14, x14), (15, x15), (16, x16)]) K :=
  q_build (cs := #[x0, x1, x2, x3, x4, x5, x6, x7, x8, x9, x10, x11, x12, x13, x14, x15, x16]) (by simp [Instr.fill, one_cells' h0, one_cells' h1, one_cells' h2, one_cells' h3, one_cells' h4, one_cells' h5, one_cells' h6, one_cells' h7, one_cells' h8, one_cells' h9, one_cells' h10, one_cells' h11, one_cells' h12, one_cells' h13, one_cells' h14, one_cells' h15, one_cells' h16, cells_agg]) k
theorem b152_1_8_7 {S : World → Prop} {K : Value → Prop} {x1 x8 x7 : Value} (h1 : one x1 = true) (h8 : one x8 = true) (h7 : one x7 = true) (k : K (.agg #[(Value.int .u64 0), x1, (Value.int .u64 0), (Value.int .u64 0), (Value.int .u64 0), (Value.bool false), (Value.bool false), x7, x8])) : Qu Pr S (Instr.build 152 #[(1, x1), (8, x8), (7, x7)]) K :=
  q_build (cs := #[(Value.int .u64 0), x1, (Value.int .u64 0), (Value.int .u64 0), (Value.int .u64 0), (Value.bool false), (Value.bool false), x7, x8]) (by simp [Instr.fill, one_cells' h1, one_cells' h8, one_cells' h7, cells_agg]) k
theorem b156_ {S : World → Prop} {K : Value → Prop}  (k : K (.agg #[])) : Qu Pr S (Instr.build 156 #[]) K :=
  q_build (cs := #[]) (by simp [Instr.fill, cells_agg]) k
theorem b155_0_1 {S : World → Prop} {K : Value → Prop} {x0 x1 : Value} (h0 : one x0 = true) (h1 : one x1 = true) (k : K (.agg #[x0, x1])) : Qu Pr S (Instr.build 155 #[(0, x0), (1, x1)]) K :=
  q_build (cs := #[x0, x1]) (by simp [Instr.fill, one_cells' h0, one_cells' h1, cells_agg]) k
theorem b32_0_1_2_3_4_5_7_10_11_14_15_16_17_18_19_20_21_22_23_24 {S : World → Prop} {K : Value → Prop} {x0 x1 x2 x3 x4 x5_0 x5_1 x5_2 x5_3 x5_4 x5_5 x5_6 x5_7 x7 x10 x11 x14 x15 x16 x17 x18 x19 x20 x21 x22 x23 x24 : Value} (h0 : one x0 = true) (h1 : one x1 = true) (h2 : one x2 = true) (h3 : one x3 = true) (h4 : one x4 = true) (h7 : one x7 = true) (h10 : one x10 = true) (h11 : one x11 = true) (h14 : one x14 = true) (h15 : one x15 = true) (h16 : one x16 = true) (h17 : one x17 = true) (h18 : one x18 = true) (h19 : one x19 = true) (h20 : one x20 = true) (h21 : one x21 = true) (h22 : one x22 = true) (h23 : one x23 = true) (h24 : one x24 = true) (k : K (.agg #[x0, x1, x2, x3, x4, x5_0, x5_1, x5_2, x5_3, x5_4, x5_5, x5_6, x5_7, (Value.slice none 0 0), x7, (Value.int .u64 0), (Value.int .u64 0), x10, x11, (Value.slice none 0 0), (Value.slice none 0 0), x14, x15, x16, x17, x18, x19, x20, x21, x22, x23, x24])) : Qu Pr S (Instr.build 32 #[(0, x0), (1, x1), (2, x2), (3, x3), (4, x4), (5, .agg #[x5_0, x5_1, x5_2, x5_3, x5_4, x5_5, x5_6, x5_7]), (7, x7), (10, x10), (11, x11), (14, x14), (15, x15), (16, x16), (17, x17), (18, x18), (19, x19), (20, x20), (21, x21), (22, x22), (23, x23), (24, x24)]) K :=
  q_build (cs := #[x0, x1, x2, x3, x4, x5_0, x5_1, x5_2, x5_3, x5_4, x5_5, x5_6, x5_7, (Value.slice none 0 0), x7, (Value.int .u64 0), (Value.int .u64 0), x10, x11, (Value.slice none 0 0), (Value.slice none 0 0), x14, x15, x16, x17, x18, x19, x20, x21, x22, x23, x24]) (by simp [Instr.fill, one_cells' h0, one_cells' h1, one_cells' h2, one_cells' h3, one_cells' h4, one_cells' h7, one_cells' h10, one_cells' h11, one_cells' h14, one_cells' h15, one_cells' h16, one_cells' h17, one_cells' h18, one_cells' h19, one_cells' h20, one_cells' h21, one_cells' h22, one_cells' h23, one_cells' h24, cells_agg]) k
theorem b209_0_1 {S : World → Prop} {K : Value → Prop} {x0_0 x0_1 x0_2 x0_3 x0_4 x0_5 x0_6 x0_7 x0_8 x1 : Value} (h1 : one x1 = true) (k : K (.agg #[x0_0, x0_1, x0_2, x0_3, x0_4, x0_5, x0_6, x0_7, x0_8, x1])) : Qu Pr S (Instr.build 209 #[(0, .agg #[x0_0, x0_1, x0_2, x0_3, x0_4, x0_5, x0_6, x0_7, x0_8]), (1, x1)]) K :=
  q_build (cs := #[x0_0, x0_1, x0_2, x0_3, x0_4, x0_5, x0_6, x0_7, x0_8, x1]) (by simp [Instr.fill, one_cells' h1, cells_agg]) k
theorem b202_0_1 {S : World → Prop} {K : Value → Prop} {x0 x1 : Value} (h0 : one x0 = true) (h1 : one x1 = true) (k : K (.agg #[x0, x1])) : Qu Pr S (Instr.build 202 #[(0, x0), (1, x1)]) K :=
  q_build (cs := #[x0, x1]) (by simp [Instr.fill, one_cells' h0, one_cells' h1, cells_agg]) k
theorem b200_0_1_2_3_4 {S : World → Prop} {K : Value → Prop} {x0 x1 x2 x3 x4 : Value} (h0 : one x0 = true) (h1 : one x1 = true) (h2 : one x2 = true) (h3 : one x3 = true) (h4 : one x4 = true) (k : K (.agg #[x0, x1, x2, x3, x4])) : Qu Pr S (Instr.build 200 #[(0, x0), (1, x1), (2, x2), (3, x3), (4, x4)]) K :=
  q_build (cs := #[x0, x1, x2, x3, x4]) (by simp [Instr.fill, one_cells' h0, one_cells' h1, one_cells' h2, one_cells' h3, one_cells' h4, cells_agg]) k
theorem b215_3 {S : World → Prop} {K : Value → Prop} {x3 : Value} (h3 : one x3 = true) (k : K (.agg #[(Value.pointer none), (Value.pointer none), (Value.pointer none), x3])) : Qu Pr S (Instr.build 215 #[(3, x3)]) K :=
  q_build (cs := #[(Value.pointer none), (Value.pointer none), (Value.pointer none), x3]) (by simp [Instr.fill, one_cells' h3, cells_agg]) k
theorem b119_1_0_5 {S : World → Prop} {K : Value → Prop} {x1 x0 x5 : Value} (h1 : one x1 = true) (h0 : one x0 = true) (h5 : one x5 = true) (k : K (.agg #[x0, x1, (Value.pointer none), (Value.pointer none), (Value.pointer none), x5, (Value.slice none 0 0), (Value.pointer none), (Value.pointer none), (Value.pointer none), (Value.pointer none), (Value.pointer none), (Value.slice none 0 0), (Value.slice none 0 0)])) : Qu Pr S (Instr.build 119 #[(1, x1), (0, x0), (5, x5)]) K :=
  q_build (cs := #[x0, x1, (Value.pointer none), (Value.pointer none), (Value.pointer none), x5, (Value.slice none 0 0), (Value.pointer none), (Value.pointer none), (Value.pointer none), (Value.pointer none), (Value.pointer none), (Value.slice none 0 0), (Value.slice none 0 0)]) (by simp [Instr.fill, one_cells' h1, one_cells' h0, one_cells' h5, cells_agg]) k
theorem b215_ {S : World → Prop} {K : Value → Prop}  (k : K (.agg #[(Value.pointer none), (Value.pointer none), (Value.pointer none), (Value.slice none 0 0)])) : Qu Pr S (Instr.build 215 #[]) K :=
  q_build (cs := #[(Value.pointer none), (Value.pointer none), (Value.pointer none), (Value.slice none 0 0)]) (by simp [Instr.fill, cells_agg]) k
theorem b225_2 {S : World → Prop} {K : Value → Prop} {x2 : Value} (h2 : one x2 = true) (k : K (.agg #[(Value.pointer none), (Value.pointer none), x2, (Value.int .i64 0), (Value.int .i64 0), (Value.int .i64 0), (Value.int .i64 0), (Value.int .i64 0), (Value.int .i64 0)])) : Qu Pr S (Instr.build 225 #[(2, x2)]) K :=
  q_build (cs := #[(Value.pointer none), (Value.pointer none), x2, (Value.int .i64 0), (Value.int .i64 0), (Value.int .i64 0), (Value.int .i64 0), (Value.int .i64 0), (Value.int .i64 0)]) (by simp [Instr.fill, one_cells' h2, cells_agg]) k
theorem b215_0_1 {S : World → Prop} {K : Value → Prop} {x0 x1 : Value} (h0 : one x0 = true) (h1 : one x1 = true) (k : K (.agg #[x0, x1, (Value.pointer none), (Value.slice none 0 0)])) : Qu Pr S (Instr.build 215 #[(0, x0), (1, x1)]) K :=
  q_build (cs := #[x0, x1, (Value.pointer none), (Value.slice none 0 0)]) (by simp [Instr.fill, one_cells' h0, one_cells' h1, cells_agg]) k
theorem b134_0_1 {S : World → Prop} {K : Value → Prop} {x0 x1 : Value} (h0 : one x0 = true) (h1 : one x1 = true) (k : K (.agg #[x0, x1])) : Qu Pr S (Instr.build 134 #[(0, x0), (1, x1)]) K :=
  q_buildA (cs := #[x0, x1]) (by simp [Instr.fill, one_cells' h0, one_cells' h1, cells_agg]) k
theorem b136_0_2_3 {S : World → Prop} {K : Value → Prop} {x0_0 x0_1 x2 x3 : Value} (h2 : one x2 = true) (h3 : one x3 = true) (k : K (.agg #[x0_0, x0_1, (Value.bool false), x2, x3])) : Qu Pr S (Instr.build 136 #[(0, .agg #[x0_0, x0_1]), (2, x2), (3, x3)]) K :=
  q_build (cs := #[x0_0, x0_1, (Value.bool false), x2, x3]) (by simp [Instr.fill, one_cells' h2, one_cells' h3, cells_agg]) k
theorem b141_3_4_0_2_1 {S : World → Prop} {K : Value → Prop} {x3 x4 x0_0 x0_1 x0_2 x0_3 x0_4 x2 x1 : Value} (h3 : one x3 = true) (h4 : one x4 = true) (h2 : one x2 = true) (h1 : one x1 = true) (k : K (.agg #[x0_0, x0_1, x0_2, x0_3, x0_4, x1, x2, x3, x4])) : Qu Pr S (Instr.build 141 #[(3, x3), (4, x4), (0, .agg #[x0_0, x0_1, x0_2, x0_3, x0_4]), (2, x2), (1, x1)]) K :=
  q_build (cs := #[x0_0, x0_1, x0_2, x0_3, x0_4, x1, x2, x3, x4]) (by simp [Instr.fill, one_cells' h3, one_cells' h4, one_cells' h2, one_cells' h1, cells_agg]) k
theorem b230_3_4 {S : World → Prop} {K : Value → Prop} {x3 x4 : Value} (h3 : one x3 = true) (h4 : one x4 = true) (k : K (.agg #[(Value.int .i64 0), (Value.int .i64 0), (Value.int .u64 0), x3, x4, (Value.slice none 0 0)])) : Qu Pr S (Instr.build 230 #[(3, x3), (4, x4)]) K :=
  q_build (cs := #[(Value.int .i64 0), (Value.int .i64 0), (Value.int .u64 0), x3, x4, (Value.slice none 0 0)]) (by simp [Instr.fill, one_cells' h3, one_cells' h4, cells_agg]) k
theorem b152_0_1_3_4_5_6_8_7 {S : World → Prop} {K : Value → Prop} {x0 x1 x3 x4 x5 x6 x8 x7 : Value} (h0 : one x0 = true) (h1 : one x1 = true) (h3 : one x3 = true) (h4 : one x4 = true) (h5 : one x5 = true) (h6 : one x6 = true) (h8 : one x8 = true) (h7 : one x7 = true) (k : K (.agg #[x0, x1, (Value.int .u64 0), x3, x4, x5, x6, x7, x8])) : Qu Pr S (Instr.build 152 #[(0, x0), (1, x1), (3, x3), (4, x4), (5, x5), (6, x6), (8, x8), (7, x7)]) K :=
  q_build (cs := #[x0, x1, (Value.int .u64 0), x3, x4, x5, x6, x7, x8]) (by simp [Instr.fill, one_cells' h0, one_cells' h1, one_cells' h3, one_cells' h4, one_cells' h5, one_cells' h6, one_cells' h8, one_cells' h7, cells_agg]) k
theorem b187_0_1_2_12_13_8_9_21_20_23_22_24_18_19_5_6_16_4_7_17 {S : World → Prop} {K : Value → Prop} {x0 x1 x2 x12 x13 x8 x9 x21 x20 x23 x22 x24 x18 x19 x5 x6 x16 x4 x7_0 x7_1 x7_2 x7_3 x7_4 x7_5 x7_6 x7_7 x7_8 x17 : Value} (h0 : one x0 = true) (h1 : one x1 = true) (h2 : one x2 = true) (h12 : one x12 = true) (h13 : one x13 = true) (h8 : one x8 = true) (h9 : one x9 = true) (h21 : one x21 = true) (h20 : one x20 = true) (h23 : one x23 = true) (h22 : one x22 = true) (h24 : one x24 = true) (h18 : one x18 = true) (h19 : one x19 = true) (h5 : one x5 = true) (h6 : one x6 = true) (h16 : one x16 = true) (h4 : one x4 = true) (h17 : one x17 = true) (k : K (.agg #[x0, x1, x2, (Value.slice none 0 0), x4, x5, x6, x7_0, x7_1, x7_2, x7_3, x7_4, x7_5, x7_6, x7_7, x7_8, x8, x9, (Value.slice none 0 0), (Value.slice none 0 0), x12, x13, (Value.int .u64 0), (Value.bool false), x16, x17, x18, x19, x20, x21, x22, x23, x24, (Value.bool false), (Value.bool false), Value.nilFunc, Value.nilFunc, (Value.slice none 0 0), (Value.slice none 0 0), (Value.int .i64 0)])) : Qu Pr S (Instr.build 187 #[(0, x0), (1, x1), (2, x2), (12, x12), (13, x13), (8, x8), (9, x9), (21, x21), (20, x20), (23, x23), (22, x22), (24, x24), (18, x18), (19, x19), (5, x5), (6, x6), (16, x16), (4, x4), (7, .agg #[x7_0, x7_1, x7_2, x7_3, x7_4, x7_5, x7_6, x7_7, x7_8]), (17, x17)]) K :=
  q_build (cs := #[x0, x1, x2, (Value.slice none 0 0), x4, x5, x6, x7_0, x7_1, x7_2, x7_3, x7_4, x7_5, x7_6, x7_7, x7_8, x8, x9, (Value.slice none 0 0), (Value.slice none 0 0), x12, x13, (Value.int .u64 0), (Value.bool false), x16, x17, x18, x19, x20, x21, x22, x23, x24, (Value.bool false), (Value.bool false), Value.nilFunc, Value.nilFunc, (Value.slice none 0 0), (Value.slice none 0 0), (Value.int .i64 0)]) (by simp [Instr.fill, one_cells' h0, one_cells' h1, one_cells' h2, one_cells' h12, one_cells' h13, one_cells' h8, one_cells' h9, one_cells' h21, one_cells' h20, one_cells' h23, one_cells' h22, one_cells' h24, one_cells' h18, one_cells' h19, one_cells' h5, one_cells' h6, one_cells' h16, one_cells' h4, one_cells' h17, cells_agg]) k
theorem b56_0_1_2_3 {S : World → Prop} {K : Value → Prop} {x0 x1 x2 x3 : Value} (h0 : one x0 = true) (h1 : one x1 = true) (h2 : one x2 = true) (h3 : one x3 = true) (k : K (.agg #[x0, x1, x2, x3])) : Qu Pr S (Instr.build 56 #[(0, x0), (1, x1), (2, x2), (3, x3)]) K :=
  q_build (cs := #[x0, x1, x2, x3]) (by simp [Instr.fill, one_cells' h0, one_cells' h1, one_cells' h2, one_cells' h3, cells_agg]) k
theorem b27_0_1_2_3 {S : World → Prop} {K : Value → Prop} {x0 x1 x2 x3_0 x3_1 x3_2 x3_3 x3_4 : Value} (h0 : one x0 = true) (h1 : one x1 = true) (h2 : one x2 = true) (k : K (.agg #[x0, x1, x2, x3_0, x3_1, x3_2, x3_3, x3_4])) : Qu Pr S (Instr.build 27 #[(0, x0), (1, x1), (2, x2), (3, .agg #[x3_0, x3_1, x3_2, x3_3, x3_4])]) K :=
  q_build (cs := #[x0, x1, x2, x3_0, x3_1, x3_2, x3_3, x3_4]) (by simp [Instr.fill, one_cells' h0, one_cells' h1, one_cells' h2, cells_agg]) k
theorem b60_0_1 {S : World → Prop} {K : Value → Prop} {x0 x1_0 x1_1 x1_2 x1_3 x1_4 x1_5 x1_6 x1_7 x1_8 x1_9 x1_10 : Value} (h0 : one x0 = true) (k : K (.agg #[x0, x1_0, x1_1, x1_2, x1_3, x1_4, x1_5, x1_6, x1_7, x1_8, x1_9, x1_10])) : Qu Pr S (Instr.build 60 #[(0, x0), (1, .agg #[x1_0, x1_1, x1_2, x1_3, x1_4, x1_5, x1_6, x1_7, x1_8, x1_9, x1_10])]) K :=
  q_build (cs := #[x0, x1_0, x1_1, x1_2, x1_3, x1_4, x1_5, x1_6, x1_7, x1_8, x1_9, x1_10]) (by simp [Instr.fill, one_cells' h0, cells_agg]) k
theorem b58_0_1_2_3_4_5_6 {S : World → Prop} {K : Value → Prop} {x0 x1 x2 x3 x4 x5 x6 : Value} (h0 : one x0 = true) (h1 : one x1 = true) (h2 : one x2 = true) (h3 : one x3 = true) (h4 : one x4 = true) (h5 : one x5 = true) (h6 : one x6 = true) (k : K (.agg #[x0, x1, x2, x3, x4, x5, x6, (Value.int .i64 0), (Value.int .u64 0), (Value.slice none 0 0), (Value.slice none 0 0)])) : Qu Pr S (Instr.build 58 #[(0, x0), (1, x1), (2, x2), (3, x3), (4, x4), (5, x5), (6, x6)]) K :=
  q_build (cs := #[x0, x1, x2, x3, x4, x5, x6, (Value.int .i64 0), (Value.int .u64 0), (Value.slice none 0 0), (Value.slice none 0 0)]) (by simp [Instr.fill, one_cells' h0, one_cells' h1, one_cells' h2, one_cells' h3, one_cells' h4, one_cells' h5, one_cells' h6, cells_agg]) k
theorem b64_0_1_2_3_4_5_6_7_8_9_10_11_12 {S : World → Prop} {K : Value → Prop} {x0 x1 x2 x3 x4 x5 x6 x7 x8 x9 x10_0 x10_1 x10_2 x10_3 x10_4 x10_5 x10_6 x10_7 x11 x12 : Value} (h0 : one x0 = true) (h1 : one x1 = true) (h2 : one x2 = true) (h3 : one x3 = true) (h4 : one x4 = true) (h5 : one x5 = true) (h6 : one x6 = true) (h7 : one x7 = true) (h8 : one x8 = true) (h9 : one x9 = true) (h11 : one x11 = true) (h12 : one x12 = true) (k : K (.agg #[x0, x1, x2, x3, x4, x5, x6, x7, x8, x9, x10_0, x10_1, x10_2, x10_3, x10_4, x10_5, x10_6, x10_7, x11, x12, (Value.slice none 0 0)])) : Qu Pr S (Instr.build 64 #[(0, x0), (1, x1), (2, x2), (3, x3), (4, x4), (5, x5), (6, x6), (7, x7), (8, x8), (9, x9), (10, .agg #[x10_0, x10_1, x10_2, x10_3, x10_4, x10_5, x10_6, x10_7]), (11, x11), (12, x12)]) K :=
  q_build (cs := #[x0, x1, x2, x3, x4, x5, x6, x7, x8, x9, x10_0, x10_1, x10_2, x10_3, x10_4, x10_5, x10_6, x10_7, x11, x12, (Value.slice none 0 0)]) (by simp [Instr.fill, one_cells' h0, one_cells' h1, one_cells' h2, one_cells' h3, one_cells' h4, one_cells' h5, one_cells' h6, one_cells' h7, one_cells' h8, one_cells' h9, one_cells' h11, one_cells' h12, cells_agg]) k
theorem b215_0_1_3 {S : World → Prop} {K : Value → Prop} {x0 x1 x3 : Value} (h0 : one x0 = true) (h1 : one x1 = true) (h3 : one x3 = true) (k : K (.agg #[x0, x1, (Value.pointer none), x3])) : Qu Pr S (Instr.build 215 #[(0, x0), (1, x1), (3, x3)]) K :=
  q_build (cs := #[x0, x1, (Value.pointer none), x3]) (by simp [Instr.fill, one_cells' h0, one_cells' h1, one_cells' h3, cells_agg]) k
theorem b194_2_4 {S : World → Prop} {K : Value → Prop} {x2 x4 : Value} (h2 : one x2 = true) (h4 : one x4 = true) (k : K (.agg #[(Value.pointer none), (Value.slice none 0 0), x2, (Value.bool false), x4])) : Qu Pr S (Instr.build 194 #[(2, x2), (4, x4)]) K :=
  q_build (cs := #[(Value.pointer none), (Value.slice none 0 0), x2, (Value.bool false), x4]) (by simp [Instr.fill, one_cells' h2, one_cells' h4, cells_agg]) k
theorem b196_0_1_5_2_3_4 {S : World → Prop} {K : Value → Prop} {x0 x1_0 x1_1 x1_2 x1_3 x1_4 x5 x2 x3 x4 : Value} (h0 : one x0 = true) (h5 : one x5 = true) (h2 : one x2 = true) (h3 : one x3 = true) (h4 : one x4 = true) (k : K (.agg #[x0, x1_0, x1_1, x1_2, x1_3, x1_4, x2, x3, x4, x5, (Value.int .u64 0), (Value.bool false)])) : Qu Pr S (Instr.build 196 #[(0, x0), (1, .agg #[x1_0, x1_1, x1_2, x1_3, x1_4]), (5, x5), (2, x2), (3, x3), (4, x4)]) K :=
  q_build (cs := #[x0, x1_0, x1_1, x1_2, x1_3, x1_4, x2, x3, x4, x5, (Value.int .u64 0), (Value.bool false)]) (by simp [Instr.fill, one_cells' h0, one_cells' h5, one_cells' h2, one_cells' h3, one_cells' h4, cells_agg]) k
theorem b302_0_1 {S : World → Prop} {K : Value → Prop} {x0 x1 : Value} (h0 : one x0 = true) (h1 : one x1 = true) (k : K (.agg #[x0, x1])) : Qu Pr S (Instr.build 302 #[(0, x0), (1, x1)]) K :=
  q_build (cs := #[x0, x1]) (by simp [Instr.fill, one_cells' h0, one_cells' h1, cells_agg]) k
theorem b265_0_1 {S : World → Prop} {K : Value → Prop} {x0 x1 : Value} (h0 : one x0 = true) (h1 : one x1 = true) (k : K (.agg #[x0, x1, (Value.slice none 0 0), (Value.int .u64 0)])) : Qu Pr S (Instr.build 265 #[(0, x0), (1, x1)]) K :=
  q_build (cs := #[x0, x1, (Value.slice none 0 0), (Value.int .u64 0)]) (by simp [Instr.fill, one_cells' h0, one_cells' h1, cells_agg]) k
theorem b25_0_1_2_3_4 {S : World → Prop} {K : Value → Prop} {x0 x1 x2 x3 x4 : Value} (h0 : one x0 = true) (h1 : one x1 = true) (h2 : one x2 = true) (h3 : one x3 = true) (h4 : one x4 = true) (k : K (.agg #[x0, x1, x2, x3, x4])) : Qu Pr S (Instr.build 25 #[(0, x0), (1, x1), (2, x2), (3, x3), (4, x4)]) K :=
  q_build (cs := #[x0, x1, x2, x3, x4]) (by simp [Instr.fill, one_cells' h0, one_cells' h1, one_cells' h2, one_cells' h3, one_cells' h4, cells_agg]) k
theorem b309_0_1 {S : World → Prop} {K : Value → Prop} {x0 x1 : Value} (h0 : one x0 = true) (h1 : one x1 = true) (k : K (.agg #[x0, x1])) : Qu Pr S (Instr.build 309 #[(0, x0), (1, x1)]) K :=
  q_build (cs := #[x0, x1]) (by simp [Instr.fill, one_cells' h0, one_cells' h1, cells_agg]) k
theorem b136_ {S : World → Prop} {K : Value → Prop}  (k : K (.agg #[(Value.map none), (Value.map none), (Value.bool false), (Value.map none), (Value.map none)])) : Qu Pr S (Instr.build 136 #[]) K :=
  q_build (cs := #[(Value.map none), (Value.map none), (Value.bool false), (Value.map none), (Value.map none)]) (by simp [Instr.fill, cells_agg]) k
theorem b200_0_2_1_3_4 {S : World → Prop} {K : Value → Prop} {x0 x2 x1 x3 x4 : Value} (h0 : one x0 = true) (h2 : one x2 = true) (h1 : one x1 = true) (h3 : one x3 = true) (h4 : one x4 = true) (k : K (.agg #[x0, x1, x2, x3, x4])) : Qu Pr S (Instr.build 200 #[(0, x0), (2, x2), (1, x1), (3, x3), (4, x4)]) K :=
  q_build (cs := #[x0, x1, x2, x3, x4]) (by simp [Instr.fill, one_cells' h0, one_cells' h2, one_cells' h1, one_cells' h3, one_cells' h4, cells_agg]) k
theorem b152_0_1_7_8 {S : World → Prop} {K : Value → Prop} {x0 x1 x7 x8 : Value} (h0 : one x0 = true) (h1 : one x1 = true) (h7 : one x7 = true) (h8 : one x8 = true) (k : K (.agg #[x0, x1, (Value.int .u64 0), (Value.int .u64 0), (Value.int .u64 0), (Value.bool false), (Value.bool false), x7, x8])) : Qu Pr S (Instr.build 152 #[(0, x0), (1, x1), (7, x7), (8, x8)]) K :=
  q_build (cs := #[x0, x1, (Value.int .u64 0), (Value.int .u64 0), (Value.int .u64 0), (Value.bool false), (Value.bool false), x7, x8]) (by simp [Instr.fill, one_cells' h0, one_cells' h1, one_cells' h7, one_cells' h8, cells_agg]) k
theorem b215_0_1_2_3 {S : World → Prop} {K : Value → Prop} {x0 x1 x2 x3 : Value} (h0 : one x0 = true) (h1 : one x1 = true) (h2 : one x2 = true) (h3 : one x3 = true) (k : K (.agg #[x0, x1, x2, x3])) : Qu Pr S (Instr.build 215 #[(0, x0), (1, x1), (2, x2), (3, x3)]) K :=
  q_build (cs := #[x0, x1, x2, x3]) (by simp [Instr.fill, one_cells' h0, one_cells' h1, one_cells' h2, one_cells' h3, cells_agg]) k
theorem b376_0 {S : World → Prop} {K : Value → Prop} {x0 : Value} (h0 : one x0 = true) (k : K (.agg #[x0])) : Qu Pr S (Instr.build 376 #[(0, x0)]) K :=
  q_build (cs := #[x0]) (by simp [Instr.fill, one_cells' h0, cells_agg]) k
theorem b133_0_1 {S : World → Prop} {K : Value → Prop} {x0 x1 : Value} (h0 : one x0 = true) (h1 : one x1 = true) (k : K (.agg #[x0, x1])) : Qu Pr S (Instr.build 133 #[(0, x0), (1, x1)]) K :=
  q_buildA (cs := #[x0, x1]) (by simp [Instr.fill, one_cells' h0, one_cells' h1, cells_agg]) k
theorem b152_0_1_7_8_5 {S : World → Prop} {K : Value → Prop} {x0 x1 x7 x8 x5 : Value} (h0 : one x0 = true) (h1 : one x1 = true) (h7 : one x7 = true) (h8 : one x8 = true) (h5 : one x5 = true) (k : K (.agg #[x0, x1, (Value.int .u64 0), (Value.int .u64 0), (Value.int .u64 0), x5, (Value.bool false), x7, x8])) : Qu Pr S (Instr.build 152 #[(0, x0), (1, x1), (7, x7), (8, x8), (5, x5)]) K :=
  q_build (cs := #[x0, x1, (Value.int .u64 0), (Value.int .u64 0), (Value.int .u64 0), x5, (Value.bool false), x7, x8]) (by simp [Instr.fill, one_cells' h0, one_cells' h1, one_cells' h7, one_cells' h8, one_cells' h5, cells_agg]) k
end Go.Proofs.YtmmpogfbhelioaaGreat
/-
  Steps as theorems whose last argument a tactic finds: a step through plain operations, a fact lifted to a later world, a world that follows.
  Conditions: none.
-/
namespace Go.Proofs.YtmmpogfbhelioaaGreat
set_option maxRecDepth 10000
set_option linter.unusedVariables false
set_option linter.unusedSimpArgs false
set_option linter.unusedVariables false
/-- What a step hands on: the goal behind it. -/
structure Stp (G H : Prop) : Prop where
  mk :: f : H → G
structure Hld (p : Prop) : Prop where
  out : p
theorem Stp.of {G H : Prop} (f : Hld H → G) : Stp G H := ⟨fun h => f ⟨h⟩⟩
theorem bk_ {p : Prop} (h : p := by (repeat (first | assumption | refine Ex.at_ (by assumption) ?_ | refine Up.at_ (by assumption) ?_ rfl | refine Up.off (by assumption) ?_ (by intro h; (try clear hS); (try subst h); omega)))) : p := h
theorem ex_ {p : Prop} (h : p := by (repeat (first | assumption | exact Up.refl _ _ _ | refine Up.trans ?_ (by assumption) | refine Up.ex ?_ (by assumption) | refine Up.new ?_ (by assumption) (by intro _ h; (try clear hS); (try subst h); omega)))) : p := h
theorem lf_ {p : Prop} (h : p := by (repeat (first | assumption | refine Sl.ex (by assumption) ?_ | refine PE.ex (by assumption) ?_ | refine PEs.ex (by assumption) ?_ | refine PC.ex (by assumption) ?_ | refine PM.ex (by assumption) ?_ | refine PS.ex (by assumption) ?_ | refine PN.ex (by assumption) ?_ | refine PBo.ex (by assumption) ?_ | refine PN1.ex (by assumption) ?_ | refine PB1.ex (by assumption) ?_ | refine Mp.ex (by assumption) ?_ | refine It.ex (by assumption) ?_ | refine Own.ex (by assumption) ?_ | refine Cu.ex (by assumption) ?_ | refine PE.mt rfl (by assumption) ?_ | refine PEs.mt rfl (by assumption) ?_ | refine PC.mt rfl (by assumption) ?_ | refine PM.mt rfl (by assumption) ?_ | refine PS.mt rfl (by assumption) ?_ | refine PBo.mt rfl (by assumption) ?_ | refine PB1.mt rfl (by assumption) ?_ | refine Sl.typ (by assumption) ?_ rfl | refine PN.mt rfl (by assumption) ?_ | refine PN1.mt rfl (by assumption) ?_))) : p := h
theorem nm_ {p : Prop} (h : p := by (try simp only [List.getElem?_toArray, List.getElem?_cons_zero, List.getElem?_cons_succ, List.setIfInBounds_toArray, List.set_cons_zero, List.set_cons_succ, List.toList_toArray, List.drop_zero, List.drop_succ_cons, List.take_zero, List.take_succ_cons, Nat.zero_add, Nat.add_zero, Nat.reduceAdd, putCells]) <;> rfl) : p := h
theorem go {G H : Prop} (h : H) (s : Stp G H := by (apply Stp.of; intro hS; (first | (refine gd_ff ?_) | (refine gd_tf ?_) | (refine gd_tt ?_) | (refine gd_ft ?_) | (refine gd_un ?_) | (refine q_fa ?_) | (refine q_nil ?_) | (refine q_pick_t ?_) | (refine q_pick_f ?_) | (refine q_not ?_) | (refine if_t ?_) | (refine if_f ?_) | (refine e_boxA ?_) | (refine e_box1 (by first | rfl | assumption) ?_) | (refine e_allocA ?_) | (refine e_alloc1 rfl ?_) | (refine q_len ?_) | (refine q_lenS ?_) | (refine q_lenSl lf_ ?_) | (refine q_conv ?_) | (refine q_neqP0 ?_) | (refine q_eqlP0 ?_) | (refine q_neqI1 ?_) | (refine q_eqlI1 ?_) | (refine q_neqI0 rfl ?_) | (refine q_eqlI0 rfl ?_) | (refine q_eqlZ0 ?_) | (refine q_neqZ0 ?_) | (refine q_eqlM0 ?_) | (refine q_neqM0 ?_) | (refine q_eql ?_) | (refine q_neq ?_) | (refine q_lss ?_) | (refine q_leq ?_) | (refine q_gtr ?_) | (refine q_geq ?_) | (refine q_add ?_) | (refine q_sub ?_) | (refine q_mul ?_) | (refine q_eqlS ?_) | (refine q_neqS ?_) | (refine q_eqlB ?_) | (refine q_neqB ?_) | (refine q_mkf ?_)); exact hS.out)) : G := s.f h
theorem gon {G H : Prop} (h : H) (s : Stp G H := by (apply Stp.of; intro hS; (first | (refine q_ld bk_ nm_ ?_) | (refine q_ldU bk_ rfl nm_ ?_) | (refine q_ldW bk_ (by rfl) ?_) | (refine q_ldWU bk_ rfl (by rfl) ?_) | (refine q_ldP bk_ (Nat.le_of_ble_eq_true rfl) nm_ ?_) | (refine q_ldPU bk_ rfl (Nat.le_of_ble_eq_true rfl) nm_ ?_) | (refine q_ext nm_ ?_) | (refine u_st bk_ (Nat.le_of_ble_eq_true rfl) (by first | rfl | assumption) nm_ ?_) | (refine u_stA bk_ (Nat.le_of_ble_eq_true rfl) (by rfl) (by rfl) nm_ ?_) | (refine q_field nm_ ?_)); exact hS.out)) : G := s.f h

end Go.Proofs.YtmmpogfbhelioaaGreat
/-
  The data of the program as Lean sees it: entries, configurations, snapshots, machines; plain ones and the package's.
  Conditions: none.
-/
namespace Go.Proofs.YtmmpogfbhelioaaGreat
set_option maxRecDepth 10000
set_option linter.unusedVariables false
set_option linter.unusedSimpArgs false

/-- Nothing that was there has turned. -/
theorem Up.no {C : Nat → Prop} {T : List Nat} {w w' : World} (h : Up C T w w') (hC : ∀ b, b < w.heap.size → ¬ C b) : Ex w w' :=
  ⟨h.size, h.os, h.tape, h.output, fun b o hb _ => h.keep b o hb (.inr (hC b hb.lt))⟩

/-- The kinds of blocks that a running machine turns: maps, iterators, raft, its log, the storage, a progress, its inflights. -/
abbrev MT : List Nat := [0, 1, 189, 198, 227, 154, 232]

/-- The types of the blocks in which data lies. -/
abbrev DT : List Nat := [215, 22, 233, 5, 200, 106, 108, 4]
/-- Kinds that are not those of data. -/
def okT (T : List Nat) : Bool := DT.all fun t => !T.contains (t + 2)
theorem okT.out {T : List Nat} (h : okT T = true) {t : Nat} (ht : DT.contains t = true) : T.contains (t + 2) = false := by
  have := List.all_eq_true.1 h t (List.contains_iff_mem.1 ht)
  simpa using this

/-- What stays while no block of data turns. -/
class StU (F : World → Prop) : Prop where up : ∀ (C : Nat → Prop) (T : List Nat) w w', okT T = true → Up C T w w' → F w → F w'
instance (priority := 50) {F : World → Prop} [h : StU F] : St F := ⟨fun w w' e f => h.up No [] w w' rfl e f⟩

theorem StU.and {F G : World → Prop} (f : StU F) (g : StU G) : StU fun w => F w ∧ G w := ⟨fun C T w w' o u h => ⟨f.up C T w w' o u h.1, g.up C T w w' o u h.2⟩⟩
theorem StU.ex {α : Sort _} {F : α → World → Prop} (f : ∀ a, StU (F a)) : StU fun w => ∃ a, F a w := ⟨fun C T w w' o u ⟨a, h⟩ => ⟨a, (f a).up C T w w' o u h⟩⟩
theorem StU.or {F G : World → Prop} (f : StU F) (g : StU G) : StU fun w => F w ∨ G w := ⟨fun C T w w' o u h => h.elim (fun h => .inl (f.up C T w w' o u h)) fun h => .inr (g.up C T w w' o u h)⟩
theorem StU.con {p : Prop} : StU fun _ => p := ⟨fun _ _ _ _ _ _ h => h⟩
theorem StU.bk {b : Nat} {cs : Array Value} {t : TypeId} {fz : Nat × Nat} (hT : DT.contains t = true) : StU fun w => Bk w b (.cells cs t fz) := ⟨fun _ _ _ _ o u h => u.at_ h (okT.out o hT)⟩
theorem StU.sl {e n : Nat} {v : Value} {xs : List (List Value)} (hT : DT.contains e = true) : StU fun w => Sl w (some e) n v xs := ⟨fun _ _ _ _ o u h => h.typ u (okT.out o hT)⟩
theorem StU.all {α : Type} {F : α → World → Prop} {l : List α} (f : ∀ a, StU (F a)) : StU fun w => ∀ a ∈ l, F a w := ⟨fun C T w w' o u h a ha => (f a).up C T w w' o u (h a ha)⟩

/-! Numbers. -/

theorem wrap64 {n : Int} (h0 : -9223372036854775808 ≤ n) (h1 : n ≤ 9223372036854775807) : IntKind.i64.wrap n = n := IntWalk.i64_in n ⟨h0, h1⟩
theorem wrapU {n : Int} (h0 : 0 ≤ n) (h1 : n ≤ 18446744073709551615) : IntKind.u64.wrap n = n := IntWalk.u64_in n ⟨h0, h1⟩
theorem wrapS {j : Nat} (h : j ≤ 9223372036854775806) : IntKind.i64.wrap ((j : Int) + 1) = ((j + 1 : Nat) : Int) := by
  rw [wrap64 (by omega) (by omega)]; rfl


def nums (l : List Int) : List (List Value) := l.map fun x => [.int .u64 x]
/-- A slice of the numbers l. -/
abbrev Nums (w : World) (te : Option Nat) (v : Value) (l : List Int) : Prop := Sl w te 1 v (nums l)

/-- A pointer to a number, or nil, which says 0. -/
def PN (t : Nat) (k : IntKind) (v : Value) (n : Int) (w : World) : Prop := (v = .pointer none ∧ n = 0) ∨ ∃ b, v = .pointer (some ⟨b, 0, none⟩) ∧ Bk w b (.cells #[.int k n] t (0, 0))
theorem PN.stU {t : Nat} {k : IntKind} {v : Value} {n : Int} (hT : DT.contains t = true) : StU (PN t k v n) := StU.or StU.con (StU.ex fun _ => StU.and StU.con (StU.bk hT))
def PBo (v : Value) (p : Bool) (w : World) : Prop := (v = .pointer none ∧ p = false) ∨ ∃ b, v = .pointer (some ⟨b, 0, none⟩) ∧ Bk w b (.cells #[.bool p] 4 (0, 0))
/-- A pointer to a number. -/
def PN1 (t : Nat) (k : IntKind) (v : Value) (n : Int) (w : World) : Prop := ∃ b, v = .pointer (some ⟨b, 0, none⟩) ∧ Bk w b (.cells #[.int k n] t (0, 0))
def PB1 (v : Value) (p : Bool) (w : World) : Prop := ∃ b, v = .pointer (some ⟨b, 0, none⟩) ∧ Bk w b (.cells #[.bool p] 4 (0, 0))
theorem PN1.stU {t : Nat} {k : IntKind} {v : Value} {n : Int} (hT : DT.contains t = true) : StU (PN1 t k v n) := StU.ex fun _ => StU.and StU.con (StU.bk hT)
theorem PB1.stU {v : Value} {p : Bool} : StU (PB1 v p) := StU.ex fun _ => StU.and StU.con (StU.bk rfl)
theorem PN1.one {t : Nat} {k : IntKind} {v : Value} {n : Int} {w : World} (h : PN1 t k v n w) : one v = true := by
  obtain ⟨b, rfl, _⟩ := h; rfl
theorem PB1.one {v : Value} {p : Bool} {w : World} (h : PB1 v p w) : one v = true := by
  obtain ⟨b, rfl, _⟩ := h; rfl
theorem PN.one {t : Nat} {k : IntKind} {v : Value} {n : Int} {w : World} (h : PN t k v n w) : one v = true := by
  rcases h with ⟨rfl, _⟩ | ⟨b, rfl, _⟩ <;> rfl
theorem PBo.one {v : Value} {p : Bool} {w : World} (h : PBo v p w) : one v = true := by
  rcases h with ⟨rfl, _⟩ | ⟨b, rfl, _⟩ <;> rfl

section
variable {P : Program} {K : Value → Prop} {S : World → Prop} {w : World} {te : Option Nat}
theorem q_ixs {t e t' : Nat} [TSli P t e 1] [TCell P t'] {v : Value} {xs : List (List Value)} {i : Int} {k : IntKind} (j : Nat) {x : Value} {K : Value → Value → Prop} (hv : Sl w te 1 v xs) (hi : i = j) (hx : xs[j]? = some [x])
    (kk : ∀ p, K p x) : Qu P S (Instr.indexAt t v (.int k i)) fun p => Qu P (Is w) (Instr.loadAt t' p) (K p) := q_ixS j hv (fun w' h => by cases h; exact hv) hi hx kk
theorem q_ixsE {t e t' : Nat} [TSli P t e 1] [TCell P t'] {v : Value} {xs : List (List Value)} {i : Int} {k : IntKind} (j : Nat) {x : Value} {K : Value → Value → Prop} (hv : Sl w te 1 v xs) (hi : i = j) (hx : xs[j]? = some [x])
    (kk : ∀ p, K p x) : Qu P S (Instr.indexAt t v (.int k i)) fun p => Qu P (Ex w) (Instr.loadAt t' p) (K p) := q_ixS j hv (fun _ h => hv.ex h) hi hx kk
theorem q_ixsU {C : Nat → Prop} {T : List Nat} {t e t' te' : Nat} [TSli P t e 1] [TCell P t'] {v : Value} {xs : List (List Value)} {i : Int} {k : IntKind} (j : Nat) {x : Value} {K : Value → Value → Prop} (hv : Sl w (some te') 1 v xs) (hT : T.contains (te' + 2) = false) (hi : i = j) (hx : xs[j]? = some [x])
    (kk : ∀ p, K p x) : Qu P S (Instr.indexAt t v (.int k i)) fun p => Qu P (Up C T w) (Instr.loadAt t' p) (K p) := q_ixS j hv (fun _ h => hv.typ h hT) hi hx kk
theorem q_ixa {t e n t' : Nat} [TSli P t e n] [TAgg P t' n] {v : Value} {xs : List (List Value)} {i : Int} {k : IntKind} (j : Nat) {x : List Value} {K : Value → Value → Prop} (hv : Sl w te n v xs) (hi : i = j) (hx : xs[j]? = some x)
    (kk : ∀ p, K p (.agg x.toArray)) : Qu P S (Instr.indexAt t v (.int k i)) fun p => Qu P (Is w) (Instr.loadAt t' p) (K p) := q_ixA j hv (fun w' h => by cases h; exact hv) hi hx kk
theorem q_ixf {t e n f off s t' : Nat} [TSli P t e n] [TFld P s f off] [TCell P t'] {v : Value} {xs : List (List Value)} {i : Int} {k : IntKind} (j : Nat) {x : List Value} {y : Value} {S' : World → Prop} {K : Value → Value → Value → Prop} (hv : Sl w te n v xs) (hi : i = j) (hx : xs[j]? = some x)
    (hy : x[off]? = some y) (kk : ∀ p q, K p q y) : Qu P S (Instr.indexAt t v (.int k i)) fun p => Qu P S' (Instr.fieldAt s p f) fun q => Qu P (Is w) (Instr.loadAt t' q) (K p q) := q_ixF j hv (fun w' h => by cases h; exact hv) hi hx hy kk
theorem Sl.cap {n : Nat} {a : Option Addr} {l c : Nat} {xs : List (List Value)} (h : Sl w te n (.slice a l c) xs) : l ≤ c := by
  cases h with
  | nil => exact Nat.zero_le _
  | row _ _ _ _ _ _ _ _ hc => exact hc

theorem Sl.pre {n : Nat} {a : Option Addr} {l c i : Nat} {xs : List (List Value)} (h : Sl w te n (.slice a l c) xs) (hi : i ≤ xs.length) : Sl w te n (.slice a i c) (xs.take i) := by
  cases h with
  | nil => simp at hi; subst hi; exact .nil _ _
  | row b o _ cs et fz _ hb hc hm hs hx hn ht =>
    have hl : (xs.take i).length = i := by simp; omega
    have hmul : i * n ≤ xs.length * n := Nat.mul_le_mul_right _ hi
    have := Sl.row (w := w) (te := te) b o c cs et fz (xs.take i) hb (by omega) (by omega) (by rw [hl]; omega) ?_ (fun x hx => hn x (List.mem_of_mem_take hx)) ht
    · rw [hl] at this; exact this
    · rw [hl]
      have h2 : (xs.flatten).take (i * n) = (xs.take i).flatten := by
        clear hx hs hm hc hb hl hmul
        induction i generalizing xs with
        | zero => simp
        | succ i ih =>
          cases xs with
          | nil => simp
          | cons x xs =>
            have hx := hn x (by simp)
            have := ih (by simpa using hi) (fun y hy => hn y (by simp [hy]))
            rw [List.take_succ_cons, List.flatten_cons, List.flatten_cons, ← this, Nat.add_mul, Nat.one_mul, Nat.add_comm, ← hx, List.take_length_add_append]
      rw [← h2, ← hx, List.take_take, Nat.min_eq_left hmul]

def tfcB (P : Program) (s f off : Nat) : Bool := match P.underlying s with
  | some (.struct fs) => (match fs[f]? with | some fd => Nat.beq fd.offset off && (match P.underlying fd.type with | some d => !isAggD d | none => false) | none => false)
  | _ => false
/-- Field f of struct s is one cell, at off. -/
class TFC (P : Program) (s f : Nat) (off : outParam Nat) : Prop where ok : tfcB P s f off = true
theorem q_field {s f off : Nat} [h : TFC P s f off] {cs : Array Value} {x : Value} (hx : cs[off]? = some x) (kk : K x) : Qu P S (Instr.field s (.agg cs) f) K := by
  have hk := h.ok
  unfold tfcB at hk
  split at hk
  · rename_i fs hfs
    split at hk
    · rename_i fd hfd
      simp only [Bool.and_eq_true] at hk
      obtain ⟨h1, h2⟩ := hk
      have h1 := Nat.eq_of_beq_eq_true h1
      split at h2
      · rename_i d hd
        have h2 : isAggD d = false := by simpa using h2
        refine .mk x (fun w _ => ?_) kk
        simp only [Instr.field, Sem.run_bind, run_und hfs, Result.andThen_ok, hfd, asAgg, Sem.run_pure, part, run_isAgg hd, h2, h1, hx]
        simp
      · cases h2
    · cases hk
  · cases hk
instance : TFC Pr 43 4 13 := ⟨by kernel_rfl⟩

/-- From place o on, block b's cells are x. -/
def Elt (w : World) (b o : Nat) (x : List Value) : Prop := ∃ cs et fz, Bk w b (.cells cs et fz) ∧ o + x.length ≤ cs.size ∧ (cs.extract o (o + x.length)).toList = x
theorem Elt.ex {w w' : World} {b o : Nat} {x : List Value} (u : Ex w w') (h : Elt w b o x) : Elt w' b o x := by
  obtain ⟨cs, et, fz, h1, h2⟩ := h
  exact ⟨cs, et, fz, u.at_ h1, h2⟩
theorem q_ix {t e n : Nat} [TSli P t e n] {v : Value} {xs : List (List Value)} {i : Int} {k : IntKind} (j : Nat) {x : List Value} (hv : Sl w te n v xs) (hi : i = j) (hx : xs[j]? = some x)
    (kk : ∀ b o, Elt w b o x → K (.pointer (some ⟨b, o, none⟩))) : Qu P S (Instr.indexAt t v (.int k i)) K := by
  have hj : j < xs.length := (List.getElem?_eq_some_iff.1 hx).1
  have hl := hv.eln x (List.mem_of_getElem? hx)
  obtain ⟨b, o, c, cs, et, fz, rfl, hb, hs, he⟩ := hv.get hx
  exact .mk _ (fun w' _ => run_indexAt hi hj) (kk _ _ ⟨cs, et, fz, hb, by omega, by rw [hl]; exact he⟩)
theorem run_ldE {t b o off : Nat} [TCell P t] {x : List Value} {y : Value} {w : World} (h : Elt w b o x) (hy : x[off]? = some y) : (Instr.loadAt t (.pointer (some ⟨b, o + off, none⟩))).run P w = .ok y w := by
  obtain ⟨cs, et, fz, hb, hs, he⟩ := h
  simp only [Instr.loadAt, Instr.sureAddr]
  refine run_loadVar_cell ?_
  rw [hb.cell]
  rw [← he, Array.toList_extract, List.extract_eq_take_drop, List.getElem?_take, List.getElem?_drop] at hy
  split at hy
  · simpa using hy
  · cases hy
theorem q_ldE {t b o off : Nat} [TCell P t] {x : List Value} {y : Value} (h : Elt w b o x) (hy : x[off]? = some y) (kk : K y) : Qu P (Is w) (Instr.loadAt t (.pointer (some ⟨b, o + off, none⟩))) K :=
  .mk y (fun w' hw => by cases hw; exact run_ldE h hy) kk
theorem q_ldEU {t b o off : Nat} [TCell P t] {x : List Value} {y : Value} (h : Elt w b o x) (hy : x[off]? = some y) (kk : K y) : Qu P (Ex w) (Instr.loadAt t (.pointer (some ⟨b, o + off, none⟩))) K :=
  .mk y (fun w' hw => run_ldE (h.ex hw) hy) kk

/-- A slice's beginning. -/
theorem q_slpre {t e n : Nat} [TSli P t e n] {v : Value} {xs : List (List Value)} {i : Int} {k : IntKind} (j : Nat) (hv : Sl w te n v xs) (hi : i = j) (hj : j ≤ xs.length) (kk : ∀ v', Sl w te n v' (xs.take j) → K v') :
    Qu P S (Instr.sliceAt t v none (some (.int k i)) none) K := by
  obtain ⟨a, c, rfl⟩ := hv.sh
  obtain ⟨inf, hu, hinf, hn, hn0⟩ := TSli.facts (P := P) t e n
  subst hi
  have hcap := hv.cap
  refine .mk (.slice a j c) (fun w' _ => ?_) (kk _ (hv.pre hj))
  have h1 : (0 : Int) ≤ j ∧ (j : Int) ≤ c := by omega
  have hm : a.map (fun x => x.add (0 * inf.size)) = a := by
    cases a with
    | none => rfl
    | some x => simp [Addr.add]
  simp only [Instr.sliceAt, Sem.run_bind, run_und hu, Result.andThen_ok, Instr.slice, Instr.sliceBounds, Instr.sliceBound, asIntOf, Sem.run_pure, if_pos h1, run_size hinf, Int.toNat_natCast, Nat.sub_zero]
  rw [hm]
  by_cases hc : c = 0 <;> simp [hc]

variable {KW : Value → Value → World → Prop}
/-- An element built and appended. -/
theorem e_push {t ty e n by' base : Nat} [TSli P t e n] [TElm P e n by'] {x v : Value} {xs : List (List Value)} (ho : Own w base e n x xs) (hv : v.cells.size = n) (hn : n ≤ 1000) (h1 : ∀ u ∈ v.cells.toList, one u = true)
    (hsz : (xs.length + 1) * by' ≤ 140737488355328) (hm : xs.length + 1 ≤ 140737488355328) (hbase : base ≤ w.heap.size)
    (k : ∀ s v' w', Up (fun b => x.ownBlock = some b) [e + 2] w w' → Own w' base e n v' (xs ++ [v.cells.toList]) → (∀ b, v'.ownBlock = some b → x.ownBlock = some b ∨ w.heap.size ≤ b) → w.heap.size ≤ w'.heap.size → KW s v' w') :
    Ef P (Instr.buildSlice t 1 #[(0, v)]) w fun s w' => Ef P (Builtin.append_ #[t, t] ty #[x, s]) w' (KW s) := by
  refine e_bs1 hv hn fun w1 e1 o1 z1 => ?_
  refine e_app (base := base) (ho.ex e1) o1.sl ?_ hsz hm (by omega) fun v' w2 u2 o2 hb z2 => ?_
  · intro y hy u hu
    rw [List.mem_singleton.1 hy] at hu
    exact h1 u hu
  · refine k _ _ _ ((Up.of_ex e1).trans u2) o2 (fun b hv' => ?_) (by omega)
    rcases hb with hb | hb
    · rw [hb] at hv'; exact .inl hv'
    · rw [hb] at hv'; cases hv'; right; omega
theorem e_push1 {t ty e by' base : Nat} [TSli P t e 1] [TElm P e 1 by'] {x v : Value} {xs : List (List Value)} (ho : Own w base e 1 x xs) (h1 : one v = true)
    (hsz : (xs.length + 1) * by' ≤ 140737488355328) (hm : xs.length + 1 ≤ 140737488355328) (hbase : base ≤ w.heap.size)
    (k : ∀ s v' w', Up (fun b => x.ownBlock = some b) [e + 2] w w' → Own w' base e 1 v' (xs ++ [[v]]) → (∀ b, v'.ownBlock = some b → x.ownBlock = some b ∨ w.heap.size ≤ b) → w.heap.size ≤ w'.heap.size → KW s v' w') :
    Ef P (Instr.buildSlice t 1 #[(0, v)]) w fun s w' => Ef P (Builtin.append_ #[t, t] ty #[x, s]) w' (KW s) := by
  have hc := one_cells' h1
  refine e_push ho (by rw [hc]; rfl) (by omega) (by rw [hc]; intro u hu; rw [List.mem_singleton.1 hu]; exact h1) hsz hm hbase ?_
  rw [hc]
  exact k
end

theorem take_snoc {α : Type} {l : List α} {j : Nat} {x : α} (h : l[j]? = some x) : l.take (j + 1) = l.take j ++ [x] := by
  rw [List.take_add_one, h]; rfl

/-! Entries. -/

structure En where
  t : Int
  i : Int
  k : Int
  d : ByteArray

def En.cells (e : En) : List Value := [.int .u64 e.t, .int .u64 e.i, .int .i64 e.k, .string e.d]
abbrev Ens (w : World) (te : Option Nat) (v : Value) (l : List En) : Prop := Sl w te 4 v (l.map En.cells)

/-- The package's entry: v points to e. -/
def PE (v : Value) (e : En) (w : World) : Prop :=
  ∃ b vt vi vk vd, v = .pointer (some ⟨b, 0, none⟩) ∧ Bk w b (.cells #[vt, vi, vk, vd] 215 (0, 0)) ∧ PN 22 .u64 vt e.t w ∧ PN 22 .u64 vi e.i w ∧ PN 233 .i32 vk e.k w ∧ Sl w (some 5) 1 vd (byteList e.d)
instance {v : Value} {e : En} : StU (PE v e) :=
  StU.ex fun _ => StU.ex fun _ => StU.ex fun _ => StU.ex fun _ => StU.ex fun _ => StU.and StU.con (StU.and (StU.bk rfl) (StU.and (PN.stU rfl) (StU.and (PN.stU rfl) (StU.and (PN.stU rfl) (StU.sl rfl)))))

/-- Lists of pointers to entries. -/
inductive PEs : List Value → List En → World → Prop where
  | nil (w : World) : PEs [] [] w
  | cons {v : Value} {e : En} {vs : List Value} {es : List En} {w : World} (h : PE v e w) (r : PEs vs es w) : PEs (v :: vs) (e :: es) w
instance {vs : List Value} {es : List En} : StU (PEs vs es) := ⟨fun C T w w' o u h => by
  induction h with
  | nil => exact .nil _
  | cons h r ih => exact .cons (StU.up (F := PE _ _) C T _ w' o u h) (ih u)⟩
theorem PEs.len {vs : List Value} {es : List En} {w : World} (h : PEs vs es w) : vs.length = es.length := by
  induction h with
  | nil => rfl
  | cons _ _ ih => simp [ih]
theorem PEs.get {vs : List Value} {es : List En} {w : World} (h : PEs vs es w) {i : Nat} {v : Value} (hv : vs[i]? = some v) : ∃ e, es[i]? = some e ∧ PE v e w := by
  induction h generalizing i with
  | nil => simp at hv
  | cons h r ih =>
    cases i with
    | zero => simp at hv; subst hv; exact ⟨_, rfl, h⟩
    | succ i => simpa using ih (by simpa using hv)
theorem PEs.app {vs us : List Value} {es fs : List En} {w : World} (h : PEs vs es w) (h' : PEs us fs w) : PEs (vs ++ us) (es ++ fs) w := by
  induction h with
  | nil => exact h'
  | cons h _ ih => exact .cons h (ih h')

def ones (l : List Value) : List (List Value) := l.map fun x => [x]

/-! Configurations and snapshots. -/

structure Cf where
  v : List Int
  l : List Int
  o : List Int
  n : List Int
  a : Bool

/-- The package's configuration. -/
def PC (v : Value) (c : Cf) (w : World) : Prop :=
  ∃ b v1 v2 v3 v4 v5, v = .pointer (some ⟨b, 0, none⟩) ∧ Bk w b (.cells #[v1, v2, v3, v4, v5] 200 (0, 0)) ∧ Nums w (some 22) v1 c.v ∧ Nums w (some 22) v2 c.l ∧ Nums w (some 22) v3 c.o ∧ Nums w (some 22) v4 c.n ∧ PB1 v5 c.a w
theorem PBo.stU {v : Value} {p : Bool} : StU (PBo v p) := StU.or StU.con (StU.ex fun _ => StU.and StU.con (StU.bk rfl))
instance {v : Value} {c : Cf} : StU (PC v c) :=
  StU.ex fun _ => StU.ex fun _ => StU.ex fun _ => StU.ex fun _ => StU.ex fun _ => StU.ex fun _ => StU.and StU.con (StU.and (StU.bk rfl) (StU.and (StU.sl rfl) (StU.and (StU.sl rfl) (StU.and (StU.sl rfl) (StU.and (StU.sl rfl) PB1.stU)))))

/-- The package's metadata of a snapshot. -/
def PM (v : Value) (i t : Int) (c : Cf) (w : World) : Prop :=
  ∃ b v1 v2 v3, v = .pointer (some ⟨b, 0, none⟩) ∧ Bk w b (.cells #[v1, v2, v3] 106 (0, 0)) ∧ PC v1 c w ∧ PN1 22 .u64 v2 i w ∧ PN1 22 .u64 v3 t w
instance {v : Value} {i t : Int} {c : Cf} : StU (PM v i t c) :=
  StU.ex fun _ => StU.ex fun _ => StU.ex fun _ => StU.ex fun _ => StU.and StU.con (StU.and (StU.bk rfl) (StU.and inferInstance (StU.and (PN1.stU rfl) (PN1.stU rfl))))

structure Sn where
  d : ByteArray
  i : Int
  t : Int
  c : Cf

/-- The package's snapshot. -/
def PS (v : Value) (s : Sn) (w : World) : Prop :=
  ∃ b v1 v2, v = .pointer (some ⟨b, 0, none⟩) ∧ Bk w b (.cells #[v1, v2] 108 (0, 0)) ∧ Sl w (some 5) 1 v1 (byteList s.d) ∧ PM v2 s.i s.t s.c w
instance {v : Value} {s : Sn} : StU (PS v s) :=
  StU.ex fun _ => StU.ex fun _ => StU.ex fun _ => StU.and StU.con (StU.and (StU.bk rfl) (StU.and (StU.sl rfl) inferInstance))

theorem PE.one {v : Value} {e : En} {w : World} (h : PE v e w) : one v = true := by obtain ⟨b, _, _, _, _, rfl, _⟩ := h; rfl
theorem PC.one {v : Value} {c : Cf} {w : World} (h : PC v c w) : one v = true := by obtain ⟨b, _, _, _, _, _, rfl, _⟩ := h; rfl
theorem PM.one {v : Value} {i t : Int} {c : Cf} {w : World} (h : PM v i t c w) : one v = true := by obtain ⟨b, _, _, _, rfl, _⟩ := h; rfl
theorem PS.one {v : Value} {s : Sn} {w : World} (h : PS v s w) : one v = true := by obtain ⟨b, _, _, rfl, _⟩ := h; rfl

section
variable {C : Nat → Prop} {T : List Nat} {w w' : World}
theorem PN.mt {t : Nat} {k : IntKind} {v : Value} {n : Int} (hT : T.contains (t + 2) = false) (u : Up C T w w') (h : PN t k v n w) : PN t k v n w' := h.imp id fun ⟨b, h1, h2⟩ => ⟨b, h1, u.at_ h2 hT⟩
theorem PN.ex {t : Nat} {k : IntKind} {v : Value} {n : Int} (u : Ex w w') (h : PN t k v n w) : PN t k v n w' := h.imp id fun ⟨b, h1, h2⟩ => ⟨b, h1, u.at_ h2⟩
instance {v : Value} {p : Bool} : StU (PBo v p) := PBo.stU
theorem PN1.mt {t : Nat} {k : IntKind} {v : Value} {n : Int} (hT : T.contains (t + 2) = false) (u : Up C T w w') : PN1 t k v n w → PN1 t k v n w' := fun ⟨b, h1, h2⟩ => ⟨b, h1, u.at_ h2 hT⟩
theorem PN1.ex {t : Nat} {k : IntKind} {v : Value} {n : Int} (u : Ex w w') : PN1 t k v n w → PN1 t k v n w' := fun ⟨b, h1, h2⟩ => ⟨b, h1, u.at_ h2⟩
instance {v : Value} {p : Bool} : StU (PB1 v p) := PB1.stU
theorem PB1.mt {v : Value} {p : Bool} (o : okT T = true) (u : Up C T w w') (h : PB1 v p w) : PB1 v p w' := StU.up (F := PB1 v p) C T w w' o u h
theorem PB1.ex {v : Value} {p : Bool} (u : Ex w w') (h : PB1 v p w) : PB1 v p w' := St.ex (F := PB1 v p) w w' u h
theorem PBo.mt {v : Value} {p : Bool} (o : okT T = true) (u : Up C T w w') (h : PBo v p w) : PBo v p w' := StU.up (F := PBo v p) C T w w' o u h
theorem PBo.ex {v : Value} {p : Bool} (u : Ex w w') (h : PBo v p w) : PBo v p w' := St.ex (F := PBo v p) w w' u h
theorem PE.mt {v : Value} {e : En} (o : okT T = true) (u : Up C T w w') (h : PE v e w) : PE v e w' := StU.up (F := PE v e) C T w w' o u h
theorem PE.ex {v : Value} {e : En} (u : Ex w w') (h : PE v e w) : PE v e w' := St.ex (F := PE v e) w w' u h
theorem PEs.mt {vs : List Value} {es : List En} (o : okT T = true) (u : Up C T w w') (h : PEs vs es w) : PEs vs es w' := StU.up (F := PEs vs es) C T w w' o u h
theorem PEs.ex {vs : List Value} {es : List En} (u : Ex w w') (h : PEs vs es w) : PEs vs es w' := St.ex (F := PEs vs es) w w' u h
theorem PC.mt {v : Value} {c : Cf} (o : okT T = true) (u : Up C T w w') (h : PC v c w) : PC v c w' := StU.up (F := PC v c) C T w w' o u h
theorem PC.ex {v : Value} {c : Cf} (u : Ex w w') (h : PC v c w) : PC v c w' := St.ex (F := PC v c) w w' u h
theorem PM.mt {v : Value} {i t : Int} {c : Cf} (o : okT T = true) (u : Up C T w w') (h : PM v i t c w) : PM v i t c w' := StU.up (F := PM v i t c) C T w w' o u h
theorem PM.ex {v : Value} {i t : Int} {c : Cf} (u : Ex w w') (h : PM v i t c w) : PM v i t c w' := St.ex (F := PM v i t c) w w' u h
theorem PS.mt {v : Value} {s : Sn} (o : okT T = true) (u : Up C T w w') (h : PS v s w) : PS v s w' := StU.up (F := PS v s) C T w w' o u h
theorem PS.ex {v : Value} {s : Sn} (u : Ex w w') (h : PS v s w) : PS v s w' := St.ex (F := PS v s) w w' u h
end

end Go.Proofs.YtmmpogfbhelioaaGreat
