/-
  PARTS: Ty Bd Gt Da Dc Dd De T6.
-/
import Derived.Test.YtmmpogfbhelioaaGreatFoa
/-
  The closed facts on types and functions, as instances, printed by mkTy.py.
  Conditions: none.
-/
namespace Go.Proofs.YtmmpogfbhelioaaGreat
set_option maxRecDepth 10000
set_option linter.unusedVariables false
set_option linter.unusedSimpArgs false
instance : TCell Pr 1 := ⟨by kernel_rfl⟩
instance : TCell Pr 3 := ⟨by kernel_rfl⟩
instance : TCell Pr 4 := ⟨by kernel_rfl⟩
instance : TCell Pr 9 := ⟨by kernel_rfl⟩
instance : TCell Pr 22 := ⟨by kernel_rfl⟩
instance : TCell Pr 23 := ⟨by kernel_rfl⟩
instance : TCell Pr 28 := ⟨by kernel_rfl⟩
instance : TCell Pr 29 := ⟨by kernel_rfl⟩
instance : TCell Pr 30 := ⟨by kernel_rfl⟩
instance : TCell Pr 36 := ⟨by kernel_rfl⟩
instance : TCell Pr 73 := ⟨by kernel_rfl⟩
instance : TCell Pr 75 := ⟨by kernel_rfl⟩
instance : TCell Pr 77 := ⟨by kernel_rfl⟩
instance : TCell Pr 86 := ⟨by kernel_rfl⟩
instance : TCell Pr 94 := ⟨by kernel_rfl⟩
instance : TCell Pr 99 := ⟨by kernel_rfl⟩
instance : TCell Pr 101 := ⟨by kernel_rfl⟩
instance : TCell Pr 102 := ⟨by kernel_rfl⟩
instance : TCell Pr 104 := ⟨by kernel_rfl⟩
instance : TCell Pr 112 := ⟨by kernel_rfl⟩
instance : TCell Pr 113 := ⟨by kernel_rfl⟩
instance : TCell Pr 115 := ⟨by kernel_rfl⟩
instance : TCell Pr 117 := ⟨by kernel_rfl⟩
instance : TCell Pr 128 := ⟨by kernel_rfl⟩
instance : TCell Pr 131 := ⟨by kernel_rfl⟩
instance : TCell Pr 132 := ⟨by kernel_rfl⟩
instance : TCell Pr 138 := ⟨by kernel_rfl⟩
instance : TCell Pr 139 := ⟨by kernel_rfl⟩
instance : TCell Pr 148 := ⟨by kernel_rfl⟩
instance : TCell Pr 150 := ⟨by kernel_rfl⟩
instance : TCell Pr 159 := ⟨by kernel_rfl⟩
instance : TCell Pr 180 := ⟨by kernel_rfl⟩
instance : TCell Pr 181 := ⟨by kernel_rfl⟩
instance : TCell Pr 182 := ⟨by kernel_rfl⟩
instance : TCell Pr 184 := ⟨by kernel_rfl⟩
instance : TCell Pr 185 := ⟨by kernel_rfl⟩
instance : TCell Pr 192 := ⟨by kernel_rfl⟩
instance : TCell Pr 212 := ⟨by kernel_rfl⟩
instance : TCell Pr 213 := ⟨by kernel_rfl⟩
instance : TCell Pr 228 := ⟨by kernel_rfl⟩
instance : TCell Pr 232 := ⟨by kernel_rfl⟩
instance : TCell Pr 233 := ⟨by kernel_rfl⟩
instance : TCell Pr 247 := ⟨by kernel_rfl⟩
instance : TCell Pr 251 := ⟨by kernel_rfl⟩
instance : TCell Pr 253 := ⟨by kernel_rfl⟩
instance : TCell Pr 277 := ⟨by kernel_rfl⟩
instance : TCell Pr 306 := ⟨by kernel_rfl⟩
instance : TCell Pr 399 := ⟨by kernel_rfl⟩
instance : TAgg Pr 25 5 := ⟨by kernel_rfl⟩
instance : TAgg Pr 27 8 := ⟨by kernel_rfl⟩
instance : TAgg Pr 32 32 := ⟨by kernel_rfl⟩
instance : TAgg Pr 38 36 := ⟨by kernel_rfl⟩
instance : TAgg Pr 41 3 := ⟨by kernel_rfl⟩
instance : TAgg Pr 43 14 := ⟨by kernel_rfl⟩
instance : TAgg Pr 56 4 := ⟨by kernel_rfl⟩
instance : TAgg Pr 58 11 := ⟨by kernel_rfl⟩
instance : TAgg Pr 60 12 := ⟨by kernel_rfl⟩
instance : TAgg Pr 64 21 := ⟨by kernel_rfl⟩
instance : TAgg Pr 106 3 := ⟨by kernel_rfl⟩
instance : TAgg Pr 108 2 := ⟨by kernel_rfl⟩
instance : TAgg Pr 119 14 := ⟨by kernel_rfl⟩
instance : TAgg Pr 133 2 := ⟨by kernel_rfl⟩
instance : TAgg Pr 134 2 := ⟨by kernel_rfl⟩
instance : TAgg Pr 136 5 := ⟨by kernel_rfl⟩
instance : TAgg Pr 141 9 := ⟨by kernel_rfl⟩
instance : TAgg Pr 152 9 := ⟨by kernel_rfl⟩
instance : TAgg Pr 155 2 := ⟨by kernel_rfl⟩
instance : TAgg Pr 156 0 := ⟨by kernel_rfl⟩
instance : TAgg Pr 161 17 := ⟨by kernel_rfl⟩
instance : TAgg Pr 187 40 := ⟨by kernel_rfl⟩
instance : TAgg Pr 196 12 := ⟨by kernel_rfl⟩
instance : TAgg Pr 200 5 := ⟨by kernel_rfl⟩
instance : TAgg Pr 202 2 := ⟨by kernel_rfl⟩
instance : TAgg Pr 209 10 := ⟨by kernel_rfl⟩
instance : TAgg Pr 215 4 := ⟨by kernel_rfl⟩
instance : TAgg Pr 225 9 := ⟨by kernel_rfl⟩
instance : TAgg Pr 230 6 := ⟨by kernel_rfl⟩
instance : TAgg Pr 265 4 := ⟨by kernel_rfl⟩
instance : TAgg Pr 302 2 := ⟨by kernel_rfl⟩
instance : TAgg Pr 309 2 := ⟨by kernel_rfl⟩
instance : TAgg Pr 376 1 := ⟨by kernel_rfl⟩
instance : TZero Pr 3 (Value.int .i64 0) := ⟨by kernel_rfl⟩
instance : TZero Pr 4 (Value.bool false) := ⟨by kernel_rfl⟩
instance : TZero Pr 22 (Value.int .u64 0) := ⟨by kernel_rfl⟩
instance : TZero Pr 25 (Value.agg #[(Value.slice none 0 0), (Value.slice none 0 0), (Value.slice none 0 0), (Value.slice none 0 0), (Value.bool false)]) := ⟨by kernel_rfl⟩
instance : TZero Pr 27 (Value.agg #[(Value.string (ByteArray.mk #[])), (Value.int .u64 0), (Value.int .u64 0), (Value.slice none 0 0), (Value.slice none 0 0), (Value.slice none 0 0), (Value.slice none 0 0), (Value.bool false)]) := ⟨by kernel_rfl⟩
instance : TZero Pr 32 (Value.agg #[(Value.int .u64 0), (Value.int .u64 0), (Value.int .u64 0), (Value.int .u64 0), (Value.int .i64 0), (Value.string (ByteArray.mk #[])), (Value.int .u64 0), (Value.int .u64 0), (Value.slice none 0 0), (Value.slice none 0 0), (Value.slice none 0 0), (Value.slice none 0 0), (Value.bool false), (Value.slice none 0 0), (Value.slice none 0 0), (Value.int .u64 0), (Value.int .u64 0), (Value.slice none 0 0), (Value.slice none 0 0), (Value.slice none 0 0), (Value.slice none 0 0), (Value.bool false), (Value.bool false), (Value.int .i64 0), (Value.int .i64 0), (Value.int .i64 0), (Value.int .i64 0), (Value.int .i64 0), (Value.int .u64 0), (Value.int .u64 0), (Value.int .u64 0), (Value.int .u64 0)]) := ⟨by kernel_rfl⟩
instance : TZero Pr 38 (Value.agg #[(Value.int .u64 0), (Value.int .u64 0), (Value.int .u64 0), (Value.int .u64 0), (Value.int .i64 0), (Value.string (ByteArray.mk #[])), (Value.int .u64 0), (Value.int .u64 0), (Value.slice none 0 0), (Value.slice none 0 0), (Value.slice none 0 0), (Value.slice none 0 0), (Value.bool false), (Value.slice none 0 0), (Value.slice none 0 0), (Value.int .u64 0), (Value.int .u64 0), (Value.slice none 0 0), (Value.slice none 0 0), (Value.slice none 0 0), (Value.slice none 0 0), (Value.bool false), (Value.bool false), (Value.int .i64 0), (Value.int .i64 0), (Value.int .i64 0), (Value.int .i64 0), (Value.int .i64 0), (Value.int .u64 0), (Value.int .u64 0), (Value.int .u64 0), (Value.int .u64 0), (Value.slice none 0 0), (Value.slice none 0 0), (Value.bool false), (Value.bool false)]) := ⟨by kernel_rfl⟩
instance : TZero Pr 41 (Value.agg #[(Value.int .u64 0), (Value.int .u64 0), (Value.int .u64 0)]) := ⟨by kernel_rfl⟩
instance : TZero Pr 43 (Value.agg #[(Value.int .u64 0), (Value.int .u64 0), (Value.int .u64 0), (Value.int .u64 0), (Value.int .u64 0), (Value.string (ByteArray.mk #[])), (Value.int .u64 0), (Value.int .u64 0), (Value.slice none 0 0), (Value.slice none 0 0), (Value.slice none 0 0), (Value.slice none 0 0), (Value.bool false), (Value.slice none 0 0)]) := ⟨by kernel_rfl⟩
instance : TZero Pr 56 (Value.agg #[(Value.int .u64 0), (Value.int .u64 0), (Value.int .i64 0), (Value.string (ByteArray.mk #[]))]) := ⟨by kernel_rfl⟩
instance : TZero Pr 58 (Value.agg #[(Value.int .u64 0), (Value.int .u64 0), (Value.int .i64 0), (Value.int .u64 0), (Value.bool false), (Value.bool false), (Value.bool false), (Value.int .i64 0), (Value.int .u64 0), (Value.slice none 0 0), (Value.slice none 0 0)]) := ⟨by kernel_rfl⟩
instance : TZero Pr 60 (Value.agg #[(Value.int .u64 0), (Value.int .u64 0), (Value.int .u64 0), (Value.int .i64 0), (Value.int .u64 0), (Value.bool false), (Value.bool false), (Value.bool false), (Value.int .i64 0), (Value.int .u64 0), (Value.slice none 0 0), (Value.slice none 0 0)]) := ⟨by kernel_rfl⟩
instance : TZero Pr 64 (Value.agg #[(Value.int .i64 0), (Value.int .u64 0), (Value.int .u64 0), (Value.int .u64 0), (Value.int .u64 0), (Value.int .u64 0), (Value.int .u64 0), (Value.int .u64 0), (Value.int .u64 0), (Value.slice none 0 0), (Value.string (ByteArray.mk #[])), (Value.int .u64 0), (Value.int .u64 0), (Value.slice none 0 0), (Value.slice none 0 0), (Value.slice none 0 0), (Value.slice none 0 0), (Value.bool false), (Value.bool false), (Value.string (ByteArray.mk #[])), (Value.slice none 0 0)]) := ⟨by kernel_rfl⟩
instance : TZero Pr 106 (Value.agg #[(Value.pointer none), (Value.pointer none), (Value.pointer none)]) := ⟨by kernel_rfl⟩
instance : TZero Pr 108 (Value.agg #[(Value.slice none 0 0), (Value.pointer none)]) := ⟨by kernel_rfl⟩
instance : TZero Pr 113 (Value.int .i32 0) := ⟨by kernel_rfl⟩
instance : TZero Pr 119 (Value.agg #[(Value.pointer none), (Value.pointer none), (Value.pointer none), (Value.pointer none), (Value.pointer none), (Value.pointer none), (Value.slice none 0 0), (Value.pointer none), (Value.pointer none), (Value.pointer none), (Value.pointer none), (Value.pointer none), (Value.slice none 0 0), (Value.slice none 0 0)]) := ⟨by kernel_rfl⟩
instance : TZero Pr 133 (Value.agg #[(Value.map none), (Value.map none)]) := ⟨by kernel_rfl⟩
instance : TZero Pr 134 (Value.agg #[(Value.map none), (Value.map none)]) := ⟨by kernel_rfl⟩
instance : TZero Pr 136 (Value.agg #[(Value.map none), (Value.map none), (Value.bool false), (Value.map none), (Value.map none)]) := ⟨by kernel_rfl⟩
instance : TZero Pr 141 (Value.agg #[(Value.map none), (Value.map none), (Value.bool false), (Value.map none), (Value.map none), (Value.map none), (Value.map none), (Value.int .i64 0), (Value.int .u64 0)]) := ⟨by kernel_rfl⟩
instance : TZero Pr 146 (Value.pointer none) := ⟨by kernel_rfl⟩
instance : TZero Pr 152 (Value.agg #[(Value.int .u64 0), (Value.int .u64 0), (Value.int .u64 0), (Value.int .u64 0), (Value.int .u64 0), (Value.bool false), (Value.bool false), (Value.pointer none), (Value.bool false)]) := ⟨by kernel_rfl⟩
instance : TZero Pr 155 (Value.agg #[(Value.int .u64 0), (Value.bool false)]) := ⟨by kernel_rfl⟩
instance : TZero Pr 156 (Value.agg #[]) := ⟨by kernel_rfl⟩
instance : TZero Pr 161 (Value.agg #[(Value.int .u64 0), (Value.int .u64 0), (Value.int .u64 0), (Value.int .u64 0), (Value.int .u64 0), (Value.int .u64 0), (Value.bool false), (Value.bool false), (Value.bool false), (Value.int .i64 0), (Value.int .i64 0), (Value.int .i64 0), (Value.int .i64 0), (Value.int .i64 0), (Value.int .u64 0), (Value.int .u64 0), (Value.int .u64 0)]) := ⟨by kernel_rfl⟩
instance : TZero Pr 187 (Value.agg #[(Value.int .u64 0), (Value.int .u64 0), (Value.int .u64 0), (Value.slice none 0 0), (Value.pointer none), (Value.int .u64 0), (Value.int .u64 0), (Value.map none), (Value.map none), (Value.bool false), (Value.map none), (Value.map none), (Value.map none), (Value.map none), (Value.int .i64 0), (Value.int .u64 0), (Value.int .u64 0), (Value.bool false), (Value.slice none 0 0), (Value.slice none 0 0), (Value.int .u64 0), (Value.int .u64 0), (Value.int .u64 0), (Value.bool false), (Value.int .u64 0), (Value.pointer none), (Value.int .i64 0), (Value.int .i64 0), (Value.bool false), (Value.bool false), (Value.int .i64 0), (Value.int .i64 0), (Value.int .i64 0), (Value.bool false), (Value.bool false), Value.nilFunc, Value.nilFunc, (Value.slice none 0 0), (Value.slice none 0 0), (Value.int .i64 0)]) := ⟨by kernel_rfl⟩
instance : TZero Pr 194 (Value.agg #[(Value.pointer none), (Value.slice none 0 0), (Value.int .u64 0), (Value.bool false), (Value.int .u64 0)]) := ⟨by kernel_rfl⟩
instance : TZero Pr 196 (Value.agg #[Value.nilIface, (Value.pointer none), (Value.slice none 0 0), (Value.int .u64 0), (Value.bool false), (Value.int .u64 0), (Value.int .u64 0), (Value.int .u64 0), (Value.int .u64 0), (Value.int .u64 0), (Value.int .u64 0), (Value.bool false)]) := ⟨by kernel_rfl⟩
instance : TZero Pr 200 (Value.agg #[(Value.slice none 0 0), (Value.slice none 0 0), (Value.slice none 0 0), (Value.slice none 0 0), (Value.pointer none)]) := ⟨by kernel_rfl⟩
instance : TZero Pr 202 (Value.agg #[(Value.int .u64 0), (Value.int .u64 0)]) := ⟨by kernel_rfl⟩
instance : TZero Pr 209 (Value.agg #[(Value.map none), (Value.map none), (Value.bool false), (Value.map none), (Value.map none), (Value.map none), (Value.map none), (Value.int .i64 0), (Value.int .u64 0), (Value.int .u64 0)]) := ⟨by kernel_rfl⟩
instance : TZero Pr 215 (Value.agg #[(Value.pointer none), (Value.pointer none), (Value.pointer none), (Value.slice none 0 0)]) := ⟨by kernel_rfl⟩
instance : TZero Pr 225 (Value.agg #[(Value.pointer none), (Value.pointer none), (Value.slice none 0 0), (Value.int .i64 0), (Value.int .i64 0), (Value.int .i64 0), (Value.int .i64 0), (Value.int .i64 0), (Value.int .i64 0)]) := ⟨by kernel_rfl⟩
instance : TZero Pr 230 (Value.agg #[(Value.int .i64 0), (Value.int .i64 0), (Value.int .u64 0), (Value.int .i64 0), (Value.int .u64 0), (Value.slice none 0 0)]) := ⟨by kernel_rfl⟩
instance : TZero Pr 233 (Value.int .i32 0) := ⟨by kernel_rfl⟩
instance : TZero Pr 238 (Value.agg #[(Value.int .u64 0), (Value.int .u64 0), (Value.int .u64 0), (Value.int .u64 0), (Value.int .u64 0), (Value.int .u64 0), (Value.int .u64 0)]) := ⟨by kernel_rfl⟩
instance : TZero Pr 247 (Value.slice none 0 0) := ⟨by kernel_rfl⟩
instance : TZero Pr 251 (Value.pointer none) := ⟨by kernel_rfl⟩
instance : TZero Pr 265 (Value.agg #[(Value.int .i64 0), (Value.map none), (Value.slice none 0 0), (Value.int .u64 0)]) := ⟨by kernel_rfl⟩
instance : TZero Pr 302 (Value.agg #[(Value.int .u64 0), (Value.int .u64 0)]) := ⟨by kernel_rfl⟩
instance : TZero Pr 306 (Value.int .i32 0) := ⟨by kernel_rfl⟩
instance : TZero Pr 309 (Value.agg #[(Value.pointer none), (Value.pointer none)]) := ⟨by kernel_rfl⟩
instance : TZero Pr 376 (Value.agg #[(Value.string (ByteArray.mk #[]))]) := ⟨by kernel_rfl⟩
instance : TZero Pr 399 (Value.int .u64 0) := ⟨by kernel_rfl⟩
instance : TFld Pr 25 0 0 := ⟨by kernel_rfl⟩
instance : TFld Pr 25 1 1 := ⟨by kernel_rfl⟩
instance : TFld Pr 25 2 2 := ⟨by kernel_rfl⟩
instance : TFld Pr 25 3 3 := ⟨by kernel_rfl⟩
instance : TFld Pr 25 4 4 := ⟨by kernel_rfl⟩
instance : TFld Pr 27 0 0 := ⟨by kernel_rfl⟩
instance : TFld Pr 27 1 1 := ⟨by kernel_rfl⟩
instance : TFld Pr 27 2 2 := ⟨by kernel_rfl⟩
instance : TFld Pr 27 3 3 := ⟨by kernel_rfl⟩
instance : TFld Pr 32 0 0 := ⟨by kernel_rfl⟩
instance : TFld Pr 32 1 1 := ⟨by kernel_rfl⟩
instance : TFld Pr 32 2 2 := ⟨by kernel_rfl⟩
instance : TFld Pr 32 3 3 := ⟨by kernel_rfl⟩
instance : TFld Pr 32 4 4 := ⟨by kernel_rfl⟩
instance : TFld Pr 32 5 5 := ⟨by kernel_rfl⟩
instance : TFld Pr 32 6 13 := ⟨by kernel_rfl⟩
instance : TFld Pr 32 7 14 := ⟨by kernel_rfl⟩
instance : TFld Pr 32 8 15 := ⟨by kernel_rfl⟩
instance : TFld Pr 32 9 16 := ⟨by kernel_rfl⟩
instance : TFld Pr 32 10 17 := ⟨by kernel_rfl⟩
instance : TFld Pr 32 11 18 := ⟨by kernel_rfl⟩
instance : TFld Pr 32 12 19 := ⟨by kernel_rfl⟩
instance : TFld Pr 32 13 20 := ⟨by kernel_rfl⟩
instance : TFld Pr 32 14 21 := ⟨by kernel_rfl⟩
instance : TFld Pr 32 15 22 := ⟨by kernel_rfl⟩
instance : TFld Pr 32 16 23 := ⟨by kernel_rfl⟩
instance : TFld Pr 32 17 24 := ⟨by kernel_rfl⟩
instance : TFld Pr 32 18 25 := ⟨by kernel_rfl⟩
instance : TFld Pr 32 19 26 := ⟨by kernel_rfl⟩
instance : TFld Pr 32 20 27 := ⟨by kernel_rfl⟩
instance : TFld Pr 32 21 28 := ⟨by kernel_rfl⟩
instance : TFld Pr 32 22 29 := ⟨by kernel_rfl⟩
instance : TFld Pr 32 23 30 := ⟨by kernel_rfl⟩
instance : TFld Pr 32 24 31 := ⟨by kernel_rfl⟩
instance : TFld Pr 38 0 0 := ⟨by kernel_rfl⟩
instance : TFld Pr 38 1 32 := ⟨by kernel_rfl⟩
instance : TFld Pr 38 2 33 := ⟨by kernel_rfl⟩
instance : TFld Pr 38 3 34 := ⟨by kernel_rfl⟩
instance : TFld Pr 38 4 35 := ⟨by kernel_rfl⟩
instance : TFld Pr 41 0 0 := ⟨by kernel_rfl⟩
instance : TFld Pr 41 1 1 := ⟨by kernel_rfl⟩
instance : TFld Pr 41 2 2 := ⟨by kernel_rfl⟩
instance : TFld Pr 43 1 1 := ⟨by kernel_rfl⟩
instance : TFld Pr 43 2 2 := ⟨by kernel_rfl⟩
instance : TFld Pr 43 3 5 := ⟨by kernel_rfl⟩
instance : TFld Pr 43 4 13 := ⟨by kernel_rfl⟩
instance : TFld Pr 56 0 0 := ⟨by kernel_rfl⟩
instance : TFld Pr 56 1 1 := ⟨by kernel_rfl⟩
instance : TFld Pr 56 2 2 := ⟨by kernel_rfl⟩
instance : TFld Pr 56 3 3 := ⟨by kernel_rfl⟩
instance : TFld Pr 58 0 0 := ⟨by kernel_rfl⟩
instance : TFld Pr 58 1 1 := ⟨by kernel_rfl⟩
instance : TFld Pr 58 2 2 := ⟨by kernel_rfl⟩
instance : TFld Pr 58 3 3 := ⟨by kernel_rfl⟩
instance : TFld Pr 58 4 4 := ⟨by kernel_rfl⟩
instance : TFld Pr 58 5 5 := ⟨by kernel_rfl⟩
instance : TFld Pr 58 6 6 := ⟨by kernel_rfl⟩
instance : TFld Pr 58 7 7 := ⟨by kernel_rfl⟩
instance : TFld Pr 58 8 8 := ⟨by kernel_rfl⟩
instance : TFld Pr 58 9 9 := ⟨by kernel_rfl⟩
instance : TFld Pr 58 10 10 := ⟨by kernel_rfl⟩
instance : TFld Pr 60 0 0 := ⟨by kernel_rfl⟩
instance : TFld Pr 60 1 1 := ⟨by kernel_rfl⟩
instance : TFld Pr 64 0 0 := ⟨by kernel_rfl⟩
instance : TFld Pr 64 1 1 := ⟨by kernel_rfl⟩
instance : TFld Pr 64 2 2 := ⟨by kernel_rfl⟩
instance : TFld Pr 64 3 3 := ⟨by kernel_rfl⟩
instance : TFld Pr 64 4 4 := ⟨by kernel_rfl⟩
instance : TFld Pr 64 5 5 := ⟨by kernel_rfl⟩
instance : TFld Pr 64 6 6 := ⟨by kernel_rfl⟩
instance : TFld Pr 64 7 7 := ⟨by kernel_rfl⟩
instance : TFld Pr 64 8 8 := ⟨by kernel_rfl⟩
instance : TFld Pr 64 9 9 := ⟨by kernel_rfl⟩
instance : TFld Pr 64 10 10 := ⟨by kernel_rfl⟩
instance : TFld Pr 64 11 18 := ⟨by kernel_rfl⟩
instance : TFld Pr 64 12 19 := ⟨by kernel_rfl⟩
instance : TFld Pr 64 13 20 := ⟨by kernel_rfl⟩
instance : TFld Pr 106 0 0 := ⟨by kernel_rfl⟩
instance : TFld Pr 106 1 1 := ⟨by kernel_rfl⟩
instance : TFld Pr 106 2 2 := ⟨by kernel_rfl⟩
instance : TFld Pr 108 0 0 := ⟨by kernel_rfl⟩
instance : TFld Pr 108 1 1 := ⟨by kernel_rfl⟩
instance : TFld Pr 119 0 0 := ⟨by kernel_rfl⟩
instance : TFld Pr 119 1 1 := ⟨by kernel_rfl⟩
instance : TFld Pr 119 2 2 := ⟨by kernel_rfl⟩
instance : TFld Pr 119 3 3 := ⟨by kernel_rfl⟩
instance : TFld Pr 119 4 4 := ⟨by kernel_rfl⟩
instance : TFld Pr 119 5 5 := ⟨by kernel_rfl⟩
instance : TFld Pr 119 6 6 := ⟨by kernel_rfl⟩
instance : TFld Pr 119 7 7 := ⟨by kernel_rfl⟩
instance : TFld Pr 119 8 8 := ⟨by kernel_rfl⟩
instance : TFld Pr 119 9 9 := ⟨by kernel_rfl⟩
instance : TFld Pr 119 10 10 := ⟨by kernel_rfl⟩
instance : TFld Pr 119 11 11 := ⟨by kernel_rfl⟩
instance : TFld Pr 119 12 12 := ⟨by kernel_rfl⟩
instance : TFld Pr 119 13 13 := ⟨by kernel_rfl⟩
instance : TFld Pr 136 0 0 := ⟨by kernel_rfl⟩
instance : TFld Pr 136 1 2 := ⟨by kernel_rfl⟩
instance : TFld Pr 136 2 3 := ⟨by kernel_rfl⟩
instance : TFld Pr 136 3 4 := ⟨by kernel_rfl⟩
instance : TFld Pr 141 0 0 := ⟨by kernel_rfl⟩
instance : TFld Pr 141 1 5 := ⟨by kernel_rfl⟩
instance : TFld Pr 141 2 6 := ⟨by kernel_rfl⟩
instance : TFld Pr 141 3 7 := ⟨by kernel_rfl⟩
instance : TFld Pr 141 4 8 := ⟨by kernel_rfl⟩
instance : TFld Pr 152 0 0 := ⟨by kernel_rfl⟩
instance : TFld Pr 152 1 1 := ⟨by kernel_rfl⟩
instance : TFld Pr 152 3 3 := ⟨by kernel_rfl⟩
instance : TFld Pr 152 4 4 := ⟨by kernel_rfl⟩
instance : TFld Pr 152 5 5 := ⟨by kernel_rfl⟩
instance : TFld Pr 152 6 6 := ⟨by kernel_rfl⟩
instance : TFld Pr 152 7 7 := ⟨by kernel_rfl⟩
instance : TFld Pr 152 8 8 := ⟨by kernel_rfl⟩
instance : TFld Pr 155 0 0 := ⟨by kernel_rfl⟩
instance : TFld Pr 155 1 1 := ⟨by kernel_rfl⟩
instance : TFld Pr 161 0 0 := ⟨by kernel_rfl⟩
instance : TFld Pr 161 1 1 := ⟨by kernel_rfl⟩
instance : TFld Pr 161 2 2 := ⟨by kernel_rfl⟩
instance : TFld Pr 161 3 3 := ⟨by kernel_rfl⟩
instance : TFld Pr 161 4 4 := ⟨by kernel_rfl⟩
instance : TFld Pr 161 5 5 := ⟨by kernel_rfl⟩
instance : TFld Pr 161 6 6 := ⟨by kernel_rfl⟩
instance : TFld Pr 161 7 7 := ⟨by kernel_rfl⟩
instance : TFld Pr 161 8 8 := ⟨by kernel_rfl⟩
instance : TFld Pr 161 9 9 := ⟨by kernel_rfl⟩
instance : TFld Pr 161 10 10 := ⟨by kernel_rfl⟩
instance : TFld Pr 161 11 11 := ⟨by kernel_rfl⟩
instance : TFld Pr 161 12 12 := ⟨by kernel_rfl⟩
instance : TFld Pr 161 13 13 := ⟨by kernel_rfl⟩
instance : TFld Pr 161 14 14 := ⟨by kernel_rfl⟩
instance : TFld Pr 161 15 15 := ⟨by kernel_rfl⟩
instance : TFld Pr 161 16 16 := ⟨by kernel_rfl⟩
instance : TFld Pr 187 0 0 := ⟨by kernel_rfl⟩
instance : TFld Pr 187 1 1 := ⟨by kernel_rfl⟩
instance : TFld Pr 187 2 2 := ⟨by kernel_rfl⟩
instance : TFld Pr 187 4 4 := ⟨by kernel_rfl⟩
instance : TFld Pr 187 5 5 := ⟨by kernel_rfl⟩
instance : TFld Pr 187 6 6 := ⟨by kernel_rfl⟩
instance : TFld Pr 187 7 7 := ⟨by kernel_rfl⟩
instance : TFld Pr 187 8 16 := ⟨by kernel_rfl⟩
instance : TFld Pr 187 9 17 := ⟨by kernel_rfl⟩
instance : TFld Pr 187 10 18 := ⟨by kernel_rfl⟩
instance : TFld Pr 187 11 19 := ⟨by kernel_rfl⟩
instance : TFld Pr 187 12 20 := ⟨by kernel_rfl⟩
instance : TFld Pr 187 13 21 := ⟨by kernel_rfl⟩
instance : TFld Pr 187 14 22 := ⟨by kernel_rfl⟩
instance : TFld Pr 187 16 24 := ⟨by kernel_rfl⟩
instance : TFld Pr 187 17 25 := ⟨by kernel_rfl⟩
instance : TFld Pr 187 18 26 := ⟨by kernel_rfl⟩
instance : TFld Pr 187 19 27 := ⟨by kernel_rfl⟩
instance : TFld Pr 187 20 28 := ⟨by kernel_rfl⟩
instance : TFld Pr 187 21 29 := ⟨by kernel_rfl⟩
instance : TFld Pr 187 22 30 := ⟨by kernel_rfl⟩
instance : TFld Pr 187 23 31 := ⟨by kernel_rfl⟩
instance : TFld Pr 187 24 32 := ⟨by kernel_rfl⟩
instance : TFld Pr 187 26 34 := ⟨by kernel_rfl⟩
instance : TFld Pr 187 27 35 := ⟨by kernel_rfl⟩
instance : TFld Pr 187 28 36 := ⟨by kernel_rfl⟩
instance : TFld Pr 187 30 38 := ⟨by kernel_rfl⟩
instance : TFld Pr 187 31 39 := ⟨by kernel_rfl⟩
instance : TFld Pr 194 0 0 := ⟨by kernel_rfl⟩
instance : TFld Pr 194 1 1 := ⟨by kernel_rfl⟩
instance : TFld Pr 194 2 2 := ⟨by kernel_rfl⟩
instance : TFld Pr 194 3 3 := ⟨by kernel_rfl⟩
instance : TFld Pr 194 4 4 := ⟨by kernel_rfl⟩
instance : TFld Pr 196 0 0 := ⟨by kernel_rfl⟩
instance : TFld Pr 196 1 1 := ⟨by kernel_rfl⟩
instance : TFld Pr 196 2 6 := ⟨by kernel_rfl⟩
instance : TFld Pr 196 3 7 := ⟨by kernel_rfl⟩
instance : TFld Pr 196 4 8 := ⟨by kernel_rfl⟩
instance : TFld Pr 196 7 11 := ⟨by kernel_rfl⟩
instance : TFld Pr 200 0 0 := ⟨by kernel_rfl⟩
instance : TFld Pr 200 1 1 := ⟨by kernel_rfl⟩
instance : TFld Pr 200 2 2 := ⟨by kernel_rfl⟩
instance : TFld Pr 200 3 3 := ⟨by kernel_rfl⟩
instance : TFld Pr 200 4 4 := ⟨by kernel_rfl⟩
instance : TFld Pr 202 0 0 := ⟨by kernel_rfl⟩
instance : TFld Pr 202 1 1 := ⟨by kernel_rfl⟩
instance : TFld Pr 209 0 0 := ⟨by kernel_rfl⟩
instance : TFld Pr 209 1 9 := ⟨by kernel_rfl⟩
instance : TFld Pr 215 0 0 := ⟨by kernel_rfl⟩
instance : TFld Pr 215 1 1 := ⟨by kernel_rfl⟩
instance : TFld Pr 215 2 2 := ⟨by kernel_rfl⟩
instance : TFld Pr 215 3 3 := ⟨by kernel_rfl⟩
instance : TFld Pr 223 1 1 := ⟨by kernel_rfl⟩
instance : TFld Pr 223 2 2 := ⟨by kernel_rfl⟩
instance : TFld Pr 223 4 4 := ⟨by kernel_rfl⟩
instance : TFld Pr 225 1 1 := ⟨by kernel_rfl⟩
instance : TFld Pr 225 2 2 := ⟨by kernel_rfl⟩
instance : TFld Pr 225 3 3 := ⟨by kernel_rfl⟩
instance : TFld Pr 230 0 0 := ⟨by kernel_rfl⟩
instance : TFld Pr 230 1 1 := ⟨by kernel_rfl⟩
instance : TFld Pr 230 2 2 := ⟨by kernel_rfl⟩
instance : TFld Pr 230 3 3 := ⟨by kernel_rfl⟩
instance : TFld Pr 230 4 4 := ⟨by kernel_rfl⟩
instance : TFld Pr 230 5 5 := ⟨by kernel_rfl⟩
instance : TFld Pr 265 0 0 := ⟨by kernel_rfl⟩
instance : TFld Pr 302 0 0 := ⟨by kernel_rfl⟩
instance : TFld Pr 302 1 1 := ⟨by kernel_rfl⟩
instance : TFld Pr 309 0 0 := ⟨by kernel_rfl⟩
instance : TFld Pr 309 1 1 := ⟨by kernel_rfl⟩
instance : TSli Pr 23 22 1 := ⟨by kernel_rfl⟩
instance : TSli Pr 28 56 4 := ⟨by kernel_rfl⟩
instance : TSli Pr 29 60 12 := ⟨by kernel_rfl⟩
instance : TSli Pr 30 155 2 := ⟨by kernel_rfl⟩
instance : TSli Pr 36 64 21 := ⟨by kernel_rfl⟩
instance : TSli Pr 94 86 1 := ⟨by kernel_rfl⟩
instance : TSli Pr 99 5 1 := ⟨by kernel_rfl⟩
instance : TSli Pr 115 212 1 := ⟨by kernel_rfl⟩
instance : TSli Pr 145 23 1 := ⟨by kernel_rfl⟩
instance : TSli Pr 185 3 1 := ⟨by kernel_rfl⟩
instance : TSli Pr 228 302 2 := ⟨by kernel_rfl⟩
instance : TSli Pr 247 251 1 := ⟨by kernel_rfl⟩
instance : TSli Pr 250 253 1 := ⟨by kernel_rfl⟩
instance : TSli Pr 324 102 1 := ⟨by kernel_rfl⟩
instance : TSli Pr 379 133 2 := ⟨by kernel_rfl⟩
instance : TSli Pr 408 131 1 := ⟨by kernel_rfl⟩
instance : TArr Pr 133 2 132 1 := ⟨by kernel_rfl⟩
instance : TArr Pr 134 2 132 1 := ⟨by kernel_rfl⟩
instance : TArr Pr 238 7 22 1 := ⟨by kernel_rfl⟩
instance : TUn Pr 3 (TypeDesc.int IntKind.i64) := ⟨by kernel_rfl⟩
instance : TUn Pr 4 TypeDesc.bool := ⟨by kernel_rfl⟩
instance : TUn Pr 5 (TypeDesc.int IntKind.u8) := ⟨by kernel_rfl⟩
instance : TUn Pr 9 TypeDesc.string := ⟨by kernel_rfl⟩
instance : TUn Pr 22 (TypeDesc.int IntKind.u64) := ⟨by kernel_rfl⟩
instance : TUn Pr 23 (TypeDesc.slice 22) := ⟨by kernel_rfl⟩
instance : TUn Pr 28 (TypeDesc.slice 56) := ⟨by kernel_rfl⟩
instance : TUn Pr 29 (TypeDesc.slice 60) := ⟨by kernel_rfl⟩
instance : TUn Pr 30 (TypeDesc.slice 155) := ⟨by kernel_rfl⟩
instance : TUn Pr 36 (TypeDesc.slice 64) := ⟨by kernel_rfl⟩
instance : TUn Pr 75 (TypeDesc.pointer 108) := ⟨by kernel_rfl⟩
instance : TUn Pr 86 (TypeDesc.pointer 119) := ⟨by kernel_rfl⟩
instance : TUn Pr 94 (TypeDesc.slice 86) := ⟨by kernel_rfl⟩
instance : TUn Pr 99 (TypeDesc.slice 5) := ⟨by kernel_rfl⟩
instance : TUn Pr 101 (TypeDesc.pointer 106) := ⟨by kernel_rfl⟩
instance : TUn Pr 102 (TypeDesc.pointer 200) := ⟨by kernel_rfl⟩
instance : TUn Pr 104 (TypeDesc.pointer 22) := ⟨by kernel_rfl⟩
instance : TUn Pr 112 (TypeDesc.pointer 113) := ⟨by kernel_rfl⟩
instance : TUn Pr 113 (TypeDesc.int IntKind.i32) := ⟨by kernel_rfl⟩
instance : TUn Pr 115 (TypeDesc.slice 212) := ⟨by kernel_rfl⟩
instance : TUn Pr 117 (TypeDesc.pointer 4) := ⟨by kernel_rfl⟩
instance : TUn Pr 121 (TypeDesc.pointer 225) := ⟨by kernel_rfl⟩
instance : TUn Pr 131 (TypeDesc.map 22 156) := ⟨by kernel_rfl⟩
instance : TUn Pr 132 (TypeDesc.map 22 156) := ⟨by kernel_rfl⟩
instance : TUn Pr 133 (TypeDesc.array 2 132) := ⟨by kernel_rfl⟩
instance : TUn Pr 134 (TypeDesc.array 2 132) := ⟨by kernel_rfl⟩
instance : TUn Pr 137 (TypeDesc.map 22 146) := ⟨by kernel_rfl⟩
instance : TUn Pr 138 (TypeDesc.map 22 146) := ⟨by kernel_rfl⟩
instance : TUn Pr 139 (TypeDesc.map 22 4) := ⟨by kernel_rfl⟩
instance : TUn Pr 145 (TypeDesc.slice 23) := ⟨by kernel_rfl⟩
instance : TUn Pr 146 (TypeDesc.pointer 152) := ⟨by kernel_rfl⟩
instance : TUn Pr 150 (TypeDesc.int IntKind.u64) := ⟨by kernel_rfl⟩
instance : TUn Pr 159 (TypeDesc.int IntKind.u64) := ⟨by kernel_rfl⟩
instance : TUn Pr 181 (TypeDesc.int IntKind.u64) := ⟨by kernel_rfl⟩
instance : TUn Pr 185 (TypeDesc.slice 3) := ⟨by kernel_rfl⟩
instance : TUn Pr 212 (TypeDesc.pointer 215) := ⟨by kernel_rfl⟩
instance : TUn Pr 213 (TypeDesc.pointer 233) := ⟨by kernel_rfl⟩
instance : TUn Pr 226 TypeDesc.string := ⟨by kernel_rfl⟩
instance : TUn Pr 228 (TypeDesc.slice 302) := ⟨by kernel_rfl⟩
instance : TUn Pr 233 (TypeDesc.int IntKind.i32) := ⟨by kernel_rfl⟩
instance : TUn Pr 238 (TypeDesc.array 7 22) := ⟨by kernel_rfl⟩
instance : TUn Pr 247 (TypeDesc.slice 251) := ⟨by kernel_rfl⟩
instance : TUn Pr 250 (TypeDesc.slice 253) := ⟨by kernel_rfl⟩
instance : TUn Pr 251 (TypeDesc.pointer 309) := ⟨by kernel_rfl⟩
instance : TUn Pr 262 (TypeDesc.map 22 22) := ⟨by kernel_rfl⟩
instance : TUn Pr 277 (TypeDesc.pointer 306) := ⟨by kernel_rfl⟩
instance : TUn Pr 305 (TypeDesc.int IntKind.u64) := ⟨by kernel_rfl⟩
instance : TUn Pr 306 (TypeDesc.int IntKind.i32) := ⟨by kernel_rfl⟩
instance : TUn Pr 324 (TypeDesc.slice 102) := ⟨by kernel_rfl⟩
instance : TUn Pr 363 (TypeDesc.int IntKind.i64) := ⟨by kernel_rfl⟩
instance : TUn Pr 371 (TypeDesc.int IntKind.u32) := ⟨by kernel_rfl⟩
instance : TUn Pr 374 (TypeDesc.pointer 376) := ⟨by kernel_rfl⟩
instance : TUn Pr 379 (TypeDesc.slice 133) := ⟨by kernel_rfl⟩
instance : TUn Pr 399 (TypeDesc.int IntKind.u64) := ⟨by kernel_rfl⟩
instance : TUn Pr 408 (TypeDesc.slice 131) := ⟨by kernel_rfl⟩
instance : TFn Pr 7 := ⟨by kernel_rfl⟩
instance : TFn Pr 8 := ⟨by kernel_rfl⟩
instance : TFn Pr 9 := ⟨by kernel_rfl⟩
instance : TFn Pr 10 := ⟨by kernel_rfl⟩
instance : TFn Pr 11 := ⟨by kernel_rfl⟩
instance : TFn Pr 12 := ⟨by kernel_rfl⟩
instance : TFn Pr 13 := ⟨by kernel_rfl⟩
instance : TFn Pr 14 := ⟨by kernel_rfl⟩
instance : TFn Pr 15 := ⟨by kernel_rfl⟩
instance : TFn Pr 16 := ⟨by kernel_rfl⟩
instance : TFn Pr 17 := ⟨by kernel_rfl⟩
instance : TFn Pr 18 := ⟨by kernel_rfl⟩
instance : TFn Pr 19 := ⟨by kernel_rfl⟩
instance : TFn Pr 20 := ⟨by kernel_rfl⟩
instance : TFn Pr 21 := ⟨by kernel_rfl⟩
instance : TFn Pr 22 := ⟨by kernel_rfl⟩
instance : TFn Pr 23 := ⟨by kernel_rfl⟩
instance : TFn Pr 24 := ⟨by kernel_rfl⟩
instance : TFn Pr 25 := ⟨by kernel_rfl⟩
instance : TFn Pr 26 := ⟨by kernel_rfl⟩
instance : TFn Pr 27 := ⟨by kernel_rfl⟩
instance : TFn Pr 28 := ⟨by kernel_rfl⟩
instance : TFn Pr 29 := ⟨by kernel_rfl⟩
instance : TFn Pr 30 := ⟨by kernel_rfl⟩
instance : TFn Pr 31 := ⟨by kernel_rfl⟩
instance : TFn Pr 32 := ⟨by kernel_rfl⟩
instance : TFn Pr 33 := ⟨by kernel_rfl⟩
instance : TFn Pr 34 := ⟨by kernel_rfl⟩
instance : TFn Pr 35 := ⟨by kernel_rfl⟩
instance : TFn Pr 36 := ⟨by kernel_rfl⟩
instance : TFn Pr 37 := ⟨by kernel_rfl⟩
instance : TFn Pr 38 := ⟨by kernel_rfl⟩
instance : TFn Pr 39 := ⟨by kernel_rfl⟩
instance : TFn Pr 40 := ⟨by kernel_rfl⟩
instance : TFn Pr 41 := ⟨by kernel_rfl⟩
instance : TFn Pr 42 := ⟨by kernel_rfl⟩
instance : TFn Pr 43 := ⟨by kernel_rfl⟩
instance : TFn Pr 44 := ⟨by kernel_rfl⟩
instance : TFn Pr 45 := ⟨by kernel_rfl⟩
instance : TFn Pr 46 := ⟨by kernel_rfl⟩
instance : TFn Pr 47 := ⟨by kernel_rfl⟩
instance : TFn Pr 48 := ⟨by kernel_rfl⟩
instance : TFn Pr 49 := ⟨by kernel_rfl⟩
instance : TFn Pr 50 := ⟨by kernel_rfl⟩
instance : TFn Pr 51 := ⟨by kernel_rfl⟩
instance : TFn Pr 52 := ⟨by kernel_rfl⟩
instance : TFn Pr 53 := ⟨by kernel_rfl⟩
instance : TFn Pr 54 := ⟨by kernel_rfl⟩
instance : TFn Pr 55 := ⟨by kernel_rfl⟩
instance : TFn Pr 56 := ⟨by kernel_rfl⟩
instance : TFn Pr 57 := ⟨by kernel_rfl⟩
instance : TFn Pr 58 := ⟨by kernel_rfl⟩
instance : TFn Pr 59 := ⟨by kernel_rfl⟩
instance : TFn Pr 60 := ⟨by kernel_rfl⟩
instance : TFn Pr 61 := ⟨by kernel_rfl⟩
instance : TFn Pr 62 := ⟨by kernel_rfl⟩
instance : TFn Pr 63 := ⟨by kernel_rfl⟩
instance : TFn Pr 64 := ⟨by kernel_rfl⟩
instance : TFn Pr 65 := ⟨by kernel_rfl⟩
instance : TFn Pr 66 := ⟨by kernel_rfl⟩
instance : TFn Pr 68 := ⟨by kernel_rfl⟩
instance : TFn Pr 69 := ⟨by kernel_rfl⟩
instance : TFn Pr 70 := ⟨by kernel_rfl⟩
instance : TFn Pr 71 := ⟨by kernel_rfl⟩
instance : TFn Pr 72 := ⟨by kernel_rfl⟩
instance : TFn Pr 73 := ⟨by kernel_rfl⟩
instance : TFn Pr 74 := ⟨by kernel_rfl⟩
instance : TFn Pr 75 := ⟨by kernel_rfl⟩
instance : TFn Pr 76 := ⟨by kernel_rfl⟩
instance : TFn Pr 77 := ⟨by kernel_rfl⟩
instance : TFn Pr 78 := ⟨by kernel_rfl⟩
instance : TFn Pr 79 := ⟨by kernel_rfl⟩
instance : TFn Pr 80 := ⟨by kernel_rfl⟩
instance : TFn Pr 81 := ⟨by kernel_rfl⟩
instance : TFn Pr 82 := ⟨by kernel_rfl⟩
instance : TFn Pr 83 := ⟨by kernel_rfl⟩
instance : TFn Pr 84 := ⟨by kernel_rfl⟩
instance : TFn Pr 85 := ⟨by kernel_rfl⟩
instance : TFn Pr 86 := ⟨by kernel_rfl⟩
instance : TFn Pr 87 := ⟨by kernel_rfl⟩
instance : TFn Pr 88 := ⟨by kernel_rfl⟩
instance : TFn Pr 89 := ⟨by kernel_rfl⟩
instance : TFn Pr 90 := ⟨by kernel_rfl⟩
instance : TFn Pr 91 := ⟨by kernel_rfl⟩
instance : TFn Pr 92 := ⟨by kernel_rfl⟩
instance : TFn Pr 93 := ⟨by kernel_rfl⟩
instance : TFn Pr 94 := ⟨by kernel_rfl⟩
instance : TFn Pr 95 := ⟨by kernel_rfl⟩
instance : TFn Pr 96 := ⟨by kernel_rfl⟩
instance : TFn Pr 97 := ⟨by kernel_rfl⟩
instance : TFn Pr 98 := ⟨by kernel_rfl⟩
instance : TFn Pr 99 := ⟨by kernel_rfl⟩
instance : TFn Pr 100 := ⟨by kernel_rfl⟩
instance : TFn Pr 101 := ⟨by kernel_rfl⟩
instance : TFn Pr 102 := ⟨by kernel_rfl⟩
instance : TFn Pr 103 := ⟨by kernel_rfl⟩
instance : TFn Pr 104 := ⟨by kernel_rfl⟩
instance : TFn Pr 105 := ⟨by kernel_rfl⟩
instance : TFn Pr 106 := ⟨by kernel_rfl⟩
instance : TFn Pr 107 := ⟨by kernel_rfl⟩
instance : TFn Pr 108 := ⟨by kernel_rfl⟩
instance : TFn Pr 109 := ⟨by kernel_rfl⟩
instance : TFn Pr 110 := ⟨by kernel_rfl⟩
instance : TFn Pr 111 := ⟨by kernel_rfl⟩
instance : TFn Pr 112 := ⟨by kernel_rfl⟩
instance : TFn Pr 113 := ⟨by kernel_rfl⟩
instance : TFn Pr 114 := ⟨by kernel_rfl⟩
instance : TFn Pr 115 := ⟨by kernel_rfl⟩
instance : TFn Pr 116 := ⟨by kernel_rfl⟩
instance : TFn Pr 117 := ⟨by kernel_rfl⟩
instance : TFn Pr 118 := ⟨by kernel_rfl⟩
instance : TFn Pr 119 := ⟨by kernel_rfl⟩
instance : TFn Pr 120 := ⟨by kernel_rfl⟩
instance : TFn Pr 121 := ⟨by kernel_rfl⟩
instance : TFn Pr 122 := ⟨by kernel_rfl⟩
instance : TFn Pr 123 := ⟨by kernel_rfl⟩
instance : TFn Pr 124 := ⟨by kernel_rfl⟩
instance : TFn Pr 125 := ⟨by kernel_rfl⟩
instance : TFn Pr 126 := ⟨by kernel_rfl⟩
instance : TFn Pr 127 := ⟨by kernel_rfl⟩
instance : TFn Pr 128 := ⟨by kernel_rfl⟩
instance : TFn Pr 129 := ⟨by kernel_rfl⟩
instance : TFn Pr 130 := ⟨by kernel_rfl⟩
instance : TFn Pr 131 := ⟨by kernel_rfl⟩
instance : TFn Pr 132 := ⟨by kernel_rfl⟩
instance : TFn Pr 133 := ⟨by kernel_rfl⟩
instance : TFn Pr 134 := ⟨by kernel_rfl⟩
instance : TFn Pr 135 := ⟨by kernel_rfl⟩
instance : TFn Pr 136 := ⟨by kernel_rfl⟩
instance : TFn Pr 137 := ⟨by kernel_rfl⟩
instance : TFn Pr 138 := ⟨by kernel_rfl⟩
instance : TFn Pr 139 := ⟨by kernel_rfl⟩
instance : TFn Pr 140 := ⟨by kernel_rfl⟩
instance : TFn Pr 141 := ⟨by kernel_rfl⟩
instance : TFn Pr 142 := ⟨by kernel_rfl⟩
instance : TFn Pr 143 := ⟨by kernel_rfl⟩
instance : TFn Pr 144 := ⟨by kernel_rfl⟩
instance : TFn Pr 145 := ⟨by kernel_rfl⟩
instance : TFn Pr 146 := ⟨by kernel_rfl⟩
instance : TFn Pr 147 := ⟨by kernel_rfl⟩
instance : TFn Pr 148 := ⟨by kernel_rfl⟩
instance : TFn Pr 149 := ⟨by kernel_rfl⟩
instance : TFn Pr 150 := ⟨by kernel_rfl⟩
instance : TFn Pr 151 := ⟨by kernel_rfl⟩
instance : TFn Pr 152 := ⟨by kernel_rfl⟩
instance : TFn Pr 153 := ⟨by kernel_rfl⟩
instance : TFn Pr 154 := ⟨by kernel_rfl⟩
instance : TFn Pr 156 := ⟨by kernel_rfl⟩
instance : TFn Pr 157 := ⟨by kernel_rfl⟩
instance : TFn Pr 158 := ⟨by kernel_rfl⟩
instance : TFn Pr 159 := ⟨by kernel_rfl⟩
instance : TFn Pr 160 := ⟨by kernel_rfl⟩
instance : TFn Pr 161 := ⟨by kernel_rfl⟩
instance : TFn Pr 162 := ⟨by kernel_rfl⟩
instance : TFn Pr 163 := ⟨by kernel_rfl⟩
instance : TFn Pr 165 := ⟨by kernel_rfl⟩
instance : TFn Pr 166 := ⟨by kernel_rfl⟩
instance : TFn Pr 170 := ⟨by kernel_rfl⟩
instance : TFn Pr 171 := ⟨by kernel_rfl⟩
instance : TFn Pr 192 := ⟨by kernel_rfl⟩
instance : TFn Pr 199 := ⟨by kernel_rfl⟩
instance : TFn Pr 200 := ⟨by kernel_rfl⟩
instance : TFn Pr 201 := ⟨by kernel_rfl⟩
instance : TFn Pr 202 := ⟨by kernel_rfl⟩
instance : TFn Pr 203 := ⟨by kernel_rfl⟩
instance : TFn Pr 204 := ⟨by kernel_rfl⟩
instance : TFn Pr 205 := ⟨by kernel_rfl⟩
instance : TFn Pr 206 := ⟨by kernel_rfl⟩
instance : TFn Pr 207 := ⟨by kernel_rfl⟩
instance : TFn Pr 208 := ⟨by kernel_rfl⟩
instance : TFn Pr 209 := ⟨by kernel_rfl⟩
instance : TFn Pr 210 := ⟨by kernel_rfl⟩
instance : TFn Pr 211 := ⟨by kernel_rfl⟩
instance : TFn Pr 212 := ⟨by kernel_rfl⟩
instance : TFn Pr 213 := ⟨by kernel_rfl⟩
instance : TFn Pr 214 := ⟨by kernel_rfl⟩
instance : TFn Pr 215 := ⟨by kernel_rfl⟩
instance : TFn Pr 216 := ⟨by kernel_rfl⟩
instance : TFn Pr 217 := ⟨by kernel_rfl⟩
instance : TFn Pr 218 := ⟨by kernel_rfl⟩
instance : TFn Pr 219 := ⟨by kernel_rfl⟩
instance : TFn Pr 220 := ⟨by kernel_rfl⟩
instance : TFn Pr 221 := ⟨by kernel_rfl⟩
instance : TFn Pr 222 := ⟨by kernel_rfl⟩
instance : TFn Pr 223 := ⟨by kernel_rfl⟩
instance : TFn Pr 225 := ⟨by kernel_rfl⟩
instance : TFn Pr 226 := ⟨by kernel_rfl⟩
instance : TFn Pr 227 := ⟨by kernel_rfl⟩
instance : TFn Pr 228 := ⟨by kernel_rfl⟩
instance : TFn Pr 236 := ⟨by kernel_rfl⟩
instance : TFn Pr 241 := ⟨by kernel_rfl⟩
instance : TFn Pr 262 := ⟨by kernel_rfl⟩
instance : TFn Pr 265 := ⟨by kernel_rfl⟩
instance : TFn Pr 266 := ⟨by kernel_rfl⟩
instance : TFn Pr 267 := ⟨by kernel_rfl⟩
instance : TFn Pr 268 := ⟨by kernel_rfl⟩
instance : TFn Pr 269 := ⟨by kernel_rfl⟩
instance : TFn Pr 270 := ⟨by kernel_rfl⟩
instance : TFn Pr 271 := ⟨by kernel_rfl⟩
instance : TFn Pr 272 := ⟨by kernel_rfl⟩
instance : TFn Pr 273 := ⟨by kernel_rfl⟩
instance : TFn Pr 274 := ⟨by kernel_rfl⟩
instance : TFn Pr 275 := ⟨by kernel_rfl⟩
instance : TFn Pr 276 := ⟨by kernel_rfl⟩
instance : TFn Pr 277 := ⟨by kernel_rfl⟩
instance : TFn Pr 278 := ⟨by kernel_rfl⟩
instance : TFn Pr 279 := ⟨by kernel_rfl⟩
instance : TFn Pr 280 := ⟨by kernel_rfl⟩
instance : TFn Pr 281 := ⟨by kernel_rfl⟩
instance : TFn Pr 282 := ⟨by kernel_rfl⟩
instance : TFn Pr 283 := ⟨by kernel_rfl⟩
instance : TFn Pr 284 := ⟨by kernel_rfl⟩
instance : TFn Pr 285 := ⟨by kernel_rfl⟩
instance : TFn Pr 286 := ⟨by kernel_rfl⟩
instance : TFn Pr 287 := ⟨by kernel_rfl⟩
instance : TFn Pr 288 := ⟨by kernel_rfl⟩
instance : TFn Pr 289 := ⟨by kernel_rfl⟩
instance : TFn Pr 294 := ⟨by kernel_rfl⟩
instance : TFn Pr 309 := ⟨by kernel_rfl⟩
instance : TFn Pr 310 := ⟨by kernel_rfl⟩
instance : TFn Pr 311 := ⟨by kernel_rfl⟩
instance : TFn Pr 312 := ⟨by kernel_rfl⟩
instance : TFn Pr 313 := ⟨by kernel_rfl⟩
instance : TFn Pr 314 := ⟨by kernel_rfl⟩
instance : TFn Pr 315 := ⟨by kernel_rfl⟩
instance : TFn Pr 316 := ⟨by kernel_rfl⟩
instance : TFn Pr 317 := ⟨by kernel_rfl⟩
instance : TFn Pr 318 := ⟨by kernel_rfl⟩
instance : TFn Pr 319 := ⟨by kernel_rfl⟩
instance : TFn Pr 328 := ⟨by kernel_rfl⟩
instance : TFn Pr 329 := ⟨by kernel_rfl⟩
instance : TFn Pr 355 := ⟨by kernel_rfl⟩
instance : TElm Pr 3 1 8 := ⟨by kernel_rfl⟩
instance : TElm Pr 5 1 1 := ⟨by kernel_rfl⟩
instance : TZero Pr 5 (Value.int .u8 0) := ⟨by kernel_rfl⟩
instance : TElm Pr 22 1 8 := ⟨by kernel_rfl⟩
instance : TElm Pr 23 1 24 := ⟨by kernel_rfl⟩
instance : TZero Pr 23 (Value.slice none 0 0) := ⟨by kernel_rfl⟩
instance : TElm Pr 56 4 40 := ⟨by kernel_rfl⟩
instance : TElm Pr 60 12 112 := ⟨by kernel_rfl⟩
instance : TElm Pr 64 21 280 := ⟨by kernel_rfl⟩
instance : TElm Pr 86 1 8 := ⟨by kernel_rfl⟩
instance : TZero Pr 86 (Value.pointer none) := ⟨by kernel_rfl⟩
instance : TElm Pr 102 1 8 := ⟨by kernel_rfl⟩
instance : TZero Pr 102 (Value.pointer none) := ⟨by kernel_rfl⟩
instance : TElm Pr 131 1 8 := ⟨by kernel_rfl⟩
instance : TZero Pr 131 (Value.map none) := ⟨by kernel_rfl⟩
instance : TElm Pr 133 2 16 := ⟨by kernel_rfl⟩
instance : TElm Pr 155 2 16 := ⟨by kernel_rfl⟩
instance : TElm Pr 212 1 8 := ⟨by kernel_rfl⟩
instance : TZero Pr 212 (Value.pointer none) := ⟨by kernel_rfl⟩
instance : TElm Pr 251 1 8 := ⟨by kernel_rfl⟩
instance : TElm Pr 253 1 8 := ⟨by kernel_rfl⟩
instance : TZero Pr 253 Value.nilFunc := ⟨by kernel_rfl⟩
instance : TElm Pr 302 2 16 := ⟨by kernel_rfl⟩
instance : TIf Pr 125 := ⟨by kernel_rfl⟩
instance : TBld Pr 25 [(0, 1), (1, 1), (2, 1), (3, 1), (4, 1)] #[(Value.slice none 0 0), (Value.slice none 0 0), (Value.slice none 0 0), (Value.slice none 0 0), (Value.bool false)] := ⟨by kernel_rfl⟩
instance : TBld Pr 56 [(0, 1), (1, 1), (2, 1), (3, 1)] #[(Value.int .u64 0), (Value.int .u64 0), (Value.int .i64 0), (Value.string (ByteArray.mk #[]))] := ⟨by kernel_rfl⟩
instance : TBld Pr 64 [(0, 1), (1, 1), (2, 1), (3, 1), (4, 1), (5, 1), (6, 1), (7, 1), (8, 1), (9, 1), (10, 8), (18, 1), (19, 1), (20, 1)] #[(Value.int .i64 0), (Value.int .u64 0), (Value.int .u64 0), (Value.int .u64 0), (Value.int .u64 0), (Value.int .u64 0), (Value.int .u64 0), (Value.int .u64 0), (Value.int .u64 0), (Value.slice none 0 0), (Value.string (ByteArray.mk #[])), (Value.int .u64 0), (Value.int .u64 0), (Value.slice none 0 0), (Value.slice none 0 0), (Value.slice none 0 0), (Value.slice none 0 0), (Value.bool false), (Value.bool false), (Value.string (ByteArray.mk #[])), (Value.slice none 0 0)] := ⟨by kernel_rfl⟩
instance : TBld Pr 41 [(0, 1), (1, 1), (2, 1)] #[(Value.int .u64 0), (Value.int .u64 0), (Value.int .u64 0)] := ⟨by kernel_rfl⟩
instance : TBld Pr 43 [(0, 1), (1, 1), (2, 3), (5, 8), (13, 1)] #[(Value.int .u64 0), (Value.int .u64 0), (Value.int .u64 0), (Value.int .u64 0), (Value.int .u64 0), (Value.string (ByteArray.mk #[])), (Value.int .u64 0), (Value.int .u64 0), (Value.slice none 0 0), (Value.slice none 0 0), (Value.slice none 0 0), (Value.slice none 0 0), (Value.bool false), (Value.slice none 0 0)] := ⟨by kernel_rfl⟩
instance : TBld Pr 38 [(0, 32), (32, 1), (33, 1), (34, 1), (35, 1)] #[(Value.int .u64 0), (Value.int .u64 0), (Value.int .u64 0), (Value.int .u64 0), (Value.int .i64 0), (Value.string (ByteArray.mk #[])), (Value.int .u64 0), (Value.int .u64 0), (Value.slice none 0 0), (Value.slice none 0 0), (Value.slice none 0 0), (Value.slice none 0 0), (Value.bool false), (Value.slice none 0 0), (Value.slice none 0 0), (Value.int .u64 0), (Value.int .u64 0), (Value.slice none 0 0), (Value.slice none 0 0), (Value.slice none 0 0), (Value.slice none 0 0), (Value.bool false), (Value.bool false), (Value.int .i64 0), (Value.int .i64 0), (Value.int .i64 0), (Value.int .i64 0), (Value.int .i64 0), (Value.int .u64 0), (Value.int .u64 0), (Value.int .u64 0), (Value.int .u64 0), (Value.slice none 0 0), (Value.slice none 0 0), (Value.bool false), (Value.bool false)] := ⟨by kernel_rfl⟩
instance : TBld Pr 106 [(0, 1), (1, 1), (2, 1)] #[(Value.pointer none), (Value.pointer none), (Value.pointer none)] := ⟨by kernel_rfl⟩
instance : TBld Pr 108 [(0, 1), (1, 1)] #[(Value.slice none 0 0), (Value.pointer none)] := ⟨by kernel_rfl⟩
instance : TBld Pr 119 [(0, 1), (1, 1), (2, 1), (3, 1), (4, 1), (5, 1), (6, 1), (7, 1), (8, 1), (9, 1), (10, 1), (11, 1), (12, 1), (13, 1)] #[(Value.pointer none), (Value.pointer none), (Value.pointer none), (Value.pointer none), (Value.pointer none), (Value.pointer none), (Value.slice none 0 0), (Value.pointer none), (Value.pointer none), (Value.pointer none), (Value.pointer none), (Value.pointer none), (Value.slice none 0 0), (Value.slice none 0 0)] := ⟨by kernel_rfl⟩
instance : TBld Pr 161 [(0, 1), (1, 1), (2, 1), (3, 1), (4, 1), (5, 1), (6, 1), (7, 1), (8, 1), (9, 1), (10, 1), (11, 1), (12, 1), (13, 1), (14, 1), (15, 1), (16, 1)] #[(Value.int .u64 0), (Value.int .u64 0), (Value.int .u64 0), (Value.int .u64 0), (Value.int .u64 0), (Value.int .u64 0), (Value.bool false), (Value.bool false), (Value.bool false), (Value.int .i64 0), (Value.int .i64 0), (Value.int .i64 0), (Value.int .i64 0), (Value.int .i64 0), (Value.int .u64 0), (Value.int .u64 0), (Value.int .u64 0)] := ⟨by kernel_rfl⟩
instance : TBld Pr 152 [(0, 1), (1, 1), (2, 1), (3, 1), (4, 1), (5, 1), (6, 1), (7, 1), (8, 1)] #[(Value.int .u64 0), (Value.int .u64 0), (Value.int .u64 0), (Value.int .u64 0), (Value.int .u64 0), (Value.bool false), (Value.bool false), (Value.pointer none), (Value.bool false)] := ⟨by kernel_rfl⟩
instance : TBld Pr 156 [] #[] := ⟨by kernel_rfl⟩
instance : TBld Pr 155 [(0, 1), (1, 1)] #[(Value.int .u64 0), (Value.bool false)] := ⟨by kernel_rfl⟩
instance : TBld Pr 32 [(0, 1), (1, 1), (2, 1), (3, 1), (4, 1), (5, 8), (13, 1), (14, 1), (15, 1), (16, 1), (17, 1), (18, 1), (19, 1), (20, 1), (21, 1), (22, 1), (23, 1), (24, 1), (25, 1), (26, 1), (27, 1), (28, 1), (29, 1), (30, 1), (31, 1)] #[(Value.int .u64 0), (Value.int .u64 0), (Value.int .u64 0), (Value.int .u64 0), (Value.int .i64 0), (Value.string (ByteArray.mk #[])), (Value.int .u64 0), (Value.int .u64 0), (Value.slice none 0 0), (Value.slice none 0 0), (Value.slice none 0 0), (Value.slice none 0 0), (Value.bool false), (Value.slice none 0 0), (Value.slice none 0 0), (Value.int .u64 0), (Value.int .u64 0), (Value.slice none 0 0), (Value.slice none 0 0), (Value.slice none 0 0), (Value.slice none 0 0), (Value.bool false), (Value.bool false), (Value.int .i64 0), (Value.int .i64 0), (Value.int .i64 0), (Value.int .i64 0), (Value.int .i64 0), (Value.int .u64 0), (Value.int .u64 0), (Value.int .u64 0), (Value.int .u64 0)] := ⟨by kernel_rfl⟩
instance : TBld Pr 209 [(0, 9), (9, 1)] #[(Value.map none), (Value.map none), (Value.bool false), (Value.map none), (Value.map none), (Value.map none), (Value.map none), (Value.int .i64 0), (Value.int .u64 0), (Value.int .u64 0)] := ⟨by kernel_rfl⟩
instance : TBld Pr 202 [(0, 1), (1, 1)] #[(Value.int .u64 0), (Value.int .u64 0)] := ⟨by kernel_rfl⟩
instance : TBld Pr 200 [(0, 1), (1, 1), (2, 1), (3, 1), (4, 1)] #[(Value.slice none 0 0), (Value.slice none 0 0), (Value.slice none 0 0), (Value.slice none 0 0), (Value.pointer none)] := ⟨by kernel_rfl⟩
instance : TBld Pr 215 [(0, 1), (1, 1), (2, 1), (3, 1)] #[(Value.pointer none), (Value.pointer none), (Value.pointer none), (Value.slice none 0 0)] := ⟨by kernel_rfl⟩
instance : TBld Pr 225 [(0, 1), (1, 1), (2, 1), (3, 6)] #[(Value.pointer none), (Value.pointer none), (Value.slice none 0 0), (Value.int .i64 0), (Value.int .i64 0), (Value.int .i64 0), (Value.int .i64 0), (Value.int .i64 0), (Value.int .i64 0)] := ⟨by kernel_rfl⟩
instance : TBld Pr 136 [(0, 2), (2, 1), (3, 1), (4, 1)] #[(Value.map none), (Value.map none), (Value.bool false), (Value.map none), (Value.map none)] := ⟨by kernel_rfl⟩
instance : TBld Pr 141 [(0, 5), (5, 1), (6, 1), (7, 1), (8, 1)] #[(Value.map none), (Value.map none), (Value.bool false), (Value.map none), (Value.map none), (Value.map none), (Value.map none), (Value.int .i64 0), (Value.int .u64 0)] := ⟨by kernel_rfl⟩
instance : TBld Pr 230 [(0, 1), (1, 1), (2, 1), (3, 1), (4, 1), (5, 1)] #[(Value.int .i64 0), (Value.int .i64 0), (Value.int .u64 0), (Value.int .i64 0), (Value.int .u64 0), (Value.slice none 0 0)] := ⟨by kernel_rfl⟩
instance : TBld Pr 187 [(0, 1), (1, 1), (2, 1), (3, 1), (4, 1), (5, 1), (6, 1), (7, 9), (16, 1), (17, 1), (18, 1), (19, 1), (20, 1), (21, 1), (22, 1), (23, 1), (24, 1), (25, 1), (26, 1), (27, 1), (28, 1), (29, 1), (30, 1), (31, 1), (32, 1), (33, 1), (34, 1), (35, 1), (36, 1), (37, 1), (38, 1), (39, 1)] #[(Value.int .u64 0), (Value.int .u64 0), (Value.int .u64 0), (Value.slice none 0 0), (Value.pointer none), (Value.int .u64 0), (Value.int .u64 0), (Value.map none), (Value.map none), (Value.bool false), (Value.map none), (Value.map none), (Value.map none), (Value.map none), (Value.int .i64 0), (Value.int .u64 0), (Value.int .u64 0), (Value.bool false), (Value.slice none 0 0), (Value.slice none 0 0), (Value.int .u64 0), (Value.int .u64 0), (Value.int .u64 0), (Value.bool false), (Value.int .u64 0), (Value.pointer none), (Value.int .i64 0), (Value.int .i64 0), (Value.bool false), (Value.bool false), (Value.int .i64 0), (Value.int .i64 0), (Value.int .i64 0), (Value.bool false), (Value.bool false), Value.nilFunc, Value.nilFunc, (Value.slice none 0 0), (Value.slice none 0 0), (Value.int .i64 0)] := ⟨by kernel_rfl⟩
instance : TBld Pr 27 [(0, 1), (1, 1), (2, 1), (3, 5)] #[(Value.string (ByteArray.mk #[])), (Value.int .u64 0), (Value.int .u64 0), (Value.slice none 0 0), (Value.slice none 0 0), (Value.slice none 0 0), (Value.slice none 0 0), (Value.bool false)] := ⟨by kernel_rfl⟩
instance : TBld Pr 60 [(0, 1), (1, 11)] #[(Value.int .u64 0), (Value.int .u64 0), (Value.int .u64 0), (Value.int .i64 0), (Value.int .u64 0), (Value.bool false), (Value.bool false), (Value.bool false), (Value.int .i64 0), (Value.int .u64 0), (Value.slice none 0 0), (Value.slice none 0 0)] := ⟨by kernel_rfl⟩
instance : TBld Pr 58 [(0, 1), (1, 1), (2, 1), (3, 1), (4, 1), (5, 1), (6, 1), (7, 1), (8, 1), (9, 1), (10, 1)] #[(Value.int .u64 0), (Value.int .u64 0), (Value.int .i64 0), (Value.int .u64 0), (Value.bool false), (Value.bool false), (Value.bool false), (Value.int .i64 0), (Value.int .u64 0), (Value.slice none 0 0), (Value.slice none 0 0)] := ⟨by kernel_rfl⟩
instance : TBld Pr 194 [(0, 1), (1, 1), (2, 1), (3, 1), (4, 1)] #[(Value.pointer none), (Value.slice none 0 0), (Value.int .u64 0), (Value.bool false), (Value.int .u64 0)] := ⟨by kernel_rfl⟩
instance : TBld Pr 196 [(0, 1), (1, 5), (6, 1), (7, 1), (8, 1), (9, 1), (10, 1), (11, 1)] #[Value.nilIface, (Value.pointer none), (Value.slice none 0 0), (Value.int .u64 0), (Value.bool false), (Value.int .u64 0), (Value.int .u64 0), (Value.int .u64 0), (Value.int .u64 0), (Value.int .u64 0), (Value.int .u64 0), (Value.bool false)] := ⟨by kernel_rfl⟩
instance : TBld Pr 302 [(0, 1), (1, 1)] #[(Value.int .u64 0), (Value.int .u64 0)] := ⟨by kernel_rfl⟩
instance : TBld Pr 265 [(0, 1), (1, 1), (2, 1), (3, 1)] #[(Value.int .i64 0), (Value.map none), (Value.slice none 0 0), (Value.int .u64 0)] := ⟨by kernel_rfl⟩
instance : TBld Pr 309 [(0, 1), (1, 1)] #[(Value.pointer none), (Value.pointer none)] := ⟨by kernel_rfl⟩
instance : TBld Pr 376 [(0, 1)] #[(Value.string (ByteArray.mk #[]))] := ⟨by kernel_rfl⟩
end Go.Proofs.YtmmpogfbhelioaaGreat
/-
  The struct values that the program builds, printed by mkTy.py.
  Conditions: none.
-/
namespace Go.Proofs.YtmmpogfbhelioaaGreat
set_option maxRecDepth 10000
set_option linter.unusedVariables false
set_option linter.unusedSimpArgs false
theorem cells_agg {cs : Array Value} : (Value.agg cs).cells = cs := rfl
theorem b25_0_1 {S : World → Prop} {K : Value → Prop} {x0 x1 : Value} (h0 : one x0 = true) (h1 : one x1 = true) (k : K (.agg #[x0, x1, (Value.slice none 0 0), (Value.slice none 0 0), (Value.bool false)])) : Qu Pr S (Instr.build 25 #[(0, x0), (1, x1)]) K :=
  q_build (cs := #[x0, x1, (Value.slice none 0 0), (Value.slice none 0 0), (Value.bool false)]) (by simp [Instr.fill, one_cells' h0, one_cells' h1, cells_agg]) k
theorem b64_0_1_2_3_10 {S : World → Prop} {K : Value → Prop} {x0 x1 x2 x3 x10_0 x10_1 x10_2 x10_3 x10_4 x10_5 x10_6 x10_7 : Value} (h0 : one x0 = true) (h1 : one x1 = true) (h2 : one x2 = true) (h3 : one x3 = true) (k : K (.agg #[x0, x1, x2, x3, (Value.int .u64 0), (Value.int .u64 0), (Value.int .u64 0), (Value.int .u64 0), (Value.int .u64 0), (Value.slice none 0 0), x10_0, x10_1, x10_2, x10_3, x10_4, x10_5, x10_6, x10_7, (Value.bool false), (Value.string (ByteArray.mk #[])), (Value.slice none 0 0)])) : Qu Pr S (Instr.build 64 #[(0, x0), (1, x1), (2, x2), (3, x3), (10, .agg #[x10_0, x10_1, x10_2, x10_3, x10_4, x10_5, x10_6, x10_7])]) K :=
  q_build (cs := #[x0, x1, x2, x3, (Value.int .u64 0), (Value.int .u64 0), (Value.int .u64 0), (Value.int .u64 0), (Value.int .u64 0), (Value.slice none 0 0), x10_0, x10_1, x10_2, x10_3, x10_4, x10_5, x10_6, x10_7, (Value.bool false), (Value.string (ByteArray.mk #[])), (Value.slice none 0 0)]) (by simp [Instr.fill, one_cells' h0, one_cells' h1, one_cells' h2, one_cells' h3, cells_agg]) k
theorem b41_0_1_2 {S : World → Prop} {K : Value → Prop} {x0 x1 x2 : Value} (h0 : one x0 = true) (h1 : one x1 = true) (h2 : one x2 = true) (k : K (.agg #[x0, x1, x2])) : Qu Pr S (Instr.build 41 #[(0, x0), (1, x1), (2, x2)]) K :=
  q_build (cs := #[x0, x1, x2]) (by simp [Instr.fill, one_cells' h0, one_cells' h1, one_cells' h2, cells_agg]) k
theorem b43_0_1_2_3_4 {S : World → Prop} {K : Value → Prop} {x0 x1 x2_0 x2_1 x2_2 x3_0 x3_1 x3_2 x3_3 x3_4 x3_5 x3_6 x3_7 x4 : Value} (h0 : one x0 = true) (h1 : one x1 = true) (h4 : one x4 = true) (k : K (.agg #[x0, x1, x2_0, x2_1, x2_2, x3_0, x3_1, x3_2, x3_3, x3_4, x3_5, x3_6, x3_7, x4])) : Qu Pr S (Instr.build 43 #[(0, x0), (1, x1), (2, .agg #[x2_0, x2_1, x2_2]), (3, .agg #[x3_0, x3_1, x3_2, x3_3, x3_4, x3_5, x3_6, x3_7]), (4, x4)]) K :=
  q_build (cs := #[x0, x1, x2_0, x2_1, x2_2, x3_0, x3_1, x3_2, x3_3, x3_4, x3_5, x3_6, x3_7, x4]) (by simp [Instr.fill, one_cells' h0, one_cells' h1, one_cells' h4, cells_agg]) k
theorem b106_0_1_2 {S : World → Prop} {K : Value → Prop} {x0 x1 x2 : Value} (h0 : one x0 = true) (h1 : one x1 = true) (h2 : one x2 = true) (k : K (.agg #[x0, x1, x2])) : Qu Pr S (Instr.build 106 #[(0, x0), (1, x1), (2, x2)]) K :=
  q_build (cs := #[x0, x1, x2]) (by simp [Instr.fill, one_cells' h0, one_cells' h1, one_cells' h2, cells_agg]) k
theorem b108_0_1 {S : World → Prop} {K : Value → Prop} {x0 x1 : Value} (h0 : one x0 = true) (h1 : one x1 = true) (k : K (.agg #[x0, x1])) : Qu Pr S (Instr.build 108 #[(0, x0), (1, x1)]) K :=
  q_build (cs := #[x0, x1]) (by simp [Instr.fill, one_cells' h0, one_cells' h1, cells_agg]) k
theorem b119_0_1_2_3_4_5_7_8_11_6_12 {S : World → Prop} {K : Value → Prop} {x0 x1 x2 x3 x4 x5 x7 x8 x11 x6 x12 : Value} (h0 : one x0 = true) (h1 : one x1 = true) (h2 : one x2 = true) (h3 : one x3 = true) (h4 : one x4 = true) (h5 : one x5 = true) (h7 : one x7 = true) (h8 : one x8 = true) (h11 : one x11 = true) (h6 : one x6 = true) (h12 : one x12 = true) (k : K (.agg #[x0, x1, x2, x3, x4, x5, x6, x7, x8, (Value.pointer none), (Value.pointer none), x11, x12, (Value.slice none 0 0)])) : Qu Pr S (Instr.build 119 #[(0, x0), (1, x1), (2, x2), (3, x3), (4, x4), (5, x5), (7, x7), (8, x8), (11, x11), (6, x6), (12, x12)]) K :=
  q_build (cs := #[x0, x1, x2, x3, x4, x5, x6, x7, x8, (Value.pointer none), (Value.pointer none), x11, x12, (Value.slice none 0 0)]) (by simp [Instr.fill, one_cells' h0, one_cells' h1, one_cells' h2, one_cells' h3, one_cells' h4, one_cells' h5, one_cells' h7, one_cells' h8, one_cells' h11, one_cells' h6, one_cells' h12, cells_agg]) k
theorem b161_0_1_2_3_4_5_6_7_8_9_10_11_12_13_14_15_16 {S : World → Prop} {K : Value → Prop} {x0 x1 x2 x3 x4 x5 x6 x7 x8 x9 x10 x11 x12 x13 x14 x15 x16 : Value} (h0 : one x0 = true) (h1 : one x1 = true) (h2 : one x2 = true) (h3 : one x3 = true) (h4 : one x4 = true) (h5 : one x5 = true) (h6 : one x6 = true) (h7 : one x7 = true) (h8 : one x8 = true) (h9 : one x9 = true) (h10 : one x10 = true) (h11 : one x11 = true) (h12 : one x12 = true) (h13 : one x13 = true) (h14 : one x14 = true) (h15 : one x15 = true) (h16 : one x16 = true) (k : K (.agg #[x0, x1, x2, x3, x4, x5, x6, x7, x8, x9, x10, x11, x12, x13, x14, x15, x16])) : Qu Pr S (Instr.build 161 #[(0, x0), (1, x1), (2, x2), (3, x3), (4, x4), (5, x5), (6, x6), (7, x7), (8, x8), (9, x9), (10, x10), (11, x11), (12, x12), (13, x13), (14, x14), (15, x15), (16, x16)]) K :=
  q_build (cs := #[x0, x1, x2, x3, x4, x5, x6, x7, x8, x9, x10, x11, x12, x13, x14, x15, x16]) (by simp [Instr.fill, one_cells' h0, one_cells' h1, one_cells' h2, one_cells' h3, one_cells' h4, one_cells' h5, one_cells' h6, one_cells' h7, one_cells' h8, one_cells' h9, one_cells' h10, one_cells' h11, one_cells' h12, one_cells' h13, one_cells' h14, one_cells' h15, one_cells' h16, cells_agg]) k
theorem b152_1_8_7 {S : World → Prop} {K : Value → Prop} {x1 x8 x7 : Value} (h1 : one x1 = true) (h8 : one x8 = true) (h7 : one x7 = true) (k : K (.agg #[(Value.int .u64 0), x1, (Value.int .u64 0), (Value.int .u64 0), (Value.int .u64 0), (Value.bool false), (Value.bool false), x7, x8])) : Qu Pr S (Instr.build 152 #[(1, x1), (8, x8), (7, x7)]) K :=
  q_build (cs := #[(Value.int .u64 0), x1, (Value.int .u64 0), (Value.int .u64 0), (Value.int .u64 0), (Value.bool false), (Value.bool false), x7, x8]) (by simp [Instr.fill, one_cells' h1, one_cells' h8, one_cells' h7, cells_agg]) k
theorem b156_ {S : World → Prop} {K : Value → Prop}  (k : K (.agg #[])) : Qu Pr S (Instr.build 156 #[]) K :=
  q_build (cs := #[]) (by simp [Instr.fill, cells_agg]) k
theorem b32_0_1_2_3_4_5_7_10_11_14_15_16_17_18_19_20_21_22_23_24 {S : World → Prop} {K : Value → Prop} {x0 x1 x2 x3 x4 x5_0 x5_1 x5_2 x5_3 x5_4 x5_5 x5_6 x5_7 x7 x10 x11 x14 x15 x16 x17 x18 x19 x20 x21 x22 x23 x24 : Value} (h0 : one x0 = true) (h1 : one x1 = true) (h2 : one x2 = true) (h3 : one x3 = true) (h4 : one x4 = true) (h7 : one x7 = true) (h10 : one x10 = true) (h11 : one x11 = true) (h14 : one x14 = true) (h15 : one x15 = true) (h16 : one x16 = true) (h17 : one x17 = true) (h18 : one x18 = true) (h19 : one x19 = true) (h20 : one x20 = true) (h21 : one x21 = true) (h22 : one x22 = true) (h23 : one x23 = true) (h24 : one x24 = true) (k : K (.agg #[x0, x1, x2, x3, x4, x5_0, x5_1, x5_2, x5_3, x5_4, x5_5, x5_6, x5_7, (Value.slice none 0 0), x7, (Value.int .u64 0), (Value.int .u64 0), x10, x11, (Value.slice none 0 0), (Value.slice none 0 0), x14, x15, x16, x17, x18, x19, x20, x21, x22, x23, x24])) : Qu Pr S (Instr.build 32 #[(0, x0), (1, x1), (2, x2), (3, x3), (4, x4), (5, .agg #[x5_0, x5_1, x5_2, x5_3, x5_4, x5_5, x5_6, x5_7]), (7, x7), (10, x10), (11, x11), (14, x14), (15, x15), (16, x16), (17, x17), (18, x18), (19, x19), (20, x20), (21, x21), (22, x22), (23, x23), (24, x24)]) K :=
  q_build (cs := #[x0, x1, x2, x3, x4, x5_0, x5_1, x5_2, x5_3, x5_4, x5_5, x5_6, x5_7, (Value.slice none 0 0), x7, (Value.int .u64 0), (Value.int .u64 0), x10, x11, (Value.slice none 0 0), (Value.slice none 0 0), x14, x15, x16, x17, x18, x19, x20, x21, x22, x23, x24]) (by simp [Instr.fill, one_cells' h0, one_cells' h1, one_cells' h2, one_cells' h3, one_cells' h4, one_cells' h7, one_cells' h10, one_cells' h11, one_cells' h14, one_cells' h15, one_cells' h16, one_cells' h17, one_cells' h18, one_cells' h19, one_cells' h20, one_cells' h21, one_cells' h22, one_cells' h23, one_cells' h24, cells_agg]) k
theorem b209_0_1 {S : World → Prop} {K : Value → Prop} {x0_0 x0_1 x0_2 x0_3 x0_4 x0_5 x0_6 x0_7 x0_8 x1 : Value} (h1 : one x1 = true) (k : K (.agg #[x0_0, x0_1, x0_2, x0_3, x0_4, x0_5, x0_6, x0_7, x0_8, x1])) : Qu Pr S (Instr.build 209 #[(0, .agg #[x0_0, x0_1, x0_2, x0_3, x0_4, x0_5, x0_6, x0_7, x0_8]), (1, x1)]) K :=
  q_build (cs := #[x0_0, x0_1, x0_2, x0_3, x0_4, x0_5, x0_6, x0_7, x0_8, x1]) (by simp [Instr.fill, one_cells' h1, cells_agg]) k
theorem b202_0_1 {S : World → Prop} {K : Value → Prop} {x0 x1 : Value} (h0 : one x0 = true) (h1 : one x1 = true) (k : K (.agg #[x0, x1])) : Qu Pr S (Instr.build 202 #[(0, x0), (1, x1)]) K :=
  q_build (cs := #[x0, x1]) (by simp [Instr.fill, one_cells' h0, one_cells' h1, cells_agg]) k
theorem b200_0_1_2_3_4 {S : World → Prop} {K : Value → Prop} {x0 x1 x2 x3 x4 : Value} (h0 : one x0 = true) (h1 : one x1 = true) (h2 : one x2 = true) (h3 : one x3 = true) (h4 : one x4 = true) (k : K (.agg #[x0, x1, x2, x3, x4])) : Qu Pr S (Instr.build 200 #[(0, x0), (1, x1), (2, x2), (3, x3), (4, x4)]) K :=
  q_build (cs := #[x0, x1, x2, x3, x4]) (by simp [Instr.fill, one_cells' h0, one_cells' h1, one_cells' h2, one_cells' h3, one_cells' h4, cells_agg]) k
theorem b119_1_0_5 {S : World → Prop} {K : Value → Prop} {x1 x0 x5 : Value} (h1 : one x1 = true) (h0 : one x0 = true) (h5 : one x5 = true) (k : K (.agg #[x0, x1, (Value.pointer none), (Value.pointer none), (Value.pointer none), x5, (Value.slice none 0 0), (Value.pointer none), (Value.pointer none), (Value.pointer none), (Value.pointer none), (Value.pointer none), (Value.slice none 0 0), (Value.slice none 0 0)])) : Qu Pr S (Instr.build 119 #[(1, x1), (0, x0), (5, x5)]) K :=
  q_build (cs := #[x0, x1, (Value.pointer none), (Value.pointer none), (Value.pointer none), x5, (Value.slice none 0 0), (Value.pointer none), (Value.pointer none), (Value.pointer none), (Value.pointer none), (Value.pointer none), (Value.slice none 0 0), (Value.slice none 0 0)]) (by simp [Instr.fill, one_cells' h1, one_cells' h0, one_cells' h5, cells_agg]) k
theorem b215_ {S : World → Prop} {K : Value → Prop}  (k : K (.agg #[(Value.pointer none), (Value.pointer none), (Value.pointer none), (Value.slice none 0 0)])) : Qu Pr S (Instr.build 215 #[]) K :=
  q_build (cs := #[(Value.pointer none), (Value.pointer none), (Value.pointer none), (Value.slice none 0 0)]) (by simp [Instr.fill, cells_agg]) k
theorem b225_2 {S : World → Prop} {K : Value → Prop} {x2 : Value} (h2 : one x2 = true) (k : K (.agg #[(Value.pointer none), (Value.pointer none), x2, (Value.int .i64 0), (Value.int .i64 0), (Value.int .i64 0), (Value.int .i64 0), (Value.int .i64 0), (Value.int .i64 0)])) : Qu Pr S (Instr.build 225 #[(2, x2)]) K :=
  q_build (cs := #[(Value.pointer none), (Value.pointer none), x2, (Value.int .i64 0), (Value.int .i64 0), (Value.int .i64 0), (Value.int .i64 0), (Value.int .i64 0), (Value.int .i64 0)]) (by simp [Instr.fill, one_cells' h2, cells_agg]) k
theorem b215_0_1 {S : World → Prop} {K : Value → Prop} {x0 x1 : Value} (h0 : one x0 = true) (h1 : one x1 = true) (k : K (.agg #[x0, x1, (Value.pointer none), (Value.slice none 0 0)])) : Qu Pr S (Instr.build 215 #[(0, x0), (1, x1)]) K :=
  q_build (cs := #[x0, x1, (Value.pointer none), (Value.slice none 0 0)]) (by simp [Instr.fill, one_cells' h0, one_cells' h1, cells_agg]) k
theorem b134_0_1 {S : World → Prop} {K : Value → Prop} {x0 x1 : Value} (h0 : one x0 = true) (h1 : one x1 = true) (k : K (.agg #[x0, x1])) : Qu Pr S (Instr.build 134 #[(0, x0), (1, x1)]) K :=
  q_buildA (cs := #[x0, x1]) (by simp [Instr.fill, one_cells' h0, one_cells' h1, cells_agg]) k
theorem b136_0_2_3 {S : World → Prop} {K : Value → Prop} {x0_0 x0_1 x2 x3 : Value} (h2 : one x2 = true) (h3 : one x3 = true) (k : K (.agg #[x0_0, x0_1, (Value.bool false), x2, x3])) : Qu Pr S (Instr.build 136 #[(0, .agg #[x0_0, x0_1]), (2, x2), (3, x3)]) K :=
  q_build (cs := #[x0_0, x0_1, (Value.bool false), x2, x3]) (by simp [Instr.fill, one_cells' h2, one_cells' h3, cells_agg]) k
theorem b141_3_4_0_2_1 {S : World → Prop} {K : Value → Prop} {x3 x4 x0_0 x0_1 x0_2 x0_3 x0_4 x2 x1 : Value} (h3 : one x3 = true) (h4 : one x4 = true) (h2 : one x2 = true) (h1 : one x1 = true) (k : K (.agg #[x0_0, x0_1, x0_2, x0_3, x0_4, x1, x2, x3, x4])) : Qu Pr S (Instr.build 141 #[(3, x3), (4, x4), (0, .agg #[x0_0, x0_1, x0_2, x0_3, x0_4]), (2, x2), (1, x1)]) K :=
  q_build (cs := #[x0_0, x0_1, x0_2, x0_3, x0_4, x1, x2, x3, x4]) (by simp [Instr.fill, one_cells' h3, one_cells' h4, one_cells' h2, one_cells' h1, cells_agg]) k
theorem b230_3_4 {S : World → Prop} {K : Value → Prop} {x3 x4 : Value} (h3 : one x3 = true) (h4 : one x4 = true) (k : K (.agg #[(Value.int .i64 0), (Value.int .i64 0), (Value.int .u64 0), x3, x4, (Value.slice none 0 0)])) : Qu Pr S (Instr.build 230 #[(3, x3), (4, x4)]) K :=
  q_build (cs := #[(Value.int .i64 0), (Value.int .i64 0), (Value.int .u64 0), x3, x4, (Value.slice none 0 0)]) (by simp [Instr.fill, one_cells' h3, one_cells' h4, cells_agg]) k
theorem b152_0_1_3_4_5_6_8_7 {S : World → Prop} {K : Value → Prop} {x0 x1 x3 x4 x5 x6 x8 x7 : Value} (h0 : one x0 = true) (h1 : one x1 = true) (h3 : one x3 = true) (h4 : one x4 = true) (h5 : one x5 = true) (h6 : one x6 = true) (h8 : one x8 = true) (h7 : one x7 = true) (k : K (.agg #[x0, x1, (Value.int .u64 0), x3, x4, x5, x6, x7, x8])) : Qu Pr S (Instr.build 152 #[(0, x0), (1, x1), (3, x3), (4, x4), (5, x5), (6, x6), (8, x8), (7, x7)]) K :=
  q_build (cs := #[x0, x1, (Value.int .u64 0), x3, x4, x5, x6, x7, x8]) (by simp [Instr.fill, one_cells' h0, one_cells' h1, one_cells' h3, one_cells' h4, one_cells' h5, one_cells' h6, one_cells' h8, one_cells' h7, cells_agg]) k
theorem b187_0_1_2_12_13_8_9_21_20_23_22_24_18_19_5_6_16_4_7_17 {S : World → Prop} {K : Value → Prop} {x0 x1 x2 x12 x13 x8 x9 x21 x20 x23 x22 x24 x18 x19 x5 x6 x16 x4 x7_0 x7_1 x7_2 x7_3 x7_4 x7_5 x7_6 x7_7 x7_8 x17 : Value} (h0 : one x0 = true) (h1 : one x1 = true) (h2 : one x2 = true) (h12 : one x12 = true) (h13 : one x13 = true) (h8 : one x8 = true) (h9 : one x9 = true) (h21 : one x21 = true) (h20 : one x20 = true) (h23 : one x23 = true) (h22 : one x22 = true) (h24 : one x24 = true) (h18 : one x18 = true) (h19 : one x19 = true) (h5 : one x5 = true) (h6 : one x6 = true) (h16 : one x16 = true) (h4 : one x4 = true) (h17 : one x17 = true) (k : K (.agg #[x0, x1, x2, (Value.slice none 0 0), x4, x5, x6, x7_0, x7_1, x7_2, x7_3, x7_4, x7_5, x7_6, x7_7, x7_8, x8, x9, (Value.slice none 0 0), (Value.slice none 0 0), x12, x13, (Value.int .u64 0), (Value.bool false), x16, x17, x18, x19, x20, x21, x22, x23, x24, (Value.bool false), (Value.bool false), Value.nilFunc, Value.nilFunc, (Value.slice none 0 0), (Value.slice none 0 0), (Value.int .i64 0)])) : Qu Pr S (Instr.build 187 #[(0, x0), (1, x1), (2, x2), (12, x12), (13, x13), (8, x8), (9, x9), (21, x21), (20, x20), (23, x23), (22, x22), (24, x24), (18, x18), (19, x19), (5, x5), (6, x6), (16, x16), (4, x4), (7, .agg #[x7_0, x7_1, x7_2, x7_3, x7_4, x7_5, x7_6, x7_7, x7_8]), (17, x17)]) K :=
  q_build (cs := #[x0, x1, x2, (Value.slice none 0 0), x4, x5, x6, x7_0, x7_1, x7_2, x7_3, x7_4, x7_5, x7_6, x7_7, x7_8, x8, x9, (Value.slice none 0 0), (Value.slice none 0 0), x12, x13, (Value.int .u64 0), (Value.bool false), x16, x17, x18, x19, x20, x21, x22, x23, x24, (Value.bool false), (Value.bool false), Value.nilFunc, Value.nilFunc, (Value.slice none 0 0), (Value.slice none 0 0), (Value.int .i64 0)]) (by simp [Instr.fill, one_cells' h0, one_cells' h1, one_cells' h2, one_cells' h12, one_cells' h13, one_cells' h8, one_cells' h9, one_cells' h21, one_cells' h20, one_cells' h23, one_cells' h22, one_cells' h24, one_cells' h18, one_cells' h19, one_cells' h5, one_cells' h6, one_cells' h16, one_cells' h4, one_cells' h17, cells_agg]) k
theorem b56_0_1_2_3 {S : World → Prop} {K : Value → Prop} {x0 x1 x2 x3 : Value} (h0 : one x0 = true) (h1 : one x1 = true) (h2 : one x2 = true) (h3 : one x3 = true) (k : K (.agg #[x0, x1, x2, x3])) : Qu Pr S (Instr.build 56 #[(0, x0), (1, x1), (2, x2), (3, x3)]) K :=
  q_build (cs := #[x0, x1, x2, x3]) (by simp [Instr.fill, one_cells' h0, one_cells' h1, one_cells' h2, one_cells' h3, cells_agg]) k
theorem b27_0_1_2_3 {S : World → Prop} {K : Value → Prop} {x0 x1 x2 x3_0 x3_1 x3_2 x3_3 x3_4 : Value} (h0 : one x0 = true) (h1 : one x1 = true) (h2 : one x2 = true) (k : K (.agg #[x0, x1, x2, x3_0, x3_1, x3_2, x3_3, x3_4])) : Qu Pr S (Instr.build 27 #[(0, x0), (1, x1), (2, x2), (3, .agg #[x3_0, x3_1, x3_2, x3_3, x3_4])]) K :=
  q_build (cs := #[x0, x1, x2, x3_0, x3_1, x3_2, x3_3, x3_4]) (by simp [Instr.fill, one_cells' h0, one_cells' h1, one_cells' h2, cells_agg]) k
theorem b60_0_1 {S : World → Prop} {K : Value → Prop} {x0 x1_0 x1_1 x1_2 x1_3 x1_4 x1_5 x1_6 x1_7 x1_8 x1_9 x1_10 : Value} (h0 : one x0 = true) (k : K (.agg #[x0, x1_0, x1_1, x1_2, x1_3, x1_4, x1_5, x1_6, x1_7, x1_8, x1_9, x1_10])) : Qu Pr S (Instr.build 60 #[(0, x0), (1, .agg #[x1_0, x1_1, x1_2, x1_3, x1_4, x1_5, x1_6, x1_7, x1_8, x1_9, x1_10])]) K :=
  q_build (cs := #[x0, x1_0, x1_1, x1_2, x1_3, x1_4, x1_5, x1_6, x1_7, x1_8, x1_9, x1_10]) (by simp [Instr.fill, one_cells' h0, cells_agg]) k
theorem b58_0_1_2_3_4_5_6 {S : World → Prop} {K : Value → Prop} {x0 x1 x2 x3 x4 x5 x6 : Value} (h0 : one x0 = true) (h1 : one x1 = true) (h2 : one x2 = true) (h3 : one x3 = true) (h4 : one x4 = true) (h5 : one x5 = true) (h6 : one x6 = true) (k : K (.agg #[x0, x1, x2, x3, x4, x5, x6, (Value.int .i64 0), (Value.int .u64 0), (Value.slice none 0 0), (Value.slice none 0 0)])) : Qu Pr S (Instr.build 58 #[(0, x0), (1, x1), (2, x2), (3, x3), (4, x4), (5, x5), (6, x6)]) K :=
  q_build (cs := #[x0, x1, x2, x3, x4, x5, x6, (Value.int .i64 0), (Value.int .u64 0), (Value.slice none 0 0), (Value.slice none 0 0)]) (by simp [Instr.fill, one_cells' h0, one_cells' h1, one_cells' h2, one_cells' h3, one_cells' h4, one_cells' h5, one_cells' h6, cells_agg]) k
theorem b64_0_1_2_3_4_5_6_7_8_9_10_11_12 {S : World → Prop} {K : Value → Prop} {x0 x1 x2 x3 x4 x5 x6 x7 x8 x9 x10_0 x10_1 x10_2 x10_3 x10_4 x10_5 x10_6 x10_7 x11 x12 : Value} (h0 : one x0 = true) (h1 : one x1 = true) (h2 : one x2 = true) (h3 : one x3 = true) (h4 : one x4 = true) (h5 : one x5 = true) (h6 : one x6 = true) (h7 : one x7 = true) (h8 : one x8 = true) (h9 : one x9 = true) (h11 : one x11 = true) (h12 : one x12 = true) (k : K (.agg #[x0, x1, x2, x3, x4, x5, x6, x7, x8, x9, x10_0, x10_1, x10_2, x10_3, x10_4, x10_5, x10_6, x10_7, x11, x12, (Value.slice none 0 0)])) : Qu Pr S (Instr.build 64 #[(0, x0), (1, x1), (2, x2), (3, x3), (4, x4), (5, x5), (6, x6), (7, x7), (8, x8), (9, x9), (10, .agg #[x10_0, x10_1, x10_2, x10_3, x10_4, x10_5, x10_6, x10_7]), (11, x11), (12, x12)]) K :=
  q_build (cs := #[x0, x1, x2, x3, x4, x5, x6, x7, x8, x9, x10_0, x10_1, x10_2, x10_3, x10_4, x10_5, x10_6, x10_7, x11, x12, (Value.slice none 0 0)]) (by simp [Instr.fill, one_cells' h0, one_cells' h1, one_cells' h2, one_cells' h3, one_cells' h4, one_cells' h5, one_cells' h6, one_cells' h7, one_cells' h8, one_cells' h9, one_cells' h11, one_cells' h12, cells_agg]) k
theorem b215_0_1_3 {S : World → Prop} {K : Value → Prop} {x0 x1 x3 : Value} (h0 : one x0 = true) (h1 : one x1 = true) (h3 : one x3 = true) (k : K (.agg #[x0, x1, (Value.pointer none), x3])) : Qu Pr S (Instr.build 215 #[(0, x0), (1, x1), (3, x3)]) K :=
  q_build (cs := #[x0, x1, (Value.pointer none), x3]) (by simp [Instr.fill, one_cells' h0, one_cells' h1, one_cells' h3, cells_agg]) k
theorem b194_2_4 {S : World → Prop} {K : Value → Prop} {x2 x4 : Value} (h2 : one x2 = true) (h4 : one x4 = true) (k : K (.agg #[(Value.pointer none), (Value.slice none 0 0), x2, (Value.bool false), x4])) : Qu Pr S (Instr.build 194 #[(2, x2), (4, x4)]) K :=
  q_build (cs := #[(Value.pointer none), (Value.slice none 0 0), x2, (Value.bool false), x4]) (by simp [Instr.fill, one_cells' h2, one_cells' h4, cells_agg]) k
theorem b196_0_1_5_2_3_4 {S : World → Prop} {K : Value → Prop} {x0 x1_0 x1_1 x1_2 x1_3 x1_4 x5 x2 x3 x4 : Value} (h0 : one x0 = true) (h5 : one x5 = true) (h2 : one x2 = true) (h3 : one x3 = true) (h4 : one x4 = true) (k : K (.agg #[x0, x1_0, x1_1, x1_2, x1_3, x1_4, x2, x3, x4, x5, (Value.int .u64 0), (Value.bool false)])) : Qu Pr S (Instr.build 196 #[(0, x0), (1, .agg #[x1_0, x1_1, x1_2, x1_3, x1_4]), (5, x5), (2, x2), (3, x3), (4, x4)]) K :=
  q_build (cs := #[x0, x1_0, x1_1, x1_2, x1_3, x1_4, x2, x3, x4, x5, (Value.int .u64 0), (Value.bool false)]) (by simp [Instr.fill, one_cells' h0, one_cells' h5, one_cells' h2, one_cells' h3, one_cells' h4, cells_agg]) k
theorem b265_0_1 {S : World → Prop} {K : Value → Prop} {x0 x1 : Value} (h0 : one x0 = true) (h1 : one x1 = true) (k : K (.agg #[x0, x1, (Value.slice none 0 0), (Value.int .u64 0)])) : Qu Pr S (Instr.build 265 #[(0, x0), (1, x1)]) K :=
  q_build (cs := #[x0, x1, (Value.slice none 0 0), (Value.int .u64 0)]) (by simp [Instr.fill, one_cells' h0, one_cells' h1, cells_agg]) k
theorem b25_0_1_2_3_4 {S : World → Prop} {K : Value → Prop} {x0 x1 x2 x3 x4 : Value} (h0 : one x0 = true) (h1 : one x1 = true) (h2 : one x2 = true) (h3 : one x3 = true) (h4 : one x4 = true) (k : K (.agg #[x0, x1, x2, x3, x4])) : Qu Pr S (Instr.build 25 #[(0, x0), (1, x1), (2, x2), (3, x3), (4, x4)]) K :=
  q_build (cs := #[x0, x1, x2, x3, x4]) (by simp [Instr.fill, one_cells' h0, one_cells' h1, one_cells' h2, one_cells' h3, one_cells' h4, cells_agg]) k
theorem b309_0_1 {S : World → Prop} {K : Value → Prop} {x0 x1 : Value} (h0 : one x0 = true) (h1 : one x1 = true) (k : K (.agg #[x0, x1])) : Qu Pr S (Instr.build 309 #[(0, x0), (1, x1)]) K :=
  q_build (cs := #[x0, x1]) (by simp [Instr.fill, one_cells' h0, one_cells' h1, cells_agg]) k
theorem b200_0_2_1_3_4 {S : World → Prop} {K : Value → Prop} {x0 x2 x1 x3 x4 : Value} (h0 : one x0 = true) (h2 : one x2 = true) (h1 : one x1 = true) (h3 : one x3 = true) (h4 : one x4 = true) (k : K (.agg #[x0, x1, x2, x3, x4])) : Qu Pr S (Instr.build 200 #[(0, x0), (2, x2), (1, x1), (3, x3), (4, x4)]) K :=
  q_build (cs := #[x0, x1, x2, x3, x4]) (by simp [Instr.fill, one_cells' h0, one_cells' h2, one_cells' h1, one_cells' h3, one_cells' h4, cells_agg]) k
theorem b133_0_1 {S : World → Prop} {K : Value → Prop} {x0 x1 : Value} (h0 : one x0 = true) (h1 : one x1 = true) (k : K (.agg #[x0, x1])) : Qu Pr S (Instr.build 133 #[(0, x0), (1, x1)]) K :=
  q_buildA (cs := #[x0, x1]) (by simp [Instr.fill, one_cells' h0, one_cells' h1, cells_agg]) k
theorem b152_0_1_7_8_5 {S : World → Prop} {K : Value → Prop} {x0 x1 x7 x8 x5 : Value} (h0 : one x0 = true) (h1 : one x1 = true) (h7 : one x7 = true) (h8 : one x8 = true) (h5 : one x5 = true) (k : K (.agg #[x0, x1, (Value.int .u64 0), (Value.int .u64 0), (Value.int .u64 0), x5, (Value.bool false), x7, x8])) : Qu Pr S (Instr.build 152 #[(0, x0), (1, x1), (7, x7), (8, x8), (5, x5)]) K :=
  q_build (cs := #[x0, x1, (Value.int .u64 0), (Value.int .u64 0), (Value.int .u64 0), x5, (Value.bool false), x7, x8]) (by simp [Instr.fill, one_cells' h0, one_cells' h1, one_cells' h7, one_cells' h8, one_cells' h5, cells_agg]) k
end Go.Proofs.YtmmpogfbhelioaaGreat
/-
  Steps as theorems whose last argument a tactic finds: a step through plain operations, a fact lifted to a later world, a world that follows.
  Conditions: none.
-/
namespace Go.Proofs.YtmmpogfbhelioaaGreat
set_option maxRecDepth 10000
set_option linter.unusedVariables false
set_option linter.unusedSimpArgs false
/-- What a step hands on: the goal behind it. -/
structure Stp (G H : Prop) : Prop where
  mk :: f : H → G
structure Hld (p : Prop) : Prop where
  out : p
theorem Stp.of {G H : Prop} (f : Hld H → G) : Stp G H := ⟨fun h => f ⟨h⟩⟩
theorem bk_ {p : Prop} (h : p := by (repeat (first | assumption | refine Ex.at_ (by assumption) ?_ | refine Up.at_ (by assumption) ?_ rfl | refine Up.off (by assumption) ?_ (by intro h; (try clear hS); (try subst h); omega)))) : p := h
theorem ex_ {p : Prop} (h : p := by (repeat (first | assumption | exact Up.refl _ _ _ | refine Up.trans ?_ (by assumption) | refine Up.ex ?_ (by assumption) | refine Up.new ?_ (by assumption) (by intro _ h; (try clear hS); (try subst h); omega)))) : p := h
theorem lf_ {p : Prop} (h : p := by (repeat (first | assumption | refine Sl.ex (by assumption) ?_ | refine PE.ex (by assumption) ?_ | refine PEs.ex (by assumption) ?_ | refine PC.ex (by assumption) ?_ | refine PM.ex (by assumption) ?_ | refine PS.ex (by assumption) ?_ | refine PN.ex (by assumption) ?_ | refine PBo.ex (by assumption) ?_ | refine PN1.ex (by assumption) ?_ | refine PB1.ex (by assumption) ?_ | refine Mp.ex (by assumption) ?_ | refine It.ex (by assumption) ?_ | refine Own.ex (by assumption) ?_ | refine Cu.ex (by assumption) ?_ | refine PE.mt rfl (by assumption) ?_ | refine PEs.mt rfl (by assumption) ?_ | refine PC.mt rfl (by assumption) ?_ | refine PM.mt rfl (by assumption) ?_ | refine PS.mt rfl (by assumption) ?_ | refine PBo.mt rfl (by assumption) ?_ | refine PB1.mt rfl (by assumption) ?_ | refine Sl.typ (by assumption) ?_ rfl | refine PN.mt rfl (by assumption) ?_ | refine PN1.mt rfl (by assumption) ?_))) : p := h
theorem nm_ {p : Prop} (h : p := by (try simp only [List.getElem?_toArray, List.getElem?_cons_zero, List.getElem?_cons_succ, List.setIfInBounds_toArray, List.set_cons_zero, List.set_cons_succ, List.toList_toArray, List.drop_zero, List.drop_succ_cons, List.take_zero, List.take_succ_cons, Nat.zero_add, Nat.add_zero, Nat.reduceAdd, putCells]) <;> rfl) : p := h
theorem go {G H : Prop} (h : H) (s : Stp G H := by (apply Stp.of; intro hS; (first | (refine gd_ff ?_) | (refine gd_tf ?_) | (refine gd_tt ?_) | (refine gd_ft ?_) | (refine gd_un ?_) | (refine q_fa ?_) | (refine q_nil ?_) | (refine q_pick_t ?_) | (refine q_pick_f ?_) | (refine q_not ?_) | (refine if_t ?_) | (refine if_f ?_) | (refine e_boxA ?_) | (refine e_box1 (by first | rfl | assumption) ?_) | (refine e_allocA ?_) | (refine e_alloc1 rfl ?_) | (refine q_len ?_) | (refine q_lenS ?_) | (refine q_lenSl lf_ ?_) | (refine q_conv ?_) | (refine q_neqP0 ?_) | (refine q_eqlP0 ?_) | (refine q_neqI1 ?_) | (refine q_eqlI1 ?_) | (refine q_neqI0 rfl ?_) | (refine q_eqlI0 rfl ?_) | (refine q_eqlZ0 ?_) | (refine q_neqZ0 ?_) | (refine q_eqlM0 ?_) | (refine q_neqM0 ?_) | (refine q_eql ?_) | (refine q_neq ?_) | (refine q_lss ?_) | (refine q_leq ?_) | (refine q_gtr ?_) | (refine q_geq ?_) | (refine q_add ?_) | (refine q_sub ?_) | (refine q_mul ?_) | (refine q_eqlS ?_) | (refine q_neqS ?_) | (refine q_eqlB ?_) | (refine q_neqB ?_) | (refine q_mkf ?_)); exact hS.out)) : G := s.f h
theorem gon {G H : Prop} (h : H) (s : Stp G H := by (apply Stp.of; intro hS; (first | (refine q_ld bk_ nm_ ?_) | (refine q_ldU bk_ rfl nm_ ?_) | (refine q_ldW bk_ (by rfl) ?_) | (refine q_ldWU bk_ rfl (by rfl) ?_) | (refine q_ldP bk_ (Nat.le_of_ble_eq_true rfl) nm_ ?_) | (refine q_ldPU bk_ rfl (Nat.le_of_ble_eq_true rfl) nm_ ?_) | (refine q_ext nm_ ?_) | (refine u_st bk_ (Nat.le_of_ble_eq_true rfl) (by first | rfl | assumption) nm_ ?_) | (refine u_stA bk_ (Nat.le_of_ble_eq_true rfl) (by rfl) (by rfl) nm_ ?_) | (refine q_field nm_ ?_)); exact hS.out)) : G := s.f h

end Go.Proofs.YtmmpogfbhelioaaGreat
/-
  The data of the program as Lean sees it: entries, configurations, snapshots, machines; plain ones and the package's.
  Conditions: none.
-/
namespace Go.Proofs.YtmmpogfbhelioaaGreat
set_option maxRecDepth 10000
set_option linter.unusedVariables false
set_option linter.unusedSimpArgs false

/-- Nothing that was there has turned. -/
theorem Up.no {C : Nat → Prop} {T : List Nat} {w w' : World} (h : Up C T w w') (hC : ∀ b, b < w.heap.size → ¬ C b) : Ex w w' :=
  ⟨h.size, h.os, h.tape, h.output, fun b o hb _ => h.keep b o hb (.inr (hC b hb.lt))⟩

abbrev MT : List Nat := [0, 1, 189, 198, 227, 154, 232]

/-- The types of the blocks in which data lies. -/
abbrev DT : List Nat := [215, 22, 233, 5, 200, 106, 108, 4]
/-- Kinds that are not those of data. -/
def okT (T : List Nat) : Bool := DT.all fun t => !T.contains (t + 2)
theorem okT.out {T : List Nat} (h : okT T = true) {t : Nat} (ht : DT.contains t = true) : T.contains (t + 2) = false := by
  have := List.all_eq_true.1 h t (List.contains_iff_mem.1 ht)
  simpa using this

/-- What stays while no block of data turns. -/
class StU (F : World → Prop) : Prop where up : ∀ (C : Nat → Prop) (T : List Nat) w w', okT T = true → Up C T w w' → F w → F w'
instance (priority := 50) {F : World → Prop} [h : StU F] : St F := ⟨fun w w' e f => h.up No [] w w' rfl e f⟩

theorem StU.and {F G : World → Prop} (f : StU F) (g : StU G) : StU fun w => F w ∧ G w := ⟨fun C T w w' o u h => ⟨f.up C T w w' o u h.1, g.up C T w w' o u h.2⟩⟩
theorem StU.ex {α : Sort _} {F : α → World → Prop} (f : ∀ a, StU (F a)) : StU fun w => ∃ a, F a w := ⟨fun C T w w' o u ⟨a, h⟩ => ⟨a, (f a).up C T w w' o u h⟩⟩
theorem StU.or {F G : World → Prop} (f : StU F) (g : StU G) : StU fun w => F w ∨ G w := ⟨fun C T w w' o u h => h.elim (fun h => .inl (f.up C T w w' o u h)) fun h => .inr (g.up C T w w' o u h)⟩
theorem StU.con {p : Prop} : StU fun _ => p := ⟨fun _ _ _ _ _ _ h => h⟩
theorem StU.bk {b : Nat} {cs : Array Value} {t : TypeId} {fz : Nat × Nat} (hT : DT.contains t = true) : StU fun w => Bk w b (.cells cs t fz) := ⟨fun _ _ _ _ o u h => u.at_ h (okT.out o hT)⟩
theorem StU.sl {e n : Nat} {v : Value} {xs : List (List Value)} (hT : DT.contains e = true) : StU fun w => Sl w (some e) n v xs := ⟨fun _ _ _ _ o u h => h.typ u (okT.out o hT)⟩
theorem StU.all {α : Type} {F : α → World → Prop} {l : List α} (f : ∀ a, StU (F a)) : StU fun w => ∀ a ∈ l, F a w := ⟨fun C T w w' o u h a ha => (f a).up C T w w' o u (h a ha)⟩

/-! Numbers. -/

theorem wrap64 {n : Int} (h0 : -9223372036854775808 ≤ n) (h1 : n ≤ 9223372036854775807) : IntKind.i64.wrap n = n := IntWalk.i64_in n ⟨h0, h1⟩
theorem wrapU {n : Int} (h0 : 0 ≤ n) (h1 : n ≤ 18446744073709551615) : IntKind.u64.wrap n = n := IntWalk.u64_in n ⟨h0, h1⟩
theorem wrapS {j : Nat} (h : j ≤ 9223372036854775806) : IntKind.i64.wrap ((j : Int) + 1) = ((j + 1 : Nat) : Int) := by
  rw [wrap64 (by omega) (by omega)]; rfl

def nums (l : List Int) : List (List Value) := l.map fun x => [.int .u64 x]
/-- A slice of the numbers l. -/
abbrev Nums (w : World) (te : Option Nat) (v : Value) (l : List Int) : Prop := Sl w te 1 v (nums l)

/-- A pointer to a number, or nil, which says 0. -/
def PN (t : Nat) (k : IntKind) (v : Value) (n : Int) (w : World) : Prop := (v = .pointer none ∧ n = 0) ∨ ∃ b, v = .pointer (some ⟨b, 0, none⟩) ∧ Bk w b (.cells #[.int k n] t (0, 0))
theorem PN.stU {t : Nat} {k : IntKind} {v : Value} {n : Int} (hT : DT.contains t = true) : StU (PN t k v n) := StU.or StU.con (StU.ex fun _ => StU.and StU.con (StU.bk hT))
def PBo (v : Value) (p : Bool) (w : World) : Prop := (v = .pointer none ∧ p = false) ∨ ∃ b, v = .pointer (some ⟨b, 0, none⟩) ∧ Bk w b (.cells #[.bool p] 4 (0, 0))
/-- A pointer to a number. -/
def PN1 (t : Nat) (k : IntKind) (v : Value) (n : Int) (w : World) : Prop := ∃ b, v = .pointer (some ⟨b, 0, none⟩) ∧ Bk w b (.cells #[.int k n] t (0, 0))
def PB1 (v : Value) (p : Bool) (w : World) : Prop := ∃ b, v = .pointer (some ⟨b, 0, none⟩) ∧ Bk w b (.cells #[.bool p] 4 (0, 0))
theorem PN1.stU {t : Nat} {k : IntKind} {v : Value} {n : Int} (hT : DT.contains t = true) : StU (PN1 t k v n) := StU.ex fun _ => StU.and StU.con (StU.bk hT)
theorem PB1.stU {v : Value} {p : Bool} : StU (PB1 v p) := StU.ex fun _ => StU.and StU.con (StU.bk rfl)
theorem PN1.one {t : Nat} {k : IntKind} {v : Value} {n : Int} {w : World} (h : PN1 t k v n w) : one v = true := by
  obtain ⟨b, rfl, _⟩ := h; rfl
theorem PB1.one {v : Value} {p : Bool} {w : World} (h : PB1 v p w) : one v = true := by
  obtain ⟨b, rfl, _⟩ := h; rfl
theorem PN.one {t : Nat} {k : IntKind} {v : Value} {n : Int} {w : World} (h : PN t k v n w) : one v = true := by
  rcases h with ⟨rfl, _⟩ | ⟨b, rfl, _⟩ <;> rfl
theorem PBo.one {v : Value} {p : Bool} {w : World} (h : PBo v p w) : one v = true := by
  rcases h with ⟨rfl, _⟩ | ⟨b, rfl, _⟩ <;> rfl

section
variable {P : Program} {K : Value → Prop} {S : World → Prop} {w : World} {te : Option Nat}
theorem q_ixs {t e t' : Nat} [TSli P t e 1] [TCell P t'] {v : Value} {xs : List (List Value)} {i : Int} {k : IntKind} (j : Nat) {x : Value} {K : Value → Value → Prop} (hv : Sl w te 1 v xs) (hi : i = j) (hx : xs[j]? = some [x])
    (kk : ∀ p, K p x) : Qu P S (Instr.indexAt t v (.int k i)) fun p => Qu P (Is w) (Instr.loadAt t' p) (K p) := q_ixS j hv (fun w' h => by cases h; exact hv) hi hx kk
theorem q_ixsE {t e t' : Nat} [TSli P t e 1] [TCell P t'] {v : Value} {xs : List (List Value)} {i : Int} {k : IntKind} (j : Nat) {x : Value} {K : Value → Value → Prop} (hv : Sl w te 1 v xs) (hi : i = j) (hx : xs[j]? = some [x])
    (kk : ∀ p, K p x) : Qu P S (Instr.indexAt t v (.int k i)) fun p => Qu P (Ex w) (Instr.loadAt t' p) (K p) := q_ixS j hv (fun _ h => hv.ex h) hi hx kk
theorem q_ixsU {C : Nat → Prop} {T : List Nat} {t e t' te' : Nat} [TSli P t e 1] [TCell P t'] {v : Value} {xs : List (List Value)} {i : Int} {k : IntKind} (j : Nat) {x : Value} {K : Value → Value → Prop} (hv : Sl w (some te') 1 v xs) (hT : T.contains (te' + 2) = false) (hi : i = j) (hx : xs[j]? = some [x])
    (kk : ∀ p, K p x) : Qu P S (Instr.indexAt t v (.int k i)) fun p => Qu P (Up C T w) (Instr.loadAt t' p) (K p) := q_ixS j hv (fun _ h => hv.typ h hT) hi hx kk
theorem q_ixa {t e n t' : Nat} [TSli P t e n] [TAgg P t' n] {v : Value} {xs : List (List Value)} {i : Int} {k : IntKind} (j : Nat) {x : List Value} {K : Value → Value → Prop} (hv : Sl w te n v xs) (hi : i = j) (hx : xs[j]? = some x)
    (kk : ∀ p, K p (.agg x.toArray)) : Qu P S (Instr.indexAt t v (.int k i)) fun p => Qu P (Is w) (Instr.loadAt t' p) (K p) := q_ixA j hv (fun w' h => by cases h; exact hv) hi hx kk
theorem q_ixf {t e n f off s t' : Nat} [TSli P t e n] [TFld P s f off] [TCell P t'] {v : Value} {xs : List (List Value)} {i : Int} {k : IntKind} (j : Nat) {x : List Value} {y : Value} {S' : World → Prop} {K : Value → Value → Value → Prop} (hv : Sl w te n v xs) (hi : i = j) (hx : xs[j]? = some x)
    (hy : x[off]? = some y) (kk : ∀ p q, K p q y) : Qu P S (Instr.indexAt t v (.int k i)) fun p => Qu P S' (Instr.fieldAt s p f) fun q => Qu P (Is w) (Instr.loadAt t' q) (K p q) := q_ixF j hv (fun w' h => by cases h; exact hv) hi hx hy kk
theorem Sl.cap {n : Nat} {a : Option Addr} {l c : Nat} {xs : List (List Value)} (h : Sl w te n (.slice a l c) xs) : l ≤ c := by
  cases h with
  | nil => exact Nat.zero_le _
  | row _ _ _ _ _ _ _ _ hc => exact hc

theorem Sl.pre {n : Nat} {a : Option Addr} {l c i : Nat} {xs : List (List Value)} (h : Sl w te n (.slice a l c) xs) (hi : i ≤ xs.length) : Sl w te n (.slice a i c) (xs.take i) := by
  cases h with
  | nil => simp at hi; subst hi; exact .nil _ _
  | row b o _ cs et fz _ hb hc hm hs hx hn ht =>
    have hl : (xs.take i).length = i := by simp; omega
    have hmul : i * n ≤ xs.length * n := Nat.mul_le_mul_right _ hi
    have := Sl.row (w := w) (te := te) b o c cs et fz (xs.take i) hb (by omega) (by omega) (by rw [hl]; omega) ?_ (fun x hx => hn x (List.mem_of_mem_take hx)) ht
    · rw [hl] at this; exact this
    · rw [hl]
      have h2 : (xs.flatten).take (i * n) = (xs.take i).flatten := by
        clear hx hs hm hc hb hl hmul
        induction i generalizing xs with
        | zero => simp
        | succ i ih =>
          cases xs with
          | nil => simp
          | cons x xs =>
            have hx := hn x (by simp)
            have := ih (by simpa using hi) (fun y hy => hn y (by simp [hy]))
            rw [List.take_succ_cons, List.flatten_cons, List.flatten_cons, ← this, Nat.add_mul, Nat.one_mul, Nat.add_comm, ← hx, List.take_length_add_append]
      rw [← h2, ← hx, List.take_take, Nat.min_eq_left hmul]

def tfcB (P : Program) (s f off : Nat) : Bool := match P.underlying s with
  | some (.struct fs) => (match fs[f]? with | some fd => Nat.beq fd.offset off && (match P.underlying fd.type with | some d => !isAggD d | none => false) | none => false)
  | _ => false
/-- Field f of struct s is one cell, at off. -/
class TFC (P : Program) (s f : Nat) (off : outParam Nat) : Prop where ok : tfcB P s f off = true
theorem q_field {s f off : Nat} [h : TFC P s f off] {cs : Array Value} {x : Value} (hx : cs[off]? = some x) (kk : K x) : Qu P S (Instr.field s (.agg cs) f) K := by
  have hk := h.ok
  unfold tfcB at hk
  split at hk
  · rename_i fs hfs
    split at hk
    · rename_i fd hfd
      simp only [Bool.and_eq_true] at hk
      obtain ⟨h1, h2⟩ := hk
      have h1 := Nat.eq_of_beq_eq_true h1
      split at h2
      · rename_i d hd
        have h2 : isAggD d = false := by simpa using h2
        refine .mk x (fun w _ => ?_) kk
        simp only [Instr.field, Sem.run_bind, run_und hfs, Result.andThen_ok, hfd, asAgg, Sem.run_pure, part, run_isAgg hd, h2, h1, hx]
        simp
      · cases h2
    · cases hk
  · cases hk
instance : TFC Pr 43 4 13 := ⟨by kernel_rfl⟩

/-- From place o on, block b's cells are x. -/
def Elt (w : World) (b o : Nat) (x : List Value) : Prop := ∃ cs et fz, Bk w b (.cells cs et fz) ∧ o + x.length ≤ cs.size ∧ (cs.extract o (o + x.length)).toList = x
theorem Elt.ex {w w' : World} {b o : Nat} {x : List Value} (u : Ex w w') (h : Elt w b o x) : Elt w' b o x := by
  obtain ⟨cs, et, fz, h1, h2⟩ := h
  exact ⟨cs, et, fz, u.at_ h1, h2⟩
theorem q_ix {t e n : Nat} [TSli P t e n] {v : Value} {xs : List (List Value)} {i : Int} {k : IntKind} (j : Nat) {x : List Value} (hv : Sl w te n v xs) (hi : i = j) (hx : xs[j]? = some x)
    (kk : ∀ b o, Elt w b o x → K (.pointer (some ⟨b, o, none⟩))) : Qu P S (Instr.indexAt t v (.int k i)) K := by
  have hj : j < xs.length := (List.getElem?_eq_some_iff.1 hx).1
  have hl := hv.eln x (List.mem_of_getElem? hx)
  obtain ⟨b, o, c, cs, et, fz, rfl, hb, hs, he⟩ := hv.get hx
  exact .mk _ (fun w' _ => run_indexAt hi hj) (kk _ _ ⟨cs, et, fz, hb, by omega, by rw [hl]; exact he⟩)
theorem run_ldE {t b o off : Nat} [TCell P t] {x : List Value} {y : Value} {w : World} (h : Elt w b o x) (hy : x[off]? = some y) : (Instr.loadAt t (.pointer (some ⟨b, o + off, none⟩))).run P w = .ok y w := by
  obtain ⟨cs, et, fz, hb, hs, he⟩ := h
  simp only [Instr.loadAt, Instr.sureAddr]
  refine run_loadVar_cell ?_
  rw [hb.cell]
  rw [← he, Array.toList_extract, List.extract_eq_take_drop, List.getElem?_take, List.getElem?_drop] at hy
  split at hy
  · simpa using hy
  · cases hy
theorem q_ldE {t b o off : Nat} [TCell P t] {x : List Value} {y : Value} (h : Elt w b o x) (hy : x[off]? = some y) (kk : K y) : Qu P (Is w) (Instr.loadAt t (.pointer (some ⟨b, o + off, none⟩))) K :=
  .mk y (fun w' hw => by cases hw; exact run_ldE h hy) kk
theorem q_ldEU {t b o off : Nat} [TCell P t] {x : List Value} {y : Value} (h : Elt w b o x) (hy : x[off]? = some y) (kk : K y) : Qu P (Ex w) (Instr.loadAt t (.pointer (some ⟨b, o + off, none⟩))) K :=
  .mk y (fun w' hw => run_ldE (h.ex hw) hy) kk

/-- A slice's beginning. -/
theorem q_slpre {t e n : Nat} [TSli P t e n] {v : Value} {xs : List (List Value)} {i : Int} {k : IntKind} (j : Nat) (hv : Sl w te n v xs) (hi : i = j) (hj : j ≤ xs.length) (kk : ∀ v', Sl w te n v' (xs.take j) → K v') :
    Qu P S (Instr.sliceAt t v none (some (.int k i)) none) K := by
  obtain ⟨a, c, rfl⟩ := hv.sh
  obtain ⟨inf, hu, hinf, hn, hn0⟩ := TSli.facts (P := P) t e n
  subst hi
  have hcap := hv.cap
  refine .mk (.slice a j c) (fun w' _ => ?_) (kk _ (hv.pre hj))
  have h1 : (0 : Int) ≤ j ∧ (j : Int) ≤ c := by omega
  have hm : a.map (fun x => x.add (0 * inf.size)) = a := by
    cases a with
    | none => rfl
    | some x => simp [Addr.add]
  simp only [Instr.sliceAt, Sem.run_bind, run_und hu, Result.andThen_ok, Instr.slice, Instr.sliceBounds, Instr.sliceBound, asIntOf, Sem.run_pure, if_pos h1, run_size hinf, Int.toNat_natCast, Nat.sub_zero]
  rw [hm]
  by_cases hc : c = 0 <;> simp [hc]

variable {KW : Value → Value → World → Prop}
/-- An element built and appended. -/
theorem e_push {t ty e n by' base : Nat} [TSli P t e n] [TElm P e n by'] {x v : Value} {xs : List (List Value)} (ho : Own w base e n x xs) (hv : v.cells.size = n) (hn : n ≤ 1000) (h1 : ∀ u ∈ v.cells.toList, one u = true)
    (hsz : (xs.length + 1) * by' ≤ 140737488355328) (hm : xs.length + 1 ≤ 140737488355328) (hbase : base ≤ w.heap.size)
    (k : ∀ s v' w', Up (fun b => x.ownBlock = some b) [e + 2] w w' → Own w' base e n v' (xs ++ [v.cells.toList]) → (∀ b, v'.ownBlock = some b → x.ownBlock = some b ∨ w.heap.size ≤ b) → w.heap.size ≤ w'.heap.size → KW s v' w') :
    Ef P (Instr.buildSlice t 1 #[(0, v)]) w fun s w' => Ef P (Builtin.append_ #[t, t] ty #[x, s]) w' (KW s) := by
  refine e_bs1 hv hn fun w1 e1 o1 z1 => ?_
  refine e_app (base := base) (ho.ex e1) o1.sl ?_ hsz hm (by omega) fun v' w2 u2 o2 hb z2 => ?_
  · intro y hy u hu
    rw [List.mem_singleton.1 hy] at hu
    exact h1 u hu
  · refine k _ _ _ ((Up.of_ex e1).trans u2) o2 (fun b hv' => ?_) (by omega)
    rcases hb with hb | hb
    · rw [hb] at hv'; exact .inl hv'
    · rw [hb] at hv'; cases hv'; right; omega
theorem e_push1 {t ty e by' base : Nat} [TSli P t e 1] [TElm P e 1 by'] {x v : Value} {xs : List (List Value)} (ho : Own w base e 1 x xs) (h1 : one v = true)
    (hsz : (xs.length + 1) * by' ≤ 140737488355328) (hm : xs.length + 1 ≤ 140737488355328) (hbase : base ≤ w.heap.size)
    (k : ∀ s v' w', Up (fun b => x.ownBlock = some b) [e + 2] w w' → Own w' base e 1 v' (xs ++ [[v]]) → (∀ b, v'.ownBlock = some b → x.ownBlock = some b ∨ w.heap.size ≤ b) → w.heap.size ≤ w'.heap.size → KW s v' w') :
    Ef P (Instr.buildSlice t 1 #[(0, v)]) w fun s w' => Ef P (Builtin.append_ #[t, t] ty #[x, s]) w' (KW s) := by
  have hc := one_cells' h1
  refine e_push ho (by rw [hc]; rfl) (by omega) (by rw [hc]; intro u hu; rw [List.mem_singleton.1 hu]; exact h1) hsz hm hbase ?_
  rw [hc]
  exact k
end

theorem take_snoc {α : Type} {l : List α} {j : Nat} {x : α} (h : l[j]? = some x) : l.take (j + 1) = l.take j ++ [x] := by
  rw [List.take_add_one, h]; rfl

/-! Entries. -/

structure En where
  t : Int
  i : Int
  k : Int
  d : ByteArray

def En.cells (e : En) : List Value := [.int .u64 e.t, .int .u64 e.i, .int .i64 e.k, .string e.d]
abbrev Ens (w : World) (te : Option Nat) (v : Value) (l : List En) : Prop := Sl w te 4 v (l.map En.cells)

/-- The package's entry: v points to e. -/
def PE (v : Value) (e : En) (w : World) : Prop :=
  ∃ b vt vi vk vd, v = .pointer (some ⟨b, 0, none⟩) ∧ Bk w b (.cells #[vt, vi, vk, vd] 215 (0, 0)) ∧ PN 22 .u64 vt e.t w ∧ PN 22 .u64 vi e.i w ∧ PN 233 .i32 vk e.k w ∧ Sl w (some 5) 1 vd (byteList e.d)
instance {v : Value} {e : En} : StU (PE v e) :=
  StU.ex fun _ => StU.ex fun _ => StU.ex fun _ => StU.ex fun _ => StU.ex fun _ => StU.and StU.con (StU.and (StU.bk rfl) (StU.and (PN.stU rfl) (StU.and (PN.stU rfl) (StU.and (PN.stU rfl) (StU.sl rfl)))))

/-- Lists of pointers to entries. -/
inductive PEs : List Value → List En → World → Prop where
  | nil (w : World) : PEs [] [] w
  | cons {v : Value} {e : En} {vs : List Value} {es : List En} {w : World} (h : PE v e w) (r : PEs vs es w) : PEs (v :: vs) (e :: es) w
instance {vs : List Value} {es : List En} : StU (PEs vs es) := ⟨fun C T w w' o u h => by
  induction h with
  | nil => exact .nil _
  | cons h r ih => exact .cons (StU.up (F := PE _ _) C T _ w' o u h) (ih u)⟩
theorem PEs.len {vs : List Value} {es : List En} {w : World} (h : PEs vs es w) : vs.length = es.length := by
  induction h with
  | nil => rfl
  | cons _ _ ih => simp [ih]
theorem PEs.get {vs : List Value} {es : List En} {w : World} (h : PEs vs es w) {i : Nat} {v : Value} (hv : vs[i]? = some v) : ∃ e, es[i]? = some e ∧ PE v e w := by
  induction h generalizing i with
  | nil => simp at hv
  | cons h r ih =>
    cases i with
    | zero => simp at hv; subst hv; exact ⟨_, rfl, h⟩
    | succ i => simpa using ih (by simpa using hv)
theorem PEs.app {vs us : List Value} {es fs : List En} {w : World} (h : PEs vs es w) (h' : PEs us fs w) : PEs (vs ++ us) (es ++ fs) w := by
  induction h with
  | nil => exact h'
  | cons h _ ih => exact .cons h (ih h')

def ones (l : List Value) : List (List Value) := l.map fun x => [x]

/-! Configurations and snapshots. -/

structure Cf where
  v : List Int
  l : List Int
  o : List Int
  n : List Int
  a : Bool

/-- The package's configuration. -/
def PC (v : Value) (c : Cf) (w : World) : Prop :=
  ∃ b v1 v2 v3 v4 v5, v = .pointer (some ⟨b, 0, none⟩) ∧ Bk w b (.cells #[v1, v2, v3, v4, v5] 200 (0, 0)) ∧ Nums w (some 22) v1 c.v ∧ Nums w (some 22) v2 c.l ∧ Nums w (some 22) v3 c.o ∧ Nums w (some 22) v4 c.n ∧ PB1 v5 c.a w
theorem PBo.stU {v : Value} {p : Bool} : StU (PBo v p) := StU.or StU.con (StU.ex fun _ => StU.and StU.con (StU.bk rfl))
instance {v : Value} {c : Cf} : StU (PC v c) :=
  StU.ex fun _ => StU.ex fun _ => StU.ex fun _ => StU.ex fun _ => StU.ex fun _ => StU.ex fun _ => StU.and StU.con (StU.and (StU.bk rfl) (StU.and (StU.sl rfl) (StU.and (StU.sl rfl) (StU.and (StU.sl rfl) (StU.and (StU.sl rfl) PB1.stU)))))

/-- The package's metadata of a snapshot. -/
def PM (v : Value) (i t : Int) (c : Cf) (w : World) : Prop :=
  ∃ b v1 v2 v3, v = .pointer (some ⟨b, 0, none⟩) ∧ Bk w b (.cells #[v1, v2, v3] 106 (0, 0)) ∧ PC v1 c w ∧ PN1 22 .u64 v2 i w ∧ PN1 22 .u64 v3 t w
instance {v : Value} {i t : Int} {c : Cf} : StU (PM v i t c) :=
  StU.ex fun _ => StU.ex fun _ => StU.ex fun _ => StU.ex fun _ => StU.and StU.con (StU.and (StU.bk rfl) (StU.and inferInstance (StU.and (PN1.stU rfl) (PN1.stU rfl))))

structure Sn where
  d : ByteArray
  i : Int
  t : Int
  c : Cf

/-- The package's snapshot. -/
def PS (v : Value) (s : Sn) (w : World) : Prop :=
  ∃ b v1 v2, v = .pointer (some ⟨b, 0, none⟩) ∧ Bk w b (.cells #[v1, v2] 108 (0, 0)) ∧ Sl w (some 5) 1 v1 (byteList s.d) ∧ PM v2 s.i s.t s.c w
instance {v : Value} {s : Sn} : StU (PS v s) :=
  StU.ex fun _ => StU.ex fun _ => StU.ex fun _ => StU.and StU.con (StU.and (StU.bk rfl) (StU.and (StU.sl rfl) inferInstance))

theorem PE.one {v : Value} {e : En} {w : World} (h : PE v e w) : one v = true := by obtain ⟨b, _, _, _, _, rfl, _⟩ := h; rfl
theorem PC.one {v : Value} {c : Cf} {w : World} (h : PC v c w) : one v = true := by obtain ⟨b, _, _, _, _, _, rfl, _⟩ := h; rfl
theorem PM.one {v : Value} {i t : Int} {c : Cf} {w : World} (h : PM v i t c w) : one v = true := by obtain ⟨b, _, _, _, rfl, _⟩ := h; rfl
theorem PS.one {v : Value} {s : Sn} {w : World} (h : PS v s w) : one v = true := by obtain ⟨b, _, _, rfl, _⟩ := h; rfl

section
variable {C : Nat → Prop} {T : List Nat} {w w' : World}
theorem PN.mt {t : Nat} {k : IntKind} {v : Value} {n : Int} (hT : T.contains (t + 2) = false) (u : Up C T w w') (h : PN t k v n w) : PN t k v n w' := h.imp id fun ⟨b, h1, h2⟩ => ⟨b, h1, u.at_ h2 hT⟩
theorem PN.ex {t : Nat} {k : IntKind} {v : Value} {n : Int} (u : Ex w w') (h : PN t k v n w) : PN t k v n w' := h.imp id fun ⟨b, h1, h2⟩ => ⟨b, h1, u.at_ h2⟩
instance {v : Value} {p : Bool} : StU (PBo v p) := PBo.stU
theorem PN1.mt {t : Nat} {k : IntKind} {v : Value} {n : Int} (hT : T.contains (t + 2) = false) (u : Up C T w w') : PN1 t k v n w → PN1 t k v n w' := fun ⟨b, h1, h2⟩ => ⟨b, h1, u.at_ h2 hT⟩
theorem PN1.ex {t : Nat} {k : IntKind} {v : Value} {n : Int} (u : Ex w w') : PN1 t k v n w → PN1 t k v n w' := fun ⟨b, h1, h2⟩ => ⟨b, h1, u.at_ h2⟩
instance {v : Value} {p : Bool} : StU (PB1 v p) := PB1.stU
theorem PB1.mt {v : Value} {p : Bool} (o : okT T = true) (u : Up C T w w') (h : PB1 v p w) : PB1 v p w' := StU.up (F := PB1 v p) C T w w' o u h
theorem PB1.ex {v : Value} {p : Bool} (u : Ex w w') (h : PB1 v p w) : PB1 v p w' := St.ex (F := PB1 v p) w w' u h
theorem PBo.mt {v : Value} {p : Bool} (o : okT T = true) (u : Up C T w w') (h : PBo v p w) : PBo v p w' := StU.up (F := PBo v p) C T w w' o u h
theorem PBo.ex {v : Value} {p : Bool} (u : Ex w w') (h : PBo v p w) : PBo v p w' := St.ex (F := PBo v p) w w' u h
theorem PE.mt {v : Value} {e : En} (o : okT T = true) (u : Up C T w w') (h : PE v e w) : PE v e w' := StU.up (F := PE v e) C T w w' o u h
theorem PE.ex {v : Value} {e : En} (u : Ex w w') (h : PE v e w) : PE v e w' := St.ex (F := PE v e) w w' u h
theorem PEs.mt {vs : List Value} {es : List En} (o : okT T = true) (u : Up C T w w') (h : PEs vs es w) : PEs vs es w' := StU.up (F := PEs vs es) C T w w' o u h
theorem PEs.ex {vs : List Value} {es : List En} (u : Ex w w') (h : PEs vs es w) : PEs vs es w' := St.ex (F := PEs vs es) w w' u h
theorem PC.mt {v : Value} {c : Cf} (o : okT T = true) (u : Up C T w w') (h : PC v c w) : PC v c w' := StU.up (F := PC v c) C T w w' o u h
theorem PC.ex {v : Value} {c : Cf} (u : Ex w w') (h : PC v c w) : PC v c w' := St.ex (F := PC v c) w w' u h
theorem PM.mt {v : Value} {i t : Int} {c : Cf} (o : okT T = true) (u : Up C T w w') (h : PM v i t c w) : PM v i t c w' := StU.up (F := PM v i t c) C T w w' o u h
theorem PM.ex {v : Value} {i t : Int} {c : Cf} (u : Ex w w') (h : PM v i t c w) : PM v i t c w' := St.ex (F := PM v i t c) w w' u h
theorem PS.mt {v : Value} {s : Sn} (o : okT T = true) (u : Up C T w w') (h : PS v s w) : PS v s w' := StU.up (F := PS v s) C T w w' o u h
theorem PS.ex {v : Value} {s : Sn} (u : Ex w w') (h : PS v s w) : PS v s w' := St.ex (F := PS v s) w w' u h
end

end Go.Proofs.YtmmpogfbhelioaaGreat
/-
  The rule for copy: a made slice takes over what another one holds.
  Conditions: elements of one cell, as many as there are.
-/
namespace Go.Proofs.YtmmpogfbhelioaaGreat
set_option maxRecDepth 10000
set_option linter.unusedVariables false
set_option linter.unusedSimpArgs false
variable {P : Program} {w : World} {KW : Value → World → Prop} {te : Option Nat}

theorem e_copy {t ty e by' base : Nat} [TSli P t e 1] [TElm P e 1 by'] {v x : Value} {xs ys : List (List Value)} (ho : Own w base e 1 v xs) (hx : Sl w te 1 x ys) (hl : xs.length = ys.length) (h1 : ∀ y ∈ ys, ∀ u ∈ y, one u = true)
    (k : ∀ r w', Up (fun b => v.ownBlock = some b) [e + 2] w w' → Own w' base e 1 v ys → w'.heap.size = w.heap.size → KW r w') : Ef P (Builtin.copy_ #[t, t] ty #[v, x]) w KW := by
  obtain ⟨inf, hu, hinf, hn, hn0⟩ := TSli.facts (P := P) t e 1
  obtain ⟨⟨hol, hown⟩, hlen⟩ := ho
  have hfl : ys.flatten.length = ys.length := by
    have := hx.eln
    clear hx h1 hl k
    induction ys with
    | nil => rfl
    | cons y r ih => rw [List.flatten_cons, List.length_append, ih (fun z hz => this z (by simp [hz])), this y (by simp), List.length_cons]; omega
  have hsz : P.info? e = some inf ∧ inf.size = 1 := ⟨hinf, hn⟩
  by_cases h0 : ys = []
  · subst h0
    have hx0 : xs = [] := List.eq_nil_of_length_eq_zero (by simpa using hl)
    subst hx0
    obtain ⟨a, c, rfl⟩ := hx.sh
    have hr : (Builtin.copy_ #[t, t] ty #[v, .slice a ([] : List (List Value)).length c]).run P w = .ok (goInt 0) w := by
      rcases hown with ⟨rfl, _⟩ | ⟨g, cap, cur, rfl, _⟩ <;> cases a <;>
        simp [Builtin.copy_, run_und hu, Builtin.lenOf, Builtin.firstCells, run_size hinf, loadCells, loadCellsFrom, storeCells]
    exact .mk _ w hr (k _ w (.refl _ _ _) ⟨⟨hol, hown⟩, hlen⟩ rfl)
  · have hy0 : ys.length ≠ 0 := fun h => h0 (List.eq_nil_of_length_eq_zero h)
    rcases hown with ⟨rfl, hz⟩ | ⟨g, cap, cur, rfl, hbg, hg, hnc, hmx, hcs, htake⟩
    · omega
    · cases hx with
      | nil => exact absurd rfl h0
      | row b o c cs et fz _ hb hc hm hs hxx hn ht =>
        have hcell : ∀ j u, ys.flatten[j]? = some u → w.cell? ((⟨b, o, none⟩ : Addr).add j) = some u := by
          intro j u hj
          rw [add_addr, hb.cell]
          rw [← hxx, List.getElem?_take, List.getElem?_drop] at hj
          split at hj
          · simpa using hj
          · cases hj
        have hr := run_copy_row (P := P) w t t ty e g 0 xs.length cap ⟨b, o, none⟩ ys.length c cur e ys.flatten hu (by rw [hinf]; simp [hsz.2]) hg (by rw [hfl, hl]; simp) hcell (by rw [hfl, hcs]; omega) (fun u hu' => by
          obtain ⟨y, hy, huy⟩ := List.mem_flatten.1 hu'
          exact one_iff u (h1 y hy u huy))
        refine .mk _ _ hr (k _ _ ?_ ⟨⟨?_, ?_⟩, hn⟩ ?_)
        · refine ⟨by simp [World.setRow], rfl, rfl, rfl, fun b' o' hb' hc' => ?_⟩
          have hne : b' ≠ g := by
            rintro rfl
            rcases hc' with hc' | hc'
            · have := Bk.one hb' hg
              subst this
              simp [kd] at hc'
            · exact hc' rfl
          unfold Bk at *
          rw [setRow_other w g b' _ hne]; exact hb'
        · rw [hfl, Nat.mul_one]
        · refine .inr ⟨g, cap, _, by rw [hl], hbg, setRow_heap w g cur _ e _ hg, by omega, hmx, ?_, ?_⟩
          · simp [hfl, hcs]; omega
          · simp only [List.take_zero, List.nil_append, Nat.zero_add, Nat.mul_one]
            rw [← hfl, List.take_append_of_le_length (Nat.le_refl _), List.take_length]
        · simp [World.setRow]

end Go.Proofs.YtmmpogfbhelioaaGreat
/-
  The rule for a method called through an interface.
  Conditions: the dynamic type is a pointer type with the method itself.
-/
namespace Go.Proofs.YtmmpogfbhelioaaGreat
set_option maxRecDepth 10000
set_option linter.unusedVariables false
set_option linter.unusedSimpArgs false
variable {P : Program} {w : World} {KW : Value → World → Prop}

def tmethB (P : Program) (t : Nat) (name : String) (f : Nat) : Bool := match P.info? t, P.underlying t with
  | some i, some (.pointer _) => (match i.methods.find? (·.name == name) with | some m => m.path.isEmpty && (match m.func with | some (g, true) => Nat.beq g f | _ => false) | none => false)
  | _, _ => false
/-- A pointer type's own method. -/
class TMeth (P : Program) (t : TypeId) (name : String) (f : outParam Nat) : Prop where ok : tmethB P t name f = true

theorem cl_m {t : TypeId} {name : String} {f : Nat} [h : TMeth P t name f] [TFn P f] {v : Value} {args : Array Value} (hk : CK P f (#[v] ++ args) w KW) : Cl P (callM (.iface t v) name args) w KW := by
  have hok := h.ok
  unfold tmethB at hok
  split at hok
  · rename_i i e hi hu
    split at hok
    · rename_i m hm
      simp only [Bool.and_eq_true] at hok
      obtain ⟨hp, hf⟩ := hok
      split at hf
      · rename_i g hg
        have hg' := Nat.eq_of_beq_eq_true hf
        subst hg'
        have hpath : m.path.toList = [] := by
          have : m.path = #[] := Array.isEmpty_iff.1 hp
          rw [this]
        have hmeth : ∀ n, (method (n + 1) t v name).run P w = .ok (g, v) w := by
          intro n
          simp [method, run_info hi, hm, hpath, follow, hg, receiverAt, run_und hu, Place.get]
        refine .mk g (#[v] ++ args) ?_ hk
        have hd : P.types.size + Made.depth = (P.types.size + Made.depth - 1) + 1 := by
          have : 0 < Made.depth := by decide
          omega
        have h0 : (#[Value.iface t v] ++ args)[0]? = some (.iface t v) := by simp [Array.getElem?_append]
        have h1 : (#[Value.iface t v] ++ args).extract 1 (#[Value.iface t v] ++ args).size = args := by simp
        simp only [callM, invoke, h0, h1, callMethod]
        have hm2 := hmeth (P.types.size + Made.depth - 1)
        rw [← hd] at hm2
        show (Sem.bind program fun p => Sem.bind (method (p.types.size + Made.depth) t v name) fun x => callFunc x.1 (#[x.2] ++ args)).run P w = _
        rw [Sem.run_bind']
        show ((method (P.types.size + Made.depth) t v name).bind fun x => callFunc x.1 (#[x.2] ++ args)).run P w = _
        rw [Sem.run_bind', hm2]
        exact run_callFunc g _ w
      · cases hf
    · cases hok
  · cases hok

end Go.Proofs.YtmmpogfbhelioaaGreat
/-
  Rules for numbers in place: a slice whose elements are read, and written over.
  Conditions: elements of one cell; no frozen block.
-/
namespace Go.Proofs.YtmmpogfbhelioaaGreat
set_option maxRecDepth 10000
set_option linter.unusedVariables false
set_option linter.unusedSimpArgs false
variable {P : Program} {w : World} {S : World → Prop} {te : Nat} {v : Value} {xs : List Int}

/-- The address of a slice's element. -/
def ea : Value → Nat → Value
  | .slice (some ⟨b, o, _⟩) _ _, j => .pointer (some ⟨b, o + j, none⟩)
  | v, _ => v
/-- The block of a slice. -/
def sb : Value → Nat → Prop
  | .slice (some a) _ _, x => a.block = x
  | _, _ => False

/-- Slice v's elements are the numbers xs; they may be written over. -/
def Nm (te : Nat) (v : Value) (xs : List Int) (w : World) : Prop :=
  ∃ a c, v = .slice a xs.length c ∧ xs.length ≤ maxLen ∧ xs.length ≤ c ∧ (xs = [] ∨ ∃ b o cs, a = some ⟨b, o, none⟩ ∧ Bk w b (.cells cs te (0, 0)) ∧ o + xs.length ≤ cs.size ∧ (cs.toList.drop o).take xs.length = xs.map fun x => Value.int .u64 x)

theorem Nm.ex {w' : World} (u : Ex w w') (h : Nm te v xs w) : Nm te v xs w' := by
  obtain ⟨a, c, rfl, hm, hc, h⟩ := h
  refine ⟨a, c, rfl, hm, hc, ?_⟩
  rcases h with h | ⟨b, o, cs, rfl, hb, h1, h2⟩
  · exact .inl h
  · exact .inr ⟨b, o, cs, rfl, u.at_ hb, h1, h2⟩
theorem Nm.up {C : Nat → Prop} {T : List Nat} {w' : World} (u : Up C T w w') (h : Nm te v xs w) (hT : T.contains (te + 2) = false ∨ ∀ b, sb v b → ¬ C b) : Nm te v xs w' := by
  obtain ⟨a, c, rfl, hm, hc, h⟩ := h
  refine ⟨a, c, rfl, hm, hc, ?_⟩
  rcases h with h | ⟨b, o, cs, rfl, hb, h1, h2⟩
  · exact .inl h
  · refine .inr ⟨b, o, cs, rfl, ?_, h1, h2⟩
    rcases hT with hT | hT
    · exact u.at_ hb hT
    · exact u.off hb (hT b rfl)
theorem Nm.sh (h : Nm te v xs w) : ∃ a c, v = .slice a xs.length c := by
  obtain ⟨a, c, h, _⟩ := h; exact ⟨a, c, h⟩
theorem flat_nums : ∀ l : List Int, (nums l).flatten = l.map fun x => Value.int .u64 x
  | [] => rfl
  | x :: r => by
    have := flat_nums r
    unfold nums at *
    simp only [List.map_cons, List.flatten_cons, this]; rfl
theorem Nm.sl (h : Nm te v xs w) : Sl w (some te) 1 v (nums xs) := by
  obtain ⟨a, c, rfl, hm, hc, h⟩ := h
  rcases h with rfl | ⟨b, o, cs, rfl, hb, h1, h2⟩
  · exact .nil _ _
  · have hl : (nums xs).length = xs.length := by simp [nums]
    have := Sl.row (w := w) (te := some te) (n := 1) b o c cs te (0, 0) (nums xs) hb (by omega) (by omega) (by omega) (by rw [hl, Nat.mul_one, h2, flat_nums]) (by intro x hx; simp [nums] at hx; obtain ⟨y, _, rfl⟩ := hx; rfl) (fun t ht => by cases ht; rfl)
    rw [hl] at this; exact this
theorem Own.nm {base : Nat} (h : Own w base te 1 v (nums xs)) : Nm te v xs w := by
  obtain ⟨⟨hl, hx⟩, hn⟩ := h
  have hlen : (nums xs).length = xs.length := by simp [nums]
  rcases hx with ⟨rfl, h0⟩ | ⟨g, cap, cur, rfl, _, hg, hnc, hmx, hcs, htake⟩
  · have : xs = [] := List.eq_nil_of_length_eq_zero (hlen ▸ h0)
    subst this
    exact ⟨none, 0, rfl, Nat.zero_le _, Nat.le_refl _, .inl rfl⟩
  · rw [hlen] at hnc ⊢
    have hcs' : xs.length ≤ cur.size := by omega
    refine ⟨_, cap, rfl, by omega, hnc, .inr ⟨g, 0, cur, rfl, hg, by omega, ?_⟩⟩
    rw [flat_nums] at htake
    simpa [hlen] using htake

theorem q_ixN {t e : Nat} [TSli P t e 1] {K : Value → Prop} {i : Int} {k : IntKind} (j : Nat) (h : Nm te v xs w) (hi : i = j) (hj : j < xs.length) (kk : K (ea v j)) : Qu P S (Instr.indexAt t v (.int k i)) K := by
  obtain ⟨a, c, rfl, hm, hc, h⟩ := h
  rcases h with rfl | ⟨b, o, cs, rfl, hb, h1, h2⟩
  · exact absurd hj (Nat.not_lt_zero _)
  · refine .mk _ (fun w' _ => run_indexAt hi hj) ?_
    rw [Nat.mul_one]; exact kk
theorem q_ldN {t : Nat} [TCell P t] {K : Value → Prop} {j : Nat} {x : Int} (h : ∀ w, S w → Nm te v xs w) (hx : xs[j]? = some x) (kk : K (.int .u64 x)) : Qu P S (Instr.loadAt t (ea v j)) K := by
  refine .mk _ (fun w' hw => ?_) kk
  have hj : j < xs.length := (List.getElem?_eq_some_iff.1 hx).1
  obtain ⟨a, c, rfl, hm, hc, h⟩ := h w' hw
  rcases h with rfl | ⟨b, o, cs, rfl, hb, h1, h2⟩
  · exact absurd hj (Nat.not_lt_zero _)
  · simp only [Instr.loadAt, Instr.sureAddr, ea]
    refine run_loadVar_cell ?_
    rw [hb.cell]
    have h3 : ((cs.toList.drop o).take xs.length)[j]? = some (Value.int .u64 x) := by rw [h2, List.getElem?_map, hx]; rfl
    rw [List.getElem?_take, if_pos hj, List.getElem?_drop] at h3
    rw [← Array.getElem?_toList]; exact h3
theorem set_map (l : List Int) (j : Nat) (y : Int) (f : Int → Value) : (l.map f).set j (f y) = (l.set j y).map f := by
  induction l generalizing j with
  | nil => rfl
  | cons x r ih =>
    cases j with
    | zero => rfl
    | succ j => simp only [List.map_cons, List.set_cons_succ, ih j]
theorem u_stN {KU : World → Prop} {t : Nat} [TCell P t] {j : Nat} {y : Int} (h : Nm te v xs w) (hj : j < xs.length)
    (k : ∀ w', Up (sb v) [te + 2] w w' → Nm te v (xs.set j y) w' → w'.heap.size = w.heap.size → KU w') : Eu P (Instr.storeAt t (ea v j) (.int .u64 y)) w KU := by
  obtain ⟨a, c, rfl, hm, hc, h⟩ := h
  rcases h with rfl | ⟨b, o, cs, rfl, hb, h1, h2⟩
  · exact absurd hj (Nat.not_lt_zero _)
  · refine u_st hb (by omega) rfl rfl fun w' u hb' z => k w' (u.mono (fun x _ hx => hx.symm) fun _ h => h) ⟨some ⟨b, o, none⟩, c, by simp, by simpa using hm, by simpa using hc, .inr ⟨b, o, _, rfl, hb', by simpa using h1, ?_⟩⟩ z
    have h3 : ((cs.setIfInBounds (o + j) (.int .u64 y)).toList.drop o).take xs.length = ((cs.toList.drop o).take xs.length).set j (.int .u64 y) := by
      rw [Array.toList_setIfInBounds]
      apply List.ext_getElem?
      intro i
      simp only [List.getElem?_take, List.getElem?_drop, List.getElem?_set, List.length_take, List.length_drop, List.length_set]
      by_cases hi : i < xs.length
      · by_cases hij : j = i
        · subst hij
          have h5 : o + j < cs.size := by omega
          have h6 : j < cs.size - o := by omega
          have h7 : j < min xs.length (cs.size - o) := by omega
          simp [hi, h5, h6, h7]
        · have : o + j ≠ o + i := by omega
          simp [hi, hij, this]
      · have : j ≠ i := by omega
        simp [hi, this]
    simp only [List.length_set, h3, h2]
    exact set_map xs j y _

/-- Two elements change places. -/
theorem perm_swap {xs : List Int} {i j : Nat} {a b : Int} (ha : xs[i]? = some a) (hb : xs[j]? = some b) : ((xs.set i b).set j a).Perm xs := by
  have hi : i < xs.length := (List.getElem?_eq_some_iff.1 ha).1
  have hj : j < xs.length := (List.getElem?_eq_some_iff.1 hb).1
  rw [List.perm_iff_count]
  intro x
  by_cases hij : i = j
  · subst hij
    rw [ha] at hb
    cases hb
    have he := (List.getElem?_eq_some_iff.1 ha).2
    rw [List.set_set, ← he, List.set_getElem_self]
  · have h1 : (xs.set i b)[j]? = some b := by rw [List.getElem?_set_ne hij]; exact hb
    have hj' : j < (xs.set i b).length := by simpa using hj
    have ea := List.getElem_of_getElem? ha
    have eb := List.getElem_of_getElem? hb
    have eb' := List.getElem_of_getElem? h1
    rw [List.count_set hj', List.count_set hi]
    obtain ⟨_, ea⟩ := ea
    obtain ⟨_, eb⟩ := eb
    obtain ⟨_, eb'⟩ := eb'
    rw [ea, eb']
    have hm : ∀ y, xs[i]? = some y → (y == x) = true → 1 ≤ List.count x xs := by
      intro y hy hyx
      have := beq_iff_eq.1 hyx
      subst this
      exact List.count_pos_iff.2 (List.mem_of_getElem? hy)
    by_cases h1 : (a == x) = true <;> by_cases h2 : (b == x) = true <;> simp [h1, h2]
    · have := hm a ha h1
      omega
    · have := hm a ha h1
      omega

end Go.Proofs.YtmmpogfbhelioaaGreat
/-
  The readable texts of the sorting functions, printed by gen.py, and their links with the program.
  Conditions: none.
-/
namespace Go.Proofs.YtmmpogfbhelioaaGreat
set_option maxRecDepth 10000
set_option linter.unusedVariables false
set_option linter.unusedSimpArgs false
def t131 (a0 : Value) (K : Value → World → Prop) (w : World) : Prop :=
 Qu Pr (Is w) (Builtin.len_ #[23] 3 #[a0]) fun v1 =>
 Qu Pr (Is w) (convert 3 305 v1) fun v2 =>
 Cl Pr (callV (fn 209) #[v2]) w fun v4 w3 =>
 Cl Pr (callV (fn 208) #[a0, (Value.int .i64 0), v1, v4]) w3 fun _ w5 =>
 K (.tuple #[]) w5
theorem c131 {a0 : Value} {K : Value → World → Prop} {w : World} (h : t131 a0 K w) : CK Pr 131 #[a0] w K := by
  refine calls_of_RF [] Tryz.func131 rfl ?_ ?_ ?_
  · kernel_rfl
  · exact Nat.le_of_ble_eq_true rfl
  · exact cast (by kernel_rfl) h

@[irreducible] def t208_1 (w187 : World) (τ2 : List Value) (a0 : Value) (p167 : Value) (J134 : Value → Value → Value → Value → Value → Value → Value → Value → Value → Value → Value → Value → Value → Value → Value → Value → Value → Value → Value → Value → Value → Value → Value → Value → Value → Value → Value → Value → Value → Value → Value → Value → Value → Value → Value → Value → Value → Value → Value → Value → Value → Value → Value → Value → Value → Value → Value → Value → Value → Value → Value → Value → Value → Value → Value → Value → Value → Value → Value → Value → Value → Value → Value → Value → Value → Value → Value → Value → Value → Value → Value → Value → Value → Value → Value → Value → Value → Value → Value → Value → Value → Value → Value → Value → Value → Value → Value → Value → Value → Value → Value → Value → Value → Value → Value → Value → Value → Value → Value → Value → Value → Value → Value → Value → Value → Value → Value → Value → Value → Value → Value → Value → Value → Value → Value → Value → Value → Value → Value → Value → Value → Value → Value → Value → Value → Value → Value → Value → Value → World → Prop) (v135 : Value) (v136 : Value) (v139 : Value) (v142 : Value) (p143 : Value) (p144 : Value) (p145 : Value) (p146 : Value) (p147 : Value) (p148 : Value) (p149 : Value) (v153 : Value) (v154 : Value) (v155 : Value) (v156 : Value) (p157 : Value) (p158 : Value) (p159 : Value) (p160 : Value) (p161 : Value) (p162 : Value) (p163 : Value) (p164 : Value) (p165 : Value) (p166 : Value) (p168 : Value) (v172 : Value) (v174 : Value) (v176 : Value) (v179 : Value) (v182 : Value) (p183 : Value) (p184 : Value) (p185 : Value) (p186 : Value) : Prop :=
          Dr w187 fun S189 w190 =>
          Qu Pr (S189) (binS .gtr 3 (.tmp 73) (.const (Value.int .i64 0)) (g τ2 0) (Value.int .i64 0)) fun v191 =>
          Gd v191 true (fun k192 => k192 a0 w190) w190 fun v193 w194 =>
          Gd v191 true (fun k195 => k195 (g τ2 0) w194) w194 fun v196 w197 =>
          Gd v191 true (fun k198 => Qu Pr (S189) (binS .sub 3 (.tmp 77) (.const (Value.int .i64 1)) v196 (Value.int .i64 1)) fun v201 => k198 v201 w197) w197 fun v199 w200 =>
          Gd v191 true (fun k202 => Qu Pr (S189) (Instr.indexAt 23 v193 v199) fun v205 => k202 v205 w200) w200 fun v203 w204 =>
          Gd v191 true (fun k206 => Qu Pr (S189) (Instr.loadAt 22 v203) fun v209 => k206 v209 w204) w204 fun v207 w208 =>
          Gd v191 true (fun k210 => k210 a0 w208) w208 fun v211 w212 =>
          Gd v191 true (fun k213 => k213 p167 w212) w212 fun v214 w215 =>
          Gd v191 true (fun k216 => Qu Pr (S189) (Instr.indexAt 23 v211 v214) fun v219 => k216 v219 w215) w215 fun v217 w218 =>
          Gd v191 true (fun k220 => Qu Pr (S189) (Instr.loadAt 22 v217) fun v223 => k220 v223 w218) w218 fun v221 w222 =>
          Gd v191 true (fun k224 => Cl Pr (callV (fn 275) #[v207, v221]) w222 fun v225x w226x => S189 w226x ∧ k224 v225x w226x) w222 fun v225 w226 =>
          Gd v191 true (fun k227 => Qu Pr (S189) (Op.unary .not v225) fun v230 => k227 v230 w226) w226 fun v228 w229 =>
          Qu Pr (S189) (pickS v191 v228 (Value.bool false)) fun v231 =>
          If v231 (
           Cl Pr (callV (fn 276) #[a0, (g τ2 0), (g τ2 1), p167]) w229 fun v233 w232 =>
           J134 (g τ2 1) (g τ2 0) v135 v135 v135 v136 (g τ2 19) (g τ2 20) (g τ2 21) (g τ2 22) (g τ2 2) v139 (g τ2 25) (g τ2 26) (g τ2 27) (g τ2 28) (g τ2 3) v142 p143 p144 p145 p146 p147 p148 p149 a0 (g τ2 0) (g τ2 1) v153 v153 v154 v155 v155 v156 p157 p158 p159 p160 p161 p162 p163 p164 p165 p166 p167 p168 (g τ2 3) (g τ2 3) v172 v174 v174 v176 v179 v182 p183 p184 p185 p186 (g τ2 0) v191 v191 v193 v196 v199 v203 v207 v211 v214 v217 v221 v225 v228 v231 a0 (g τ2 0) (g τ2 1) p167 v233 v233 v233 (g τ2 90) (g τ2 91) (g τ2 92) (g τ2 93) (g τ2 94) (g τ2 89) (g τ2 95) (g τ2 96) (g τ2 9) (g τ2 10) (g τ2 97) (g τ2 4) (g τ2 98) (g τ2 99) (g τ2 100) (g τ2 101) (g τ2 102) (g τ2 103) (g τ2 11) (g τ2 12) (g τ2 104) (g τ2 105) (g τ2 13) (g τ2 106) (g τ2 107) (g τ2 108) (g τ2 109) (g τ2 110) (g τ2 111) (g τ2 112) (g τ2 113) (g τ2 114) (g τ2 115) (g τ2 116) (g τ2 117) (g τ2 118) v233 (g τ2 119) (g τ2 120) (g τ2 121) (g τ2 3) (g τ2 122) (g τ2 123) (g τ2 124) (g τ2 125) (g τ2 126) (g τ2 127) (g τ2 128) (g τ2 1) w232) (
           Cl Pr (callV (fn 277) #[a0, (g τ2 0), (g τ2 1), p167]) w229 fun v235 w234 =>
           Qu Pr (Is w234) (Instr.extract v235 0) fun v236 =>
           Qu Pr (Is w234) (Instr.extract v235 1) fun v237 =>
           Qu Pr (Is w234) (binS .sub 3 (.tmp 103) (.tmp 104) v236 (g τ2 0)) fun v238 =>
           Qu Pr (Is w234) (binS .sub 3 (.tmp 106) (.tmp 107) (g τ2 1) v236) fun v239 =>
           Qu Pr (Is w234) (binS .quo 3 (.tmp 109) (.const (Value.int .i64 8)) v135 (Value.int .i64 8)) fun v240 =>
           Qu Pr (Is w234) (binS .lss 3 (.tmp 111) (.tmp 112) v238 v239) fun v241 =>
           Jo (fun (p242 : Value) (p243 : Value) (p244 : Value) (p245 : Value) (p246 : Value) (p247 : Value) (p248 : Value) (p249 : Value) (p250 : Value) (p251 : Value) (p252 : Value) (p253 : Value) (p254 : Value) (p255 : Value) (p256 : Value) (p257 : Value) (p258 : Value) (p259 : Value) (p260 : Value) (p261 : Value) (p262 : Value) (p263 : Value) (p264 : Value) (w265 : World) => (
             J134 (g τ2 1) (g τ2 0) v135 v135 v135 v136 (g τ2 19) (g τ2 20) (g τ2 21) (g τ2 22) (g τ2 2) v139 (g τ2 25) (g τ2 26) (g τ2 27) (g τ2 28) (g τ2 3) v142 p143 p144 p145 p146 p147 p148 p149 a0 (g τ2 0) (g τ2 1) v153 v153 v154 v155 v155 v156 p157 p158 p159 p160 p161 p162 p163 p164 p165 p166 p167 p168 (g τ2 3) (g τ2 3) v172 v174 v174 v176 v179 v182 p183 p184 p185 p186 (g τ2 0) v191 v191 v193 v196 v199 v203 v207 v211 v214 v217 v221 v225 v228 v231 (g τ2 83) (g τ2 84) (g τ2 85) (g τ2 86) (g τ2 87) (g τ2 8) (g τ2 88) a0 (g τ2 0) (g τ2 1) p167 v235 v235 v236 v237 v236 v237 v237 v237 v236 (g τ2 0) v238 (g τ2 1) v236 v239 v238 v239 v135 v240 v240 v238 v239 v241 p242 p243 p244 p245 p246 p247 p248 p249 p250 p251 p252 p253 p254 p255 p256 p257 p258 p259 p260 p261 p262 p263 p264 w265 : Prop)) fun J266 =>
           If v241 (
            Qu Pr (Is w234) (binS .geq 3 (.tmp 114) (.tmp 115) v238 v240) fun v267 =>
            Cl Pr (callV (fn 208) #[a0, (g τ2 0), v236, p149]) w234 fun v269 w268 =>
            Qu Pr (Is w268) (binS .add 3 (.tmp 122) (.const (Value.int .i64 1)) v236 (Value.int .i64 1)) fun v270 =>
            J266 v238 v240 v267 a0 (g τ2 0) v236 p149 v269 v236 v270 v270 (g τ2 119) (g τ2 120) (g τ2 121) v267 (g τ2 122) (g τ2 123) (g τ2 124) (g τ2 125) (g τ2 126) (g τ2 127) (g τ2 128) (g τ2 1) w268) (
            Qu Pr (Is w234) (binS .geq 3 (.tmp 124) (.tmp 125) v239 v240) fun v271 =>
            Qu Pr (Is w234) (binS .add 3 (.tmp 128) (.const (Value.int .i64 1)) v236 (Value.int .i64 1)) fun v272 =>
            Cl Pr (callV (fn 208) #[a0, v272, (g τ2 1), p149]) w234 fun v274 w273 =>
            J266 (g τ2 109) (g τ2 110) (g τ2 111) (g τ2 112) (g τ2 113) (g τ2 114) (g τ2 115) (g τ2 116) (g τ2 117) (g τ2 118) (g τ2 0) v239 v240 v271 v271 a0 v236 v272 (g τ2 1) p149 v274 v236 v236 w273))
@[irreducible] def t208_2 (τ2 : List Value) (w169 : World) (p168 : Value) (a0 : Value) (p167 : Value) (J134 : Value → Value → Value → Value → Value → Value → Value → Value → Value → Value → Value → Value → Value → Value → Value → Value → Value → Value → Value → Value → Value → Value → Value → Value → Value → Value → Value → Value → Value → Value → Value → Value → Value → Value → Value → Value → Value → Value → Value → Value → Value → Value → Value → Value → Value → Value → Value → Value → Value → Value → Value → Value → Value → Value → Value → Value → Value → Value → Value → Value → Value → Value → Value → Value → Value → Value → Value → Value → Value → Value → Value → Value → Value → Value → Value → Value → Value → Value → Value → Value → Value → Value → Value → Value → Value → Value → Value → Value → Value → Value → Value → Value → Value → Value → Value → Value → Value → Value → Value → Value → Value → Value → Value → Value → Value → Value → Value → Value → Value → Value → Value → Value → Value → Value → Value → Value → Value → Value → Value → Value → Value → Value → Value → Value → Value → Value → Value → Value → Value → World → Prop) (v135 : Value) (v136 : Value) (v139 : Value) (v142 : Value) (p143 : Value) (p144 : Value) (p145 : Value) (p146 : Value) (p147 : Value) (p148 : Value) (p149 : Value) (v153 : Value) (v154 : Value) (v155 : Value) (v156 : Value) (p157 : Value) (p158 : Value) (p159 : Value) (p160 : Value) (p161 : Value) (p162 : Value) (p163 : Value) (p164 : Value) (p165 : Value) (p166 : Value) (K : Value → World → Prop) : Prop :=
        Gd (g τ2 3) true (fun k171 => k171 (g τ2 4) w169) w169 fun v172 w173 =>
        Qu Pr (Is w173) (pickS (g τ2 3) v172 (Value.bool false)) fun v174 =>
        Gd v174 true (fun k175 => k175 p168 w173) w173 fun v176 w177 =>
        Gd v174 true (fun k178 => Qu Pr (Is w177) (binS .eql 363 (.tmp 66) (.const (Value.int .i64 1)) v176 (Value.int .i64 1)) fun v181 => k178 v181 w177) w177 fun v179 w180 =>
        Qu Pr (Is w180) (pickS v174 v179 (Value.bool false)) fun v182 =>
        Jo (fun (p183 : Value) (p184 : Value) (p185 : Value) (p186 : Value) (w187 : World) => (t208_1 w187 τ2 a0 p167 J134 v135 v136 v139 v142 p143 p144 p145 p146 p147 p148 p149 v153 v154 v155 v156 p157 p158 p159 p160 p161 p162 p163 p164 p165 p166 p168 v172 v174 v176 v179 v182 p183 p184 p185 p186 : Prop)) fun J188 =>
        If v182 (
         Cl Pr (callV (fn 274) #[a0, (g τ2 0), (g τ2 1)]) w180 fun v276 w275 =>
         If v276 (
          K (.tuple #[]) w275) (
          J188 a0 (g τ2 0) (g τ2 1) v276 w275)) (
         J188 (g τ2 64) (g τ2 65) (g τ2 66) (g τ2 67) w180)
@[irreducible] def t208_3 (a0 : Value) (τ2 : List Value) (w150 : World) (J134 : Value → Value → Value → Value → Value → Value → Value → Value → Value → Value → Value → Value → Value → Value → Value → Value → Value → Value → Value → Value → Value → Value → Value → Value → Value → Value → Value → Value → Value → Value → Value → Value → Value → Value → Value → Value → Value → Value → Value → Value → Value → Value → Value → Value → Value → Value → Value → Value → Value → Value → Value → Value → Value → Value → Value → Value → Value → Value → Value → Value → Value → Value → Value → Value → Value → Value → Value → Value → Value → Value → Value → Value → Value → Value → Value → Value → Value → Value → Value → Value → Value → Value → Value → Value → Value → Value → Value → Value → Value → Value → Value → Value → Value → Value → Value → Value → Value → Value → Value → Value → Value → Value → Value → Value → Value → Value → Value → Value → Value → Value → Value → Value → Value → Value → Value → Value → Value → Value → Value → Value → Value → Value → Value → Value → Value → Value → Value → Value → Value → World → Prop) (v135 : Value) (v136 : Value) (v139 : Value) (v142 : Value) (p143 : Value) (p144 : Value) (p145 : Value) (p146 : Value) (p147 : Value) (p148 : Value) (p149 : Value) (K : Value → World → Prop) : Prop :=
      Cl Pr (callV (fn 272) #[a0, (g τ2 0), (g τ2 1)]) w150 fun v153 w152 =>
      Qu Pr (Is w152) (Instr.extract v153 0) fun v154 =>
      Qu Pr (Is w152) (Instr.extract v153 1) fun v155 =>
      Qu Pr (Is w152) (binS .eql 363 (.tmp 49) (.const (Value.int .i64 2)) v155 (Value.int .i64 2)) fun v156 =>
      Jo (fun (p157 : Value) (p158 : Value) (p159 : Value) (p160 : Value) (p161 : Value) (p162 : Value) (p163 : Value) (p164 : Value) (p165 : Value) (p166 : Value) (p167 : Value) (p168 : Value) (w169 : World) => (t208_2 τ2 w169 p168 a0 p167 J134 v135 v136 v139 v142 p143 p144 p145 p146 p147 p148 p149 v153 v154 v155 v156 p157 p158 p159 p160 p161 p162 p163 p164 p165 p166 K : Prop)) fun J170 =>
      If v156 (
       Cl Pr (callV (fn 273) #[a0, (g τ2 0), (g τ2 1)]) w152 fun v278 w277 =>
       Qu Pr (Is w277) (binS .sub 3 (.tmp 55) (.const (Value.int .i64 1)) (g τ2 1) (Value.int .i64 1)) fun v279 =>
       Qu Pr (Is w277) (binS .sub 3 (.tmp 57) (.tmp 58) v154 (g τ2 0)) fun v280 =>
       Qu Pr (Is w277) (binS .sub 3 (.tmp 56) (.tmp 59) v279 v280) fun v281 =>
       J170 a0 (g τ2 0) (g τ2 1) v278 (g τ2 1) v279 v154 (g τ2 0) v280 v281 v281 (Value.int .i64 1) w277) (
       J170 (g τ2 46) (g τ2 47) (g τ2 48) (g τ2 49) (g τ2 50) (g τ2 51) (g τ2 52) (g τ2 53) (g τ2 54) (g τ2 55) v154 v155 w152)
@[irreducible] def t208_4 (w3 : World) (τ2 : List Value) (a0 : Value) (J134 : Value → Value → Value → Value → Value → Value → Value → Value → Value → Value → Value → Value → Value → Value → Value → Value → Value → Value → Value → Value → Value → Value → Value → Value → Value → Value → Value → Value → Value → Value → Value → Value → Value → Value → Value → Value → Value → Value → Value → Value → Value → Value → Value → Value → Value → Value → Value → Value → Value → Value → Value → Value → Value → Value → Value → Value → Value → Value → Value → Value → Value → Value → Value → Value → Value → Value → Value → Value → Value → Value → Value → Value → Value → Value → Value → Value → Value → Value → Value → Value → Value → Value → Value → Value → Value → Value → Value → Value → Value → Value → Value → Value → Value → Value → Value → Value → Value → Value → Value → Value → Value → Value → Value → Value → Value → Value → Value → Value → Value → Value → Value → Value → Value → Value → Value → Value → Value → Value → Value → Value → Value → Value → Value → Value → Value → Value → Value → Value → Value → World → Prop) (v135 : Value) (v136 : Value) (v139 : Value) (K : Value → World → Prop) : Prop :=
    Qu Pr (Is w3) (Op.unary .not (g τ2 3)) fun v142 =>
    Jo (fun (p143 : Value) (p144 : Value) (p145 : Value) (p146 : Value) (p147 : Value) (p148 : Value) (p149 : Value) (w150 : World) => (t208_3 a0 τ2 w150 J134 v135 v136 v139 v142 p143 p144 p145 p146 p147 p148 p149 K : Prop)) fun J151 =>
    If v142 (
     Cl Pr (callV (fn 271) #[a0, (g τ2 0), (g τ2 1)]) w3 fun v283 w282 =>
     Qu Pr (Is w282) (binS .sub 3 (.tmp 40) (.const (Value.int .i64 1)) (g τ2 2) (Value.int .i64 1)) fun v284 =>
     J151 a0 (g τ2 0) (g τ2 1) v283 (g τ2 2) v284 v284 w282) (
     J151 (g τ2 31) (g τ2 32) (g τ2 33) (g τ2 34) (g τ2 35) (g τ2 36) (g τ2 2) w3)
@[irreducible] def t208_5 (w3 : World) (τ2 : List Value) (a0 : Value) (K : Value → World → Prop) (J134 : Value → Value → Value → Value → Value → Value → Value → Value → Value → Value → Value → Value → Value → Value → Value → Value → Value → Value → Value → Value → Value → Value → Value → Value → Value → Value → Value → Value → Value → Value → Value → Value → Value → Value → Value → Value → Value → Value → Value → Value → Value → Value → Value → Value → Value → Value → Value → Value → Value → Value → Value → Value → Value → Value → Value → Value → Value → Value → Value → Value → Value → Value → Value → Value → Value → Value → Value → Value → Value → Value → Value → Value → Value → Value → Value → Value → Value → Value → Value → Value → Value → Value → Value → Value → Value → Value → Value → Value → Value → Value → Value → Value → Value → Value → Value → Value → Value → Value → Value → Value → Value → Value → Value → Value → Value → Value → Value → Value → Value → Value → Value → Value → Value → Value → Value → Value → Value → Value → Value → Value → Value → Value → Value → Value → Value → Value → Value → Value → Value → World → Prop) (v135 : Value) (v136 : Value) : Prop :=
   Qu Pr (Is w3) (binS .eql 3 (.tmp 28) (.const (Value.int .i64 0)) (g τ2 2) (Value.int .i64 0)) fun v139 =>
   If v139 (
    Cl Pr (callV (fn 270) #[a0, (g τ2 0), (g τ2 1)]) w3 fun _ w140 =>
    K (.tuple #[]) w140) (t208_4 w3 τ2 a0 J134 v135 v136 v139 K)
def t208 (a0 a1 a2 a3 : Value) (K : Value → World → Prop) (w : World) : Prop :=
 LoopW [a1, a2, a3, (Value.bool true), (Value.bool true), undef, undef, undef, undef, undef, undef, undef, undef, undef, undef, undef, undef, undef, undef, undef, undef, undef, undef, undef, undef, undef, undef, undef, undef, undef, undef, undef, undef, undef, undef, undef, undef, undef, undef, undef, undef, undef, undef, undef, undef, undef, undef, undef, undef, undef, undef, undef, undef, undef, undef, undef, undef, undef, undef, undef, undef, undef, undef, undef, undef, undef, undef, undef, undef, undef, undef, undef, undef, undef, undef, undef, undef, undef, undef, undef, undef, undef, undef, undef, undef, undef, undef, undef, undef, undef, undef, undef, undef, undef, undef, undef, undef, undef, undef, undef, undef, undef, undef, undef, undef, undef, undef, undef, undef, undef, undef, undef, undef, undef, undef, undef, undef, undef, undef, undef, undef, undef, undef, undef, undef, undef, undef, undef, undef] (fun r1 τ2 w3 =>
  Jo (fun (p4 : Value) (p5 : Value) (p6 : Value) (p7 : Value) (p8 : Value) (p9 : Value) (p10 : Value) (p11 : Value) (p12 : Value) (p13 : Value) (p14 : Value) (p15 : Value) (p16 : Value) (p17 : Value) (p18 : Value) (p19 : Value) (p20 : Value) (p21 : Value) (p22 : Value) (p23 : Value) (p24 : Value) (p25 : Value) (p26 : Value) (p27 : Value) (p28 : Value) (p29 : Value) (p30 : Value) (p31 : Value) (p32 : Value) (p33 : Value) (p34 : Value) (p35 : Value) (p36 : Value) (p37 : Value) (p38 : Value) (p39 : Value) (p40 : Value) (p41 : Value) (p42 : Value) (p43 : Value) (p44 : Value) (p45 : Value) (p46 : Value) (p47 : Value) (p48 : Value) (p49 : Value) (p50 : Value) (p51 : Value) (p52 : Value) (p53 : Value) (p54 : Value) (p55 : Value) (p56 : Value) (p57 : Value) (p58 : Value) (p59 : Value) (p60 : Value) (p61 : Value) (p62 : Value) (p63 : Value) (p64 : Value) (p65 : Value) (p66 : Value) (p67 : Value) (p68 : Value) (p69 : Value) (p70 : Value) (p71 : Value) (p72 : Value) (p73 : Value) (p74 : Value) (p75 : Value) (p76 : Value) (p77 : Value) (p78 : Value) (p79 : Value) (p80 : Value) (p81 : Value) (p82 : Value) (p83 : Value) (p84 : Value) (p85 : Value) (p86 : Value) (p87 : Value) (p88 : Value) (p89 : Value) (p90 : Value) (p91 : Value) (p92 : Value) (p93 : Value) (p94 : Value) (p95 : Value) (p96 : Value) (p97 : Value) (p98 : Value) (p99 : Value) (p100 : Value) (p101 : Value) (p102 : Value) (p103 : Value) (p104 : Value) (p105 : Value) (p106 : Value) (p107 : Value) (p108 : Value) (p109 : Value) (p110 : Value) (p111 : Value) (p112 : Value) (p113 : Value) (p114 : Value) (p115 : Value) (p116 : Value) (p117 : Value) (p118 : Value) (p119 : Value) (p120 : Value) (p121 : Value) (p122 : Value) (p123 : Value) (p124 : Value) (p125 : Value) (p126 : Value) (p127 : Value) (p128 : Value) (p129 : Value) (p130 : Value) (p131 : Value) (p132 : Value) (w133 : World) => (
    r1 [p120, p132, p28, p124, p95, p7, p48, p49, p82, p92, p93, p102, p103, p106, p4, p5, p6, p8, p9, p10, p11, p12, p13, p14, p15, p16, p17, p18, p19, p20, p21, p22, p23, p24, p25, p26, p27, p33, p29, p30, p31, p32, p34, p35, p36, p37, p38, p39, p40, p41, p42, p43, p44, p45, p46, p47, p50, p51, p52, p53, p54, p55, p56, p57, p58, p59, p60, p61, p62, p63, p64, p65, p66, p67, p68, p69, p70, p71, p72, p73, p74, p75, p76, p77, p78, p79, p80, p81, p83, p89, p84, p85, p86, p87, p88, p90, p91, p94, p96, p97, p98, p99, p100, p101, p104, p105, p107, p108, p109, p110, p111, p112, p113, p114, p115, p116, p117, p118, p119, p121, p122, p123, p125, p126, p127, p128, p129, p130, p131] w133 : Prop)) fun J134 =>
  Qu Pr (Is w3) (binS .sub 3 (.tmp 19) (.tmp 20) (g τ2 1) (g τ2 0)) fun v135 =>
  Qu Pr (Is w3) (binS .leq 3 (.tmp 22) (.const (Value.int .i64 12)) v135 (Value.int .i64 12)) fun v136 =>
  If v136 (
   Cl Pr (callV (fn 269) #[a0, (g τ2 0), (g τ2 1)]) w3 fun _ w137 =>
   K (.tuple #[]) w137) (t208_5 w3 τ2 a0 K J134 v135 v136)) w
theorem c208 {a0 a1 a2 a3 : Value} {K : Value → World → Prop} {w : World} (h : t208 a0 a1 a2 a3 K w) : CK Pr 208 #[a0, a1, a2, a3] w K := by
  refine calls_of_RF [(2, [1, 2, 3, 8, 9, 10, 11, 12, 13, 14, 15, 16, 17, 18, 19, 20, 21, 22, 23, 24, 25, 26, 27, 28, 29, 30, 31, 32, 33, 34, 35, 36, 37, 38, 39, 40, 41, 42, 43, 44, 45, 46, 47, 48, 49, 50, 51, 52, 53, 54, 55, 56, 57, 58, 59, 60, 61, 62, 63, 64, 65, 66, 67, 68, 69, 70, 71, 72, 73, 74, 75, 76, 77, 78, 79, 80, 81, 82, 83, 84, 85, 86, 87, 88, 89, 90, 91, 92, 93, 94, 95, 96, 97, 98, 99, 100, 101, 102, 103, 104, 105, 106, 107, 108, 109, 110, 111, 112, 113, 114, 115, 116, 117, 118, 119, 120, 121, 122, 123, 124, 125, 126, 127, 128, 129, 130, 131, 132, 133])] Tryz.func208 rfl ?_ ?_ ?_
  · kernel_rfl
  · exact Nat.le_of_ble_eq_true rfl
  · exact cast (by kernel_rfl) h

/-- math/bits.Len -/
def t209 (a0 : Value) (K : Value → World → Prop) (w : World) : Prop :=
 If (Value.bool false) (
  Qu Pr (Is w) (convert 305 371 a0) fun v1 =>
  Cl Pr (callV (fn 278) #[v1]) w fun v3 w2 =>
  K v3 w2) (
  Cl Pr (callV (fn 279) #[a0]) w fun v5 w4 =>
  K v5 w4)
theorem c209 {a0 : Value} {K : Value → World → Prop} {w : World} (h : t209 a0 K w) : CK Pr 209 #[a0] w K := by
  refine calls_of_RF [] Tryz.func209 rfl ?_ ?_ ?_
  · kernel_rfl
  · exact Nat.le_of_ble_eq_true rfl
  · exact cast (by kernel_rfl) h

def t269 (a0 a1 a2 : Value) (K : Value → World → Prop) (w : World) : Prop :=
 Qu Pr (Is w) (binS .add 3 (.tmp 8) (.const (Value.int .i64 1)) a1 (Value.int .i64 1)) fun v1 =>
 LoopW [v1, undef, undef, undef, undef, undef, undef, undef, undef, undef, undef, undef, undef, undef, undef, undef, undef, undef, undef, undef, undef, undef, undef, undef, undef, undef, undef, undef, undef, undef, undef, undef, undef, undef, undef, undef, undef, undef, undef, undef, undef] (fun r2 τ3 w4 =>
  Qu Pr (Is w4) (binS .lss 3 (.tmp 10) (.tmp 11) (g τ3 0) a2) fun v5 =>
  If v5 (
   LoopW [(g τ3 0), (g τ3 8), (g τ3 9), (g τ3 10), (g τ3 11), (g τ3 12), (g τ3 13), (g τ3 14), (g τ3 15), (g τ3 16), (g τ3 17), (g τ3 18), (g τ3 19), (g τ3 20), (g τ3 21), (g τ3 22), (g τ3 23), (g τ3 24), (g τ3 25), (g τ3 26), (g τ3 27), (g τ3 28), (g τ3 29), (g τ3 30), (g τ3 31), (g τ3 32), (g τ3 33), (g τ3 34), (g τ3 35), (g τ3 36), (g τ3 37), (g τ3 38), (g τ3 39), (g τ3 40)] (fun r6 τ7 w8 =>
    Dr w8 fun S9 w10 =>
    Qu Pr (S9) (binS .gtr 3 (.tmp 16) (.tmp 17) (g τ7 0) a1) fun v11 =>
    Gd v11 true (fun k12 => k12 a0 w10) w10 fun v13 w14 =>
    Gd v11 true (fun k15 => k15 (g τ7 0) w14) w14 fun v16 w17 =>
    Gd v11 true (fun k18 => Qu Pr (S9) (Instr.indexAt 23 v13 v16) fun v21 => k18 v21 w17) w17 fun v19 w20 =>
    Gd v11 true (fun k22 => Qu Pr (S9) (Instr.loadAt 22 v19) fun v25 => k22 v25 w20) w20 fun v23 w24 =>
    Gd v11 true (fun k26 => k26 a0 w24) w24 fun v27 w28 =>
    Gd v11 true (fun k29 => k29 (g τ7 0) w28) w28 fun v30 w31 =>
    Gd v11 true (fun k32 => Qu Pr (S9) (binS .sub 3 (.tmp 25) (.const (Value.int .i64 1)) v30 (Value.int .i64 1)) fun v35 => k32 v35 w31) w31 fun v33 w34 =>
    Gd v11 true (fun k36 => Qu Pr (S9) (Instr.indexAt 23 v27 v33) fun v39 => k36 v39 w34) w34 fun v37 w38 =>
    Gd v11 true (fun k40 => Qu Pr (S9) (Instr.loadAt 22 v37) fun v43 => k40 v43 w38) w38 fun v41 w42 =>
    Gd v11 true (fun k44 => Cl Pr (callV (fn 275) #[v23, v41]) w42 fun v45x w46x => S9 w46x ∧ k44 v45x w46x) w42 fun v45 w46 =>
    Qu Pr (S9) (pickS v11 v45 (Value.bool false)) fun v47 =>
    If v47 (
     Dr w46 fun S48 w49 =>
     Qu Pr (S48) (binS .sub 3 (.tmp 36) (.const (Value.int .i64 1)) (g τ7 0) (Value.int .i64 1)) fun v50 =>
     Qu Pr (Is w49) (binS .sub 3 (.tmp 39) (.const (Value.int .i64 1)) (g τ7 0) (Value.int .i64 1)) fun v51 =>
     Qu Pr (Is w49) (Instr.indexAt 23 a0 v51) fun v52 =>
     Qu Pr (Is w49) (Instr.loadAt 22 v52) fun v53 =>
     Qu Pr (Is w49) (Instr.indexAt 23 a0 (g τ7 0)) fun v54 =>
     Qu Pr (Is w49) (Instr.loadAt 22 v54) fun v55 =>
     Qu Pr (Is w49) (Instr.indexAt 23 a0 (g τ7 0)) fun v56 =>
     Eu Pr (Instr.storeAt 22 v56 v53) w49 fun w57 => S48 w57 ∧
     Qu Pr (S48) (Instr.indexAt 23 a0 v50) fun v58 =>
     Eu Pr (Instr.storeAt 22 v58 v55) w57 fun w59 => S48 w59 ∧
     Qu Pr (Is w59) (binS .sub 3 (.tmp 31) (.const (Value.int .i64 1)) (g τ7 0) (Value.int .i64 1)) fun v60 =>
     r6 [v60, (g τ7 0), a1, v11, v11, v13, v16, v19, v23, v27, v30, v33, v37, v41, v45, v47, (g τ7 0), v60, a0, (g τ7 0), a0, (g τ7 0), v50, a0, (g τ7 0), v51, v52, v53, a0, (g τ7 0), v54, v55, v56, v58] w59) (
     Qu Pr (Is w46) (binS .add 3 (.tmp 13) (.const (Value.int .i64 1)) (g τ3 0) (Value.int .i64 1)) fun v61 =>
     r2 [v61, (g τ7 0), (g τ3 0), a2, v5, (g τ3 0), v61, (g τ3 0), (g τ7 0), a1, v11, v11, v13, v16, v19, v23, v27, v30, v33, v37, v41, v45, v47, (g τ7 16), (g τ7 17), (g τ7 18), (g τ7 19), (g τ7 20), (g τ7 21), (g τ7 22), (g τ7 23), (g τ7 24), (g τ7 25), (g τ7 26), (g τ7 27), (g τ7 28), (g τ7 29), (g τ7 30), (g τ7 31), (g τ7 32), (g τ7 33)] w46)) w4) (
   K (.tuple #[]) w4)) w
theorem c269 {a0 a1 a2 : Value} {K : Value → World → Prop} {w : World} (h : t269 a0 a1 a2 K w) : CK Pr 269 #[a0, a1, a2] w K := by
  refine calls_of_RF [(1, [6, 7, 10, 11, 12, 13, 14, 15, 16, 17, 18, 19, 20, 21, 22, 23, 24, 25, 26, 27, 28, 29, 30, 31, 32, 33, 34, 35, 36, 37, 38, 39, 40, 41, 42, 43, 44, 45, 46, 47, 48]), (4, [7, 16, 17, 18, 19, 20, 21, 22, 23, 24, 25, 26, 27, 28, 29, 30, 31, 32, 33, 34, 35, 36, 37, 38, 39, 40, 41, 42, 43, 44, 45, 46, 47, 48])] Tryz.func269 rfl ?_ ?_ ?_
  · kernel_rfl
  · exact Nat.le_of_ble_eq_true rfl
  · exact cast (by kernel_rfl) h

def t272 (a0 a1 a2 : Value) (K : Value → World → Prop) (w : World) : Prop :=
 Qu Pr (Is w) (binS .sub 3 (.tmp 13) (.tmp 14) a2 a1) fun v1 =>
 Ef Pr (Instr.alloc 3 true (.tuple #[])) w fun v3 w2 =>
 Qu Pr (Is w2) (binS .quo 3 (.tmp 17) (.const (Value.int .i64 4)) v1 (Value.int .i64 4)) fun v4 =>
 Qu Pr (Is w2) (binS .mul 3 (.tmp 18) (.const (Value.int .i64 1)) v4 (Value.int .i64 1)) fun v5 =>
 Qu Pr (Is w2) (binS .add 3 (.tmp 16) (.tmp 19) a1 v5) fun v6 =>
 Qu Pr (Is w2) (binS .quo 3 (.tmp 22) (.const (Value.int .i64 4)) v1 (Value.int .i64 4)) fun v7 =>
 Qu Pr (Is w2) (binS .mul 3 (.tmp 23) (.const (Value.int .i64 2)) v7 (Value.int .i64 2)) fun v8 =>
 Qu Pr (Is w2) (binS .add 3 (.tmp 21) (.tmp 24) a1 v8) fun v9 =>
 Qu Pr (Is w2) (binS .quo 3 (.tmp 27) (.const (Value.int .i64 4)) v1 (Value.int .i64 4)) fun v10 =>
 Qu Pr (Is w2) (binS .mul 3 (.tmp 28) (.const (Value.int .i64 3)) v10 (Value.int .i64 3)) fun v11 =>
 Qu Pr (Is w2) (binS .add 3 (.tmp 26) (.tmp 29) a1 v11) fun v12 =>
 Qu Pr (Is w2) (binS .geq 3 (.tmp 31) (.const (Value.int .i64 8)) v1 (Value.int .i64 8)) fun v13 =>
 Jo (fun (p32 : Value) (w33 : World) => (
   Qu Pr (Is w33) (Instr.loadAt 3 v3) fun v35 =>
   Qu Pr (Is w33) (binS .eql 3 (.tmp 49) (.const (Value.int .i64 0)) v35 (Value.int .i64 0)) fun v36 =>
   If v36 (
    K (.tuple #[p32, (Value.int .i64 1)]) w33) (
    Qu Pr (Is w33) (binS .eql 3 (.tmp 49) (.const (Value.int .i64 12)) v35 (Value.int .i64 12)) fun v37 =>
    If v37 (
     K (.tuple #[p32, (Value.int .i64 2)]) w33) (
     K (.tuple #[p32, (Value.int .i64 0)]) w33)) : Prop)) fun J34 =>
 If v13 (
  Qu Pr (Is w2) (binS .geq 3 (.tmp 33) (.const (Value.int .i64 50)) v1 (Value.int .i64 50)) fun v38 =>
  Jo (fun (p42 : Value) (p46 : Value) (p50 : Value) (w51 : World) => (
    Cl Pr (callV (fn 314) #[a0, p42, p46, p50, v3]) w51 fun v54 w53 =>
    J34 v54 w53 : Prop)) fun J52 =>
  If v38 (
   Cl Pr (callV (fn 313) #[a0, v6, v3]) w2 fun v56 w55 =>
   Cl Pr (callV (fn 313) #[a0, v9, v3]) w55 fun v58 w57 =>
   Cl Pr (callV (fn 313) #[a0, v12, v3]) w57 fun v60 w59 =>
   J52 v56 v58 v60 w59) (
   J52 v6 v9 v12 w2)) (
  J34 v9 w2)
theorem c272 {a0 a1 a2 : Value} {K : Value → World → Prop} {w : World} (h : t272 a0 a1 a2 K w) : CK Pr 272 #[a0, a1, a2] w K := by
  refine calls_of_RF [] Tryz.func272 rfl ?_ ?_ ?_
  · kernel_rfl
  · exact Nat.le_of_ble_eq_true rfl
  · exact cast (by kernel_rfl) h

def t273 (a0 a1 a2 : Value) (K : Value → World → Prop) (w : World) : Prop :=
 Qu Pr (Is w) (binS .sub 3 (.tmp 9) (.const (Value.int .i64 1)) a2 (Value.int .i64 1)) fun v1 =>
 LoopW [a1, v1, undef, undef, undef, undef, undef, undef, undef, undef, undef, undef, undef, undef, undef, undef, undef, undef, undef, undef, undef, undef, undef] (fun r2 τ3 w4 =>
  Qu Pr (Is w4) (binS .lss 3 (.tmp 11) (.tmp 12) (g τ3 0) (g τ3 1)) fun v5 =>
  If v5 (
   Dr w4 fun S6 w7 =>
   Qu Pr (Is w7) (Instr.indexAt 23 a0 (g τ3 1)) fun v8 =>
   Qu Pr (Is w7) (Instr.loadAt 22 v8) fun v9 =>
   Qu Pr (Is w7) (Instr.indexAt 23 a0 (g τ3 0)) fun v10 =>
   Qu Pr (Is w7) (Instr.loadAt 22 v10) fun v11 =>
   Qu Pr (Is w7) (Instr.indexAt 23 a0 (g τ3 0)) fun v12 =>
   Eu Pr (Instr.storeAt 22 v12 v9) w7 fun w13 => S6 w13 ∧
   Qu Pr (S6) (Instr.indexAt 23 a0 (g τ3 1)) fun v14 =>
   Eu Pr (Instr.storeAt 22 v14 v11) w13 fun w15 => S6 w15 ∧
   Qu Pr (Is w15) (binS .add 3 (.tmp 28) (.const (Value.int .i64 1)) (g τ3 0) (Value.int .i64 1)) fun v16 =>
   Qu Pr (Is w15) (binS .sub 3 (.tmp 30) (.const (Value.int .i64 1)) (g τ3 1) (Value.int .i64 1)) fun v17 =>
   r2 [v16, v17, (g τ3 0), (g τ3 1), v5, a0, (g τ3 0), a0, (g τ3 1), a0, (g τ3 1), v8, v9, a0, (g τ3 0), v10, v11, v12, v14, (g τ3 0), v16, (g τ3 1), v17] w15) (
   K (.tuple #[]) w4)) w
theorem c273 {a0 a1 a2 : Value} {K : Value → World → Prop} {w : World} (h : t273 a0 a1 a2 K w) : CK Pr 273 #[a0, a1, a2] w K := by
  refine calls_of_RF [(2, [6, 7, 11, 12, 13, 14, 15, 16, 17, 18, 19, 20, 21, 22, 23, 24, 25, 26, 27, 28, 29, 30, 31])] Tryz.func273 rfl ?_ ?_ ?_
  · kernel_rfl
  · exact Nat.le_of_ble_eq_true rfl
  · exact cast (by kernel_rfl) h

@[irreducible] def t274_1 (w104 : World) (a2 : Value) (τ7 : List Value) (τ3 : List Value) (r2 : List Value → World → Prop) (p103 : Value) (v5 : Value) (v11 : Value) (v13 : Value) (v16 : Value) (v19 : Value) (v23 : Value) (v27 : Value) (v30 : Value) (v33 : Value) (v37 : Value) (v41 : Value) (v45 : Value) (v48 : Value) (v51 : Value) (v53 : Value) (a1 : Value) (v54 : Value) (v55 : Value) (a0 : Value) (v58 : Value) (v59 : Value) (v60 : Value) (v61 : Value) (v62 : Value) (v63 : Value) (v64 : Value) (v66 : Value) (v68 : Value) (v69 : Value) (p70 : Value) (p71 : Value) (p72 : Value) (p73 : Value) (p101 : Value) (p102 : Value) (p74 : Value) (p75 : Value) (p76 : Value) (p77 : Value) (p78 : Value) (p79 : Value) (p80 : Value) (p81 : Value) (p82 : Value) (p83 : Value) (p84 : Value) (p85 : Value) (p86 : Value) (p87 : Value) (p88 : Value) (p89 : Value) (p90 : Value) (p91 : Value) (p92 : Value) (p93 : Value) (p94 : Value) (p95 : Value) (p96 : Value) (p97 : Value) (p98 : Value) (p99 : Value) (p100 : Value) : Prop :=
         Qu Pr (Is w104) (binS .sub 3 (.tmp 95) (.tmp 96) a2 (g τ7 0)) fun v106 =>
         Qu Pr (Is w104) (binS .geq 3 (.tmp 97) (.const (Value.int .i64 2)) v106 (Value.int .i64 2)) fun v107 =>
         Jo (fun (p108 : Value) (p109 : Value) (p110 : Value) (p111 : Value) (p112 : Value) (p113 : Value) (p114 : Value) (p115 : Value) (p116 : Value) (p117 : Value) (p118 : Value) (p119 : Value) (p120 : Value) (p121 : Value) (p122 : Value) (p123 : Value) (p124 : Value) (p125 : Value) (p126 : Value) (p127 : Value) (p128 : Value) (p129 : Value) (p130 : Value) (p131 : Value) (p132 : Value) (p133 : Value) (p134 : Value) (p135 : Value) (p136 : Value) (p137 : Value) (p138 : Value) (p139 : Value) (p140 : Value) (p141 : Value) (p142 : Value) (w143 : World) => (
           Qu Pr (Is w143) (binS .add 3 (.tmp 15) (.const (Value.int .i64 1)) (g τ3 2) (Value.int .i64 1)) fun v145 =>
           r2 [(g τ3 0), (g τ7 0), v145, p103, p142, (g τ3 2), v5, (g τ3 2), v145, (g τ7 0), a2, v11, v11, v13, v16, v19, v23, v27, v30, v33, v37, v41, v45, v48, v51, (g τ7 17), (g τ7 18), (g τ7 0), a2, v53, a2, a1, v54, v55, a0, (g τ7 0), a0, (g τ7 0), v58, a0, (g τ7 0), v59, v60, v61, a0, (g τ7 0), v62, v63, v64, v66, (g τ7 0), a1, v68, v69, p70, p71, p72, p73, p101, p102, p74, p75, p76, p77, p78, p79, p80, p81, p82, p83, p84, p85, p86, p87, p88, p89, p90, p91, p92, p93, p94, p95, p96, p97, p98, p99, p100, a2, (g τ7 0), v106, v107, p108, p109, p110, p111, p112, p140, p141, p113, p114, p115, p116, p117, p118, p119, p120, p121, p122, p123, p124, p125, p126, p127, p128, p129, p130, p131, p132, p133, p134, p135, p136, p137, p138, p139] w143 : Prop)) fun J144 =>
         If v107 (
          Qu Pr (Is w104) (binS .add 3 (.tmp 99) (.const (Value.int .i64 1)) (g τ7 0) (Value.int .i64 1)) fun v146 =>
          Jo (fun (p147 : Value) (p148 : Value) (p149 : Value) (p150 : Value) (p151 : Value) (p152 : Value) (p153 : Value) (p154 : Value) (p155 : Value) (p156 : Value) (p157 : Value) (p158 : Value) (p159 : Value) (p160 : Value) (p161 : Value) (p162 : Value) (p163 : Value) (p164 : Value) (p165 : Value) (p166 : Value) (p167 : Value) (p168 : Value) (p169 : Value) (p170 : Value) (p171 : Value) (p172 : Value) (p173 : Value) (p174 : Value) (p175 : Value) (p176 : Value) (p177 : Value) (p178 : Value) (p179 : Value) (w180 : World) => (
            J144 (g τ7 0) v146 p147 p148 p149 p150 p151 p152 p153 p154 p155 p156 p157 p158 p159 p160 p161 p162 p163 p164 p165 p166 p167 p168 p169 p170 p171 p172 p173 p174 p175 p176 p177 p178 p179 w180 : Prop)) fun J181 =>
          LoopW [v146, (g τ3 93), (g τ3 94), (g τ3 95), (g τ3 96), (g τ3 97), (g τ3 98), (g τ3 99), (g τ3 100), (g τ3 101), (g τ3 102), (g τ3 103), (g τ3 104), (g τ3 105), (g τ3 106), (g τ3 107), (g τ3 108), (g τ3 109), (g τ3 110), (g τ3 111), (g τ3 112), (g τ3 113), (g τ3 114), (g τ3 115), (g τ3 116), (g τ3 117), (g τ3 118), (g τ3 119), (g τ3 120), (g τ3 121), (g τ3 122), (g τ3 123), (g τ3 124)] (fun r182 τ183 w184 =>
           Qu Pr (Is w184) (binS .lss 3 (.tmp 101) (.tmp 102) (g τ183 0) a2) fun v185 =>
           If v185 (
            Dr w184 fun S186 w187 =>
            Qu Pr (S186) (Instr.indexAt 23 a0 (g τ183 0)) fun v188 =>
            Qu Pr (S186) (Instr.loadAt 22 v188) fun v189 =>
            Qu Pr (S186) (binS .sub 3 (.tmp 111) (.const (Value.int .i64 1)) (g τ183 0) (Value.int .i64 1)) fun v190 =>
            Qu Pr (S186) (Instr.indexAt 23 a0 v190) fun v191 =>
            Qu Pr (S186) (Instr.loadAt 22 v191) fun v192 =>
            Cl Pr (callV (fn 275) #[v189, v192]) w187 fun v194 w193 => S186 w193 ∧
            Qu Pr (S186) (Op.unary .not v194) fun v195 =>
            If v195 (
             J181 (g τ183 0) a2 v185 a0 (g τ183 0) v188 v189 a0 (g τ183 0) v190 v191 v192 v194 v195 (g τ183 17) (g τ183 18) (g τ183 19) (g τ183 20) (g τ183 21) (g τ183 22) (g τ183 23) (g τ183 24) (g τ183 25) (g τ183 26) (g τ183 27) (g τ183 28) (g τ183 29) (g τ183 30) (g τ183 31) (g τ183 32) (g τ183 4) (g τ183 5) (g τ183 0) w193) (
             Dr w193 fun S196 w197 =>
             Qu Pr (S196) (binS .sub 3 (.tmp 120) (.const (Value.int .i64 1)) (g τ183 0) (Value.int .i64 1)) fun v198 =>
             Qu Pr (Is w197) (binS .sub 3 (.tmp 123) (.const (Value.int .i64 1)) (g τ183 0) (Value.int .i64 1)) fun v199 =>
             Qu Pr (Is w197) (Instr.indexAt 23 a0 v199) fun v200 =>
             Qu Pr (Is w197) (Instr.loadAt 22 v200) fun v201 =>
             Qu Pr (Is w197) (Instr.indexAt 23 a0 (g τ183 0)) fun v202 =>
             Qu Pr (Is w197) (Instr.loadAt 22 v202) fun v203 =>
             Qu Pr (Is w197) (Instr.indexAt 23 a0 (g τ183 0)) fun v204 =>
             Eu Pr (Instr.storeAt 22 v204 v201) w197 fun w205 => S196 w205 ∧
             Qu Pr (S196) (Instr.indexAt 23 a0 v198) fun v206 =>
             Eu Pr (Instr.storeAt 22 v206 v203) w205 fun w207 => S196 w207 ∧
             Qu Pr (Is w207) (binS .add 3 (.tmp 104) (.const (Value.int .i64 1)) (g τ183 0) (Value.int .i64 1)) fun v208 =>
             r182 [v208, (g τ183 0), a2, v185, (g τ183 0), v208, a0, (g τ183 0), v188, v189, a0, (g τ183 0), v190, v191, v192, v194, v195, a0, (g τ183 0), a0, (g τ183 0), v198, a0, (g τ183 0), v199, v200, v201, a0, (g τ183 0), v202, v203, v204, v206] w207)) (
            J181 (g τ183 0) a2 v185 (g τ183 6) (g τ183 7) (g τ183 8) (g τ183 9) (g τ183 10) (g τ183 11) (g τ183 12) (g τ183 13) (g τ183 14) (g τ183 15) (g τ183 16) (g τ183 17) (g τ183 18) (g τ183 19) (g τ183 20) (g τ183 21) (g τ183 22) (g τ183 23) (g τ183 24) (g τ183 25) (g τ183 26) (g τ183 27) (g τ183 28) (g τ183 29) (g τ183 30) (g τ183 31) (g τ183 32) (g τ183 4) (g τ183 5) (g τ183 0) w184)) w104) (
          J144 (g τ3 91) (g τ3 92) (g τ3 93) (g τ3 94) (g τ3 95) (g τ3 98) (g τ3 99) (g τ3 100) (g τ3 101) (g τ3 102) (g τ3 103) (g τ3 104) (g τ3 105) (g τ3 106) (g τ3 107) (g τ3 108) (g τ3 109) (g τ3 110) (g τ3 111) (g τ3 112) (g τ3 113) (g τ3 114) (g τ3 115) (g τ3 116) (g τ3 117) (g τ3 118) (g τ3 119) (g τ3 120) (g τ3 121) (g τ3 122) (g τ3 123) (g τ3 124) (g τ3 96) (g τ3 97) (g τ3 4) w104)
@[irreducible] def t274_2 (w49 : World) (τ7 : List Value) (a0 : Value) (a1 : Value) (a2 : Value) (τ3 : List Value) (r2 : List Value → World → Prop) (v5 : Value) (v11 : Value) (v13 : Value) (v16 : Value) (v19 : Value) (v23 : Value) (v27 : Value) (v30 : Value) (v33 : Value) (v37 : Value) (v41 : Value) (v45 : Value) (v48 : Value) (v51 : Value) (v53 : Value) (v54 : Value) (v55 : Value) : Prop :=
       Dr w49 fun S56 w57 =>
       Qu Pr (S56) (binS .sub 3 (.tmp 45) (.const (Value.int .i64 1)) (g τ7 0) (Value.int .i64 1)) fun v58 =>
       Qu Pr (Is w57) (binS .sub 3 (.tmp 48) (.const (Value.int .i64 1)) (g τ7 0) (Value.int .i64 1)) fun v59 =>
       Qu Pr (Is w57) (Instr.indexAt 23 a0 v59) fun v60 =>
       Qu Pr (Is w57) (Instr.loadAt 22 v60) fun v61 =>
       Qu Pr (Is w57) (Instr.indexAt 23 a0 (g τ7 0)) fun v62 =>
       Qu Pr (Is w57) (Instr.loadAt 22 v62) fun v63 =>
       Qu Pr (Is w57) (Instr.indexAt 23 a0 (g τ7 0)) fun v64 =>
       Eu Pr (Instr.storeAt 22 v64 v61) w57 fun w65 => S56 w65 ∧
       Qu Pr (S56) (Instr.indexAt 23 a0 v58) fun v66 =>
       Eu Pr (Instr.storeAt 22 v66 v63) w65 fun w67 => S56 w67 ∧
       Qu Pr (Is w67) (binS .sub 3 (.tmp 58) (.tmp 59) (g τ7 0) a1) fun v68 =>
       Qu Pr (Is w67) (binS .geq 3 (.tmp 60) (.const (Value.int .i64 2)) v68 (Value.int .i64 2)) fun v69 =>
       Jo (fun (p70 : Value) (p71 : Value) (p72 : Value) (p73 : Value) (p74 : Value) (p75 : Value) (p76 : Value) (p77 : Value) (p78 : Value) (p79 : Value) (p80 : Value) (p81 : Value) (p82 : Value) (p83 : Value) (p84 : Value) (p85 : Value) (p86 : Value) (p87 : Value) (p88 : Value) (p89 : Value) (p90 : Value) (p91 : Value) (p92 : Value) (p93 : Value) (p94 : Value) (p95 : Value) (p96 : Value) (p97 : Value) (p98 : Value) (p99 : Value) (p100 : Value) (p101 : Value) (p102 : Value) (p103 : Value) (w104 : World) => (t274_1 w104 a2 τ7 τ3 r2 p103 v5 v11 v13 v16 v19 v23 v27 v30 v33 v37 v41 v45 v48 v51 v53 a1 v54 v55 a0 v58 v59 v60 v61 v62 v63 v64 v66 v68 v69 p70 p71 p72 p73 p101 p102 p74 p75 p76 p77 p78 p79 p80 p81 p82 p83 p84 p85 p86 p87 p88 p89 p90 p91 p92 p93 p94 p95 p96 p97 p98 p99 p100 : Prop)) fun J105 =>
       If v69 (
        Qu Pr (Is w67) (binS .sub 3 (.tmp 62) (.const (Value.int .i64 1)) (g τ7 0) (Value.int .i64 1)) fun v209 =>
        Jo (fun (p210 : Value) (p211 : Value) (p212 : Value) (p213 : Value) (p214 : Value) (p215 : Value) (p216 : Value) (p217 : Value) (p218 : Value) (p219 : Value) (p220 : Value) (p221 : Value) (p222 : Value) (p223 : Value) (p224 : Value) (p225 : Value) (p226 : Value) (p227 : Value) (p228 : Value) (p229 : Value) (p230 : Value) (p231 : Value) (p232 : Value) (p233 : Value) (p234 : Value) (p235 : Value) (p236 : Value) (p237 : Value) (p238 : Value) (p239 : Value) (p240 : Value) (p241 : Value) (w242 : World) => (
          J105 (g τ7 0) v209 p210 p211 p212 p213 p214 p215 p216 p217 p218 p219 p220 p221 p222 p223 p224 p225 p226 p227 p228 p229 p230 p231 p232 p233 p234 p235 p236 p237 p238 p239 p240 p241 w242 : Prop)) fun J243 =>
        LoopW [v209, (g τ3 56), (g τ3 57), (g τ3 58), (g τ3 59), (g τ3 60), (g τ3 61), (g τ3 62), (g τ3 63), (g τ3 64), (g τ3 65), (g τ3 66), (g τ3 67), (g τ3 68), (g τ3 69), (g τ3 70), (g τ3 71), (g τ3 72), (g τ3 73), (g τ3 74), (g τ3 75), (g τ3 76), (g τ3 77), (g τ3 78), (g τ3 79), (g τ3 80), (g τ3 81), (g τ3 82), (g τ3 83), (g τ3 84), (g τ3 85), (g τ3 86)] (fun r244 τ245 w246 =>
         Qu Pr (Is w246) (binS .geq 3 (.tmp 64) (.const (Value.int .i64 1)) (g τ245 0) (Value.int .i64 1)) fun v247 =>
         If v247 (
          Dr w246 fun S248 w249 =>
          Qu Pr (S248) (Instr.indexAt 23 a0 (g τ245 0)) fun v250 =>
          Qu Pr (S248) (Instr.loadAt 22 v250) fun v251 =>
          Qu Pr (S248) (binS .sub 3 (.tmp 73) (.const (Value.int .i64 1)) (g τ245 0) (Value.int .i64 1)) fun v252 =>
          Qu Pr (S248) (Instr.indexAt 23 a0 v252) fun v253 =>
          Qu Pr (S248) (Instr.loadAt 22 v253) fun v254 =>
          Cl Pr (callV (fn 275) #[v251, v254]) w249 fun v256 w255 => S248 w255 ∧
          Qu Pr (S248) (Op.unary .not v256) fun v257 =>
          If v257 (
           J243 (g τ245 0) v247 a0 (g τ245 0) v250 v251 a0 (g τ245 0) v252 v253 v254 v256 v257 (g τ245 16) (g τ245 17) (g τ245 18) (g τ245 19) (g τ245 20) (g τ245 21) (g τ245 22) (g τ245 23) (g τ245 24) (g τ245 25) (g τ245 26) (g τ245 27) (g τ245 28) (g τ245 29) (g τ245 30) (g τ245 31) (g τ245 3) (g τ245 4) (g τ245 0) w255) (
           Dr w255 fun S258 w259 =>
           Qu Pr (S258) (binS .sub 3 (.tmp 82) (.const (Value.int .i64 1)) (g τ245 0) (Value.int .i64 1)) fun v260 =>
           Qu Pr (Is w259) (binS .sub 3 (.tmp 85) (.const (Value.int .i64 1)) (g τ245 0) (Value.int .i64 1)) fun v261 =>
           Qu Pr (Is w259) (Instr.indexAt 23 a0 v261) fun v262 =>
           Qu Pr (Is w259) (Instr.loadAt 22 v262) fun v263 =>
           Qu Pr (Is w259) (Instr.indexAt 23 a0 (g τ245 0)) fun v264 =>
           Qu Pr (Is w259) (Instr.loadAt 22 v264) fun v265 =>
           Qu Pr (Is w259) (Instr.indexAt 23 a0 (g τ245 0)) fun v266 =>
           Eu Pr (Instr.storeAt 22 v266 v263) w259 fun w267 => S258 w267 ∧
           Qu Pr (S258) (Instr.indexAt 23 a0 v260) fun v268 =>
           Eu Pr (Instr.storeAt 22 v268 v265) w267 fun w269 => S258 w269 ∧
           Qu Pr (Is w269) (binS .sub 3 (.tmp 66) (.const (Value.int .i64 1)) (g τ245 0) (Value.int .i64 1)) fun v270 =>
           r244 [v270, (g τ245 0), v247, (g τ245 0), v270, a0, (g τ245 0), v250, v251, a0, (g τ245 0), v252, v253, v254, v256, v257, a0, (g τ245 0), a0, (g τ245 0), v260, a0, (g τ245 0), v261, v262, v263, a0, (g τ245 0), v264, v265, v266, v268] w269)) (
          J243 (g τ245 0) v247 (g τ245 5) (g τ245 6) (g τ245 7) (g τ245 8) (g τ245 9) (g τ245 10) (g τ245 11) (g τ245 12) (g τ245 13) (g τ245 14) (g τ245 15) (g τ245 16) (g τ245 17) (g τ245 18) (g τ245 19) (g τ245 20) (g τ245 21) (g τ245 22) (g τ245 23) (g τ245 24) (g τ245 25) (g τ245 26) (g τ245 27) (g τ245 28) (g τ245 29) (g τ245 30) (g τ245 31) (g τ245 3) (g τ245 4) (g τ245 0) w246)) w67) (
        J105 (g τ3 54) (g τ3 55) (g τ3 56) (g τ3 57) (g τ3 60) (g τ3 61) (g τ3 62) (g τ3 63) (g τ3 64) (g τ3 65) (g τ3 66) (g τ3 67) (g τ3 68) (g τ3 69) (g τ3 70) (g τ3 71) (g τ3 72) (g τ3 73) (g τ3 74) (g τ3 75) (g τ3 76) (g τ3 77) (g τ3 78) (g τ3 79) (g τ3 80) (g τ3 81) (g τ3 82) (g τ3 83) (g τ3 84) (g τ3 85) (g τ3 86) (g τ3 58) (g τ3 59) (g τ3 3) w67)
@[irreducible] def t274_3 (w49 : World) (a2 : Value) (a1 : Value) (K : Value → World → Prop) (τ7 : List Value) (a0 : Value) (τ3 : List Value) (r2 : List Value → World → Prop) (v5 : Value) (v11 : Value) (v13 : Value) (v16 : Value) (v19 : Value) (v23 : Value) (v27 : Value) (v30 : Value) (v33 : Value) (v37 : Value) (v41 : Value) (v45 : Value) (v48 : Value) (v51 : Value) (v53 : Value) : Prop :=
      Qu Pr (Is w49) (binS .sub 3 (.tmp 38) (.tmp 39) a2 a1) fun v54 =>
      Qu Pr (Is w49) (binS .lss 3 (.tmp 40) (.const (Value.int .i64 50)) v54 (Value.int .i64 50)) fun v55 =>
      If v55 (
       K (Value.bool false) w49) (t274_2 w49 τ7 a0 a1 a2 τ3 r2 v5 v11 v13 v16 v19 v23 v27 v30 v33 v37 v41 v45 v48 v51 v53 v54 v55)
@[irreducible] def t274_4 (w49 : World) (τ7 : List Value) (a2 : Value) (K : Value → World → Prop) (a1 : Value) (a0 : Value) (τ3 : List Value) (r2 : List Value → World → Prop) (v5 : Value) (v11 : Value) (v13 : Value) (v16 : Value) (v19 : Value) (v23 : Value) (v27 : Value) (v30 : Value) (v33 : Value) (v37 : Value) (v41 : Value) (v45 : Value) (v48 : Value) (v51 : Value) : Prop :=
     Qu Pr (Is w49) (binS .eql 3 (.tmp 35) (.tmp 36) (g τ7 0) a2) fun v53 =>
     If v53 (
      K (Value.bool true) w49) (t274_3 w49 a2 a1 K τ7 a0 τ3 r2 v5 v11 v13 v16 v19 v23 v27 v30 v33 v37 v41 v45 v48 v51 v53)
@[irreducible] def t274_5 (τ3 : List Value) (a2 : Value) (a0 : Value) (K : Value → World → Prop) (a1 : Value) (r2 : List Value → World → Prop) (v5 : Value) (w4 : World) : Prop :=
   LoopW [(g τ3 1), (g τ3 9), (g τ3 10), (g τ3 11), (g τ3 12), (g τ3 13), (g τ3 14), (g τ3 15), (g τ3 16), (g τ3 17), (g τ3 18), (g τ3 19), (g τ3 20), (g τ3 21), (g τ3 22), (g τ3 23), (g τ3 24), (g τ3 25), (g τ3 26)] (fun r6 τ7 w8 =>
    Dr w8 fun S9 w10 =>
    Qu Pr (S9) (binS .lss 3 (.tmp 17) (.tmp 18) (g τ7 0) a2) fun v11 =>
    Gd v11 true (fun k12 => k12 a0 w10) w10 fun v13 w14 =>
    Gd v11 true (fun k15 => k15 (g τ7 0) w14) w14 fun v16 w17 =>
    Gd v11 true (fun k18 => Qu Pr (S9) (Instr.indexAt 23 v13 v16) fun v21 => k18 v21 w17) w17 fun v19 w20 =>
    Gd v11 true (fun k22 => Qu Pr (S9) (Instr.loadAt 22 v19) fun v25 => k22 v25 w20) w20 fun v23 w24 =>
    Gd v11 true (fun k26 => k26 a0 w24) w24 fun v27 w28 =>
    Gd v11 true (fun k29 => k29 (g τ7 0) w28) w28 fun v30 w31 =>
    Gd v11 true (fun k32 => Qu Pr (S9) (binS .sub 3 (.tmp 26) (.const (Value.int .i64 1)) v30 (Value.int .i64 1)) fun v35 => k32 v35 w31) w31 fun v33 w34 =>
    Gd v11 true (fun k36 => Qu Pr (S9) (Instr.indexAt 23 v27 v33) fun v39 => k36 v39 w34) w34 fun v37 w38 =>
    Gd v11 true (fun k40 => Qu Pr (S9) (Instr.loadAt 22 v37) fun v43 => k40 v43 w38) w38 fun v41 w42 =>
    Gd v11 true (fun k44 => Cl Pr (callV (fn 275) #[v23, v41]) w42 fun v45x w46x => S9 w46x ∧ k44 v45x w46x) w42 fun v45 w46 =>
    Gd v11 true (fun k47 => Qu Pr (S9) (Op.unary .not v45) fun v50 => k47 v50 w46) w46 fun v48 w49 =>
    Qu Pr (S9) (pickS v11 v48 (Value.bool false)) fun v51 =>
    If v51 (
     Qu Pr (Is w49) (binS .add 3 (.tmp 33) (.const (Value.int .i64 1)) (g τ7 0) (Value.int .i64 1)) fun v52 =>
     r6 [v52, (g τ7 0), a2, v11, v11, v13, v16, v19, v23, v27, v30, v33, v37, v41, v45, v48, v51, (g τ7 0), v52] w49) (t274_4 w49 τ7 a2 K a1 a0 τ3 r2 v5 v11 v13 v16 v19 v23 v27 v30 v33 v37 v41 v45 v48 v51)) w4
def t274 (a0 a1 a2 : Value) (K : Value → World → Prop) (w : World) : Prop :=
 Qu Pr (Is w) (binS .add 3 (.tmp 11) (.const (Value.int .i64 1)) a1 (Value.int .i64 1)) fun v1 =>
 LoopW [(Value.bool false), v1, (Value.int .i64 0), undef, undef, undef, undef, undef, undef, undef, undef, undef, undef, undef, undef, undef, undef, undef, undef, undef, undef, undef, undef, undef, undef, undef, undef, undef, undef, undef, undef, undef, undef, undef, undef, undef, undef, undef, undef, undef, undef, undef, undef, undef, undef, undef, undef, undef, undef, undef, undef, undef, undef, undef, undef, undef, undef, undef, undef, undef, undef, undef, undef, undef, undef, undef, undef, undef, undef, undef, undef, undef, undef, undef, undef, undef, undef, undef, undef, undef, undef, undef, undef, undef, undef, undef, undef, undef, undef, undef, undef, undef, undef, undef, undef, undef, undef, undef, undef, undef, undef, undef, undef, undef, undef, undef, undef, undef, undef, undef, undef, undef, undef, undef, undef, undef, undef, undef, undef, undef, undef, undef, undef, undef, undef] (fun r2 τ3 w4 =>
  Qu Pr (Is w4) (binS .lss 3 (.tmp 13) (.const (Value.int .i64 5)) (g τ3 2) (Value.int .i64 5)) fun v5 =>
  If v5 (t274_5 τ3 a2 a0 K a1 r2 v5 w4) (
   K (Value.bool false) w4)) w
theorem c274 {a0 a1 a2 : Value} {K : Value → World → Prop} {w : World} (h : t274 a0 a1 a2 K w) : CK Pr 274 #[a0, a1, a2] w K := by
  refine calls_of_RF [(3, [6, 7, 8, 9, 10, 13, 14, 15, 16, 17, 18, 19, 20, 21, 22, 23, 24, 25, 26, 27, 28, 29, 30, 31, 32, 33, 34, 35, 36, 37, 38, 39, 40, 41, 42, 43, 44, 45, 46, 47, 48, 49, 50, 51, 52, 53, 54, 55, 56, 57, 58, 59, 60, 61, 62, 63, 64, 65, 66, 67, 68, 69, 70, 71, 72, 73, 74, 75, 76, 77, 78, 79, 80, 81, 82, 83, 84, 85, 86, 87, 88, 89, 90, 91, 92, 93, 94, 95, 96, 97, 98, 99, 100, 101, 102, 103, 104, 105, 106, 107, 108, 109, 110, 111, 112, 113, 114, 115, 116, 117, 118, 119, 120, 121, 122, 123, 124, 125, 126, 127, 128, 129, 130, 131, 132]), (5, [7, 17, 18, 19, 20, 21, 22, 23, 24, 25, 26, 27, 28, 29, 30, 31, 32, 33, 34]), (14, [9, 64, 65, 66, 67, 68, 69, 70, 71, 72, 73, 74, 75, 76, 77, 78, 79, 80, 81, 82, 83, 84, 85, 86, 87, 88, 89, 90, 91, 92, 93, 94]), (20, [10, 101, 102, 103, 104, 105, 106, 107, 108, 109, 110, 111, 112, 113, 114, 115, 116, 117, 118, 119, 120, 121, 122, 123, 124, 125, 126, 127, 128, 129, 130, 131, 132])] Tryz.func274 rfl ?_ ?_ ?_
  · kernel_rfl
  · exact Nat.le_of_ble_eq_true rfl
  · exact cast (by kernel_rfl) h

/-- cmp.Less[uint64] -/
def t275 (a0 a1 : Value) (K : Value → World → Prop) (w : World) : Prop :=
 Cl Pr (callV (fn 315) #[a0]) w fun v2 w1 =>
 Gd v2 true (fun k3 => k3 a1 w1) w1 fun v4 w5 =>
 Gd v2 true (fun k6 => Cl Pr (callV (fn 315) #[v4]) w5 fun v7x w8x => k6 v7x w8x) w5 fun v7 w8 =>
 Gd v2 true (fun k9 => Qu Pr (Is w8) (Op.unary .not v7) fun v12 => k9 v12 w8) w8 fun v10 w11 =>
 Qu Pr (Is w11) (pickS v2 v10 (Value.bool false)) fun v13 =>
 Gd v13 false (fun k14 => k14 a0 w11) w11 fun v15 w16 =>
 Gd v13 false (fun k17 => k17 a1 w16) w16 fun v18 w19 =>
 Gd v13 false (fun k20 => Qu Pr (Is w19) (binS .lss 22 (.tmp 13) (.tmp 14) v15 v18) fun v23 => k20 v23 w19) w19 fun v21 w22 =>
 Qu Pr (Is w22) (pickS v13 (Value.bool true) v21) fun v24 =>
 K v24 w22
theorem c275 {a0 a1 : Value} {K : Value → World → Prop} {w : World} (h : t275 a0 a1 K w) : CK Pr 275 #[a0, a1] w K := by
  refine calls_of_RF [] Tryz.func275 rfl ?_ ?_ ?_
  · kernel_rfl
  · exact Nat.le_of_ble_eq_true rfl
  · exact cast (by kernel_rfl) h

@[irreducible] def t277_1 (τ119 : List Value) (τ122 : List Value) (a0 : Value) (a1 : Value) (K : Value → World → Prop) (r118 : List Value → World → Prop) (v126 : Value) (v128 : Value) (v131 : Value) (v134 : Value) (v138 : Value) (v142 : Value) (v145 : Value) (v148 : Value) (v152 : Value) (v156 : Value) (v158 : Value) (w157 : World) : Prop :=
         LoopW [(g τ119 1), (g τ119 18), (g τ119 19), (g τ119 20), (g τ119 21), (g τ119 22), (g τ119 23), (g τ119 24), (g τ119 25), (g τ119 26), (g τ119 27), (g τ119 28), (g τ119 29), (g τ119 30), (g τ119 31), (g τ119 32), (g τ119 33), (g τ119 34)] (fun r160 τ161 w162 =>
          Dr w162 fun S163 w164 =>
          Qu Pr (S163) (binS .leq 3 (.tmp 115) (.tmp 116) (g τ122 0) (g τ161 0)) fun v165 =>
          Gd v165 true (fun k166 => k166 a0 w164) w164 fun v167 w168 =>
          Gd v165 true (fun k169 => k169 (g τ161 0) w168) w168 fun v170 w171 =>
          Gd v165 true (fun k172 => Qu Pr (S163) (Instr.indexAt 23 v167 v170) fun v175 => k172 v175 w171) w171 fun v173 w174 =>
          Gd v165 true (fun k176 => Qu Pr (S163) (Instr.loadAt 22 v173) fun v179 => k176 v179 w174) w174 fun v177 w178 =>
          Gd v165 true (fun k180 => k180 a0 w178) w178 fun v181 w182 =>
          Gd v165 true (fun k183 => k183 a1 w182) w182 fun v184 w185 =>
          Gd v165 true (fun k186 => Qu Pr (S163) (Instr.indexAt 23 v181 v184) fun v189 => k186 v189 w185) w185 fun v187 w188 =>
          Gd v165 true (fun k190 => Qu Pr (S163) (Instr.loadAt 22 v187) fun v193 => k190 v193 w188) w188 fun v191 w192 =>
          Gd v165 true (fun k194 => Cl Pr (callV (fn 275) #[v177, v191]) w192 fun v195x w196x => S163 w196x ∧ k194 v195x w196x) w192 fun v195 w196 =>
          Gd v165 true (fun k197 => Qu Pr (S163) (Op.unary .not v195) fun v200 => k197 v200 w196) w196 fun v198 w199 =>
          Qu Pr (S163) (pickS v165 v198 (Value.bool false)) fun v201 =>
          If v201 (
           Qu Pr (Is w199) (binS .sub 3 (.tmp 130) (.const (Value.int .i64 1)) (g τ161 0) (Value.int .i64 1)) fun v202 =>
           r160 [v202, (g τ122 0), (g τ161 0), v165, v165, v167, v170, v173, v177, v181, v184, v187, v191, v195, v198, v201, (g τ161 0), v202] w199) (
           Qu Pr (Is w199) (binS .gtr 3 (.tmp 132) (.tmp 133) (g τ122 0) (g τ161 0)) fun v203 =>
           If v203 (
            Dr w199 fun S204 w205 =>
            Qu Pr (Is w205) (Instr.indexAt 23 a0 a1) fun v206 =>
            Qu Pr (Is w205) (Instr.loadAt 22 v206) fun v207 =>
            Qu Pr (Is w205) (Instr.indexAt 23 a0 (g τ161 0)) fun v208 =>
            Qu Pr (Is w205) (Instr.loadAt 22 v208) fun v209 =>
            Qu Pr (Is w205) (Instr.indexAt 23 a0 (g τ161 0)) fun v210 =>
            Eu Pr (Instr.storeAt 22 v210 v207) w205 fun w211 => S204 w211 ∧
            Qu Pr (S204) (Instr.indexAt 23 a0 a1) fun v212 =>
            Eu Pr (Instr.storeAt 22 v212 v209) w211 fun w213 => S204 w213 ∧
            K (.tuple #[(g τ161 0), (Value.bool false)]) w213) (
            Dr w199 fun S214 w215 =>
            Qu Pr (Is w215) (Instr.indexAt 23 a0 (g τ161 0)) fun v216 =>
            Qu Pr (Is w215) (Instr.loadAt 22 v216) fun v217 =>
            Qu Pr (Is w215) (Instr.indexAt 23 a0 (g τ122 0)) fun v218 =>
            Qu Pr (Is w215) (Instr.loadAt 22 v218) fun v219 =>
            Qu Pr (Is w215) (Instr.indexAt 23 a0 (g τ122 0)) fun v220 =>
            Eu Pr (Instr.storeAt 22 v220 v217) w215 fun w221 => S214 w221 ∧
            Qu Pr (S214) (Instr.indexAt 23 a0 (g τ161 0)) fun v222 =>
            Eu Pr (Instr.storeAt 22 v222 v219) w221 fun w223 => S214 w223 ∧
            Qu Pr (Is w223) (binS .add 3 (.tmp 149) (.const (Value.int .i64 1)) (g τ122 0) (Value.int .i64 1)) fun v224 =>
            Qu Pr (Is w223) (binS .sub 3 (.tmp 151) (.const (Value.int .i64 1)) (g τ161 0) (Value.int .i64 1)) fun v225 =>
            r118 [v224, v225, (g τ122 0), (g τ119 1), v126, v126, v128, v131, v134, v138, v142, v145, v148, v152, v156, v158, (g τ122 15), (g τ122 16), (g τ122 0), (g τ161 0), v165, v165, v167, v170, v173, v177, v181, v184, v187, v191, v195, v198, v201, (g τ161 16), (g τ161 17), (g τ122 0), (g τ161 0), v203, a0, (g τ122 0), a0, (g τ161 0), a0, (g τ161 0), v216, v217, a0, (g τ122 0), v218, v219, v220, v222, (g τ122 0), v224, (g τ161 0), v225] w223))) w157
@[irreducible] def t277_2 (w91 : World) (a0 : Value) (τ53 : List Value) (τ14 : List Value) (a1 : Value) (K : Value → World → Prop) : Prop :=
      Dr w91 fun S106 w107 =>
      Qu Pr (Is w107) (Instr.indexAt 23 a0 (g τ53 0)) fun v108 =>
      Qu Pr (Is w107) (Instr.loadAt 22 v108) fun v109 =>
      Qu Pr (Is w107) (Instr.indexAt 23 a0 (g τ14 0)) fun v110 =>
      Qu Pr (Is w107) (Instr.loadAt 22 v110) fun v111 =>
      Qu Pr (Is w107) (Instr.indexAt 23 a0 (g τ14 0)) fun v112 =>
      Eu Pr (Instr.storeAt 22 v112 v109) w107 fun w113 => S106 w113 ∧
      Qu Pr (S106) (Instr.indexAt 23 a0 (g τ53 0)) fun v114 =>
      Eu Pr (Instr.storeAt 22 v114 v111) w113 fun w115 => S106 w115 ∧
      Qu Pr (Is w115) (binS .add 3 (.tmp 95) (.const (Value.int .i64 1)) (g τ14 0) (Value.int .i64 1)) fun v116 =>
      Qu Pr (Is w115) (binS .sub 3 (.tmp 97) (.const (Value.int .i64 1)) (g τ53 0) (Value.int .i64 1)) fun v117 =>
      LoopW [v116, v117, undef, undef, undef, undef, undef, undef, undef, undef, undef, undef, undef, undef, undef, undef, undef, undef, undef, undef, undef, undef, undef, undef, undef, undef, undef, undef, undef, undef, undef, undef, undef, undef, undef, undef, undef, undef, undef, undef, undef, undef, undef, undef, undef, undef, undef, undef, undef, undef, undef, undef, undef, undef, undef, undef] (fun r118 τ119 w120 =>
       LoopW [(g τ119 0), (g τ119 2), (g τ119 3), (g τ119 4), (g τ119 5), (g τ119 6), (g τ119 7), (g τ119 8), (g τ119 9), (g τ119 10), (g τ119 11), (g τ119 12), (g τ119 13), (g τ119 14), (g τ119 15), (g τ119 16), (g τ119 17)] (fun r121 τ122 w123 =>
        Dr w123 fun S124 w125 =>
        Qu Pr (S124) (binS .leq 3 (.tmp 99) (.tmp 100) (g τ122 0) (g τ119 1)) fun v126 =>
        Gd v126 true (fun k127 => k127 a0 w125) w125 fun v128 w129 =>
        Gd v126 true (fun k130 => k130 (g τ122 0) w129) w129 fun v131 w132 =>
        Gd v126 true (fun k133 => Qu Pr (S124) (Instr.indexAt 23 v128 v131) fun v136 => k133 v136 w132) w132 fun v134 w135 =>
        Gd v126 true (fun k137 => Qu Pr (S124) (Instr.loadAt 22 v134) fun v140 => k137 v140 w135) w135 fun v138 w139 =>
        Gd v126 true (fun k141 => k141 a0 w139) w139 fun v142 w143 =>
        Gd v126 true (fun k144 => k144 a1 w143) w143 fun v145 w146 =>
        Gd v126 true (fun k147 => Qu Pr (S124) (Instr.indexAt 23 v142 v145) fun v150 => k147 v150 w146) w146 fun v148 w149 =>
        Gd v126 true (fun k151 => Qu Pr (S124) (Instr.loadAt 22 v148) fun v154 => k151 v154 w149) w149 fun v152 w153 =>
        Gd v126 true (fun k155 => Cl Pr (callV (fn 275) #[v138, v152]) w153 fun v156x w157x => S124 w157x ∧ k155 v156x w157x) w153 fun v156 w157 =>
        Qu Pr (S124) (pickS v126 v156 (Value.bool false)) fun v158 =>
        If v158 (
         Qu Pr (Is w157) (binS .add 3 (.tmp 113) (.const (Value.int .i64 1)) (g τ122 0) (Value.int .i64 1)) fun v159 =>
         r121 [v159, (g τ122 0), (g τ119 1), v126, v126, v128, v131, v134, v138, v142, v145, v148, v152, v156, v158, (g τ122 0), v159] w157) (t277_1 τ119 τ122 a0 a1 K r118 v126 v128 v131 v134 v138 v142 v145 v148 v152 v156 v158 w157)) w120) w115
@[irreducible] def t277_3 (w91 : World) (τ14 : List Value) (τ53 : List Value) (a0 : Value) (a1 : Value) (K : Value → World → Prop) : Prop :=
     Qu Pr (Is w91) (binS .gtr 3 (.tmp 63) (.tmp 64) (g τ14 0) (g τ53 0)) fun v95 =>
     If v95 (
      Dr w91 fun S96 w97 =>
      Qu Pr (Is w97) (Instr.indexAt 23 a0 a1) fun v98 =>
      Qu Pr (Is w97) (Instr.loadAt 22 v98) fun v99 =>
      Qu Pr (Is w97) (Instr.indexAt 23 a0 (g τ53 0)) fun v100 =>
      Qu Pr (Is w97) (Instr.loadAt 22 v100) fun v101 =>
      Qu Pr (Is w97) (Instr.indexAt 23 a0 (g τ53 0)) fun v102 =>
      Eu Pr (Instr.storeAt 22 v102 v99) w97 fun w103 => S96 w103 ∧
      Qu Pr (S96) (Instr.indexAt 23 a0 a1) fun v104 =>
      Eu Pr (Instr.storeAt 22 v104 v101) w103 fun w105 => S96 w105 ∧
      K (.tuple #[(g τ53 0), (Value.bool true)]) w105) (t277_2 w91 a0 τ53 τ14 a1 K)
@[irreducible] def t277_4 (v12 : Value) (τ14 : List Value) (a0 : Value) (a1 : Value) (K : Value → World → Prop) (w49 : World) : Prop :=
   LoopW [v12, undef, undef, undef, undef, undef, undef, undef, undef, undef, undef, undef, undef, undef, undef, undef, undef, undef] (fun r52 τ53 w54 =>
    Dr w54 fun S55 w56 =>
    Qu Pr (S55) (binS .leq 3 (.tmp 46) (.tmp 47) (g τ14 0) (g τ53 0)) fun v57 =>
    Gd v57 true (fun k58 => k58 a0 w56) w56 fun v59 w60 =>
    Gd v57 true (fun k61 => k61 (g τ53 0) w60) w60 fun v62 w63 =>
    Gd v57 true (fun k64 => Qu Pr (S55) (Instr.indexAt 23 v59 v62) fun v67 => k64 v67 w63) w63 fun v65 w66 =>
    Gd v57 true (fun k68 => Qu Pr (S55) (Instr.loadAt 22 v65) fun v71 => k68 v71 w66) w66 fun v69 w70 =>
    Gd v57 true (fun k72 => k72 a0 w70) w70 fun v73 w74 =>
    Gd v57 true (fun k75 => k75 a1 w74) w74 fun v76 w77 =>
    Gd v57 true (fun k78 => Qu Pr (S55) (Instr.indexAt 23 v73 v76) fun v81 => k78 v81 w77) w77 fun v79 w80 =>
    Gd v57 true (fun k82 => Qu Pr (S55) (Instr.loadAt 22 v79) fun v85 => k82 v85 w80) w80 fun v83 w84 =>
    Gd v57 true (fun k86 => Cl Pr (callV (fn 275) #[v69, v83]) w84 fun v87x w88x => S55 w88x ∧ k86 v87x w88x) w84 fun v87 w88 =>
    Gd v57 true (fun k89 => Qu Pr (S55) (Op.unary .not v87) fun v92 => k89 v92 w88) w88 fun v90 w91 =>
    Qu Pr (S55) (pickS v57 v90 (Value.bool false)) fun v93 =>
    If v93 (
     Qu Pr (Is w91) (binS .sub 3 (.tmp 61) (.const (Value.int .i64 1)) (g τ53 0) (Value.int .i64 1)) fun v94 =>
     r52 [v94, (g τ14 0), (g τ53 0), v57, v57, v59, v62, v65, v69, v73, v76, v79, v83, v87, v90, v93, (g τ53 0), v94] w91) (t277_3 w91 τ14 τ53 a0 a1 K)) w49
def t277 (a0 a1 a2 a3 : Value) (K : Value → World → Prop) (w : World) : Prop :=
 Dr w fun S1 w2 =>
 Qu Pr (Is w2) (Instr.indexAt 23 a0 a3) fun v3 =>
 Qu Pr (Is w2) (Instr.loadAt 22 v3) fun v4 =>
 Qu Pr (Is w2) (Instr.indexAt 23 a0 a1) fun v5 =>
 Qu Pr (Is w2) (Instr.loadAt 22 v5) fun v6 =>
 Qu Pr (Is w2) (Instr.indexAt 23 a0 a1) fun v7 =>
 Eu Pr (Instr.storeAt 22 v7 v4) w2 fun w8 => S1 w8 ∧
 Qu Pr (S1) (Instr.indexAt 23 a0 a3) fun v9 =>
 Eu Pr (Instr.storeAt 22 v9 v6) w8 fun w10 => S1 w10 ∧
 Qu Pr (Is w10) (binS .add 3 (.tmp 26) (.const (Value.int .i64 1)) a1 (Value.int .i64 1)) fun v11 =>
 Qu Pr (Is w10) (binS .sub 3 (.tmp 28) (.const (Value.int .i64 1)) a2 (Value.int .i64 1)) fun v12 =>
 LoopW [v11, undef, undef, undef, undef, undef, undef, undef, undef, undef, undef, undef, undef, undef, undef, undef, undef] (fun r13 τ14 w15 =>
  Dr w15 fun S16 w17 =>
  Qu Pr (S16) (binS .leq 3 (.tmp 30) (.tmp 31) (g τ14 0) v12) fun v18 =>
  Gd v18 true (fun k19 => k19 a0 w17) w17 fun v20 w21 =>
  Gd v18 true (fun k22 => k22 (g τ14 0) w21) w21 fun v23 w24 =>
  Gd v18 true (fun k25 => Qu Pr (S16) (Instr.indexAt 23 v20 v23) fun v28 => k25 v28 w24) w24 fun v26 w27 =>
  Gd v18 true (fun k29 => Qu Pr (S16) (Instr.loadAt 22 v26) fun v32 => k29 v32 w27) w27 fun v30 w31 =>
  Gd v18 true (fun k33 => k33 a0 w31) w31 fun v34 w35 =>
  Gd v18 true (fun k36 => k36 a1 w35) w35 fun v37 w38 =>
  Gd v18 true (fun k39 => Qu Pr (S16) (Instr.indexAt 23 v34 v37) fun v42 => k39 v42 w38) w38 fun v40 w41 =>
  Gd v18 true (fun k43 => Qu Pr (S16) (Instr.loadAt 22 v40) fun v46 => k43 v46 w41) w41 fun v44 w45 =>
  Gd v18 true (fun k47 => Cl Pr (callV (fn 275) #[v30, v44]) w45 fun v48x w49x => S16 w49x ∧ k47 v48x w49x) w45 fun v48 w49 =>
  Qu Pr (S16) (pickS v18 v48 (Value.bool false)) fun v50 =>
  If v50 (
   Qu Pr (Is w49) (binS .add 3 (.tmp 44) (.const (Value.int .i64 1)) (g τ14 0) (Value.int .i64 1)) fun v51 =>
   r13 [v51, (g τ14 0), v12, v18, v18, v20, v23, v26, v30, v34, v37, v40, v44, v48, v50, (g τ14 0), v51] w49) (t277_4 v12 τ14 a0 a1 K w49)) w10
theorem c277 {a0 a1 a2 a3 : Value} {K : Value → World → Prop} {w : World} (h : t277 a0 a1 a2 a3 K w) : CK Pr 277 #[a0, a1, a2, a3] w K := by
  refine calls_of_RF [(3, [10, 30, 31, 32, 33, 34, 35, 36, 37, 38, 39, 40, 41, 42, 43, 44, 45]), (5, [11, 46, 47, 48, 49, 50, 51, 52, 53, 54, 55, 56, 57, 58, 59, 60, 61, 62]), (13, [10, 99, 100, 101, 102, 103, 104, 105, 106, 107, 108, 109, 110, 111, 112, 113, 114]), (15, [11, 115, 116, 117, 118, 119, 120, 121, 122, 123, 124, 125, 126, 127, 128, 129, 130, 131]), (100013, [10, 11, 99, 100, 101, 102, 103, 104, 105, 106, 107, 108, 109, 110, 111, 112, 113, 114, 115, 116, 117, 118, 119, 120, 121, 122, 123, 124, 125, 126, 127, 128, 129, 130, 131, 132, 133, 134, 135, 136, 137, 138, 139, 140, 141, 142, 143, 144, 145, 146, 147, 148, 149, 150, 151, 152])] Tryz.func277 rfl ?_ ?_ ?_
  · kernel_rfl
  · exact Nat.le_of_ble_eq_true rfl
  · exact cast (by kernel_rfl) h

/-- math/bits.Len64 -/
def t279 (a0 : Value) (K : Value → World → Prop) (w : World) : Prop :=
 Qu Pr (Is w) (binS .geq 22 (.tmp 3) (.const (Value.int .u64 4294967296)) a0 (Value.int .u64 4294967296)) fun v1 =>
 Jo (fun (p4 : Value) (p5 : Value) (w6 : World) => (
   Qu Pr (Is w6) (binS .geq 22 (.tmp 7) (.const (Value.int .u64 65536)) p4 (Value.int .u64 65536)) fun v8 =>
   Jo (fun (p11 : Value) (p14 : Value) (w15 : World) => (
     Qu Pr (Is w15) (binS .geq 22 (.tmp 13) (.const (Value.int .u64 256)) p11 (Value.int .u64 256)) fun v17 =>
     Jo (fun (p20 : Value) (p23 : Value) (w24 : World) => (
       Qu Pr (Is w24) (convert 22 5 p20) fun v26 =>
       Qu Pr (Is w24) (Instr.index 9 (Value.string (ByteArray.mk #[0, 1, 2, 2, 3, 3, 3, 3, 4, 4, 4, 4, 4, 4, 4, 4, 5, 5, 5, 5, 5, 5, 5, 5, 5, 5, 5, 5, 5, 5, 5, 5, 6, 6, 6, 6, 6, 6, 6, 6, 6, 6, 6, 6, 6, 6, 6, 6, 6, 6, 6, 6, 6, 6, 6, 6, 6, 6, 6, 6, 6, 6, 6, 6, 7, 7, 7, 7, 7, 7, 7, 7, 7, 7, 7, 7, 7, 7, 7, 7, 7, 7, 7, 7, 7, 7, 7, 7, 7, 7, 7, 7, 7, 7, 7, 7, 7, 7, 7, 7, 7, 7, 7, 7, 7, 7, 7, 7, 7, 7, 7, 7, 7, 7, 7, 7, 7, 7, 7, 7, 7, 7, 7, 7, 7, 7, 7, 7, 8, 8, 8, 8, 8, 8, 8, 8, 8, 8, 8, 8, 8, 8, 8, 8, 8, 8, 8, 8, 8, 8, 8, 8, 8, 8, 8, 8, 8, 8, 8, 8, 8, 8, 8, 8, 8, 8, 8, 8, 8, 8, 8, 8, 8, 8, 8, 8, 8, 8, 8, 8, 8, 8, 8, 8, 8, 8, 8, 8, 8, 8, 8, 8, 8, 8, 8, 8, 8, 8, 8, 8, 8, 8, 8, 8, 8, 8, 8, 8, 8, 8, 8, 8, 8, 8, 8, 8, 8, 8, 8, 8, 8, 8, 8, 8, 8, 8, 8, 8, 8, 8, 8, 8, 8, 8, 8, 8, 8, 8, 8, 8, 8, 8, 8, 8, 8, 8, 8, 8, 8, 8, 8, 8, 8, 8, 8, 8])) v26) fun v27 =>
       Qu Pr (Is w24) (convert 5 3 v27) fun v28 =>
       Qu Pr (Is w24) (binS .add 3 (.tmp 19) (.tmp 23) p23 v28) fun v29 =>
       K v29 w24 : Prop)) fun J25 =>
     If v17 (
      Qu Pr (Is w15) (binS .shr 22 (.tmp 15) (.const (Value.int .u64 8)) p11 (Value.int .u64 8)) fun v30 =>
      Qu Pr (Is w15) (binS .add 3 (.tmp 17) (.const (Value.int .i64 8)) p14 (Value.int .i64 8)) fun v31 =>
      J25 v30 v31 w15) (
      J25 p11 p14 w15) : Prop)) fun J16 =>
   If v8 (
    Qu Pr (Is w6) (binS .shr 22 (.tmp 9) (.const (Value.int .u64 16)) p4 (Value.int .u64 16)) fun v32 =>
    Qu Pr (Is w6) (binS .add 3 (.tmp 11) (.const (Value.int .i64 16)) p5 (Value.int .i64 16)) fun v33 =>
    J16 v32 v33 w6) (
    J16 p4 p5 w6) : Prop)) fun J7 =>
 If v1 (
  Qu Pr (Is w) (binS .shr 22 (.tmp 5) (.const (Value.int .u64 32)) a0 (Value.int .u64 32)) fun v34 =>
  J7 v34 (Value.int .i64 32) w) (
  J7 a0 (Value.int .i64 0) w)
theorem c279 {a0 : Value} {K : Value → World → Prop} {w : World} (h : t279 a0 K w) : CK Pr 279 #[a0] w K := by
  refine calls_of_RF [] Tryz.func279 rfl ?_ ?_ ?_
  · kernel_rfl
  · exact Nat.le_of_ble_eq_true rfl
  · exact cast (by kernel_rfl) h

def t314 (a0 a1 a2 a3 a4 : Value) (K : Value → World → Prop) (w : World) : Prop :=
 Cl Pr (callV (fn 329) #[a0, a1, a2, a4]) w fun v2 w1 =>
 Qu Pr (Is w1) (Instr.extract v2 0) fun v3 =>
 Qu Pr (Is w1) (Instr.extract v2 1) fun v4 =>
 Cl Pr (callV (fn 329) #[a0, v4, a3, a4]) w1 fun v6 w5 =>
 Qu Pr (Is w5) (Instr.extract v6 0) fun v7 =>
 Qu Pr (Is w5) (Instr.extract v6 1) fun _ =>
 Cl Pr (callV (fn 329) #[a0, v3, v7, a4]) w5 fun v10 w9 =>
 Qu Pr (Is w9) (Instr.extract v10 0) fun _ =>
 Qu Pr (Is w9) (Instr.extract v10 1) fun v12 =>
 K v12 w9
theorem c314 {a0 a1 a2 a3 a4 : Value} {K : Value → World → Prop} {w : World} (h : t314 a0 a1 a2 a3 a4 K w) : CK Pr 314 #[a0, a1, a2, a3, a4] w K := by
  refine calls_of_RF [] Tryz.func314 rfl ?_ ?_ ?_
  · kernel_rfl
  · exact Nat.le_of_ble_eq_true rfl
  · exact cast (by kernel_rfl) h

/-- cmp.isNaN[uint64] -/
def t315 (a0 : Value) (K : Value → World → Prop) (w : World) : Prop :=
 Qu Pr (Is w) (binS .neq 22 (.tmp 3) (.tmp 4) a0 a0) fun v1 =>
 K v1 w
theorem c315 {a0 : Value} {K : Value → World → Prop} {w : World} (h : t315 a0 K w) : CK Pr 315 #[a0] w K := by
  refine calls_of_RF [] Tryz.func315 rfl ?_ ?_ ?_
  · kernel_rfl
  · exact Nat.le_of_ble_eq_true rfl
  · exact cast (by kernel_rfl) h

def t329 (a0 a1 a2 a3 : Value) (K : Value → World → Prop) (w : World) : Prop :=
 Dr w fun S1 w2 =>
 Qu Pr (S1) (Instr.indexAt 23 a0 a2) fun v3 =>
 Qu Pr (S1) (Instr.loadAt 22 v3) fun v4 =>
 Qu Pr (S1) (Instr.indexAt 23 a0 a1) fun v5 =>
 Qu Pr (S1) (Instr.loadAt 22 v5) fun v6 =>
 Cl Pr (callV (fn 275) #[v4, v6]) w2 fun v8 w7 => S1 w7 ∧
 If v8 (
  Qu Pr (Is w7) (nilS a3) fun v9 =>
  Qu Pr (Is w7) (Instr.loadAt 3 v9) fun v10 =>
  Qu Pr (Is w7) (binS .add 3 (.tmp 21) (.const (Value.int .i64 1)) v10 (Value.int .i64 1)) fun v11 =>
  Qu Pr (Is w7) (nilS a3) fun v12 =>
  Eu Pr (Instr.storeAt 3 v12 v11) w7 fun w13 =>
  K (.tuple #[a2, a1]) w13) (
  K (.tuple #[a1, a2]) w7)
theorem c329 {a0 a1 a2 a3 : Value} {K : Value → World → Prop} {w : World} (h : t329 a0 a1 a2 a3 K w) : CK Pr 329 #[a0, a1, a2, a3] w K := by
  refine calls_of_RF [] Tryz.func329 rfl ?_ ?_ ?_
  · kernel_rfl
  · exact Nat.le_of_ble_eq_true rfl
  · exact cast (by kernel_rfl) h

end Go.Proofs.YtmmpogfbhelioaaGreat
