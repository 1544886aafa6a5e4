/- What is proved here: how the code of the messages runs, in general: a semantics of calls by their texts, and contracts of the functions of kbin and of the reference. No condition but those that each theorem names. -/
import Derived.Test.YtehkklpnchojjaaDoorKb
set_option linter.unusedSectionVars false
set_option linter.unusedSimpArgs false
set_option linter.unusedVariables false
set_option linter.unusedSimpArgs false
set_option linter.unusedVariables false
namespace Go.Kg
open Go
def vT1 (E : Env) : Ir :=
  .seq (.reg [⟨none, some 14, .move (.tmp 0), E.tBs⟩, ⟨none, some 15, .indexAddr E.tBs (.tmp 14) (.const (.int .i64 0)), E.tNil⟩, ⟨none, some 16, .load E.tU8 (.tmp 15), E.tU8⟩,
      ⟨none, some 17, .binOp .and E.tU8 (.tmp 16) (.const (.int .u8 128)) E.tU8, E.tU8⟩, ⟨none, some 18, .binOp .eql E.tU8 (.tmp 17) (.const (.int .u8 0)) E.tU8, E.tB⟩])
    (.cond 18 (.seq (.reg [⟨none, some 19, .move (.tmp 4), E.tU64⟩, ⟨none, some 2, .assign (.tmp 19), E.tU64⟩, ⟨none, some 3, .assign (.const (.int .i64 1)), E.tInt⟩]) .ret)
      (.seq (.reg [⟨none, some 20, .move (.tmp 0), E.tBs⟩, ⟨none, some 21, .call { callee := .builtin .len, args := #[.tmp 20], argTypes := #[E.tBs] }, E.tInt⟩,
        ⟨none, some 22, .binOp .lss E.tInt (.tmp 21) (.const (.int .i64 2)) E.tInt, E.tB⟩]) (.cond 22 (.goto 0) .skip)))
def vU1 (E : Env) : Ir :=
  .reg [⟨none, some 23, .move (.tmp 4), E.tU64⟩, ⟨none, some 24, .move (.tmp 0), E.tBs⟩, ⟨none, some 25, .indexAddr E.tBs (.tmp 24) (.const (.int .i64 1)), E.tNil⟩, ⟨none, some 26, .load E.tU8 (.tmp 25), E.tU8⟩,
    ⟨none, some 27, .binOp .and E.tU8 (.tmp 26) (.const (.int .u8 127)) E.tU8, E.tU8⟩, ⟨none, some 28, .convert E.tU8 E.tU64 (.tmp 27), E.tU64⟩, ⟨none, some 29, .binOp .shl E.tU64 (.tmp 28) (.const (.int .u64 7)) E.tUint, E.tU64⟩,
    ⟨none, some 30, .binOp .or E.tU64 (.tmp 23) (.tmp 29) E.tU64, E.tU64⟩, ⟨none, some 4, .assign (.tmp 30), E.tU64⟩]
def vT2 (E : Env) : Ir :=
  .seq (.reg [⟨none, some 31, .move (.tmp 0), E.tBs⟩, ⟨none, some 32, .indexAddr E.tBs (.tmp 31) (.const (.int .i64 1)), E.tNil⟩, ⟨none, some 33, .load E.tU8 (.tmp 32), E.tU8⟩,
      ⟨none, some 34, .binOp .and E.tU8 (.tmp 33) (.const (.int .u8 128)) E.tU8, E.tU8⟩, ⟨none, some 35, .binOp .eql E.tU8 (.tmp 34) (.const (.int .u8 0)) E.tU8, E.tB⟩])
    (.cond 35 (.seq (.reg [⟨none, some 36, .move (.tmp 4), E.tU64⟩, ⟨none, some 2, .assign (.tmp 36), E.tU64⟩, ⟨none, some 3, .assign (.const (.int .i64 2)), E.tInt⟩]) .ret)
      (.seq (.reg [⟨none, some 37, .move (.tmp 0), E.tBs⟩, ⟨none, some 38, .call { callee := .builtin .len, args := #[.tmp 37], argTypes := #[E.tBs] }, E.tInt⟩,
        ⟨none, some 39, .binOp .lss E.tInt (.tmp 38) (.const (.int .i64 3)) E.tInt, E.tB⟩]) (.cond 39 (.goto 0) .skip)))
def vU2 (E : Env) : Ir :=
  .reg [⟨none, some 40, .move (.tmp 4), E.tU64⟩, ⟨none, some 41, .move (.tmp 0), E.tBs⟩, ⟨none, some 42, .indexAddr E.tBs (.tmp 41) (.const (.int .i64 2)), E.tNil⟩, ⟨none, some 43, .load E.tU8 (.tmp 42), E.tU8⟩,
    ⟨none, some 44, .binOp .and E.tU8 (.tmp 43) (.const (.int .u8 127)) E.tU8, E.tU8⟩, ⟨none, some 45, .convert E.tU8 E.tU64 (.tmp 44), E.tU64⟩, ⟨none, some 46, .binOp .shl E.tU64 (.tmp 45) (.const (.int .u64 14)) E.tUint, E.tU64⟩,
    ⟨none, some 47, .binOp .or E.tU64 (.tmp 40) (.tmp 46) E.tU64, E.tU64⟩, ⟨none, some 4, .assign (.tmp 47), E.tU64⟩]
def vT3 (E : Env) : Ir :=
  .seq (.reg [⟨none, some 48, .move (.tmp 0), E.tBs⟩, ⟨none, some 49, .indexAddr E.tBs (.tmp 48) (.const (.int .i64 2)), E.tNil⟩, ⟨none, some 50, .load E.tU8 (.tmp 49), E.tU8⟩,
      ⟨none, some 51, .binOp .and E.tU8 (.tmp 50) (.const (.int .u8 128)) E.tU8, E.tU8⟩, ⟨none, some 52, .binOp .eql E.tU8 (.tmp 51) (.const (.int .u8 0)) E.tU8, E.tB⟩])
    (.cond 52 (.seq (.reg [⟨none, some 53, .move (.tmp 4), E.tU64⟩, ⟨none, some 2, .assign (.tmp 53), E.tU64⟩, ⟨none, some 3, .assign (.const (.int .i64 3)), E.tInt⟩]) .ret)
      (.seq (.reg [⟨none, some 54, .move (.tmp 0), E.tBs⟩, ⟨none, some 55, .call { callee := .builtin .len, args := #[.tmp 54], argTypes := #[E.tBs] }, E.tInt⟩,
        ⟨none, some 56, .binOp .lss E.tInt (.tmp 55) (.const (.int .i64 4)) E.tInt, E.tB⟩]) (.cond 56 (.goto 0) .skip)))
def vU3 (E : Env) : Ir :=
  .reg [⟨none, some 57, .move (.tmp 4), E.tU64⟩, ⟨none, some 58, .move (.tmp 0), E.tBs⟩, ⟨none, some 59, .indexAddr E.tBs (.tmp 58) (.const (.int .i64 3)), E.tNil⟩, ⟨none, some 60, .load E.tU8 (.tmp 59), E.tU8⟩,
    ⟨none, some 61, .binOp .and E.tU8 (.tmp 60) (.const (.int .u8 127)) E.tU8, E.tU8⟩, ⟨none, some 62, .convert E.tU8 E.tU64 (.tmp 61), E.tU64⟩, ⟨none, some 63, .binOp .shl E.tU64 (.tmp 62) (.const (.int .u64 21)) E.tUint, E.tU64⟩,
    ⟨none, some 64, .binOp .or E.tU64 (.tmp 57) (.tmp 63) E.tU64, E.tU64⟩, ⟨none, some 4, .assign (.tmp 64), E.tU64⟩]
def vT4 (E : Env) : Ir :=
  .seq (.reg [⟨none, some 65, .move (.tmp 0), E.tBs⟩, ⟨none, some 66, .indexAddr E.tBs (.tmp 65) (.const (.int .i64 3)), E.tNil⟩, ⟨none, some 67, .load E.tU8 (.tmp 66), E.tU8⟩,
      ⟨none, some 68, .binOp .and E.tU8 (.tmp 67) (.const (.int .u8 128)) E.tU8, E.tU8⟩, ⟨none, some 69, .binOp .eql E.tU8 (.tmp 68) (.const (.int .u8 0)) E.tU8, E.tB⟩])
    (.cond 69 (.seq (.reg [⟨none, some 70, .move (.tmp 4), E.tU64⟩, ⟨none, some 2, .assign (.tmp 70), E.tU64⟩, ⟨none, some 3, .assign (.const (.int .i64 4)), E.tInt⟩]) .ret)
      (.seq (.reg [⟨none, some 71, .move (.tmp 0), E.tBs⟩, ⟨none, some 72, .call { callee := .builtin .len, args := #[.tmp 71], argTypes := #[E.tBs] }, E.tInt⟩,
        ⟨none, some 73, .binOp .lss E.tInt (.tmp 72) (.const (.int .i64 5)) E.tInt, E.tB⟩]) (.cond 73 (.goto 0) .skip)))
def vU4 (E : Env) : Ir :=
  .reg [⟨none, some 74, .move (.tmp 4), E.tU64⟩, ⟨none, some 75, .move (.tmp 0), E.tBs⟩, ⟨none, some 76, .indexAddr E.tBs (.tmp 75) (.const (.int .i64 4)), E.tNil⟩, ⟨none, some 77, .load E.tU8 (.tmp 76), E.tU8⟩,
    ⟨none, some 78, .binOp .and E.tU8 (.tmp 77) (.const (.int .u8 127)) E.tU8, E.tU8⟩, ⟨none, some 79, .convert E.tU8 E.tU64 (.tmp 78), E.tU64⟩, ⟨none, some 80, .binOp .shl E.tU64 (.tmp 79) (.const (.int .u64 28)) E.tUint, E.tU64⟩,
    ⟨none, some 81, .binOp .or E.tU64 (.tmp 74) (.tmp 80) E.tU64, E.tU64⟩, ⟨none, some 4, .assign (.tmp 81), E.tU64⟩]
def vT5 (E : Env) : Ir :=
  .seq (.reg [⟨none, some 82, .move (.tmp 0), E.tBs⟩, ⟨none, some 83, .indexAddr E.tBs (.tmp 82) (.const (.int .i64 4)), E.tNil⟩, ⟨none, some 84, .load E.tU8 (.tmp 83), E.tU8⟩,
      ⟨none, some 85, .binOp .and E.tU8 (.tmp 84) (.const (.int .u8 128)) E.tU8, E.tU8⟩, ⟨none, some 86, .binOp .eql E.tU8 (.tmp 85) (.const (.int .u8 0)) E.tU8, E.tB⟩])
    (.cond 86 (.seq (.reg [⟨none, some 87, .move (.tmp 4), E.tU64⟩, ⟨none, some 2, .assign (.tmp 87), E.tU64⟩, ⟨none, some 3, .assign (.const (.int .i64 5)), E.tInt⟩]) .ret)
      (.seq (.reg [⟨none, some 88, .move (.tmp 0), E.tBs⟩, ⟨none, some 89, .call { callee := .builtin .len, args := #[.tmp 88], argTypes := #[E.tBs] }, E.tInt⟩,
        ⟨none, some 90, .binOp .lss E.tInt (.tmp 89) (.const (.int .i64 6)) E.tInt, E.tB⟩]) (.cond 90 (.goto 0) .skip)))
def vU5 (E : Env) : Ir :=
  .reg [⟨none, some 91, .move (.tmp 4), E.tU64⟩, ⟨none, some 92, .move (.tmp 0), E.tBs⟩, ⟨none, some 93, .indexAddr E.tBs (.tmp 92) (.const (.int .i64 5)), E.tNil⟩, ⟨none, some 94, .load E.tU8 (.tmp 93), E.tU8⟩,
    ⟨none, some 95, .binOp .and E.tU8 (.tmp 94) (.const (.int .u8 127)) E.tU8, E.tU8⟩, ⟨none, some 96, .convert E.tU8 E.tU64 (.tmp 95), E.tU64⟩, ⟨none, some 97, .binOp .shl E.tU64 (.tmp 96) (.const (.int .u64 35)) E.tUint, E.tU64⟩,
    ⟨none, some 98, .binOp .or E.tU64 (.tmp 91) (.tmp 97) E.tU64, E.tU64⟩, ⟨none, some 4, .assign (.tmp 98), E.tU64⟩]
def vT6 (E : Env) : Ir :=
  .seq (.reg [⟨none, some 99, .move (.tmp 0), E.tBs⟩, ⟨none, some 100, .indexAddr E.tBs (.tmp 99) (.const (.int .i64 5)), E.tNil⟩, ⟨none, some 101, .load E.tU8 (.tmp 100), E.tU8⟩,
      ⟨none, some 102, .binOp .and E.tU8 (.tmp 101) (.const (.int .u8 128)) E.tU8, E.tU8⟩, ⟨none, some 103, .binOp .eql E.tU8 (.tmp 102) (.const (.int .u8 0)) E.tU8, E.tB⟩])
    (.cond 103 (.seq (.reg [⟨none, some 104, .move (.tmp 4), E.tU64⟩, ⟨none, some 2, .assign (.tmp 104), E.tU64⟩, ⟨none, some 3, .assign (.const (.int .i64 6)), E.tInt⟩]) .ret)
      (.seq (.reg [⟨none, some 105, .move (.tmp 0), E.tBs⟩, ⟨none, some 106, .call { callee := .builtin .len, args := #[.tmp 105], argTypes := #[E.tBs] }, E.tInt⟩,
        ⟨none, some 107, .binOp .lss E.tInt (.tmp 106) (.const (.int .i64 7)) E.tInt, E.tB⟩]) (.cond 107 (.goto 0) .skip)))
def vU6 (E : Env) : Ir :=
  .reg [⟨none, some 108, .move (.tmp 4), E.tU64⟩, ⟨none, some 109, .move (.tmp 0), E.tBs⟩, ⟨none, some 110, .indexAddr E.tBs (.tmp 109) (.const (.int .i64 6)), E.tNil⟩, ⟨none, some 111, .load E.tU8 (.tmp 110), E.tU8⟩,
    ⟨none, some 112, .binOp .and E.tU8 (.tmp 111) (.const (.int .u8 127)) E.tU8, E.tU8⟩, ⟨none, some 113, .convert E.tU8 E.tU64 (.tmp 112), E.tU64⟩, ⟨none, some 114, .binOp .shl E.tU64 (.tmp 113) (.const (.int .u64 42)) E.tUint, E.tU64⟩,
    ⟨none, some 115, .binOp .or E.tU64 (.tmp 108) (.tmp 114) E.tU64, E.tU64⟩, ⟨none, some 4, .assign (.tmp 115), E.tU64⟩]
def vT7 (E : Env) : Ir :=
  .seq (.reg [⟨none, some 116, .move (.tmp 0), E.tBs⟩, ⟨none, some 117, .indexAddr E.tBs (.tmp 116) (.const (.int .i64 6)), E.tNil⟩, ⟨none, some 118, .load E.tU8 (.tmp 117), E.tU8⟩,
      ⟨none, some 119, .binOp .and E.tU8 (.tmp 118) (.const (.int .u8 128)) E.tU8, E.tU8⟩, ⟨none, some 120, .binOp .eql E.tU8 (.tmp 119) (.const (.int .u8 0)) E.tU8, E.tB⟩])
    (.cond 120 (.seq (.reg [⟨none, some 121, .move (.tmp 4), E.tU64⟩, ⟨none, some 2, .assign (.tmp 121), E.tU64⟩, ⟨none, some 3, .assign (.const (.int .i64 7)), E.tInt⟩]) .ret)
      (.seq (.reg [⟨none, some 122, .move (.tmp 0), E.tBs⟩, ⟨none, some 123, .call { callee := .builtin .len, args := #[.tmp 122], argTypes := #[E.tBs] }, E.tInt⟩,
        ⟨none, some 124, .binOp .lss E.tInt (.tmp 123) (.const (.int .i64 8)) E.tInt, E.tB⟩]) (.cond 124 (.goto 0) .skip)))
def vU7 (E : Env) : Ir :=
  .reg [⟨none, some 125, .move (.tmp 4), E.tU64⟩, ⟨none, some 126, .move (.tmp 0), E.tBs⟩, ⟨none, some 127, .indexAddr E.tBs (.tmp 126) (.const (.int .i64 7)), E.tNil⟩, ⟨none, some 128, .load E.tU8 (.tmp 127), E.tU8⟩,
    ⟨none, some 129, .binOp .and E.tU8 (.tmp 128) (.const (.int .u8 127)) E.tU8, E.tU8⟩, ⟨none, some 130, .convert E.tU8 E.tU64 (.tmp 129), E.tU64⟩, ⟨none, some 131, .binOp .shl E.tU64 (.tmp 130) (.const (.int .u64 49)) E.tUint, E.tU64⟩,
    ⟨none, some 132, .binOp .or E.tU64 (.tmp 125) (.tmp 131) E.tU64, E.tU64⟩, ⟨none, some 4, .assign (.tmp 132), E.tU64⟩]
def vT8 (E : Env) : Ir :=
  .seq (.reg [⟨none, some 133, .move (.tmp 0), E.tBs⟩, ⟨none, some 134, .indexAddr E.tBs (.tmp 133) (.const (.int .i64 7)), E.tNil⟩, ⟨none, some 135, .load E.tU8 (.tmp 134), E.tU8⟩,
      ⟨none, some 136, .binOp .and E.tU8 (.tmp 135) (.const (.int .u8 128)) E.tU8, E.tU8⟩, ⟨none, some 137, .binOp .eql E.tU8 (.tmp 136) (.const (.int .u8 0)) E.tU8, E.tB⟩])
    (.cond 137 (.seq (.reg [⟨none, some 138, .move (.tmp 4), E.tU64⟩, ⟨none, some 2, .assign (.tmp 138), E.tU64⟩, ⟨none, some 3, .assign (.const (.int .i64 8)), E.tInt⟩]) .ret)
      (.seq (.reg [⟨none, some 139, .move (.tmp 0), E.tBs⟩, ⟨none, some 140, .call { callee := .builtin .len, args := #[.tmp 139], argTypes := #[E.tBs] }, E.tInt⟩,
        ⟨none, some 141, .binOp .lss E.tInt (.tmp 140) (.const (.int .i64 9)) E.tInt, E.tB⟩]) (.cond 141 (.goto 0) .skip)))
def vU8 (E : Env) : Ir :=
  .reg [⟨none, some 142, .move (.tmp 4), E.tU64⟩, ⟨none, some 143, .move (.tmp 0), E.tBs⟩, ⟨none, some 144, .indexAddr E.tBs (.tmp 143) (.const (.int .i64 8)), E.tNil⟩, ⟨none, some 145, .load E.tU8 (.tmp 144), E.tU8⟩,
    ⟨none, some 146, .binOp .and E.tU8 (.tmp 145) (.const (.int .u8 127)) E.tU8, E.tU8⟩, ⟨none, some 147, .convert E.tU8 E.tU64 (.tmp 146), E.tU64⟩, ⟨none, some 148, .binOp .shl E.tU64 (.tmp 147) (.const (.int .u64 56)) E.tUint, E.tU64⟩,
    ⟨none, some 149, .binOp .or E.tU64 (.tmp 142) (.tmp 148) E.tU64, E.tU64⟩, ⟨none, some 4, .assign (.tmp 149), E.tU64⟩]
def vT9 (E : Env) : Ir :=
  .seq (.reg [⟨none, some 150, .move (.tmp 0), E.tBs⟩, ⟨none, some 151, .indexAddr E.tBs (.tmp 150) (.const (.int .i64 8)), E.tNil⟩, ⟨none, some 152, .load E.tU8 (.tmp 151), E.tU8⟩,
      ⟨none, some 153, .binOp .and E.tU8 (.tmp 152) (.const (.int .u8 128)) E.tU8, E.tU8⟩, ⟨none, some 154, .binOp .eql E.tU8 (.tmp 153) (.const (.int .u8 0)) E.tU8, E.tB⟩])
    (.cond 154 (.seq (.reg [⟨none, some 155, .move (.tmp 4), E.tU64⟩, ⟨none, some 2, .assign (.tmp 155), E.tU64⟩, ⟨none, some 3, .assign (.const (.int .i64 9)), E.tInt⟩]) .ret)
      (.seq (.reg [⟨none, some 156, .move (.tmp 0), E.tBs⟩, ⟨none, some 157, .call { callee := .builtin .len, args := #[.tmp 156], argTypes := #[E.tBs] }, E.tInt⟩,
        ⟨none, some 158, .binOp .lss E.tInt (.tmp 157) (.const (.int .i64 10)) E.tInt, E.tB⟩]) (.cond 158 (.goto 0) .skip)))
def vU9 (E : Env) : Ir :=
  .reg [⟨none, some 159, .move (.tmp 4), E.tU64⟩, ⟨none, some 160, .move (.tmp 0), E.tBs⟩, ⟨none, some 161, .indexAddr E.tBs (.tmp 160) (.const (.int .i64 9)), E.tNil⟩, ⟨none, some 162, .load E.tU8 (.tmp 161), E.tU8⟩,
    ⟨none, some 163, .convert E.tU8 E.tU64 (.tmp 162), E.tU64⟩, ⟨none, some 164, .binOp .shl E.tU64 (.tmp 163) (.const (.int .u64 63)) E.tUint, E.tU64⟩,
    ⟨none, some 165, .binOp .or E.tU64 (.tmp 159) (.tmp 164) E.tU64, E.tU64⟩, ⟨none, some 4, .assign (.tmp 165), E.tU64⟩]
def vEnd (E : Env) : Ir :=
  (.seq
      (.seq
        (.reg [
            ⟨none, some 166, .move (.tmp 0), E.tBs⟩,
            ⟨none, some 167, .indexAddr E.tBs (.tmp 166) (.const (.int .i64 9)), E.tNil⟩,
            ⟨none, some 168, .load E.tU8 (.tmp 167), E.tU8⟩,
            ⟨none, some 169, .binOp .leq E.tU8 (.tmp 168) (.const (.int .u8 1)) E.tU8, E.tB⟩])
      (.cond 169
        (.seq
          (.reg [
              ⟨none, some 170, .move (.tmp 4), E.tU64⟩,
              ⟨none, some 2, .assign (.tmp 170), E.tU64⟩,
              ⟨none, some 3, .assign (.const (.int .i64 10)), E.tInt⟩])
        .ret)
        .skip))
    (.seq
      (.reg [
          ⟨none, some 5, .assign (.const (.int .i64 (-10))), E.tInt⟩])
    (.seq
      (.label 0)
    (.seq
      (.reg [
          ⟨none, some 171, .move (.tmp 5), E.tInt⟩,
          ⟨none, some 2, .assign (.const (.int .u64 0)), E.tU64⟩,
          ⟨none, some 3, .assign (.tmp 171), E.tInt⟩])
    .ret))))
def vHead (E : Env) (rest : Ir) : Ir :=
  (.seq
    (.reg [
        ⟨none, some 2, .assign (.const (.int .u64 0)), E.tU64⟩,
        ⟨none, some 3, .assign (.const (.int .i64 0)), E.tInt⟩])
  (.scope
    (.seq
      (.reg [
          ⟨none, some 4, .assign (.const (.int .u64 0)), E.tU64⟩])
    (.seq
      (.reg [
          ⟨none, some 5, .assign (.const (.int .i64 0)), E.tInt⟩])
    (.seq
      (.seq
        (.reg [
            ⟨none, some 6, .move (.tmp 0), E.tBs⟩,
            ⟨none, some 7, .call { callee := .builtin .len, args := #[.tmp 6], argTypes := #[E.tBs] }, E.tInt⟩,
            ⟨none, some 8, .binOp .lss E.tInt (.tmp 7) (.const (.int .i64 1)) E.tInt, E.tB⟩])
      (.cond 8
        (.goto 0)
        .skip))
    (.seq
      (.reg [
          ⟨none, some 9, .move (.tmp 0), E.tBs⟩,
          ⟨none, some 10, .indexAddr E.tBs (.tmp 9) (.const (.int .i64 0)), E.tNil⟩,
          ⟨none, some 11, .load E.tU8 (.tmp 10), E.tU8⟩,
          ⟨none, some 12, .binOp .and E.tU8 (.tmp 11) (.const (.int .u8 127)) E.tU8, E.tU8⟩,
          ⟨none, some 13, .convert E.tU8 E.tU64 (.tmp 12), E.tU64⟩,
          ⟨none, some 4, .assign (.tmp 13), E.tU64⟩])
    rest))))
   0
    (.seq
      .skip
    (.seq
      (.reg [
          ⟨none, some 171, .move (.tmp 5), E.tInt⟩,
          ⟨none, some 2, .assign (.const (.int .u64 0)), E.tU64⟩,
          ⟨none, some 3, .assign (.tmp 171), E.tInt⟩])
    .ret))))
theorem ir_uvarlong_eq (E : Env) : ir_kbin_uvarlong E = vHead E (.seq (vT1 E) (.seq (vU1 E) (.seq (vT2 E) (.seq (vU2 E) (.seq (vT3 E) (.seq (vU3 E) (.seq (vT4 E) (.seq (vU4 E) (.seq (vT5 E) (.seq (vU5 E) (.seq (vT6 E) (.seq (vU6 E) (.seq (vT7 E) (.seq (vU7 E) (.seq (vT8 E) (.seq (vU8 E) (.seq (vT9 E) (.seq (vU9 E) (vEnd E))))))))))))))))))) := rfl
section
variable {P : Program} {E : Env} (uBs : P.underlying E.tBs = some (.slice E.tU8)) (sBs : sliSz P E.tBs = some 1) (kU8 : kindOf P E.tU8 = .scl) (iU8 : intKind? P E.tU8 = some .u8) (iU64 : intKind? P E.tU64 = some .u64)
include uBs sBs kU8 iU8 iU64
theorem c_vT1 {Q : Post} {f : Nat → Value} {w : World} {D o n c : Nat} {b : UInt8} {z : Nat} (h0 : f 0 = .slice (some ⟨D, o, none⟩) n c) (hn : 1 ≤ n) (hb : w.cell? ⟨D, o + 0, none⟩ = some (.int .u8 b.toNat)) (h4 : f 4 = .int .u64 z)
    (q1 : b.toNat < 128 → ∀ f', f' 2 = .int .u64 z → f' 3 = .int .i64 1 → Q .ret f' w) (q2 : ¬ b.toNat < 128 → n < 2 → ∀ f', f' 5 = f 5 → Q (.goto 0) f' w)
    (q3 : ¬ b.toNat < 128 → 2 ≤ n → ∀ f', f' 0 = f 0 → f' 4 = f 4 → f' 5 = f 5 → Q .normal f' w) : (vT1 E).cw P Q f w := by
  have hlt := b.toNat_lt
  have hk : 1 - 1 < n := by omega
  simp only [Nat.reduceSub] at hk
  simp only [Nat.add_zero] at hb
  simp only [vT1, cw_seq]
  simp [hk, h0, idx?, sBs, ld_scl kU8, hb, and128, iU8, Addr.add_mk]
  by_cases hl : b.toNat < 128
  · refine cw_true (by simp [hl]) ?_
    simp [h4]
    refine q1 hl _ ?_ ?_ <;> simp
  · refine cw_false (by simp [hl]) ?_
    simp [h0, len_slice uBs]
    by_cases hm : n < 2
    · refine cw_true (by (try simp); omega) ?_
      (try simp)
      refine q2 hl hm _ ?_
      simp
    · refine cw_false (by (try simp); omega) ?_
      (try simp)
      refine q3 hl (by omega) _ ?_ ?_ ?_ <;> simp [h0, h4]
theorem c_vU1 {Q : Post} {f : Nat → Value} {w : World} {D o n c : Nat} {b : UInt8} {z : Nat} (hz : z < 128) (h0 : f 0 = .slice (some ⟨D, o, none⟩) n c) (hn : 2 ≤ n) (hb : w.cell? ⟨D, o + 1, none⟩ = some (.int .u8 b.toNat)) (h4 : f 4 = .int .u64 z)
    (q : ∀ f', f' 0 = f 0 → f' 4 = .int .u64 (z + b.toNat % 128 * 128 : Nat) → f' 5 = f 5 → Q .normal f' w) : (vU1 E).cw P Q f w := by
  have hlt := b.toNat_lt
  have hk : 1 < n := by omega
  obtain ⟨y, hy, a⟩ : ∃ y : Nat, y = b.toNat % 128 ∧ bits .and .u8 (b.toNat : Int) 127 = (y : Int) := ⟨_, rfl, and127 b⟩
  have w1 := u64_id y (by omega)
  have s1 : IntKind.u64.wrap ((y : Int) * 128) = (y : Int) * 128 := sh64 128 y (by omega)
  have o1 := lo1 z y hz (by omega)
  rw [← hy] at q
  simp only [vU1]
  simp [hk, h0, h4, idx?, sBs, ld_scl kU8, hb, a, iU8, iU64, Addr.add_mk, w1, s1, o1, IntKind.bits]
  refine q _ ?_ ?_ ?_ <;> simp [h0]
theorem c_vT2 {Q : Post} {f : Nat → Value} {w : World} {D o n c : Nat} {b : UInt8} {z : Nat} (h0 : f 0 = .slice (some ⟨D, o, none⟩) n c) (hn : 2 ≤ n) (hb : w.cell? ⟨D, o + 1, none⟩ = some (.int .u8 b.toNat)) (h4 : f 4 = .int .u64 z)
    (q1 : b.toNat < 128 → ∀ f', f' 2 = .int .u64 z → f' 3 = .int .i64 2 → Q .ret f' w) (q2 : ¬ b.toNat < 128 → n < 3 → ∀ f', f' 5 = f 5 → Q (.goto 0) f' w)
    (q3 : ¬ b.toNat < 128 → 3 ≤ n → ∀ f', f' 0 = f 0 → f' 4 = f 4 → f' 5 = f 5 → Q .normal f' w) : (vT2 E).cw P Q f w := by
  have hlt := b.toNat_lt
  have hk : 2 - 1 < n := by omega
  simp only [Nat.reduceSub] at hk
  simp only [vT2, cw_seq]
  simp [hk, h0, idx?, sBs, ld_scl kU8, hb, and128, iU8, Addr.add_mk]
  by_cases hl : b.toNat < 128
  · refine cw_true (by simp [hl]) ?_
    simp [h4]
    refine q1 hl _ ?_ ?_ <;> simp
  · refine cw_false (by simp [hl]) ?_
    simp [h0, len_slice uBs]
    by_cases hm : n < 3
    · refine cw_true (by (try simp); omega) ?_
      (try simp)
      refine q2 hl hm _ ?_
      simp
    · refine cw_false (by (try simp); omega) ?_
      (try simp)
      refine q3 hl (by omega) _ ?_ ?_ ?_ <;> simp [h0, h4]
theorem c_vU2 {Q : Post} {f : Nat → Value} {w : World} {D o n c : Nat} {b : UInt8} {z : Nat} (hz : z < 16384) (h0 : f 0 = .slice (some ⟨D, o, none⟩) n c) (hn : 3 ≤ n) (hb : w.cell? ⟨D, o + 2, none⟩ = some (.int .u8 b.toNat)) (h4 : f 4 = .int .u64 z)
    (q : ∀ f', f' 0 = f 0 → f' 4 = .int .u64 (z + b.toNat % 128 * 16384 : Nat) → f' 5 = f 5 → Q .normal f' w) : (vU2 E).cw P Q f w := by
  have hlt := b.toNat_lt
  have hk : 2 < n := by omega
  obtain ⟨y, hy, a⟩ : ∃ y : Nat, y = b.toNat % 128 ∧ bits .and .u8 (b.toNat : Int) 127 = (y : Int) := ⟨_, rfl, and127 b⟩
  have w1 := u64_id y (by omega)
  have s1 : IntKind.u64.wrap ((y : Int) * 16384) = (y : Int) * 16384 := sh64 16384 y (by omega)
  have o1 := lo2 z y hz (by omega)
  rw [← hy] at q
  simp only [vU2]
  simp [hk, h0, h4, idx?, sBs, ld_scl kU8, hb, a, iU8, iU64, Addr.add_mk, w1, s1, o1, IntKind.bits]
  refine q _ ?_ ?_ ?_ <;> simp [h0]
theorem c_vT3 {Q : Post} {f : Nat → Value} {w : World} {D o n c : Nat} {b : UInt8} {z : Nat} (h0 : f 0 = .slice (some ⟨D, o, none⟩) n c) (hn : 3 ≤ n) (hb : w.cell? ⟨D, o + 2, none⟩ = some (.int .u8 b.toNat)) (h4 : f 4 = .int .u64 z)
    (q1 : b.toNat < 128 → ∀ f', f' 2 = .int .u64 z → f' 3 = .int .i64 3 → Q .ret f' w) (q2 : ¬ b.toNat < 128 → n < 4 → ∀ f', f' 5 = f 5 → Q (.goto 0) f' w)
    (q3 : ¬ b.toNat < 128 → 4 ≤ n → ∀ f', f' 0 = f 0 → f' 4 = f 4 → f' 5 = f 5 → Q .normal f' w) : (vT3 E).cw P Q f w := by
  have hlt := b.toNat_lt
  have hk : 3 - 1 < n := by omega
  simp only [Nat.reduceSub] at hk
  simp only [vT3, cw_seq]
  simp [hk, h0, idx?, sBs, ld_scl kU8, hb, and128, iU8, Addr.add_mk]
  by_cases hl : b.toNat < 128
  · refine cw_true (by simp [hl]) ?_
    simp [h4]
    refine q1 hl _ ?_ ?_ <;> simp
  · refine cw_false (by simp [hl]) ?_
    simp [h0, len_slice uBs]
    by_cases hm : n < 4
    · refine cw_true (by (try simp); omega) ?_
      (try simp)
      refine q2 hl hm _ ?_
      simp
    · refine cw_false (by (try simp); omega) ?_
      (try simp)
      refine q3 hl (by omega) _ ?_ ?_ ?_ <;> simp [h0, h4]
theorem c_vU3 {Q : Post} {f : Nat → Value} {w : World} {D o n c : Nat} {b : UInt8} {z : Nat} (hz : z < 2097152) (h0 : f 0 = .slice (some ⟨D, o, none⟩) n c) (hn : 4 ≤ n) (hb : w.cell? ⟨D, o + 3, none⟩ = some (.int .u8 b.toNat)) (h4 : f 4 = .int .u64 z)
    (q : ∀ f', f' 0 = f 0 → f' 4 = .int .u64 (z + b.toNat % 128 * 2097152 : Nat) → f' 5 = f 5 → Q .normal f' w) : (vU3 E).cw P Q f w := by
  have hlt := b.toNat_lt
  have hk : 3 < n := by omega
  obtain ⟨y, hy, a⟩ : ∃ y : Nat, y = b.toNat % 128 ∧ bits .and .u8 (b.toNat : Int) 127 = (y : Int) := ⟨_, rfl, and127 b⟩
  have w1 := u64_id y (by omega)
  have s1 : IntKind.u64.wrap ((y : Int) * 2097152) = (y : Int) * 2097152 := sh64 2097152 y (by omega)
  have o1 := lo3 z y hz (by omega)
  rw [← hy] at q
  simp only [vU3]
  simp [hk, h0, h4, idx?, sBs, ld_scl kU8, hb, a, iU8, iU64, Addr.add_mk, w1, s1, o1, IntKind.bits]
  refine q _ ?_ ?_ ?_ <;> simp [h0]
theorem c_vT4 {Q : Post} {f : Nat → Value} {w : World} {D o n c : Nat} {b : UInt8} {z : Nat} (h0 : f 0 = .slice (some ⟨D, o, none⟩) n c) (hn : 4 ≤ n) (hb : w.cell? ⟨D, o + 3, none⟩ = some (.int .u8 b.toNat)) (h4 : f 4 = .int .u64 z)
    (q1 : b.toNat < 128 → ∀ f', f' 2 = .int .u64 z → f' 3 = .int .i64 4 → Q .ret f' w) (q2 : ¬ b.toNat < 128 → n < 5 → ∀ f', f' 5 = f 5 → Q (.goto 0) f' w)
    (q3 : ¬ b.toNat < 128 → 5 ≤ n → ∀ f', f' 0 = f 0 → f' 4 = f 4 → f' 5 = f 5 → Q .normal f' w) : (vT4 E).cw P Q f w := by
  have hlt := b.toNat_lt
  have hk : 4 - 1 < n := by omega
  simp only [Nat.reduceSub] at hk
  simp only [vT4, cw_seq]
  simp [hk, h0, idx?, sBs, ld_scl kU8, hb, and128, iU8, Addr.add_mk]
  by_cases hl : b.toNat < 128
  · refine cw_true (by simp [hl]) ?_
    simp [h4]
    refine q1 hl _ ?_ ?_ <;> simp
  · refine cw_false (by simp [hl]) ?_
    simp [h0, len_slice uBs]
    by_cases hm : n < 5
    · refine cw_true (by (try simp); omega) ?_
      (try simp)
      refine q2 hl hm _ ?_
      simp
    · refine cw_false (by (try simp); omega) ?_
      (try simp)
      refine q3 hl (by omega) _ ?_ ?_ ?_ <;> simp [h0, h4]
theorem c_vU4 {Q : Post} {f : Nat → Value} {w : World} {D o n c : Nat} {b : UInt8} {z : Nat} (hz : z < 268435456) (h0 : f 0 = .slice (some ⟨D, o, none⟩) n c) (hn : 5 ≤ n) (hb : w.cell? ⟨D, o + 4, none⟩ = some (.int .u8 b.toNat)) (h4 : f 4 = .int .u64 z)
    (q : ∀ f', f' 0 = f 0 → f' 4 = .int .u64 (z + b.toNat % 128 * 268435456 : Nat) → f' 5 = f 5 → Q .normal f' w) : (vU4 E).cw P Q f w := by
  have hlt := b.toNat_lt
  have hk : 4 < n := by omega
  obtain ⟨y, hy, a⟩ : ∃ y : Nat, y = b.toNat % 128 ∧ bits .and .u8 (b.toNat : Int) 127 = (y : Int) := ⟨_, rfl, and127 b⟩
  have w1 := u64_id y (by omega)
  have s1 : IntKind.u64.wrap ((y : Int) * 268435456) = (y : Int) * 268435456 := sh64 268435456 y (by omega)
  have o1 := lo4 z y hz (by omega)
  rw [← hy] at q
  simp only [vU4]
  simp [hk, h0, h4, idx?, sBs, ld_scl kU8, hb, a, iU8, iU64, Addr.add_mk, w1, s1, o1, IntKind.bits]
  refine q _ ?_ ?_ ?_ <;> simp [h0]
theorem c_vT5 {Q : Post} {f : Nat → Value} {w : World} {D o n c : Nat} {b : UInt8} {z : Nat} (h0 : f 0 = .slice (some ⟨D, o, none⟩) n c) (hn : 5 ≤ n) (hb : w.cell? ⟨D, o + 4, none⟩ = some (.int .u8 b.toNat)) (h4 : f 4 = .int .u64 z)
    (q1 : b.toNat < 128 → ∀ f', f' 2 = .int .u64 z → f' 3 = .int .i64 5 → Q .ret f' w) (q2 : ¬ b.toNat < 128 → n < 6 → ∀ f', f' 5 = f 5 → Q (.goto 0) f' w)
    (q3 : ¬ b.toNat < 128 → 6 ≤ n → ∀ f', f' 0 = f 0 → f' 4 = f 4 → f' 5 = f 5 → Q .normal f' w) : (vT5 E).cw P Q f w := by
  have hlt := b.toNat_lt
  have hk : 5 - 1 < n := by omega
  simp only [Nat.reduceSub] at hk
  simp only [vT5, cw_seq]
  simp [hk, h0, idx?, sBs, ld_scl kU8, hb, and128, iU8, Addr.add_mk]
  by_cases hl : b.toNat < 128
  · refine cw_true (by simp [hl]) ?_
    simp [h4]
    refine q1 hl _ ?_ ?_ <;> simp
  · refine cw_false (by simp [hl]) ?_
    simp [h0, len_slice uBs]
    by_cases hm : n < 6
    · refine cw_true (by (try simp); omega) ?_
      (try simp)
      refine q2 hl hm _ ?_
      simp
    · refine cw_false (by (try simp); omega) ?_
      (try simp)
      refine q3 hl (by omega) _ ?_ ?_ ?_ <;> simp [h0, h4]
theorem c_vU5 {Q : Post} {f : Nat → Value} {w : World} {D o n c : Nat} {b : UInt8} {z : Nat} (hz : z < 34359738368) (h0 : f 0 = .slice (some ⟨D, o, none⟩) n c) (hn : 6 ≤ n) (hb : w.cell? ⟨D, o + 5, none⟩ = some (.int .u8 b.toNat)) (h4 : f 4 = .int .u64 z)
    (q : ∀ f', f' 0 = f 0 → f' 4 = .int .u64 (z + b.toNat % 128 * 34359738368 : Nat) → f' 5 = f 5 → Q .normal f' w) : (vU5 E).cw P Q f w := by
  have hlt := b.toNat_lt
  have hk : 5 < n := by omega
  obtain ⟨y, hy, a⟩ : ∃ y : Nat, y = b.toNat % 128 ∧ bits .and .u8 (b.toNat : Int) 127 = (y : Int) := ⟨_, rfl, and127 b⟩
  have w1 := u64_id y (by omega)
  have s1 : IntKind.u64.wrap ((y : Int) * 34359738368) = (y : Int) * 34359738368 := sh64 34359738368 y (by omega)
  have o1 := lo5 z y hz (by omega)
  rw [← hy] at q
  simp only [vU5]
  simp [hk, h0, h4, idx?, sBs, ld_scl kU8, hb, a, iU8, iU64, Addr.add_mk, w1, s1, o1, IntKind.bits]
  refine q _ ?_ ?_ ?_ <;> simp [h0]
theorem c_vT6 {Q : Post} {f : Nat → Value} {w : World} {D o n c : Nat} {b : UInt8} {z : Nat} (h0 : f 0 = .slice (some ⟨D, o, none⟩) n c) (hn : 6 ≤ n) (hb : w.cell? ⟨D, o + 5, none⟩ = some (.int .u8 b.toNat)) (h4 : f 4 = .int .u64 z)
    (q1 : b.toNat < 128 → ∀ f', f' 2 = .int .u64 z → f' 3 = .int .i64 6 → Q .ret f' w) (q2 : ¬ b.toNat < 128 → n < 7 → ∀ f', f' 5 = f 5 → Q (.goto 0) f' w)
    (q3 : ¬ b.toNat < 128 → 7 ≤ n → ∀ f', f' 0 = f 0 → f' 4 = f 4 → f' 5 = f 5 → Q .normal f' w) : (vT6 E).cw P Q f w := by
  have hlt := b.toNat_lt
  have hk : 6 - 1 < n := by omega
  simp only [Nat.reduceSub] at hk
  simp only [vT6, cw_seq]
  simp [hk, h0, idx?, sBs, ld_scl kU8, hb, and128, iU8, Addr.add_mk]
  by_cases hl : b.toNat < 128
  · refine cw_true (by simp [hl]) ?_
    simp [h4]
    refine q1 hl _ ?_ ?_ <;> simp
  · refine cw_false (by simp [hl]) ?_
    simp [h0, len_slice uBs]
    by_cases hm : n < 7
    · refine cw_true (by (try simp); omega) ?_
      (try simp)
      refine q2 hl hm _ ?_
      simp
    · refine cw_false (by (try simp); omega) ?_
      (try simp)
      refine q3 hl (by omega) _ ?_ ?_ ?_ <;> simp [h0, h4]
theorem c_vU6 {Q : Post} {f : Nat → Value} {w : World} {D o n c : Nat} {b : UInt8} {z : Nat} (hz : z < 4398046511104) (h0 : f 0 = .slice (some ⟨D, o, none⟩) n c) (hn : 7 ≤ n) (hb : w.cell? ⟨D, o + 6, none⟩ = some (.int .u8 b.toNat)) (h4 : f 4 = .int .u64 z)
    (q : ∀ f', f' 0 = f 0 → f' 4 = .int .u64 (z + b.toNat % 128 * 4398046511104 : Nat) → f' 5 = f 5 → Q .normal f' w) : (vU6 E).cw P Q f w := by
  have hlt := b.toNat_lt
  have hk : 6 < n := by omega
  obtain ⟨y, hy, a⟩ : ∃ y : Nat, y = b.toNat % 128 ∧ bits .and .u8 (b.toNat : Int) 127 = (y : Int) := ⟨_, rfl, and127 b⟩
  have w1 := u64_id y (by omega)
  have s1 : IntKind.u64.wrap ((y : Int) * 4398046511104) = (y : Int) * 4398046511104 := sh64 4398046511104 y (by omega)
  have o1 := lo6 z y hz (by omega)
  rw [← hy] at q
  simp only [vU6]
  simp [hk, h0, h4, idx?, sBs, ld_scl kU8, hb, a, iU8, iU64, Addr.add_mk, w1, s1, o1, IntKind.bits]
  refine q _ ?_ ?_ ?_ <;> simp [h0]
theorem c_vT7 {Q : Post} {f : Nat → Value} {w : World} {D o n c : Nat} {b : UInt8} {z : Nat} (h0 : f 0 = .slice (some ⟨D, o, none⟩) n c) (hn : 7 ≤ n) (hb : w.cell? ⟨D, o + 6, none⟩ = some (.int .u8 b.toNat)) (h4 : f 4 = .int .u64 z)
    (q1 : b.toNat < 128 → ∀ f', f' 2 = .int .u64 z → f' 3 = .int .i64 7 → Q .ret f' w) (q2 : ¬ b.toNat < 128 → n < 8 → ∀ f', f' 5 = f 5 → Q (.goto 0) f' w)
    (q3 : ¬ b.toNat < 128 → 8 ≤ n → ∀ f', f' 0 = f 0 → f' 4 = f 4 → f' 5 = f 5 → Q .normal f' w) : (vT7 E).cw P Q f w := by
  have hlt := b.toNat_lt
  have hk : 7 - 1 < n := by omega
  simp only [Nat.reduceSub] at hk
  simp only [vT7, cw_seq]
  simp [hk, h0, idx?, sBs, ld_scl kU8, hb, and128, iU8, Addr.add_mk]
  by_cases hl : b.toNat < 128
  · refine cw_true (by simp [hl]) ?_
    simp [h4]
    refine q1 hl _ ?_ ?_ <;> simp
  · refine cw_false (by simp [hl]) ?_
    simp [h0, len_slice uBs]
    by_cases hm : n < 8
    · refine cw_true (by (try simp); omega) ?_
      (try simp)
      refine q2 hl hm _ ?_
      simp
    · refine cw_false (by (try simp); omega) ?_
      (try simp)
      refine q3 hl (by omega) _ ?_ ?_ ?_ <;> simp [h0, h4]
theorem c_vU7 {Q : Post} {f : Nat → Value} {w : World} {D o n c : Nat} {b : UInt8} {z : Nat} (hz : z < 562949953421312) (h0 : f 0 = .slice (some ⟨D, o, none⟩) n c) (hn : 8 ≤ n) (hb : w.cell? ⟨D, o + 7, none⟩ = some (.int .u8 b.toNat)) (h4 : f 4 = .int .u64 z)
    (q : ∀ f', f' 0 = f 0 → f' 4 = .int .u64 (z + b.toNat % 128 * 562949953421312 : Nat) → f' 5 = f 5 → Q .normal f' w) : (vU7 E).cw P Q f w := by
  have hlt := b.toNat_lt
  have hk : 7 < n := by omega
  obtain ⟨y, hy, a⟩ : ∃ y : Nat, y = b.toNat % 128 ∧ bits .and .u8 (b.toNat : Int) 127 = (y : Int) := ⟨_, rfl, and127 b⟩
  have w1 := u64_id y (by omega)
  have s1 : IntKind.u64.wrap ((y : Int) * 562949953421312) = (y : Int) * 562949953421312 := sh64 562949953421312 y (by omega)
  have o1 := lo7 z y hz (by omega)
  rw [← hy] at q
  simp only [vU7]
  simp [hk, h0, h4, idx?, sBs, ld_scl kU8, hb, a, iU8, iU64, Addr.add_mk, w1, s1, o1, IntKind.bits]
  refine q _ ?_ ?_ ?_ <;> simp [h0]
theorem c_vT8 {Q : Post} {f : Nat → Value} {w : World} {D o n c : Nat} {b : UInt8} {z : Nat} (h0 : f 0 = .slice (some ⟨D, o, none⟩) n c) (hn : 8 ≤ n) (hb : w.cell? ⟨D, o + 7, none⟩ = some (.int .u8 b.toNat)) (h4 : f 4 = .int .u64 z)
    (q1 : b.toNat < 128 → ∀ f', f' 2 = .int .u64 z → f' 3 = .int .i64 8 → Q .ret f' w) (q2 : ¬ b.toNat < 128 → n < 9 → ∀ f', f' 5 = f 5 → Q (.goto 0) f' w)
    (q3 : ¬ b.toNat < 128 → 9 ≤ n → ∀ f', f' 0 = f 0 → f' 4 = f 4 → f' 5 = f 5 → Q .normal f' w) : (vT8 E).cw P Q f w := by
  have hlt := b.toNat_lt
  have hk : 8 - 1 < n := by omega
  simp only [Nat.reduceSub] at hk
  simp only [vT8, cw_seq]
  simp [hk, h0, idx?, sBs, ld_scl kU8, hb, and128, iU8, Addr.add_mk]
  by_cases hl : b.toNat < 128
  · refine cw_true (by simp [hl]) ?_
    simp [h4]
    refine q1 hl _ ?_ ?_ <;> simp
  · refine cw_false (by simp [hl]) ?_
    simp [h0, len_slice uBs]
    by_cases hm : n < 9
    · refine cw_true (by (try simp); omega) ?_
      (try simp)
      refine q2 hl hm _ ?_
      simp
    · refine cw_false (by (try simp); omega) ?_
      (try simp)
      refine q3 hl (by omega) _ ?_ ?_ ?_ <;> simp [h0, h4]
theorem c_vU8 {Q : Post} {f : Nat → Value} {w : World} {D o n c : Nat} {b : UInt8} {z : Nat} (hz : z < 72057594037927936) (h0 : f 0 = .slice (some ⟨D, o, none⟩) n c) (hn : 9 ≤ n) (hb : w.cell? ⟨D, o + 8, none⟩ = some (.int .u8 b.toNat)) (h4 : f 4 = .int .u64 z)
    (q : ∀ f', f' 0 = f 0 → f' 4 = .int .u64 (z + b.toNat % 128 * 72057594037927936 : Nat) → f' 5 = f 5 → Q .normal f' w) : (vU8 E).cw P Q f w := by
  have hlt := b.toNat_lt
  have hk : 8 < n := by omega
  obtain ⟨y, hy, a⟩ : ∃ y : Nat, y = b.toNat % 128 ∧ bits .and .u8 (b.toNat : Int) 127 = (y : Int) := ⟨_, rfl, and127 b⟩
  have w1 := u64_id y (by omega)
  have s1 : IntKind.u64.wrap ((y : Int) * 72057594037927936) = (y : Int) * 72057594037927936 := sh64 72057594037927936 y (by omega)
  have o1 := lo8 z y hz (by omega)
  rw [← hy] at q
  simp only [vU8]
  simp [hk, h0, h4, idx?, sBs, ld_scl kU8, hb, a, iU8, iU64, Addr.add_mk, w1, s1, o1, IntKind.bits]
  refine q _ ?_ ?_ ?_ <;> simp [h0]
theorem c_vT9 {Q : Post} {f : Nat → Value} {w : World} {D o n c : Nat} {b : UInt8} {z : Nat} (h0 : f 0 = .slice (some ⟨D, o, none⟩) n c) (hn : 9 ≤ n) (hb : w.cell? ⟨D, o + 8, none⟩ = some (.int .u8 b.toNat)) (h4 : f 4 = .int .u64 z)
    (q1 : b.toNat < 128 → ∀ f', f' 2 = .int .u64 z → f' 3 = .int .i64 9 → Q .ret f' w) (q2 : ¬ b.toNat < 128 → n < 10 → ∀ f', f' 5 = f 5 → Q (.goto 0) f' w)
    (q3 : ¬ b.toNat < 128 → 10 ≤ n → ∀ f', f' 0 = f 0 → f' 4 = f 4 → f' 5 = f 5 → Q .normal f' w) : (vT9 E).cw P Q f w := by
  have hlt := b.toNat_lt
  have hk : 9 - 1 < n := by omega
  simp only [Nat.reduceSub] at hk
  simp only [vT9, cw_seq]
  simp [hk, h0, idx?, sBs, ld_scl kU8, hb, and128, iU8, Addr.add_mk]
  by_cases hl : b.toNat < 128
  · refine cw_true (by simp [hl]) ?_
    simp [h4]
    refine q1 hl _ ?_ ?_ <;> simp
  · refine cw_false (by simp [hl]) ?_
    simp [h0, len_slice uBs]
    by_cases hm : n < 10
    · refine cw_true (by (try simp); omega) ?_
      (try simp)
      refine q2 hl hm _ ?_
      simp
    · refine cw_false (by (try simp); omega) ?_
      (try simp)
      refine q3 hl (by omega) _ ?_ ?_ ?_ <;> simp [h0, h4]
theorem c_vU9 {Q : Post} {f : Nat → Value} {w : World} {D o n c : Nat} {b : UInt8} {z : Nat} (hz : z < 9223372036854775808) (h0 : f 0 = .slice (some ⟨D, o, none⟩) n c) (hn : 10 ≤ n) (hb : w.cell? ⟨D, o + 9, none⟩ = some (.int .u8 b.toNat)) (h4 : f 4 = .int .u64 z)
    (q : ∀ f', f' 0 = f 0 → (b.toNat ≤ 1 → f' 4 = .int .u64 (z + b.toNat * 9223372036854775808 : Nat)) → f' 5 = f 5 → Q .normal f' w) : (vU9 E).cw P Q f w := by
  have hlt := b.toNat_lt
  have hk : 9 < n := by omega
  have w1 := u64_id b.toNat (by omega)
  simp only [vU9]
  simp [hk, h0, h4, idx?, sBs, ld_scl kU8, hb, iU8, iU64, Addr.add_mk, w1, IntKind.bits]
  have g4 : b.toNat ≤ 1 → IntKind.u64.wrap ((b.toNat : Int) * 9223372036854775808) = (b.toNat : Int) * 9223372036854775808 ∧ bits .or .u64 (z : Int) ((b.toNat : Int) * 9223372036854775808) = ((z + b.toNat * 9223372036854775808 : Nat) : Int) := fun h1 => ⟨sh64 9223372036854775808 b.toNat (by omega), lo9 z b.toNat hz (by omega)⟩
  refine q _ ?_ ?_ ?_
  · simp [h0]
  · intro h1
    obtain ⟨g1, g2⟩ := g4 h1
    simp [g1, g2]
  · simp
end
theorem vl_step (k : Nat) (b : UInt8) (s : List UInt8) (h : ¬ b.toNat < 128) : vlGo (k + 1) (b :: s) = (vlGo k s).map fun p => (b.toNat % 128 + 128 * p.1, p.2) := by rw [vlGo, if_neg h]
/-- what is left to be shown: i groups have been read -/
def VlSt (w : World) (s0 : List UInt8) (i z : Nat) (s : List UInt8) : Prop := s = s0.drop i ∧ i ≤ s0.length ∧ vl s0 = (vlGo (9 - i) s).map fun p => (z + 128 ^ i * p.1, p.2)
theorem VlSt.next {w : World} {s0 : List UInt8} {i z : Nat} {b : UInt8} {s : List UInt8} (h : VlSt w s0 i z (b :: s)) (hi : i < 9) (hb : ¬ b.toNat < 128) : VlSt w s0 (i + 1) (z + b.toNat % 128 * 128 ^ i) s := by
  obtain ⟨h1, h2, h3⟩ := h
  have hl : (b :: s).length = s0.length - i := by rw [h1]; simp
  simp at hl
  refine ⟨?_, by omega, ?_⟩
  · have : s = (b :: s).drop 1 := rfl
    rw [this, h1, List.drop_drop]
  · rw [h3, show 9 - i = (9 - (i + 1)) + 1 by omega, vl_step _ _ _ hb, Option.map_map]
    congr 1
    funext p
    simp [Nat.pow_succ, Nat.mul_add, Nat.add_assoc, Nat.mul_comm, Nat.mul_assoc, Nat.mul_left_comm]
theorem VlSt.last {w : World} {s0 : List UInt8} {i z : Nat} {b : UInt8} {s : List UInt8} (h : VlSt w s0 i z (b :: s)) (hi : i < 9) (hb : b.toNat < 128) : vlPost w s0 (.tuple #[.int .u64 (z + b.toNat % 128 * 128 ^ i : Nat), .int .i64 ((i + 1 : Nat) : Int)]) w := by
  obtain ⟨h1, h2, h3⟩ := h
  have hl : (b :: s).length = s0.length - i := by rw [h1]; simp
  simp at hl
  refine vlPost_some (m := i + 1) (r := s) ?_ (by omega) (by omega) ?_
  · rw [h3, show 9 - i = (9 - (i + 1)) + 1 by omega, vlGo, if_pos hb, Nat.mod_eq_of_lt hb]; simp [Nat.mul_comm]
  · have : s = (b :: s).drop 1 := rfl
    rw [this, h1, List.drop_drop]
theorem VlSt.short {w : World} {s0 : List UInt8} {i z : Nat} (h : VlSt w s0 i z []) : vl s0 = none := by rw [h.2.2, vlGo_nil]; rfl
theorem c_vS1 {P : Program} {E : Env} (uBs : P.underlying E.tBs = some (.slice E.tU8)) (sBs : sliSz P E.tBs = some 1) (kU8 : kindOf P E.tU8 = .scl) (iU8 : intKind? P E.tU8 = some .u8) (iU64 : intKind? P E.tU64 = some .u64)
    {Q : Post} {f : Nat → Value} {w : World} {D o c : Nat} {b : UInt8} {s0 s : List UInt8} {zp : Nat} {R : Ir} (hcc : ∀ i x, s0[i]? = some x → w.cell? ⟨D, o + i, none⟩ = some (.int .u8 x.toNat))
    (h0 : f 0 = .slice (some ⟨D, o, none⟩) s0.length c) (h5 : f 5 = .int .i64 0) (hst : VlSt w s0 0 zp (b :: s)) (hz : zp < 1) (h4 : f 4 = .int .u64 (zp + b.toNat % 128 * 1 : Nat))
    (qr : ∀ f' x y, vlPost w s0 (.tuple #[x, y]) w → f' 2 = x → f' 3 = y → Q .ret f' w) (qg : vl s0 = none → ∀ f', f' 5 = .int .i64 0 → Q (.goto 0) f' w)
    (qn : ∀ f' b' s' z', VlSt w s0 1 z' (b' :: s') → z' < 128 → f' 0 = f 0 → f' 4 = .int .u64 (z' + b'.toNat % 128 * 128 : Nat) → f' 5 = .int .i64 0 → R.cw P Q f' w) : ((vT1 E).seq ((vU1 E).seq R)).cw P Q f w := by
  have hlt := b.toNat_lt
  have hl : (b :: s).length = s0.length - 0 := by rw [hst.1]; simp
  simp at hl
  have hb : s0[0]? = some b := by
    have := congrArg (fun l => l[0]?) hst.1
    simpa using this.symm
  simp only [cw_seq]
  refine c_vT1 uBs sBs kU8 iU8 iU64 h0 (by omega) (by simpa using hcc 0 b hb) h4 ?_ ?_ ?_
  · intro hx f' e2 e3
    exact qr f' _ _ (hst.last (by omega) hx) (by simpa using e2) (by simpa using e3)
  · intro hx hy f' e5
    have hs : s = [] := by cases s with
      | nil => rfl
      | cons b' s' => simp at hl; omega
    subst hs
    exact qg (hst.next (by omega) hx).short f' (e5.trans h5)
  · intro hx hy f' e0 e4 e5
    cases s with
    | nil => simp at hl; omega
    | cons b' s' =>
      have hst' := hst.next (by omega) hx
      simp only [Nat.reduceAdd, Nat.reducePow] at hst'
      have hb' : s0[1]? = some b' := by
        have := congrArg (fun l => l[0]?) hst'.1
        simpa using this.symm
      simp only [thenF, cw_seq]
      refine c_vU1 uBs sBs kU8 iU8 iU64 (z := zp + b.toNat % 128 * 1) (by omega) (e0.trans h0) (by omega) (hcc 1 b' hb') (e4.trans h4) ?_
      intro f2 g0 g4 g5
      simp only [thenF]
      exact qn f2 b' s' _ hst' (by omega) (g0.trans e0) g4 (g5.trans (e5.trans h5))
theorem c_vS2 {P : Program} {E : Env} (uBs : P.underlying E.tBs = some (.slice E.tU8)) (sBs : sliSz P E.tBs = some 1) (kU8 : kindOf P E.tU8 = .scl) (iU8 : intKind? P E.tU8 = some .u8) (iU64 : intKind? P E.tU64 = some .u64)
    {Q : Post} {f : Nat → Value} {w : World} {D o c : Nat} {b : UInt8} {s0 s : List UInt8} {zp : Nat} {R : Ir} (hcc : ∀ i x, s0[i]? = some x → w.cell? ⟨D, o + i, none⟩ = some (.int .u8 x.toNat))
    (h0 : f 0 = .slice (some ⟨D, o, none⟩) s0.length c) (h5 : f 5 = .int .i64 0) (hst : VlSt w s0 1 zp (b :: s)) (hz : zp < 128) (h4 : f 4 = .int .u64 (zp + b.toNat % 128 * 128 : Nat))
    (qr : ∀ f' x y, vlPost w s0 (.tuple #[x, y]) w → f' 2 = x → f' 3 = y → Q .ret f' w) (qg : vl s0 = none → ∀ f', f' 5 = .int .i64 0 → Q (.goto 0) f' w)
    (qn : ∀ f' b' s' z', VlSt w s0 2 z' (b' :: s') → z' < 16384 → f' 0 = f 0 → f' 4 = .int .u64 (z' + b'.toNat % 128 * 16384 : Nat) → f' 5 = .int .i64 0 → R.cw P Q f' w) : ((vT2 E).seq ((vU2 E).seq R)).cw P Q f w := by
  have hlt := b.toNat_lt
  have hl : (b :: s).length = s0.length - 1 := by rw [hst.1]; simp
  simp at hl
  have hb : s0[1]? = some b := by
    have := congrArg (fun l => l[0]?) hst.1
    simpa using this.symm
  simp only [cw_seq]
  refine c_vT2 uBs sBs kU8 iU8 iU64 h0 (by omega) (by simpa using hcc 1 b hb) h4 ?_ ?_ ?_
  · intro hx f' e2 e3
    exact qr f' _ _ (hst.last (by omega) hx) (by simpa using e2) (by simpa using e3)
  · intro hx hy f' e5
    have hs : s = [] := by cases s with
      | nil => rfl
      | cons b' s' => simp at hl; omega
    subst hs
    exact qg (hst.next (by omega) hx).short f' (e5.trans h5)
  · intro hx hy f' e0 e4 e5
    cases s with
    | nil => simp at hl; omega
    | cons b' s' =>
      have hst' := hst.next (by omega) hx
      simp only [Nat.reduceAdd, Nat.reducePow] at hst'
      have hb' : s0[2]? = some b' := by
        have := congrArg (fun l => l[0]?) hst'.1
        simpa using this.symm
      simp only [thenF, cw_seq]
      refine c_vU2 uBs sBs kU8 iU8 iU64 (z := zp + b.toNat % 128 * 128) (by omega) (e0.trans h0) (by omega) (hcc 2 b' hb') (e4.trans h4) ?_
      intro f2 g0 g4 g5
      simp only [thenF]
      exact qn f2 b' s' _ hst' (by omega) (g0.trans e0) g4 (g5.trans (e5.trans h5))
theorem c_vS3 {P : Program} {E : Env} (uBs : P.underlying E.tBs = some (.slice E.tU8)) (sBs : sliSz P E.tBs = some 1) (kU8 : kindOf P E.tU8 = .scl) (iU8 : intKind? P E.tU8 = some .u8) (iU64 : intKind? P E.tU64 = some .u64)
    {Q : Post} {f : Nat → Value} {w : World} {D o c : Nat} {b : UInt8} {s0 s : List UInt8} {zp : Nat} {R : Ir} (hcc : ∀ i x, s0[i]? = some x → w.cell? ⟨D, o + i, none⟩ = some (.int .u8 x.toNat))
    (h0 : f 0 = .slice (some ⟨D, o, none⟩) s0.length c) (h5 : f 5 = .int .i64 0) (hst : VlSt w s0 2 zp (b :: s)) (hz : zp < 16384) (h4 : f 4 = .int .u64 (zp + b.toNat % 128 * 16384 : Nat))
    (qr : ∀ f' x y, vlPost w s0 (.tuple #[x, y]) w → f' 2 = x → f' 3 = y → Q .ret f' w) (qg : vl s0 = none → ∀ f', f' 5 = .int .i64 0 → Q (.goto 0) f' w)
    (qn : ∀ f' b' s' z', VlSt w s0 3 z' (b' :: s') → z' < 2097152 → f' 0 = f 0 → f' 4 = .int .u64 (z' + b'.toNat % 128 * 2097152 : Nat) → f' 5 = .int .i64 0 → R.cw P Q f' w) : ((vT3 E).seq ((vU3 E).seq R)).cw P Q f w := by
  have hlt := b.toNat_lt
  have hl : (b :: s).length = s0.length - 2 := by rw [hst.1]; simp
  simp at hl
  have hb : s0[2]? = some b := by
    have := congrArg (fun l => l[0]?) hst.1
    simpa using this.symm
  simp only [cw_seq]
  refine c_vT3 uBs sBs kU8 iU8 iU64 h0 (by omega) (by simpa using hcc 2 b hb) h4 ?_ ?_ ?_
  · intro hx f' e2 e3
    exact qr f' _ _ (hst.last (by omega) hx) (by simpa using e2) (by simpa using e3)
  · intro hx hy f' e5
    have hs : s = [] := by cases s with
      | nil => rfl
      | cons b' s' => simp at hl; omega
    subst hs
    exact qg (hst.next (by omega) hx).short f' (e5.trans h5)
  · intro hx hy f' e0 e4 e5
    cases s with
    | nil => simp at hl; omega
    | cons b' s' =>
      have hst' := hst.next (by omega) hx
      simp only [Nat.reduceAdd, Nat.reducePow] at hst'
      have hb' : s0[3]? = some b' := by
        have := congrArg (fun l => l[0]?) hst'.1
        simpa using this.symm
      simp only [thenF, cw_seq]
      refine c_vU3 uBs sBs kU8 iU8 iU64 (z := zp + b.toNat % 128 * 16384) (by omega) (e0.trans h0) (by omega) (hcc 3 b' hb') (e4.trans h4) ?_
      intro f2 g0 g4 g5
      simp only [thenF]
      exact qn f2 b' s' _ hst' (by omega) (g0.trans e0) g4 (g5.trans (e5.trans h5))
theorem c_vS4 {P : Program} {E : Env} (uBs : P.underlying E.tBs = some (.slice E.tU8)) (sBs : sliSz P E.tBs = some 1) (kU8 : kindOf P E.tU8 = .scl) (iU8 : intKind? P E.tU8 = some .u8) (iU64 : intKind? P E.tU64 = some .u64)
    {Q : Post} {f : Nat → Value} {w : World} {D o c : Nat} {b : UInt8} {s0 s : List UInt8} {zp : Nat} {R : Ir} (hcc : ∀ i x, s0[i]? = some x → w.cell? ⟨D, o + i, none⟩ = some (.int .u8 x.toNat))
    (h0 : f 0 = .slice (some ⟨D, o, none⟩) s0.length c) (h5 : f 5 = .int .i64 0) (hst : VlSt w s0 3 zp (b :: s)) (hz : zp < 2097152) (h4 : f 4 = .int .u64 (zp + b.toNat % 128 * 2097152 : Nat))
    (qr : ∀ f' x y, vlPost w s0 (.tuple #[x, y]) w → f' 2 = x → f' 3 = y → Q .ret f' w) (qg : vl s0 = none → ∀ f', f' 5 = .int .i64 0 → Q (.goto 0) f' w)
    (qn : ∀ f' b' s' z', VlSt w s0 4 z' (b' :: s') → z' < 268435456 → f' 0 = f 0 → f' 4 = .int .u64 (z' + b'.toNat % 128 * 268435456 : Nat) → f' 5 = .int .i64 0 → R.cw P Q f' w) : ((vT4 E).seq ((vU4 E).seq R)).cw P Q f w := by
  have hlt := b.toNat_lt
  have hl : (b :: s).length = s0.length - 3 := by rw [hst.1]; simp
  simp at hl
  have hb : s0[3]? = some b := by
    have := congrArg (fun l => l[0]?) hst.1
    simpa using this.symm
  simp only [cw_seq]
  refine c_vT4 uBs sBs kU8 iU8 iU64 h0 (by omega) (by simpa using hcc 3 b hb) h4 ?_ ?_ ?_
  · intro hx f' e2 e3
    exact qr f' _ _ (hst.last (by omega) hx) (by simpa using e2) (by simpa using e3)
  · intro hx hy f' e5
    have hs : s = [] := by cases s with
      | nil => rfl
      | cons b' s' => simp at hl; omega
    subst hs
    exact qg (hst.next (by omega) hx).short f' (e5.trans h5)
  · intro hx hy f' e0 e4 e5
    cases s with
    | nil => simp at hl; omega
    | cons b' s' =>
      have hst' := hst.next (by omega) hx
      simp only [Nat.reduceAdd, Nat.reducePow] at hst'
      have hb' : s0[4]? = some b' := by
        have := congrArg (fun l => l[0]?) hst'.1
        simpa using this.symm
      simp only [thenF, cw_seq]
      refine c_vU4 uBs sBs kU8 iU8 iU64 (z := zp + b.toNat % 128 * 2097152) (by omega) (e0.trans h0) (by omega) (hcc 4 b' hb') (e4.trans h4) ?_
      intro f2 g0 g4 g5
      simp only [thenF]
      exact qn f2 b' s' _ hst' (by omega) (g0.trans e0) g4 (g5.trans (e5.trans h5))
theorem c_vS5 {P : Program} {E : Env} (uBs : P.underlying E.tBs = some (.slice E.tU8)) (sBs : sliSz P E.tBs = some 1) (kU8 : kindOf P E.tU8 = .scl) (iU8 : intKind? P E.tU8 = some .u8) (iU64 : intKind? P E.tU64 = some .u64)
    {Q : Post} {f : Nat → Value} {w : World} {D o c : Nat} {b : UInt8} {s0 s : List UInt8} {zp : Nat} {R : Ir} (hcc : ∀ i x, s0[i]? = some x → w.cell? ⟨D, o + i, none⟩ = some (.int .u8 x.toNat))
    (h0 : f 0 = .slice (some ⟨D, o, none⟩) s0.length c) (h5 : f 5 = .int .i64 0) (hst : VlSt w s0 4 zp (b :: s)) (hz : zp < 268435456) (h4 : f 4 = .int .u64 (zp + b.toNat % 128 * 268435456 : Nat))
    (qr : ∀ f' x y, vlPost w s0 (.tuple #[x, y]) w → f' 2 = x → f' 3 = y → Q .ret f' w) (qg : vl s0 = none → ∀ f', f' 5 = .int .i64 0 → Q (.goto 0) f' w)
    (qn : ∀ f' b' s' z', VlSt w s0 5 z' (b' :: s') → z' < 34359738368 → f' 0 = f 0 → f' 4 = .int .u64 (z' + b'.toNat % 128 * 34359738368 : Nat) → f' 5 = .int .i64 0 → R.cw P Q f' w) : ((vT5 E).seq ((vU5 E).seq R)).cw P Q f w := by
  have hlt := b.toNat_lt
  have hl : (b :: s).length = s0.length - 4 := by rw [hst.1]; simp
  simp at hl
  have hb : s0[4]? = some b := by
    have := congrArg (fun l => l[0]?) hst.1
    simpa using this.symm
  simp only [cw_seq]
  refine c_vT5 uBs sBs kU8 iU8 iU64 h0 (by omega) (by simpa using hcc 4 b hb) h4 ?_ ?_ ?_
  · intro hx f' e2 e3
    exact qr f' _ _ (hst.last (by omega) hx) (by simpa using e2) (by simpa using e3)
  · intro hx hy f' e5
    have hs : s = [] := by cases s with
      | nil => rfl
      | cons b' s' => simp at hl; omega
    subst hs
    exact qg (hst.next (by omega) hx).short f' (e5.trans h5)
  · intro hx hy f' e0 e4 e5
    cases s with
    | nil => simp at hl; omega
    | cons b' s' =>
      have hst' := hst.next (by omega) hx
      simp only [Nat.reduceAdd, Nat.reducePow] at hst'
      have hb' : s0[5]? = some b' := by
        have := congrArg (fun l => l[0]?) hst'.1
        simpa using this.symm
      simp only [thenF, cw_seq]
      refine c_vU5 uBs sBs kU8 iU8 iU64 (z := zp + b.toNat % 128 * 268435456) (by omega) (e0.trans h0) (by omega) (hcc 5 b' hb') (e4.trans h4) ?_
      intro f2 g0 g4 g5
      simp only [thenF]
      exact qn f2 b' s' _ hst' (by omega) (g0.trans e0) g4 (g5.trans (e5.trans h5))
theorem c_vS6 {P : Program} {E : Env} (uBs : P.underlying E.tBs = some (.slice E.tU8)) (sBs : sliSz P E.tBs = some 1) (kU8 : kindOf P E.tU8 = .scl) (iU8 : intKind? P E.tU8 = some .u8) (iU64 : intKind? P E.tU64 = some .u64)
    {Q : Post} {f : Nat → Value} {w : World} {D o c : Nat} {b : UInt8} {s0 s : List UInt8} {zp : Nat} {R : Ir} (hcc : ∀ i x, s0[i]? = some x → w.cell? ⟨D, o + i, none⟩ = some (.int .u8 x.toNat))
    (h0 : f 0 = .slice (some ⟨D, o, none⟩) s0.length c) (h5 : f 5 = .int .i64 0) (hst : VlSt w s0 5 zp (b :: s)) (hz : zp < 34359738368) (h4 : f 4 = .int .u64 (zp + b.toNat % 128 * 34359738368 : Nat))
    (qr : ∀ f' x y, vlPost w s0 (.tuple #[x, y]) w → f' 2 = x → f' 3 = y → Q .ret f' w) (qg : vl s0 = none → ∀ f', f' 5 = .int .i64 0 → Q (.goto 0) f' w)
    (qn : ∀ f' b' s' z', VlSt w s0 6 z' (b' :: s') → z' < 4398046511104 → f' 0 = f 0 → f' 4 = .int .u64 (z' + b'.toNat % 128 * 4398046511104 : Nat) → f' 5 = .int .i64 0 → R.cw P Q f' w) : ((vT6 E).seq ((vU6 E).seq R)).cw P Q f w := by
  have hlt := b.toNat_lt
  have hl : (b :: s).length = s0.length - 5 := by rw [hst.1]; simp
  simp at hl
  have hb : s0[5]? = some b := by
    have := congrArg (fun l => l[0]?) hst.1
    simpa using this.symm
  simp only [cw_seq]
  refine c_vT6 uBs sBs kU8 iU8 iU64 h0 (by omega) (by simpa using hcc 5 b hb) h4 ?_ ?_ ?_
  · intro hx f' e2 e3
    exact qr f' _ _ (hst.last (by omega) hx) (by simpa using e2) (by simpa using e3)
  · intro hx hy f' e5
    have hs : s = [] := by cases s with
      | nil => rfl
      | cons b' s' => simp at hl; omega
    subst hs
    exact qg (hst.next (by omega) hx).short f' (e5.trans h5)
  · intro hx hy f' e0 e4 e5
    cases s with
    | nil => simp at hl; omega
    | cons b' s' =>
      have hst' := hst.next (by omega) hx
      simp only [Nat.reduceAdd, Nat.reducePow] at hst'
      have hb' : s0[6]? = some b' := by
        have := congrArg (fun l => l[0]?) hst'.1
        simpa using this.symm
      simp only [thenF, cw_seq]
      refine c_vU6 uBs sBs kU8 iU8 iU64 (z := zp + b.toNat % 128 * 34359738368) (by omega) (e0.trans h0) (by omega) (hcc 6 b' hb') (e4.trans h4) ?_
      intro f2 g0 g4 g5
      simp only [thenF]
      exact qn f2 b' s' _ hst' (by omega) (g0.trans e0) g4 (g5.trans (e5.trans h5))
theorem c_vS7 {P : Program} {E : Env} (uBs : P.underlying E.tBs = some (.slice E.tU8)) (sBs : sliSz P E.tBs = some 1) (kU8 : kindOf P E.tU8 = .scl) (iU8 : intKind? P E.tU8 = some .u8) (iU64 : intKind? P E.tU64 = some .u64)
    {Q : Post} {f : Nat → Value} {w : World} {D o c : Nat} {b : UInt8} {s0 s : List UInt8} {zp : Nat} {R : Ir} (hcc : ∀ i x, s0[i]? = some x → w.cell? ⟨D, o + i, none⟩ = some (.int .u8 x.toNat))
    (h0 : f 0 = .slice (some ⟨D, o, none⟩) s0.length c) (h5 : f 5 = .int .i64 0) (hst : VlSt w s0 6 zp (b :: s)) (hz : zp < 4398046511104) (h4 : f 4 = .int .u64 (zp + b.toNat % 128 * 4398046511104 : Nat))
    (qr : ∀ f' x y, vlPost w s0 (.tuple #[x, y]) w → f' 2 = x → f' 3 = y → Q .ret f' w) (qg : vl s0 = none → ∀ f', f' 5 = .int .i64 0 → Q (.goto 0) f' w)
    (qn : ∀ f' b' s' z', VlSt w s0 7 z' (b' :: s') → z' < 562949953421312 → f' 0 = f 0 → f' 4 = .int .u64 (z' + b'.toNat % 128 * 562949953421312 : Nat) → f' 5 = .int .i64 0 → R.cw P Q f' w) : ((vT7 E).seq ((vU7 E).seq R)).cw P Q f w := by
  have hlt := b.toNat_lt
  have hl : (b :: s).length = s0.length - 6 := by rw [hst.1]; simp
  simp at hl
  have hb : s0[6]? = some b := by
    have := congrArg (fun l => l[0]?) hst.1
    simpa using this.symm
  simp only [cw_seq]
  refine c_vT7 uBs sBs kU8 iU8 iU64 h0 (by omega) (by simpa using hcc 6 b hb) h4 ?_ ?_ ?_
  · intro hx f' e2 e3
    exact qr f' _ _ (hst.last (by omega) hx) (by simpa using e2) (by simpa using e3)
  · intro hx hy f' e5
    have hs : s = [] := by cases s with
      | nil => rfl
      | cons b' s' => simp at hl; omega
    subst hs
    exact qg (hst.next (by omega) hx).short f' (e5.trans h5)
  · intro hx hy f' e0 e4 e5
    cases s with
    | nil => simp at hl; omega
    | cons b' s' =>
      have hst' := hst.next (by omega) hx
      simp only [Nat.reduceAdd, Nat.reducePow] at hst'
      have hb' : s0[7]? = some b' := by
        have := congrArg (fun l => l[0]?) hst'.1
        simpa using this.symm
      simp only [thenF, cw_seq]
      refine c_vU7 uBs sBs kU8 iU8 iU64 (z := zp + b.toNat % 128 * 4398046511104) (by omega) (e0.trans h0) (by omega) (hcc 7 b' hb') (e4.trans h4) ?_
      intro f2 g0 g4 g5
      simp only [thenF]
      exact qn f2 b' s' _ hst' (by omega) (g0.trans e0) g4 (g5.trans (e5.trans h5))
theorem c_vS8 {P : Program} {E : Env} (uBs : P.underlying E.tBs = some (.slice E.tU8)) (sBs : sliSz P E.tBs = some 1) (kU8 : kindOf P E.tU8 = .scl) (iU8 : intKind? P E.tU8 = some .u8) (iU64 : intKind? P E.tU64 = some .u64)
    {Q : Post} {f : Nat → Value} {w : World} {D o c : Nat} {b : UInt8} {s0 s : List UInt8} {zp : Nat} {R : Ir} (hcc : ∀ i x, s0[i]? = some x → w.cell? ⟨D, o + i, none⟩ = some (.int .u8 x.toNat))
    (h0 : f 0 = .slice (some ⟨D, o, none⟩) s0.length c) (h5 : f 5 = .int .i64 0) (hst : VlSt w s0 7 zp (b :: s)) (hz : zp < 562949953421312) (h4 : f 4 = .int .u64 (zp + b.toNat % 128 * 562949953421312 : Nat))
    (qr : ∀ f' x y, vlPost w s0 (.tuple #[x, y]) w → f' 2 = x → f' 3 = y → Q .ret f' w) (qg : vl s0 = none → ∀ f', f' 5 = .int .i64 0 → Q (.goto 0) f' w)
    (qn : ∀ f' b' s' z', VlSt w s0 8 z' (b' :: s') → z' < 72057594037927936 → f' 0 = f 0 → f' 4 = .int .u64 (z' + b'.toNat % 128 * 72057594037927936 : Nat) → f' 5 = .int .i64 0 → R.cw P Q f' w) : ((vT8 E).seq ((vU8 E).seq R)).cw P Q f w := by
  have hlt := b.toNat_lt
  have hl : (b :: s).length = s0.length - 7 := by rw [hst.1]; simp
  simp at hl
  have hb : s0[7]? = some b := by
    have := congrArg (fun l => l[0]?) hst.1
    simpa using this.symm
  simp only [cw_seq]
  refine c_vT8 uBs sBs kU8 iU8 iU64 h0 (by omega) (by simpa using hcc 7 b hb) h4 ?_ ?_ ?_
  · intro hx f' e2 e3
    exact qr f' _ _ (hst.last (by omega) hx) (by simpa using e2) (by simpa using e3)
  · intro hx hy f' e5
    have hs : s = [] := by cases s with
      | nil => rfl
      | cons b' s' => simp at hl; omega
    subst hs
    exact qg (hst.next (by omega) hx).short f' (e5.trans h5)
  · intro hx hy f' e0 e4 e5
    cases s with
    | nil => simp at hl; omega
    | cons b' s' =>
      have hst' := hst.next (by omega) hx
      simp only [Nat.reduceAdd, Nat.reducePow] at hst'
      have hb' : s0[8]? = some b' := by
        have := congrArg (fun l => l[0]?) hst'.1
        simpa using this.symm
      simp only [thenF, cw_seq]
      refine c_vU8 uBs sBs kU8 iU8 iU64 (z := zp + b.toNat % 128 * 562949953421312) (by omega) (e0.trans h0) (by omega) (hcc 8 b' hb') (e4.trans h4) ?_
      intro f2 g0 g4 g5
      simp only [thenF]
      exact qn f2 b' s' _ hst' (by omega) (g0.trans e0) g4 (g5.trans (e5.trans h5))
theorem c_vS9 {P : Program} {E : Env} (uBs : P.underlying E.tBs = some (.slice E.tU8)) (sBs : sliSz P E.tBs = some 1) (kU8 : kindOf P E.tU8 = .scl) (iU8 : intKind? P E.tU8 = some .u8) (iU64 : intKind? P E.tU64 = some .u64)
    {Q : Post} {f : Nat → Value} {w : World} {D o c : Nat} {b : UInt8} {s0 s : List UInt8} {zp : Nat} {R : Ir} (hcc : ∀ i x, s0[i]? = some x → w.cell? ⟨D, o + i, none⟩ = some (.int .u8 x.toNat))
    (h0 : f 0 = .slice (some ⟨D, o, none⟩) s0.length c) (h5 : f 5 = .int .i64 0) (hst : VlSt w s0 8 zp (b :: s)) (hz : zp < 72057594037927936) (h4 : f 4 = .int .u64 (zp + b.toNat % 128 * 72057594037927936 : Nat))
    (qr : ∀ f' x y, vlPost w s0 (.tuple #[x, y]) w → f' 2 = x → f' 3 = y → Q .ret f' w) (qg : vl s0 = none → ∀ f', f' 5 = .int .i64 0 → Q (.goto 0) f' w)
    (qn : ∀ f' b' s' z', VlSt w s0 9 z' (b' :: s') → z' < 9223372036854775808 → f' 0 = f 0 → (b'.toNat ≤ 1 → f' 4 = .int .u64 (z' + b'.toNat * 9223372036854775808 : Nat)) → f' 5 = .int .i64 0 → R.cw P Q f' w) : ((vT9 E).seq ((vU9 E).seq R)).cw P Q f w := by
  have hlt := b.toNat_lt
  have hl : (b :: s).length = s0.length - 8 := by rw [hst.1]; simp
  simp at hl
  have hb : s0[8]? = some b := by
    have := congrArg (fun l => l[0]?) hst.1
    simpa using this.symm
  simp only [cw_seq]
  refine c_vT9 uBs sBs kU8 iU8 iU64 h0 (by omega) (by simpa using hcc 8 b hb) h4 ?_ ?_ ?_
  · intro hx f' e2 e3
    exact qr f' _ _ (hst.last (by omega) hx) (by simpa using e2) (by simpa using e3)
  · intro hx hy f' e5
    have hs : s = [] := by cases s with
      | nil => rfl
      | cons b' s' => simp at hl; omega
    subst hs
    exact qg (hst.next (by omega) hx).short f' (e5.trans h5)
  · intro hx hy f' e0 e4 e5
    cases s with
    | nil => simp at hl; omega
    | cons b' s' =>
      have hst' := hst.next (by omega) hx
      simp only [Nat.reduceAdd, Nat.reducePow] at hst'
      have hb' : s0[9]? = some b' := by
        have := congrArg (fun l => l[0]?) hst'.1
        simpa using this.symm
      simp only [thenF, cw_seq]
      refine c_vU9 uBs sBs kU8 iU8 iU64 (z := zp + b.toNat % 128 * 72057594037927936) (by omega) (e0.trans h0) (by omega) (hcc 9 b' hb') (e4.trans h4) ?_
      intro f2 g0 g4 g5
      simp only [thenF]
      exact qn f2 b' s' _ hst' (by omega) (g0.trans e0) g4 (g5.trans (e5.trans h5))
set_option maxHeartbeats 2000000 in
theorem c_VlF {P : Program} {E : Env} (hI : FnIs P E.f_kbin_uvarlong nt_kbin_uvarlong (rs_kbin_uvarlong E) (ir_kbin_uvarlong E))
    (uBs : P.underlying E.tBs = some (.slice E.tU8)) (sBs : sliSz P E.tBs = some 1) (kU8 : kindOf P E.tU8 = .scl) (iU8 : intKind? P E.tU8 = some .u8) (iU64 : intKind? P E.tU64 = some .u64) : VlF P E.f_kbin_uvarlong := by
  intro w K v s0 hv
  refine Ret.mono (R := vlPost w s0) ?_ (fun u w' h => h)
  obtain ⟨a, c, rfl, hc⟩ := hv.len
  refine hI.call (args := [_]) (by simp [nt_kbin_uvarlong]) ?_
  rw [ir_uvarlong_eq]
  simp only [vHead, rs_kbin_uvarlong, cw_seq]
  simp
  refine cw_scope (fun f w' => w' = w ∧ vl s0 = none ∧ ∃ m : Int, f 5 = .int .i64 m ∧ m ≤ 0) (fun _ _ => 0) ?_ ?rest
  case rest =>
    rintro f w' ⟨rfl, hn, m, hm, hm0⟩
    simp [hm]
    simp only [vlPost, hn]
    exact ⟨⟨m, rfl, hm0⟩, Ext.refl _ _⟩
  rcases s0 with _ | ⟨b0, s⟩
  · simp [len_slice uBs]
    refine cw_true (by simp) ?_
    simp [vl, vlGo]
  rcases hv with ⟨_, h⟩ | ⟨D, o, c', hv, _, _, hcc⟩
  · cases h
  have l0 := b0.toNat_lt
  have e0 : w.cell? ⟨D, o, none⟩ = some (.int .u8 b0.toNat) := hcc 0 b0 rfl
  have hv : Value.slice a (b0 :: s).length c = .slice (some ⟨D, o, none⟩) (b0 :: s).length c' := hv
  cases hv
  simp [len_slice uBs]
  refine cw_false (by simp; omega) ?_
  obtain ⟨y0, hy0, a0⟩ : ∃ y : Nat, y = b0.toNat % 128 ∧ bits .and .u8 (b0.toNat : Int) 127 = (y : Int) := ⟨_, rfl, and127 b0⟩
  have w0 := u64_id y0 (by omega)
  simp [idx?, sBs, ld_scl kU8, e0, a0, iU8, iU64, Addr.add_mk, w0]
  have hst : VlSt w (b0 :: s) 0 0 (b0 :: s) := ⟨rfl, by omega, by show vlGo 9 _ = _; simp⟩
  have qr : ∀ f' x y, vlPost w (b0 :: s) (.tuple #[x, y]) w → f' 2 = x → f' 3 = y → (jumpF 0 (fun f w' => w' = w ∧ vl (b0 :: s) = none ∧ ∃ m : Int, f 5 = .int .i64 m ∧ m ≤ 0) (retPost P [Rv.t 2, Rv.t 3] (vlPost w (b0 :: s)))) .ret f' w := by
    intro f' x y h e2 e3
    simp [e2, e3]
    exact h
  have qg : vl (b0 :: s) = none → ∀ f' : Nat → Value, f' 5 = .int .i64 0 → (jumpF 0 (fun f w' => w' = w ∧ vl (b0 :: s) = none ∧ ∃ m : Int, f 5 = .int .i64 m ∧ m ≤ 0) (retPost P [Rv.t 2, Rv.t 3] (vlPost w (b0 :: s)))) (.goto 0) f' w := by
    intro h f' e5
    simp [h, e5]
  generalize hQ : (jumpF 0 (fun f w' => w' = w ∧ vl (b0 :: s) = none ∧ ∃ m : Int, f 5 = .int .i64 m ∧ m ≤ 0) (retPost P [Rv.t 2, Rv.t 3] (vlPost w (b0 :: s)))) = Q at qr qg ⊢
  rw [← cw_seq]
  refine c_vS1 uBs sBs kU8 iU8 iU64 (c := c) (D := D) (o := o) hcc (by simp) (by simp) hst (by omega) (by simp [hy0]) qr qg ?_
  intro f1 b1 s1 z1 hst hz1 g0 g4 g5
  have h0 : f1 0 = .slice (some ⟨D, o, none⟩) (b0 :: s).length c := by rw [g0]; simp
  refine c_vS2 uBs sBs kU8 iU8 iU64 hcc h0 g5 hst hz1 g4 qr qg ?_
  intro f2 b2 s2 z2 hst hz2 g0 g4 g5
  have h0 : f2 0 = .slice (some ⟨D, o, none⟩) (b0 :: s).length c := by rw [g0]; exact h0
  refine c_vS3 uBs sBs kU8 iU8 iU64 hcc h0 g5 hst hz2 g4 qr qg ?_
  intro f3 b3 s3 z3 hst hz3 g0 g4 g5
  have h0 : f3 0 = .slice (some ⟨D, o, none⟩) (b0 :: s).length c := by rw [g0]; exact h0
  refine c_vS4 uBs sBs kU8 iU8 iU64 hcc h0 g5 hst hz3 g4 qr qg ?_
  intro f4 b4 s4 z4 hst hz4 g0 g4 g5
  have h0 : f4 0 = .slice (some ⟨D, o, none⟩) (b0 :: s).length c := by rw [g0]; exact h0
  refine c_vS5 uBs sBs kU8 iU8 iU64 hcc h0 g5 hst hz4 g4 qr qg ?_
  intro f5 b5 s5 z5 hst hz5 g0 g4 g5
  have h0 : f5 0 = .slice (some ⟨D, o, none⟩) (b0 :: s).length c := by rw [g0]; exact h0
  refine c_vS6 uBs sBs kU8 iU8 iU64 hcc h0 g5 hst hz5 g4 qr qg ?_
  intro f6 b6 s6 z6 hst hz6 g0 g4 g5
  have h0 : f6 0 = .slice (some ⟨D, o, none⟩) (b0 :: s).length c := by rw [g0]; exact h0
  refine c_vS7 uBs sBs kU8 iU8 iU64 hcc h0 g5 hst hz6 g4 qr qg ?_
  intro f7 b7 s7 z7 hst hz7 g0 g4 g5
  have h0 : f7 0 = .slice (some ⟨D, o, none⟩) (b0 :: s).length c := by rw [g0]; exact h0
  refine c_vS8 uBs sBs kU8 iU8 iU64 hcc h0 g5 hst hz7 g4 qr qg ?_
  intro f8 b8 s8 z8 hst hz8 g0 g4 g5
  have h0 : f8 0 = .slice (some ⟨D, o, none⟩) (b0 :: s).length c := by rw [g0]; exact h0
  refine c_vS9 uBs sBs kU8 iU8 iU64 hcc h0 g5 hst hz8 g4 qr qg ?_
  intro f9 b9 s9 z9 hst hz9 g0 g4 g5
  have h0 : f9 0 = .slice (some ⟨D, o, none⟩) (b0 :: s).length c := by rw [g0]; exact h0
  have l9 := b9.toNat_lt
  have hl : (b9 :: s9).length = (b0 :: s).length - 9 := by rw [hst.1]; simp
  simp at hl
  have hb : (b0 :: s)[9]? = some b9 := by
    have := congrArg (fun l => l[0]?) hst.1
    simpa using this.symm
  have e9 := hcc 9 b9 hb
  have hk : 9 < (b0 :: s).length := by simp; omega
  simp only [List.length_cons] at h0 hk
  simp only [vEnd, cw_seq]
  simp [h0, hk, idx?, sBs, ld_scl kU8, e9, iU8, Addr.add_mk]
  have hv9 : vl (b0 :: s) = if b9.toNat ≤ 1 then some (z9 + 128 ^ 9 * b9.toNat, s9) else none := by
    rw [hst.2.2, show 9 - 9 = 0 by rfl, vlGo]
    split <;> rfl
  by_cases h9 : b9.toNat ≤ 1
  · refine cw_true (by simp; omega) ?_
    simp [g4 h9]
    refine qr _ _ _ (vlPost_some (m := 10) (r := s9) (by rw [hv9, if_pos h9, Nat.mul_comm]) (by omega) (by simp; omega) ?_) (by simp) (by simp)
    have : s9 = (b9 :: s9).drop 1 := rfl
    rw [this, hst.1, List.drop_drop]
  · refine cw_false (by simp; omega) ?_
    rw [if_neg h9] at hv9
    subst hQ
    simp
    simp only [vlPost, hv9]
    exact ⟨⟨-10, rfl, by omega⟩, Ext.refl _ _⟩
end Go.Kg

set_option linter.unusedSimpArgs false
set_option linter.unusedVariables false
namespace Go.Kg
open Go
def zz (n : Int) : Nat := if 0 ≤ n then (2 * n).toNat else (-2 * n - 1).toNat
def vW (n : Int) : List UInt8 := uvS (zz n)
theorem xor_ones32 {x : Int} (h0 : 0 ≤ x) (h1 : x < 4294967296) : bits .xor .u32 x 4294967295 = 4294967295 - x := by
  obtain ⟨a, rfl⟩ := Int.eq_ofNat_of_zero_le h0
  have ha : a < 4294967296 := by omega
  show IntKind.u32.wrap ((BitVec.ofInt 32 (a : Int) ^^^ BitVec.ofInt 32 4294967295).toNat : Int) = _
  rw [show BitVec.ofInt 32 4294967295 = BitVec.allOnes 32 from by decide, BitVec.xor_allOnes, BitVec.toNat_not, BitVec.toNat_ofInt, IntKind.wrap_u32]
  omega
theorem xor_ones64 {x : Int} (h0 : 0 ≤ x) (h1 : x < 18446744073709551616) : bits .xor .u64 x 18446744073709551615 = 18446744073709551615 - x := by
  obtain ⟨a, rfl⟩ := Int.eq_ofNat_of_zero_le h0
  show IntKind.u64.wrap ((BitVec.ofInt 64 (a : Int) ^^^ BitVec.ofInt 64 18446744073709551615).toNat : Int) = _
  rw [show BitVec.ofInt 64 18446744073709551615 = BitVec.allOnes 64 from by decide, BitVec.xor_allOnes, BitVec.toNat_not, BitVec.toNat_ofInt, IntKind.wrap_u64]
  omega
theorem xor_zero32 {x : Int} (h0 : 0 ≤ x) (h1 : x < 4294967296) : bits .xor .u32 x 0 = x := by
  obtain ⟨a, rfl⟩ := Int.eq_ofNat_of_zero_le h0
  show IntKind.u32.wrap ((BitVec.ofInt 32 (a : Int) ^^^ BitVec.ofInt 32 0).toNat : Int) = _
  rw [show BitVec.ofInt 32 0 = 0#32 from by decide, BitVec.xor_zero, BitVec.toNat_ofInt, IntKind.wrap_u32]
  omega
theorem xor_zero64 {x : Int} (h0 : 0 ≤ x) (h1 : x < 18446744073709551616) : bits .xor .u64 x 0 = x := by
  obtain ⟨a, rfl⟩ := Int.eq_ofNat_of_zero_le h0
  show IntKind.u64.wrap ((BitVec.ofInt 64 (a : Int) ^^^ BitVec.ofInt 64 0).toNat : Int) = _
  rw [show BitVec.ofInt 64 0 = 0#64 from by decide, BitVec.xor_zero, BitVec.toNat_ofInt, IntKind.wrap_u64]
  omega
theorem zz32 {n : Int} (h0 : -2147483648 ≤ n) (h1 : n < 2147483648) : bits .xor .u32 (IntKind.u32.wrap (IntKind.u32.wrap n * 2)) (IntKind.u32.wrap (n.fdiv 2147483648)) = (zz n : Int) := by
  have hf : n.fdiv 2147483648 = n / 2147483648 := Int.fdiv_eq_ediv_of_nonneg _ (by omega)
  rw [hf]
  by_cases hn : 0 ≤ n
  · rw [show n / 2147483648 = 0 by omega, show IntKind.u32.wrap 0 = 0 by decide, xor_zero32 (by rw [IntKind.wrap_u32]; omega) (by rw [IntKind.wrap_u32]; omega), zz, if_pos hn, IntKind.wrap_u32, IntKind.wrap_u32]
    omega
  · rw [show n / 2147483648 = -1 by omega, show IntKind.u32.wrap (-1) = 4294967295 by decide, xor_ones32 (by rw [IntKind.wrap_u32]; omega) (by rw [IntKind.wrap_u32]; omega), zz, if_neg hn, IntKind.wrap_u32, IntKind.wrap_u32]
    omega
theorem zz64 {n : Int} (h0 : -9223372036854775808 ≤ n) (h1 : n < 9223372036854775808) : bits .xor .u64 (IntKind.u64.wrap (IntKind.u64.wrap n * 2)) (IntKind.u64.wrap (n.fdiv 9223372036854775808)) = (zz n : Int) := by
  have hf : n.fdiv 9223372036854775808 = n / 9223372036854775808 := Int.fdiv_eq_ediv_of_nonneg _ (by omega)
  rw [hf]
  by_cases hn : 0 ≤ n
  · rw [show n / 9223372036854775808 = 0 by omega, show IntKind.u64.wrap 0 = 0 by decide, xor_zero64 (by rw [IntKind.wrap_u64]; omega) (by rw [IntKind.wrap_u64]; omega), zz, if_pos hn, IntKind.wrap_u64, IntKind.wrap_u64]
    omega
  · rw [show n / 9223372036854775808 = -1 by omega, show IntKind.u64.wrap (-1) = 18446744073709551615 by decide, xor_ones64 (by rw [IntKind.wrap_u64]; omega) (by rw [IntKind.wrap_u64]; omega), zz, if_neg hn, IntKind.wrap_u64, IntKind.wrap_u64]
    omega
theorem zz_lt32 {n : Int} (h0 : -2147483648 ≤ n) (h1 : n < 2147483648) : zz n < 4294967296 := by unfold zz; split <;> omega
theorem zz_lt64 {n : Int} (h0 : -9223372036854775808 ≤ n) (h1 : n < 9223372036854775808) : zz n < 18446744073709551616 := by unfold zz; split <;> omega
/-- and back -/
def unz (u : Nat) : Int := if u % 2 = 0 then (u / 2 : Nat) else -((u / 2 : Nat) : Int) - 1
theorem unz_zz (n : Int) : unz (zz n) = n := by unfold unz zz; split <;> split <;> omega
theorem and1_u32 {x : Nat} (h : x < 4294967296) : bits .and .u32 (x : Int) 1 = (x % 2 : Nat) := by
  show IntKind.u32.wrap ((BitVec.ofInt 32 (x : Int) &&& BitVec.ofInt 32 1).toNat : Int) = _
  rw [BitVec.toNat_and, BitVec.toNat_ofInt, show (BitVec.ofInt 32 1).toNat = 1 from by decide, Nat.and_one_is_mod, IntKind.wrap_u32]
  omega
theorem and1_u64 {x : Nat} (h : x < 18446744073709551616) : bits .and .u64 (x : Int) 1 = (x % 2 : Nat) := by
  show IntKind.u64.wrap ((BitVec.ofInt 64 (x : Int) &&& BitVec.ofInt 64 1).toNat : Int) = _
  rw [BitVec.toNat_and, BitVec.toNat_ofInt, show (BitVec.ofInt 64 1).toNat = 1 from by decide, Nat.and_one_is_mod, IntKind.wrap_u64]
  omega
theorem unz32 {x : Nat} (h : x < 4294967296) : IntKind.i32.wrap (bits .xor .u32 ((x : Int) / 2) (IntKind.u32.wrap (0 - ((x % 2 : Nat) : Int)))) = unz x := by
  unfold unz
  by_cases hx : x % 2 = 0
  · rw [if_pos hx, hx, show IntKind.u32.wrap (0 - ((0 : Nat) : Int)) = 0 by decide, xor_zero32 (by omega) (by omega), IntKind.wrap_i32]; omega
  · rw [if_neg hx, show x % 2 = 1 by omega, show IntKind.u32.wrap (0 - ((1 : Nat) : Int)) = 4294967295 by decide, xor_ones32 (by omega) (by omega), IntKind.wrap_i32]; omega
theorem unz64 {x : Nat} (h : x < 18446744073709551616) : IntKind.i64.wrap (bits .xor .u64 ((x : Int) / 2) (IntKind.u64.wrap (0 - ((x % 2 : Nat) : Int)))) = unz x := by
  unfold unz
  by_cases hx : x % 2 = 0
  · rw [if_pos hx, hx, show IntKind.u64.wrap (0 - ((0 : Nat) : Int)) = 0 by decide, xor_zero64 (by omega) (by omega), IntKind.wrap_i64]; omega
  · rw [if_neg hx, show x % 2 = 1 by omega, show IntKind.u64.wrap (0 - ((1 : Nat) : Int)) = 18446744073709551615 by decide, xor_ones64 (by omega) (by omega), IntKind.wrap_i64]; omega
theorem unz_lt32 {x : Nat} (h : x < 4294967296) : -2147483648 ≤ unz x ∧ unz x < 2147483648 := by unfold unz; split <;> omega
section
variable {P : Program} {E : Env} (ht : TyWr P E)
include ht
theorem c_wVarint (hI : FnIs P E.f_kbin_AppendVarint nt_kbin_AppendVarint (rs_kbin_AppendVarint E) (ir_kbin_AppendVarint E)) (iI32 : intKind? P E.tI32 = some .i32) (iU32 : intKind? P E.tU32 = some .u32)
    (hU : ∀ n : Nat, n < 4294967296 → WrC P E.tU8 E.f_kbin_AppendUvarint [.int .u32 n] (uvOut n)) {n : Int} (h0 : -2147483648 ≤ n) (h1 : n < 2147483648) : WrC P E.tU8 E.f_kbin_AppendVarint [.int .i32 n] (vW n) := by
  intro w base v s ho hw hsz
  refine hI.call (args := [_, _]) (by simp [nt_kbin_AppendVarint]) ?_
  have e := zz32 h0 h1
  simp [ir_kbin_AppendVarint, rs_kbin_AppendVarint, iI32, iU32, IntKind.bits, bin?, e]
  have hz := zz_lt32 h0 h1
  have hu : vW n = uvOut (zz n) := by rw [vW, uvS_out hz, Nat.mod_eq_of_lt hz]
  rw [hu] at hsz ⊢
  exact hU (zz n) hz w base v s ho hw hsz
theorem c_wVarlong (hI : FnIs P E.f_kbin_AppendVarlong nt_kbin_AppendVarlong (rs_kbin_AppendVarlong E) (ir_kbin_AppendVarlong E)) (iI64 : intKind? P E.tI64 = some .i64) (iU64 : intKind? P E.tU64 = some .u64)
    (hU : ∀ n : Nat, n < 18446744073709551616 → WrC P E.tU8 E.f_kbin_appendUvarlong [.int .u64 n] (uvS n)) {n : Int} (h0 : -9223372036854775808 ≤ n) (h1 : n < 9223372036854775808) : WrC P E.tU8 E.f_kbin_AppendVarlong [.int .i64 n] (vW n) := by
  intro w base v s ho hw hsz
  refine hI.call (args := [_, _]) (by simp [nt_kbin_AppendVarlong]) ?_
  have e := zz64 h0 h1
  simp [ir_kbin_AppendVarlong, rs_kbin_AppendVarlong, iI64, iU64, IntKind.bits, bin?, e]
  exact hU (zz n) (zz_lt64 h0 h1) w base v s ho hw hsz
end
/-- bytes behind their length; none: -1 -/
def ocW : Option (List UInt8) → List UInt8
  | none => vW (-1)
  | some l => vW l.length ++ l
theorem i32_lenV {n : Nat} (h : n < 2147483648) : IntKind.i32.wrap (n : Int) = n := by rw [IntKind.wrap_i32]; omega
def vsW (l : List UInt8) : List UInt8 := vW l.length ++ l
section
variable {P : Program} {E : Env} (ht : TyWs P E)
include ht
theorem c_wVString (hI : FnIs P E.f_kbin_AppendVarintString nt_kbin_AppendVarintString (rs_kbin_AppendVarintString E) (ir_kbin_AppendVarintString E)) (iI32 : intKind? P E.tI32 = some .i32)
    (hV : ∀ n : Int, -2147483648 ≤ n → n < 2147483648 → WrC P E.tU8 E.f_kbin_AppendVarint [.int .i32 n] (vW n)) {l : List UInt8} (hl : l.length < 2147483648) :
    WrC P E.tU8 E.f_kbin_AppendVarintString [strV l] (vsW l) := by
  intro w base v s ho hw hsz
  refine hI.call (args := [_, _]) (by simp [nt_kbin_AppendVarintString]) ?_
  simp [ir_kbin_AppendVarintString, rs_kbin_AppendVarintString, strV, len_str ht.uS, ht.iInt, iI32, i32_lenV hl]
  simp [vsW] at hsz
  refine (hV l.length (by omega) (by omega) w base v s ho hw (by omega)).mono ?_
  rintro v1 w1 ⟨ho1, hg1⟩
  have := hg1.size
  refine st_app_str ht.sBs ht.uS (by simp) ho1 (by omega) (bs := ⟨l.toArray⟩) (by simp) (by simp; omega) ?_
  intro v' w' h1 h2
  simp only [bts_mk, List.append_assoc] at h1
  exact ⟨h1, hg1.trans h2⟩
theorem c_wVBytes (hI : FnIs P E.f_kbin_AppendVarintBytes nt_kbin_AppendVarintBytes (rs_kbin_AppendVarintBytes E) (ir_kbin_AppendVarintBytes E)) (iI32 : intKind? P E.tI32 = some .i32)
    (hV : ∀ n : Int, -2147483648 ≤ n → n < 2147483648 → WrC P E.tU8 E.f_kbin_AppendVarint [.int .i32 n] (vW n)) {o : Option (List UInt8)} (hl : (o.getD []).length < 2147483648) (u : Value) :
    WrP P E.tU8 E.f_kbin_AppendVarintBytes (fun w base => BytesOpt w (· < base) u o) [u] (ocW o) := by
  intro w base v s hp ho hw hsz
  refine hI.call (args := [_, _]) (by simp [nt_kbin_AppendVarintBytes]) ?_
  cases o with
  | none =>
    cases hp
    simp [ir_kbin_AppendVarintBytes, rs_kbin_AppendVarintBytes, bin_nil_slice ht.sBs.und]
    refine cw_true (by simp) ?_
    simp
    exact hV (-1) (by omega) (by omega) w base v s ho hw hsz
  | some l =>
    obtain ⟨aa, c, rfl⟩ := hp.1.opt hp.2
    simp [ir_kbin_AppendVarintBytes, rs_kbin_AppendVarintBytes, bin_nil_slice ht.sBs.und]
    refine cw_false (by simp) ?_
    have hl' : l.length < 2147483648 := hl
    simp [len_slice ht.sBs.und, ht.iInt, iI32, i32_lenV hl']
    simp [ocW] at hsz
    refine (hV l.length (by omega) (by omega) w base v s ho hw (by omega)).mono ?_
    rintro v1 w1 ⟨ho1, hg1⟩
    have := hg1.size
    refine st_app_bytes ht.sBs (by simp) ho1 (by omega) (hg1.bytes hp.1 ho) (by simp; omega) ?_
    intro v' w' h1 h2
    simp only [List.append_assoc] at h1
    exact ⟨h1, hg1.trans h2⟩
end
def rdVi (rs : RS) : Int × RS := (unz (rdUv rs).1, (rdUv rs).2)
def rdVu (rs : RS) : Nat × RS := match vl rs.src with
  | some (n, r) => (n, ⟨r, rs.bad, true⟩)
  | none => (0, .fail)
def rdVl (rs : RS) : Int × RS := (unz (rdVu rs).1, (rdVu rs).2)
def rdVn (rs : RS) : Int × RS := capLen (rdVi rs).1 (rdVi rs).2
def rdVb (rs : RS) : Option (List UInt8) × RS := if (rdVi rs).1 < 0 then (none, (rdVi rs).2) else optOf (rdSpan (rdVi rs).1 (rdVi rs).2)
def rdVs (rs : RS) : List UInt8 × RS := ((rdVb rs).1.getD [], (rdVb rs).2)
def ViF (P : Program) (k : IntKind) (g : List UInt8 → Option (Nat × List UInt8)) (f : Nat) : Prop := ∀ w K v s, BytesAt w K v s → Ret P f #[v] w fun u w' =>
  (match g s with
  | some (n, r) => ∃ m : Nat, u = .tuple #[.int k (unz n), .int .i64 m] ∧ 0 < m ∧ m ≤ s.length ∧ r = s.drop m
  | none => ∃ m : Int, u = .tuple #[.int k 0, .int .i64 m] ∧ m ≤ 0) ∧ Ext none1 w w'
theorem uv_lt {s : List UInt8} {n : Nat} {r : List UInt8} (h : uv s = some (n, r)) : n < 4294967296 := by have := uvGo_lt h; simpa using this
theorem vlGo_lt : ∀ {k : Nat} {s r : List UInt8} {n : Nat}, vlGo k s = some (n, r) → n < 128 ^ k * 2 := by
  intro k
  induction k with
  | zero =>
    intro s r n h
    cases s with
    | nil => cases h
    | cons b s => simp only [vlGo] at h; split at h
                  · cases h; simp; omega
                  · cases h
  | succ k ih =>
    intro s r n h
    cases s with
    | nil => cases h
    | cons b s =>
      simp only [vlGo] at h
      split at h
      · cases h
        have : 1 ≤ 128 ^ k := Nat.one_le_pow _ _ (by omega)
        rw [Nat.pow_succ]; omega
      · obtain ⟨⟨m, r'⟩, hm, he⟩ := Option.map_eq_some_iff.1 h
        cases he
        have := ih hm
        rw [Nat.pow_succ]; omega
theorem vl_lt {s : List UInt8} {n : Nat} {r : List UInt8} (h : vl s = some (n, r)) : n < 18446744073709551616 := by have := vlGo_lt h; simpa using this
theorem c_ViF {P : Program} {E : Env} (hI : FnIs P E.f_kbin_Varint nt_kbin_Varint (rs_kbin_Varint E) (ir_kbin_Varint E)) (iI32 : intKind? P E.tI32 = some .i32) (iU32 : intKind? P E.tU32 = some .u32) (hU : UvF P E.f_kbin_Uvarint) : ViF P .i32 uv E.f_kbin_Varint := by
  intro w K v s hv
  refine hI.call (args := [_]) (by simp [nt_kbin_Varint]) ?_
  simp [ir_kbin_Varint, rs_kbin_Varint]
  refine (hU w K v s hv).mono ?_
  rintro u w1 ⟨hm, he⟩
  cases hs : uv s with
  | none =>
    simp only [hs] at hm ⊢
    obtain ⟨m, rfl, hm⟩ := hm
    have e2 := xor_zero32 (x := 0) (by omega) (by omega)
    simp [bin?, un?, iI32, iU32, IntKind.bits, show bits .and .u32 0 1 = 0 by decide, show IntKind.u32.wrap 0 = 0 by decide, show IntKind.i32.wrap 0 = 0 by decide, e2]
    exact ⟨hm, he⟩
  | some p =>
    obtain ⟨n, r⟩ := p
    simp only [hs] at hm ⊢
    obtain ⟨m, rfl, hm⟩ := hm
    have hn := uv_lt hs
    have e := unz32 hn
    have e1 := and1_u32 hn
    have hf : (n : Int).fdiv 2 = (n : Int) / 2 := Int.fdiv_eq_ediv_of_nonneg _ (by omega)
    rw [Int.zero_sub] at e
    rw [← e1, ← hf] at e
    simp [bin?, un?, iI32, iU32, IntKind.bits]
    exact ⟨⟨m, ⟨e, rfl⟩, hm⟩, he⟩
theorem c_VlI {P : Program} {E : Env} (hI : FnIs P E.f_kbin_Varlong nt_kbin_Varlong (rs_kbin_Varlong E) (ir_kbin_Varlong E)) (iI64 : intKind? P E.tI64 = some .i64) (iU64 : intKind? P E.tU64 = some .u64) (hU : VlF P E.f_kbin_uvarlong) : ViF P .i64 vl E.f_kbin_Varlong := by
  intro w K v s hv
  refine hI.call (args := [_]) (by simp [nt_kbin_Varlong]) ?_
  simp [ir_kbin_Varlong, rs_kbin_Varlong]
  refine (hU w K v s hv).mono ?_
  rintro u w1 ⟨hm, he⟩
  cases hs : vl s with
  | none =>
    simp only [hs] at hm ⊢
    obtain ⟨m, rfl, hm⟩ := hm
    have e2 := xor_zero64 (x := 0) (by omega) (by omega)
    simp [bin?, un?, iI64, iU64, IntKind.bits, show bits .and .u64 0 1 = 0 by decide, show IntKind.u64.wrap 0 = 0 by decide, show IntKind.i64.wrap 0 = 0 by decide, e2]
    exact ⟨hm, he⟩
  | some p =>
    obtain ⟨n, r⟩ := p
    simp only [hs] at hm ⊢
    obtain ⟨m, rfl, hm⟩ := hm
    have hn := vl_lt hs
    have e := unz64 hn
    have e1 := and1_u64 hn
    have hf : (n : Int).fdiv 2 = (n : Int) / 2 := Int.fdiv_eq_ediv_of_nonneg _ (by omega)
    rw [Int.zero_sub] at e
    rw [← e1, ← hf] at e
    simp [bin?, un?, iI64, iU64, IntKind.bits]
    exact ⟨⟨m, ⟨e, rfl⟩, hm⟩, he⟩
theorem c_rVarint {P : Program} {E : Env} (ht : TyRd P E) (hI : FnIs P E.f_pkbin_Reader_Varint nt_pkbin_Reader_Varint (rs_pkbin_Reader_Varint E) (ir_pkbin_Reader_Varint E)) (hU : ViF P .i32 uv E.f_kbin_Varint) :
    RdC P E.tRd E.f_pkbin_Reader_Varint fun rs => (.int .i32 (rdVi rs).1, (rdVi rs).2) := by
  intro w pb D rs hne ⟨sv, hb, hs, hnn⟩
  obtain ⟨src, bad, nn⟩ := rs
  obtain ⟨a, c, rfl, hc⟩ := hs.len
  obtain ⟨t1, t2, t3, t4, t5, t6⟩ := ht
  refine hI.call (args := [_]) (by simp [nt_pkbin_Reader_Varint]) ?_
  simp [ir_pkbin_Reader_Varint, rs_pkbin_Reader_Varint, t5, ld_scl t1, Addr.add_mk, cell_of_blk hb]
  refine (hU w _ _ _ hs).mono ?_
  rintro v w1 ⟨hm, he⟩
  have hb1 := he.old hb (by simp [none1])
  have hs1 := hs.ext (K := (· = D)) he (fun _ _ _ h => h)
  cases hu : uv src with
  | none =>
    simp only [hu] at hm
    obtain ⟨m, rfl, hm⟩ := hm
    simp [bin?]
    refine cw_true (by simp; omega) ?_
    simp [t5, t6, Addr.add_mk, cell_of_blk hb1, store_scl t2, store_scl t1, put1K_blk hb1, put1K_blk (setBlk_same hb1), Value.oneCell', setBlk_setBlk]
    simp only [rdVi, rdUv, hu]
    exact ⟨rfl, he.setPb _ _, rdFail hb1⟩
  | some p =>
    obtain ⟨n, r⟩ := p
    simp only [hu] at hm
    obtain ⟨m, rfl, hm0, hml, rfl⟩ := hm
    simp [bin?]
    refine cw_false (by simp; omega) ?_
    have hml' : m ≤ src.length := hml
    simp [t5, ld_scl t1, Addr.add_mk, cell_of_blk hb1, slice_cut t4 (k := .i64) (l := (m : Int)) (by omega) (by simpa using hml'), store_scl t1, put1K_blk hb1]
    simp only [rdVi, rdUv, hu]
    exact ⟨trivial, he.setPb _ _, rdCut hne hb1 hs1 hml' (hs1.ne (ne_of_le hml' hm0))⟩
theorem c_rVarlong {P : Program} {E : Env} (ht : TyRd P E) (hI : FnIs P E.f_pkbin_Reader_Varlong nt_pkbin_Reader_Varlong (rs_pkbin_Reader_Varlong E) (ir_pkbin_Reader_Varlong E)) (hU : ViF P .i64 vl E.f_kbin_Varlong) :
    RdC P E.tRd E.f_pkbin_Reader_Varlong fun rs => (.int .i64 (rdVl rs).1, (rdVl rs).2) := by
  intro w pb D rs hne ⟨sv, hb, hs, hnn⟩
  obtain ⟨src, bad, nn⟩ := rs
  obtain ⟨a, c, rfl, hc⟩ := hs.len
  obtain ⟨t1, t2, t3, t4, t5, t6⟩ := ht
  refine hI.call (args := [_]) (by simp [nt_pkbin_Reader_Varlong]) ?_
  simp [ir_pkbin_Reader_Varlong, rs_pkbin_Reader_Varlong, t5, ld_scl t1, Addr.add_mk, cell_of_blk hb]
  refine (hU w _ _ _ hs).mono ?_
  rintro v w1 ⟨hm, he⟩
  have hb1 := he.old hb (by simp [none1])
  have hs1 := hs.ext (K := (· = D)) he (fun _ _ _ h => h)
  cases hu : vl src with
  | none =>
    simp only [hu] at hm
    obtain ⟨m, rfl, hm⟩ := hm
    simp [bin?]
    refine cw_true (by simp; omega) ?_
    simp [t5, t6, Addr.add_mk, cell_of_blk hb1, store_scl t2, store_scl t1, put1K_blk hb1, put1K_blk (setBlk_same hb1), Value.oneCell', setBlk_setBlk]
    simp only [rdVl, rdVu, hu]
    exact ⟨rfl, he.setPb _ _, rdFail hb1⟩
  | some p =>
    obtain ⟨n, r⟩ := p
    simp only [hu] at hm
    obtain ⟨m, rfl, hm0, hml, rfl⟩ := hm
    simp [bin?]
    refine cw_false (by simp; omega) ?_
    have hml' : m ≤ src.length := hml
    simp [t5, ld_scl t1, Addr.add_mk, cell_of_blk hb1, slice_cut t4 (k := .i64) (l := (m : Int)) (by omega) (by simpa using hml'), store_scl t1, put1K_blk hb1]
    simp only [rdVl, rdVu, hu]
    exact ⟨trivial, he.setPb _ _, rdCut hne hb1 hs1 hml' (hs1.ne (ne_of_le hml' hm0))⟩
theorem rdVi_lt (rs : RS) : -2147483648 ≤ (rdVi rs).1 ∧ (rdVi rs).1 < 2147483648 := unz_lt32 (rdUv_lt rs)
section
variable {P : Program} {E : Env} (ht : TyRs P E)
include ht
theorem c_rVn (hI : FnIs P E.f_pkbin_Reader_VarintArrayLen nt_pkbin_Reader_VarintArrayLen (rs_pkbin_Reader_VarintArrayLen E) (ir_pkbin_Reader_VarintArrayLen E))
    (h32 : RdC P E.tRd E.f_pkbin_Reader_Varint fun rs => (.int .i32 (rdVi rs).1, (rdVi rs).2)) :
    RdC P E.tRd E.f_pkbin_Reader_VarintArrayLen fun rs => (.int .i32 (rdVn rs).1, (rdVn rs).2) := by
  intro w pb D rs hne hr
  refine hI.call (args := [_]) (by simp [nt_pkbin_Reader_VarintArrayLen]) ?_
  simp [ir_pkbin_Reader_VarintArrayLen, rs_pkbin_Reader_VarintArrayLen]
  refine (h32 w pb D rs hne hr).mono ?_
  rintro v w1 ⟨rfl, he1, hr1⟩
  obtain ⟨sv, hb, hs, hn⟩ := hr1
  obtain ⟨a, c, rfl, hc⟩ := hs.len
  have hlt := rdVi_lt rs
  have e : IntKind.i64.wrap (rdVi rs).1 = (rdVi rs).1 := i64_small (by omega) (by omega)
  simp [ht.rd0, ld_scl ht.kBs, Addr.add_mk, cell_of_blk hb, len_slice ht.uBs, ht.iI32, ht.iInt, e, bin?]
  by_cases hlt : ((rdVi rs).2.src.length : Int) < (rdVi rs).1
  · refine cw_true (by simp [hlt]) ?_
    simp [ht.rd0, ht.rd1, Addr.add_mk, cell_of_blk hb, store_scl ht.kB, store_scl ht.kBs, put1K_blk hb, put1K_blk (setBlk_same hb), Value.oneCell', setBlk_setBlk]
    simp only [rdVn, capLen, if_pos hlt]
    exact ⟨trivial, he1.setBlk (.inr rfl) _, rdFail hb⟩
  · refine cw_false (by simp [hlt]) ?_
    simp only [rdVn, capLen, if_neg hlt]
    simp
    exact ⟨he1, ⟨_, hb, hs, hn⟩⟩
theorem c_rVb (hI : FnIs P E.f_pkbin_Reader_VarintBytes nt_pkbin_Reader_VarintBytes (rs_pkbin_Reader_VarintBytes E) (ir_pkbin_Reader_VarintBytes E))
    (h32 : RdC P E.tRd E.f_pkbin_Reader_Varint fun rs => (.int .i32 (rdVi rs).1, (rdVi rs).2)) (hSp : SpanC P E.tRd E.f_pkbin_Reader_Span) :
    RdPC P E.tRd E.f_pkbin_Reader_VarintBytes RNBytes rdVb := by
  intro w pb D rs hne hD hr
  refine hI.call (args := [_]) (by simp [nt_pkbin_Reader_VarintBytes]) ?_
  simp [ir_pkbin_Reader_VarintBytes, rs_pkbin_Reader_VarintBytes]
  refine (h32 w pb D rs hne hr).mono ?_
  rintro v w1 ⟨rfl, he1, hr1⟩
  have hlt := rdVi_lt rs
  have e : IntKind.i64.wrap (rdVi rs).1 = (rdVi rs).1 := i64_small (by omega) (by omega)
  simp [bin?]
  by_cases hlt : (rdVi rs).1 < 0
  · refine cw_true (by simpa using hlt) ?_
    simp only [rdVb, if_pos hlt]
    simp
    exact ⟨rfl, he1, hr1⟩
  · refine cw_false (by simpa using hlt) ?_
    simp [ht.iI32, ht.iInt, e]
    refine (hSp w1 pb D _ _ hne hr1).mono ?_
    rintro v w2 ⟨hv, hn, he2, hr2⟩
    simp only [rdVb, if_neg hlt]
    exact ⟨bytesOpt_of hv hn, he1.trans he2, hr2⟩
theorem BytesOpt.bytes {w : World} {K : Nat → Prop} {v : Value} {o : Option (List UInt8)} (h : BytesOpt w K v o) : BytesAt w K v (o.getD []) := by
  cases o with
  | none => cases h; exact .inl ⟨⟨_, rfl⟩, rfl⟩
  | some l => exact h.1
theorem c_rVs (hI : FnIs P E.f_pkbin_Reader_VarintString nt_pkbin_Reader_VarintString (rs_pkbin_Reader_VarintString E) (ir_pkbin_Reader_VarintString E))
    (hB : RdPC P E.tRd E.f_pkbin_Reader_VarintBytes RNBytes rdVb) : ∀ w pb D rs, pb ≠ D → D < w.heap.size → RdAt E.tRd w pb D rs →
    Ret P E.f_pkbin_Reader_VarintString #[.pointer (some ⟨pb, 0, none⟩)] w fun v w' => v = strV (rdVs rs).1 ∧ Ext (· = pb) w w' ∧ RdAt E.tRd w' pb D (rdVs rs).2 := by
  intro w pb D rs hne hD hr
  refine hI.call (args := [_]) (by simp [nt_pkbin_Reader_VarintString]) ?_
  simp [ir_pkbin_Reader_VarintString, rs_pkbin_Reader_VarintString]
  refine (hB w pb D rs hne hD hr).mono ?_
  rintro v w2 ⟨hv, he2, hr2⟩
  rw [convK_bytes ht.uBs ht.uU8 ht.uS (BytesOpt.bytes ht hv) (by simp)]
  exact ⟨rfl, he2, hr2⟩
end
end Go.Kg

set_option linter.unusedSimpArgs false
set_option linter.unusedVariables false
namespace Go.Kg
open Go
abbrev HdV := List UInt8 × Option (List UInt8)
structure RecV where
  len : Int
  attr : Int
  delta : Int
  off : Int
  key : Option (List UInt8)
  val : Option (List UInt8)
  hs : List HdV
def hdW (h : HdV) : List UInt8 := vsW h.1 ++ ocW h.2
def restW (r : RecV) : List UInt8 := [bval r.attr] ++ vW r.delta ++ vW r.off ++ ocW r.key ++ ocW r.val ++ vW r.hs.length ++ r.hs.flatMap hdW
def recW (r : RecV) : List UInt8 := vW r.len ++ restW r
def bnd {α β : Type} (g : RS → α × RS) (h : α → RS → β × RS) : RS → β × RS := fun rs => h (g rs).1 (g rs).2
def rdI8 (rs : RS) : Int × RS := (IntKind.i8.wrap (rdFixed 1 rs).1, (rdFixed 1 rs).2)
def rdHd : RS → HdV × RS := bnd rdVs fun k => bnd rdVb fun v rs => ((k, v), rs)
def rdHs : Nat → RS → List HdV × RS
  | 0 => fun rs => ([], rs)
  | n + 1 => bnd (rdHs n) fun l => bnd rdHd fun h rs => (l ++ [h], rs)
def rdRec : RS → RecV × RS :=
  bnd rdVi fun a => bnd rdI8 fun b => bnd rdVl fun c => bnd rdVi fun d => bnd rdVb fun k => bnd rdVb fun v => bnd rdVn fun l => bnd (rdHs l.toNat) fun h rs => (⟨a, b, c, d, k, v, h⟩, rs)
theorem Good.bnd {α β : Type} {g : RS → α × RS} {h : α → RS → β × RS} (hg : Good g) (hh : ∀ a, Good (h a)) : Good (Kg.bnd g h) := hg.bind hh
theorem good_vi : Good rdVi := good_uv.map (fun n _ => unz n)
theorem good_i8 : Good rdI8 := (good_fixed 1).map (fun n _ => IntKind.i8.wrap (n : Int))
theorem vl_ext : ∀ {k : Nat} {s r z : List UInt8} {n : Nat}, vlGo k s = some (n, r) → vlGo k (s ++ z) = some (n, r ++ z) := by
  intro k
  induction k with
  | zero =>
    intro s r z n h
    cases s with
    | nil => cases h
    | cons b s => simp only [vlGo, List.cons_append] at h ⊢; split at h
                  · cases h; rename_i hb; simp [hb]
                  · cases h
  | succ k ih =>
    intro s r z n h
    cases s with
    | nil => cases h
    | cons b s =>
      simp only [vlGo, List.cons_append] at h ⊢
      split at h
      · rename_i hb; cases h; simp [hb]
      · rename_i hb
        obtain ⟨⟨m, r'⟩, hm, he⟩ := Option.map_eq_some_iff.1 h
        cases he
        rw [if_neg hb, ih hm]
        rfl
theorem good_vu : Good rdVu := by
  refine ⟨fun p z nn h => ?_, fun rs h => ?_⟩
  · unfold rdVu at h ⊢
    cases hu : vl p with
    | none => rw [hu] at h; cases h
    | some x =>
      obtain ⟨n, r⟩ := x
      have := vl_ext (z := z) hu
      simp only [vl] at hu ⊢
      simp only [this, hu]
  · unfold rdVu; split
    · exact h
    · rfl
theorem good_vl : Good rdVl := good_vu.map (fun n _ => unz n)
theorem good_vb : Good rdVb := by
  refine (good_vi.bind (h := fun (a : Int) rs => if a < 0 then (none, rs) else optOf (rdSpan a rs)) (fun a => ?_)).congr (fun rs => rfl)
  by_cases h : a < 0
  · simp only [if_pos h]; exact Good.pure (fun _ => none)
  · simp only [if_neg h]; exact good_opt (good_span a)
theorem good_vs : Good rdVs := good_vb.map (fun o _ => o.getD [])
theorem good_vn : Good rdVn := good_vi.bind (h := fun (a : Int) rs => capLen a rs) (fun a => good_cap _)
theorem good_hd : Good rdHd := good_vs.bnd fun k => good_vb.bnd fun v => Good.pure (fun _ => (k, v))
theorem good_hs : ∀ n, Good (rdHs n)
  | 0 => Good.pure (fun _ => ([] : List HdV))
  | n + 1 => (good_hs n).bnd fun l => good_hd.bnd fun h => Good.pure (fun _ => l ++ [h])
theorem good_rec : Good rdRec :=
  good_vi.bnd fun a => good_i8.bnd fun b => good_vl.bnd fun c => good_vi.bnd fun d => good_vb.bnd fun k => good_vb.bnd fun v => good_vn.bnd fun l => (good_hs l.toNat).bnd fun h => Good.pure (fun _ => (⟨a, b, c, d, k, v, h⟩ : RecV))
theorem vl_out : ∀ (k n : Nat) (r : List UInt8), n < 128 ^ k * 2 → vlGo k (uvS n ++ r) = some (n, r) := by
  intro k
  induction k with
  | zero =>
    intro n r h
    rw [uvS_eq, if_neg (by omega)]
    simp only [List.cons_append, List.nil_append, vlGo]
    have : (UInt8.ofNat n).toNat = n := by simp; omega
    rw [this, if_pos (by omega)]
  | succ k ih =>
    intro n r h
    rw [uvS_eq]
    by_cases hn : 127 < n
    · rw [if_pos hn]
      simp only [List.cons_append, vlGo]
      have e : (UInt8.ofNat (n % 128 + 128)).toNat = n % 128 + 128 := by simp; omega
      rw [e, if_neg (by omega), ih (n / 128) r (by rw [Nat.pow_succ] at h; exact Nat.div_lt_of_lt_mul (by omega))]
      simp; omega
    · rw [if_neg hn]
      simp only [List.cons_append, List.nil_append, vlGo]
      have : (UInt8.ofNat n).toNat = n := by simp; omega
      rw [this, if_pos (by omega)]
theorem rd_vi {n : Int} (h0 : -2147483648 ≤ n) (h1 : n < 2147483648) (r : List UInt8) (bad nn : Bool) : rdVi ⟨vW n ++ r, bad, nn⟩ = (n, ⟨r, bad, true⟩) := by
  have hz := zz_lt32 h0 h1
  simp only [rdVi, vW, uvS_out hz, Nat.mod_eq_of_lt hz, rdUv_out hz, unz_zz]
theorem rd_vl {n : Int} (h0 : -9223372036854775808 ≤ n) (h1 : n < 9223372036854775808) (r : List UInt8) (bad nn : Bool) : rdVl ⟨vW n ++ r, bad, nn⟩ = (n, ⟨r, bad, true⟩) := by
  have hz := zz_lt64 h0 h1
  have := vl_out 9 (zz n) r (by omega)
  simp only [rdVl, rdVu, vW, vl, this, unz_zz]
theorem rd_vb {o : Option (List UInt8)} (h : (o.getD []).length < 2147483648) (r : List UInt8) (bad nn : Bool) : rdVb ⟨ocW o ++ r, bad, nn⟩ = (o, ⟨r, bad, true⟩) := by
  cases o with
  | none => simp only [rdVb, ocW, rd_vi (n := -1) (by omega) (by omega)]; rfl
  | some l =>
    have h' : l.length < 2147483648 := h
    simp only [rdVb, ocW, List.append_assoc, rd_vi (n := (l.length : Int)) (by omega) (by omega)]
    rw [if_neg (by omega), span_all rfl]
    rfl
theorem rd_vs {l : List UInt8} (h : l.length < 2147483648) (r : List UInt8) (bad nn : Bool) : rdVs ⟨vsW l ++ r, bad, nn⟩ = (l, ⟨r, bad, true⟩) := by
  have := rd_vb (o := some l) h r bad nn
  simp only [ocW] at this
  simp only [rdVs, vsW, this]; rfl
def HdV.fit (h : HdV) : Prop := h.1.length < 2147483648 ∧ (h.2.getD []).length < 2147483648
theorem rd_hd {h : HdV} (hf : h.fit) (r : List UInt8) (bad nn : Bool) : rdHd ⟨hdW h ++ r, bad, nn⟩ = (h, ⟨r, bad, true⟩) := by
  simp only [rdHd, Kg.bnd, hdW, List.append_assoc, rd_vs hf.1, rd_vb hf.2]
theorem rd_hs : ∀ (n : Nat) (hs : List HdV), hs.length = n → (∀ h ∈ hs, h.fit) → ∀ (r : List UInt8) (bad nn : Bool), ∃ nn', rdHs n ⟨hs.flatMap hdW ++ r, bad, nn⟩ = (hs, ⟨r, bad, nn'⟩)
  | 0, hs, hl, _, r, bad, nn => by cases hs with
    | nil => exact ⟨nn, rfl⟩
    | cons => cases hl
  | n + 1, hs, hl, hf, r, bad, nn => by
    rcases List.eq_nil_or_concat hs with rfl | ⟨l, h, rfl⟩
    · cases hl
    · simp at hl
      obtain ⟨nn', e⟩ := rd_hs n l hl (fun x hx => hf x (by simp [hx])) (hdW h ++ r) bad nn
      refine ⟨true, ?_⟩
      simp only [rdHs, Kg.bnd, List.concat_eq_append, List.flatMap_append, List.append_assoc, List.flatMap_cons, List.flatMap_nil, List.append_nil, List.nil_append, e]
      rw [rd_hd (hf h (by simp))]
theorem uvS_pos' (n : Nat) : 1 ≤ (uvS n).length := by rw [uvS_eq]; split <;> simp
theorem hdW_pos (h : HdV) : 1 ≤ (hdW h).length := by
  have := uvS_pos' (zz h.1.length)
  simp only [hdW, vsW, vW, List.length_append]; omega
theorem hs_le : ∀ hs : List HdV, hs.length ≤ (hs.flatMap hdW).length
  | [] => Nat.le_refl _
  | h :: hs => by have := hs_le hs; have := hdW_pos h; simp only [List.flatMap_cons, List.length_append, List.length_cons]; omega
structure RecV.fit (r : RecV) : Prop where
  len : -2147483648 ≤ r.len ∧ r.len < 2147483648
  attr : -128 ≤ r.attr ∧ r.attr < 128
  delta : -9223372036854775808 ≤ r.delta ∧ r.delta < 9223372036854775808
  off : -2147483648 ≤ r.off ∧ r.off < 2147483648
  key : (r.key.getD []).length < 2147483648
  val : (r.val.getD []).length < 2147483648
  hn : r.hs.length < 2147483648
  hs : ∀ h ∈ r.hs, h.fit
theorem rd_rec {r : RecV} (hf : r.fit) (nn : Bool) (z : List UInt8) : ∃ nn', rdRec ⟨recW r ++ z, false, nn⟩ = (r, ⟨z, false, nn'⟩) := by
  obtain ⟨nn', e⟩ := rd_hs r.hs.length r.hs rfl hf.hs z false true
  refine ⟨nn', ?_⟩
  have h8 := fun (x : List UInt8) (b : Bool) => rd_i8 r.attr hf.attr x b
  have hc : ∀ x : List UInt8, rdVn ⟨vW r.hs.length ++ (r.hs.flatMap hdW ++ x), false, true⟩ = ((r.hs.length : Int), ⟨r.hs.flatMap hdW ++ x, false, true⟩) := by
    intro x
    have := hs_le r.hs
    simp only [rdVn, rd_vi (n := (r.hs.length : Int)) (by omega) (by have := hf.hn; omega), capLen]
    rw [if_neg (by simp only [List.length_append]; omega)]
  have h8' : ∀ (x : List UInt8) (b : Bool), rdI8 ⟨[bval r.attr] ++ x, false, b⟩ = (r.attr, ⟨x, false, true⟩) := h8
  simp only [rdRec, Kg.bnd, recW, restW, List.append_assoc, rd_vi hf.len.1 hf.len.2, h8', rd_vl hf.delta.1 hf.delta.2, rd_vi hf.off.1 hf.off.2, rd_vb hf.key, rd_vb hf.val, hc, Int.toNat_natCast, e]
theorem cut_rec {r : RecV} (hf : r.fit) (nn : Bool) {k : Nat} (hk : k < (recW r).length) : (rdRec ⟨(recW r).take k, false, nn⟩).2.bad = true := by
  cases hb : (rdRec ⟨(recW r).take k, false, nn⟩).2.bad
  · obtain ⟨n', e1⟩ := rd_rec hf nn []
    have e2 := good_rec.ext _ ((recW r).drop k) nn hb
    rw [List.take_append_drop] at e2
    rw [List.append_nil, e2] at e1
    simp only [Prod.mk.injEq, RS.mk.injEq] at e1
    have h3 := congrArg List.length e1.2.1
    simp at h3
    omega
  · rfl
end Go.Kg

set_option linter.unusedVariables false
namespace Go.Kg
open Go
structure EnvV where
  t_pkmsg_Record : Nat
  t_kmsg_Record : Nat
  t_l_kmsg_Header : Nat
  t_pkmsg_Header : Nat
  t_kmsg_Header : Nat
  f_pkmsg_Record_readFrom : Nat
  f_pkmsg_Record_Default : Nat
  f_pkmsg_Header_Default : Nat
  f_pkbin_Reader_UnsafeVarintString : Nat
  t_impl_Record : Nat
  f_impl_own : Nat
  f_pkmsg_Record_ReadFrom : Nat
  f_impl_octets : Nat
  t_impl_Octets : Nat
  t_l_impl_Header : Nat
  t_impl_Header : Nat
  f_impl_null : Nat
  f_pkmsg_Record_AppendTo : Nat
  f_spec_RecordRest : Nat
  f_spec_Varint : Nat
  f_spec_OctetsBytes : Nat
  f_spec_HeaderBytes : Nat
  f_spec_Turned : Nat
  f_spec_SameOctets : Nat
  f_spec_SameHeaders : Nat
  f_laws_zzFits8 : Nat
  f_laws_zzFits10 : Nat
  f_laws_zzFits7 : Nat
  f_laws_zzFits9 : Nat
  f_laws_little : Nat
  f_spec_Measured : Nat
  f_spec_RecordBytes : Nat
  f_impl_TellRecord : Nat
  t_impl_Record_bool : Nat
  f_spec_SameRecord : Nat
  f_impl_MakeRecord : Nat
def ir_pkmsg_Record_AppendTo (E : Env) (V : EnvV) : Ir := (.seq (.reg [ ⟨none, some 4, .assign (.const (.slice none 0 0)), E.tBs⟩]) (.seq (.seq (.reg [ ⟨none, some 16, .move (.tmp 0), V.t_pkmsg_Record⟩, ⟨none, some 17, .nilCheck (.tmp 16), E.tNil⟩, ⟨none, some 18, .fieldAddr V.t_kmsg_Record (.tmp 17) 0, E.tNil⟩, ⟨none, some 19, .load E.tI32 (.tmp 18), E.tI32⟩, ⟨none, some 5, .assign (.tmp 19), E.tI32⟩]) (.reg [ ⟨none, some 20, .move (.tmp 1), E.tBs⟩, ⟨none, some 21, .move (.tmp 5), E.tI32⟩, ⟨none, some 22, .call { callee := .value (.func E.f_kbin_AppendVarint), args := #[.tmp 20, .tmp 21], argTypes := #[E.tBs, E.tI32] }, E.tBs⟩, ⟨none, some 1, .assign (.tmp 22), E.tBs⟩])) (.seq (.seq (.reg [ ⟨none, some 23, .move (.tmp 0), V.t_pkmsg_Record⟩, ⟨none, some 24, .nilCheck (.tmp 23), E.tNil⟩, ⟨none, some 25, .fieldAddr V.t_kmsg_Record (.tmp 24) 1, E.tNil⟩, ⟨none, some 26, .load E.tI8 (.tmp 25), E.tI8⟩, ⟨none, some 6, .assign (.tmp 26), E.tI8⟩]) (.reg [ ⟨none, some 27, .move (.tmp 1), E.tBs⟩, ⟨none, some 28, .move (.tmp 6), E.tI8⟩, ⟨none, some 29, .call { callee := .value (.func E.f_kbin_AppendInt8), args := #[.tmp 27, .tmp 28], argTypes := #[E.tBs, E.tI8] }, E.tBs⟩, ⟨none, some 1, .assign (.tmp 29), E.tBs⟩])) (.seq (.seq (.reg [ ⟨none, some 30, .move (.tmp 0), V.t_pkmsg_Record⟩, ⟨none, some 31, .nilCheck (.tmp 30), E.tNil⟩, ⟨none, some 32, .fieldAddr V.t_kmsg_Record (.tmp 31) 3, E.tNil⟩, ⟨none, some 33, .load E.tI64 (.tmp 32), E.tI64⟩, ⟨none, some 7, .assign (.tmp 33), E.tI64⟩]) (.seq (.seq (.reg [ ⟨none, some 34, .move (.tmp 7), E.tI64⟩, ⟨none, some 35, .binOp .eql E.tI64 (.tmp 34) (.const (.int .i64 0)) E.tI64, E.tB⟩]) (.cond 35 (.reg [ ⟨none, some 36, .move (.tmp 0), V.t_pkmsg_Record⟩, ⟨none, some 37, .nilCheck (.tmp 36), E.tNil⟩, ⟨none, some 38, .fieldAddr V.t_kmsg_Record (.tmp 37) 2, E.tNil⟩, ⟨none, some 39, .load E.tI32 (.tmp 38), E.tI32⟩, ⟨none, some 40, .convert E.tI32 E.tI64 (.tmp 39), E.tI64⟩, ⟨none, some 7, .assign (.tmp 40), E.tI64⟩]) .skip)) (.reg [ ⟨none, some 41, .move (.tmp 1), E.tBs⟩, ⟨none, some 42, .move (.tmp 7), E.tI64⟩, ⟨none, some 43, .call { callee := .value (.func E.f_kbin_AppendVarlong), args := #[.tmp 41, .tmp 42], argTypes := #[E.tBs, E.tI64] }, E.tBs⟩, ⟨none, some 1, .assign (.tmp 43), E.tBs⟩]))) (.seq (.seq (.reg [ ⟨none, some 44, .move (.tmp 0), V.t_pkmsg_Record⟩, ⟨none, some 45, .nilCheck (.tmp 44), E.tNil⟩, ⟨none, some 46, .fieldAddr V.t_kmsg_Record (.tmp 45) 4, E.tNil⟩, ⟨none, some 47, .load E.tI32 (.tmp 46), E.tI32⟩, ⟨none, some 8, .assign (.tmp 47), E.tI32⟩]) (.reg [ ⟨none, some 48, .move (.tmp 1), E.tBs⟩, ⟨none, some 49, .move (.tmp 8), E.tI32⟩, ⟨none, some 50, .call { callee := .value (.func E.f_kbin_AppendVarint), args := #[.tmp 48, .tmp 49], argTypes := #[E.tBs, E.tI32] }, E.tBs⟩, ⟨none, some 1, .assign (.tmp 50), E.tBs⟩])) (.seq (.seq (.reg [ ⟨none, some 51, .move (.tmp 0), V.t_pkmsg_Record⟩, ⟨none, some 52, .nilCheck (.tmp 51), E.tNil⟩, ⟨none, some 53, .fieldAddr V.t_kmsg_Record (.tmp 52) 5, E.tNil⟩, ⟨none, some 54, .load E.tBs (.tmp 53), E.tBs⟩, ⟨none, some 9, .assign (.tmp 54), E.tBs⟩]) (.reg [ ⟨none, some 55, .move (.tmp 1), E.tBs⟩, ⟨none, some 56, .move (.tmp 9), E.tBs⟩, ⟨none, some 57, .call { callee := .value (.func E.f_kbin_AppendVarintBytes), args := #[.tmp 55, .tmp 56], argTypes := #[E.tBs, E.tBs] }, E.tBs⟩, ⟨none, some 1, .assign (.tmp 57), E.tBs⟩])) (.seq (.seq (.reg [ ⟨none, some 58, .move (.tmp 0), V.t_pkmsg_Record⟩, ⟨none, some 59, .nilCheck (.tmp 58), E.tNil⟩, ⟨none, some 60, .fieldAddr V.t_kmsg_Record (.tmp 59) 6, E.tNil⟩, ⟨none, some 61, .load E.tBs (.tmp 60), E.tBs⟩, ⟨none, some 10, .assign (.tmp 61), E.tBs⟩]) (.reg [ ⟨none, some 62, .move (.tmp 1), E.tBs⟩, ⟨none, some 63, .move (.tmp 10), E.tBs⟩, ⟨none, some 64, .call { callee := .value (.func E.f_kbin_AppendVarintBytes), args := #[.tmp 62, .tmp 63], argTypes := #[E.tBs, E.tBs] }, E.tBs⟩, ⟨none, some 1, .assign (.tmp 64), E.tBs⟩])) (.seq (.seq (.reg [ ⟨none, some 65, .move (.tmp 0), V.t_pkmsg_Record⟩, ⟨none, some 66, .nilCheck (.tmp 65), E.tNil⟩, ⟨none, some 67, .fieldAddr V.t_kmsg_Record (.tmp 66) 7, E.tNil⟩, ⟨none, some 68, .load V.t_l_kmsg_Header (.tmp 67), V.t_l_kmsg_Header⟩, ⟨none, some 11, .assign (.tmp 68), V.t_l_kmsg_Header⟩]) (.seq (.reg [ ⟨none, some 69, .move (.tmp 1), E.tBs⟩, ⟨none, some 70, .move (.tmp 11), V.t_l_kmsg_Header⟩, ⟨none, some 71, .call { callee := .builtin .len, args := #[.tmp 70], argTypes := #[V.t_l_kmsg_Header] }, E.tInt⟩, ⟨none, some 72, .convert E.tInt E.tI32 (.tmp 71), E.tI32⟩, ⟨none, some 73, .call { callee := .value (.func E.f_kbin_AppendVarint), args := #[.tmp 69, .tmp 72], argTypes := #[E.tBs, E.tI32] }, E.tBs⟩, ⟨none, some 1, .assign (.tmp 73), E.tBs⟩]) (.seq (.reg [ ⟨none, some 74, .move (.tmp 11), V.t_l_kmsg_Header⟩, ⟨none, some 75, .call { callee := .builtin .len, args := #[.tmp 74], argTypes := #[V.t_l_kmsg_Header] }, E.tInt⟩, ⟨none, some 76, .move (.const (.int .i64 0)), E.tInt⟩]) (.block 0 (.loop (.seq (.reg [ ⟨none, some 77, .binOp .lss E.tInt (.tmp 76) (.tmp 75) E.tInt, E.tNil⟩]) (.seq (.cond 77 .skip (.exit 0)) (.seq (.block 1 (.seq (.reg [ ⟨none, some 78, .move (.tmp 76), E.tInt⟩, ⟨none, some 12, .assign (.tmp 78), E.tInt⟩]) (.seq (.reg [ ⟨none, some 79, .move (.tmp 11), V.t_l_kmsg_Header⟩, ⟨none, some 80, .move (.tmp 12), E.tInt⟩, ⟨none, some 81, .indexAddr V.t_l_kmsg_Header (.tmp 79) (.tmp 80), E.tNil⟩, ⟨none, some 13, .assign (.tmp 81), V.t_pkmsg_Header⟩]) (.seq (.seq (.reg [ ⟨none, some 82, .move (.tmp 13), V.t_pkmsg_Header⟩, ⟨none, some 83, .nilCheck (.tmp 82), E.tNil⟩, ⟨none, some 84, .fieldAddr V.t_kmsg_Header (.tmp 83) 0, E.tNil⟩, ⟨none, some 85, .load E.tS (.tmp 84), E.tS⟩, ⟨none, some 14, .assign (.tmp 85), E.tS⟩]) (.reg [ ⟨none, some 86, .move (.tmp 1), E.tBs⟩, ⟨none, some 87, .move (.tmp 14), E.tS⟩, ⟨none, some 88, .call { callee := .value (.func E.f_kbin_AppendVarintString), args := #[.tmp 86, .tmp 87], argTypes := #[E.tBs, E.tS] }, E.tBs⟩, ⟨none, some 1, .assign (.tmp 88), E.tBs⟩])) (.seq (.reg [ ⟨none, some 89, .move (.tmp 13), V.t_pkmsg_Header⟩, ⟨none, some 90, .nilCheck (.tmp 89), E.tNil⟩, ⟨none, some 91, .fieldAddr V.t_kmsg_Header (.tmp 90) 1, E.tNil⟩, ⟨none, some 92, .load E.tBs (.tmp 91), E.tBs⟩, ⟨none, some 15, .assign (.tmp 92), E.tBs⟩]) (.reg [ ⟨none, some 93, .move (.tmp 1), E.tBs⟩, ⟨none, some 94, .move (.tmp 15), E.tBs⟩, ⟨none, some 95, .call { callee := .value (.func E.f_kbin_AppendVarintBytes), args := #[.tmp 93, .tmp 94], argTypes := #[E.tBs, E.tBs] }, E.tBs⟩, ⟨none, some 1, .assign (.tmp 95), E.tBs⟩])))))) (.reg [ ⟨none, some 96, .binOp .add E.tInt (.tmp 76) (.const (.int .i64 1)) E.tInt, E.tInt⟩, ⟨none, some 76, .move (.tmp 96), E.tInt⟩]))))))))) (.seq (.reg [ ⟨none, some 97, .move (.tmp 1), E.tBs⟩, ⟨none, some 4, .assign (.tmp 97), E.tBs⟩]) .ret)))))))))
def nt_pkmsg_Record_AppendTo : Nat := 98
def rs_pkmsg_Record_AppendTo (E : Env) (V : EnvV) : List Rv := [.t 4]
def ir_pkmsg_Record_ReadFrom (E : Env) (V : EnvV) : Ir := (.seq (.reg [ ⟨none, some 4, .assign (.const (.nilIface)), E.tErr⟩]) (.seq (.reg [ ⟨none, some 5, .move (.tmp 0), V.t_pkmsg_Record⟩, ⟨none, some 6, .move (.tmp 1), E.tBs⟩, ⟨none, some 7, .call { callee := .value (.func V.f_pkmsg_Record_readFrom), args := #[.tmp 5, .tmp 6, .const (.bool false)], argTypes := #[V.t_pkmsg_Record, E.tBs, E.tB] }, E.tErr⟩, ⟨none, some 4, .assign (.tmp 7), E.tErr⟩]) .ret))
def nt_pkmsg_Record_ReadFrom : Nat := 8
def rs_pkmsg_Record_ReadFrom (E : Env) (V : EnvV) : List Rv := [.t 4]
def ir_pkmsg_Record_readFrom (E : Env) (V : EnvV) : Ir := (.seq (.reg [ ⟨none, some 6, .assign (.const (.nilIface)), E.tErr⟩]) (.seq (.reg [ ⟨none, some 23, .move (.tmp 0), V.t_pkmsg_Record⟩, ⟨none, some 24, .call { callee := .value (.func V.f_pkmsg_Record_Default), args := #[.tmp 23], argTypes := #[V.t_pkmsg_Record] }, E.tNil⟩]) (.seq (.reg [ ⟨none, some 25, .move (.tmp 1), E.tBs⟩, ⟨none, some 26, .build E.tRd #[(0, .tmp 25)], E.tRd⟩, ⟨none, some 7, .alloc E.tRd, E.tNil⟩, ⟨none, none, .store E.tRd (.tmp 7) (.tmp 26), E.tNil⟩]) (.seq (.reg [ ⟨none, some 27, .move (.tmp 0), V.t_pkmsg_Record⟩, ⟨none, some 8, .assign (.tmp 27), V.t_pkmsg_Record⟩]) (.seq (.seq (.reg [ ⟨none, some 28, .call { callee := .value (.func E.f_pkbin_Reader_Varint), args := #[.tmp 7], argTypes := #[E.tRd] }, E.tI32⟩, ⟨none, some 9, .assign (.tmp 28), E.tI32⟩]) (.reg [ ⟨none, some 29, .move (.tmp 8), V.t_pkmsg_Record⟩, ⟨none, some 30, .move (.tmp 9), E.tI32⟩, ⟨none, some 31, .nilCheck (.tmp 29), E.tNil⟩, ⟨none, some 32, .fieldAddr V.t_kmsg_Record (.tmp 31) 0, E.tNil⟩, ⟨none, none, .store E.tI32 (.tmp 32) (.tmp 30), E.tNil⟩])) (.seq (.seq (.reg [ ⟨none, some 33, .call { callee := .value (.func E.f_pkbin_Reader_Int8), args := #[.tmp 7], argTypes := #[E.tRd] }, E.tI8⟩, ⟨none, some 10, .assign (.tmp 33), E.tI8⟩]) (.reg [ ⟨none, some 34, .move (.tmp 8), V.t_pkmsg_Record⟩, ⟨none, some 35, .move (.tmp 10), E.tI8⟩, ⟨none, some 36, .nilCheck (.tmp 34), E.tNil⟩, ⟨none, some 37, .fieldAddr V.t_kmsg_Record (.tmp 36) 1, E.tNil⟩, ⟨none, none, .store E.tI8 (.tmp 37) (.tmp 35), E.tNil⟩])) (.seq (.seq (.reg [ ⟨none, some 38, .call { callee := .value (.func E.f_pkbin_Reader_Varlong), args := #[.tmp 7], argTypes := #[E.tRd] }, E.tI64⟩, ⟨none, some 11, .assign (.tmp 38), E.tI64⟩]) (.seq (.reg [ ⟨none, some 39, .move (.tmp 8), V.t_pkmsg_Record⟩, ⟨none, some 40, .move (.tmp 11), E.tI64⟩, ⟨none, some 41, .nilCheck (.tmp 39), E.tNil⟩, ⟨none, some 42, .fieldAddr V.t_kmsg_Record (.tmp 41) 3, E.tNil⟩, ⟨none, none, .store E.tI64 (.tmp 42) (.tmp 40), E.tNil⟩]) (.reg [ ⟨none, some 43, .move (.tmp 8), V.t_pkmsg_Record⟩, ⟨none, some 44, .move (.tmp 11), E.tI64⟩, ⟨none, some 45, .convert E.tI64 E.tI32 (.tmp 44), E.tI32⟩, ⟨none, some 46, .nilCheck (.tmp 43), E.tNil⟩, ⟨none, some 47, .fieldAddr V.t_kmsg_Record (.tmp 46) 2, E.tNil⟩, ⟨none, none, .store E.tI32 (.tmp 47) (.tmp 45), E.tNil⟩]))) (.seq (.seq (.reg [ ⟨none, some 48, .call { callee := .value (.func E.f_pkbin_Reader_Varint), args := #[.tmp 7], argTypes := #[E.tRd] }, E.tI32⟩, ⟨none, some 12, .assign (.tmp 48), E.tI32⟩]) (.reg [ ⟨none, some 49, .move (.tmp 8), V.t_pkmsg_Record⟩, ⟨none, some 50, .move (.tmp 12), E.tI32⟩, ⟨none, some 51, .nilCheck (.tmp 49), E.tNil⟩, ⟨none, some 52, .fieldAddr V.t_kmsg_Record (.tmp 51) 4, E.tNil⟩, ⟨none, none, .store E.tI32 (.tmp 52) (.tmp 50), E.tNil⟩])) (.seq (.seq (.reg [ ⟨none, some 53, .call { callee := .value (.func E.f_pkbin_Reader_VarintBytes), args := #[.tmp 7], argTypes := #[E.tRd] }, E.tBs⟩, ⟨none, some 13, .assign (.tmp 53), E.tBs⟩]) (.reg [ ⟨none, some 54, .move (.tmp 8), V.t_pkmsg_Record⟩, ⟨none, some 55, .move (.tmp 13), E.tBs⟩, ⟨none, some 56, .nilCheck (.tmp 54), E.tNil⟩, ⟨none, some 57, .fieldAddr V.t_kmsg_Record (.tmp 56) 5, E.tNil⟩, ⟨none, none, .store E.tBs (.tmp 57) (.tmp 55), E.tNil⟩])) (.seq (.seq (.reg [ ⟨none, some 58, .call { callee := .value (.func E.f_pkbin_Reader_VarintBytes), args := #[.tmp 7], argTypes := #[E.tRd] }, E.tBs⟩, ⟨none, some 14, .assign (.tmp 58), E.tBs⟩]) (.reg [ ⟨none, some 59, .move (.tmp 8), V.t_pkmsg_Record⟩, ⟨none, some 60, .move (.tmp 14), E.tBs⟩, ⟨none, some 61, .nilCheck (.tmp 59), E.tNil⟩, ⟨none, some 62, .fieldAddr V.t_kmsg_Record (.tmp 61) 6, E.tNil⟩, ⟨none, none, .store E.tBs (.tmp 62) (.tmp 60), E.tNil⟩])) (.seq (.seq (.reg [ ⟨none, some 63, .move (.tmp 8), V.t_pkmsg_Record⟩, ⟨none, some 64, .nilCheck (.tmp 63), E.tNil⟩, ⟨none, some 65, .fieldAddr V.t_kmsg_Record (.tmp 64) 7, E.tNil⟩, ⟨none, some 66, .load V.t_l_kmsg_Header (.tmp 65), V.t_l_kmsg_Header⟩, ⟨none, some 15, .assign (.tmp 66), V.t_l_kmsg_Header⟩]) (.seq (.reg [ ⟨none, some 67, .move (.tmp 15), V.t_l_kmsg_Header⟩, ⟨none, some 16, .assign (.tmp 67), V.t_l_kmsg_Header⟩]) (.seq (.reg [ ⟨none, some 68, .call { callee := .value (.func E.f_pkbin_Reader_VarintArrayLen), args := #[.tmp 7], argTypes := #[E.tRd] }, E.tI32⟩, ⟨none, some 17, .assign (.tmp 68), E.tI32⟩]) (.seq (.seq (.reg [ ⟨none, some 69, .call { callee := .value (.func E.f_pkbin_Reader_Ok), args := #[.tmp 7], argTypes := #[E.tRd] }, E.tB⟩, ⟨none, some 70, .unOp .not E.tB (.tmp 69), E.tB⟩]) (.cond 70 (.seq (.reg [ ⟨none, some 71, .call { callee := .value (.func E.f_pkbin_Reader_Complete), args := #[.tmp 7], argTypes := #[E.tRd] }, E.tErr⟩, ⟨none, some 6, .assign (.tmp 71), E.tErr⟩]) .ret) .skip)) (.seq (.reg [ ⟨none, some 72, .move (.tmp 16), V.t_l_kmsg_Header⟩, ⟨none, some 73, .slice V.t_l_kmsg_Header (.tmp 72) none (some (.const (.int .i64 0))) none, V.t_l_kmsg_Header⟩, ⟨none, some 16, .assign (.tmp 73), V.t_l_kmsg_Header⟩]) (.seq (.seq (.reg [ ⟨none, some 74, .move (.tmp 17), E.tI32⟩, ⟨none, some 75, .binOp .gtr E.tI32 (.tmp 74) (.const (.int .i32 0)) E.tI32, E.tB⟩]) (.cond 75 (.reg [ ⟨none, some 76, .move (.tmp 16), V.t_l_kmsg_Header⟩, ⟨none, some 77, .move (.tmp 17), E.tI32⟩, ⟨none, some 78, .call { callee := .builtin .append, args := #[.tmp 76, .tmp 77], argTypes := #[V.t_l_kmsg_Header, E.tI32] }, V.t_l_kmsg_Header⟩, ⟨none, some 16, .assign (.tmp 78), V.t_l_kmsg_Header⟩]) .skip)) (.seq (.seq (.reg [ ⟨none, some 18, .assign (.const (.int .i32 0)), E.tI32⟩]) (.block 0 (.loop (.seq (.seq (.reg [ ⟨none, some 79, .move (.tmp 18), E.tI32⟩, ⟨none, some 80, .move (.tmp 17), E.tI32⟩, ⟨none, some 81, .binOp .lss E.tI32 (.tmp 79) (.tmp 80) E.tI32, E.tB⟩]) (.cond 81 .skip (.exit 0))) (.seq (.block 1 (.seq (.reg [ ⟨none, some 84, .move (.tmp 16), V.t_l_kmsg_Header⟩, ⟨none, some 85, .move (.tmp 18), E.tI32⟩, ⟨none, some 86, .indexAddr V.t_l_kmsg_Header (.tmp 84) (.tmp 85), E.tNil⟩, ⟨none, some 19, .assign (.tmp 86), V.t_pkmsg_Header⟩]) (.seq (.reg [ ⟨none, some 87, .move (.tmp 19), V.t_pkmsg_Header⟩, ⟨none, some 88, .call { callee := .value (.func V.f_pkmsg_Header_Default), args := #[.tmp 87], argTypes := #[V.t_pkmsg_Header] }, E.tNil⟩]) (.seq (.reg [ ⟨none, some 89, .move (.tmp 19), V.t_pkmsg_Header⟩, ⟨none, some 20, .assign (.tmp 89), V.t_pkmsg_Header⟩]) (.seq (.seq (.reg [ ⟨none, some 21, .assign (.const (.string ⟨#[]⟩)), E.tS⟩]) (.seq (.seq (.reg [ ⟨none, some 90, .move (.tmp 2), E.tB⟩]) (.cond 90 (.reg [ ⟨none, some 91, .call { callee := .value (.func V.f_pkbin_Reader_UnsafeVarintString), args := #[.tmp 7], argTypes := #[E.tRd] }, E.tS⟩, ⟨none, some 21, .assign (.tmp 91), E.tS⟩]) (.reg [ ⟨none, some 92, .call { callee := .value (.func E.f_pkbin_Reader_VarintString), args := #[.tmp 7], argTypes := #[E.tRd] }, E.tS⟩, ⟨none, some 21, .assign (.tmp 92), E.tS⟩]))) (.reg [ ⟨none, some 93, .move (.tmp 20), V.t_pkmsg_Header⟩, ⟨none, some 94, .move (.tmp 21), E.tS⟩, ⟨none, some 95, .nilCheck (.tmp 93), E.tNil⟩, ⟨none, some 96, .fieldAddr V.t_kmsg_Header (.tmp 95) 0, E.tNil⟩, ⟨none, none, .store E.tS (.tmp 96) (.tmp 94), E.tNil⟩]))) (.seq (.reg [ ⟨none, some 97, .call { callee := .value (.func E.f_pkbin_Reader_VarintBytes), args := #[.tmp 7], argTypes := #[E.tRd] }, E.tBs⟩, ⟨none, some 22, .assign (.tmp 97), E.tBs⟩]) (.reg [ ⟨none, some 98, .move (.tmp 20), V.t_pkmsg_Header⟩, ⟨none, some 99, .move (.tmp 22), E.tBs⟩, ⟨none, some 100, .nilCheck (.tmp 98), E.tNil⟩, ⟨none, some 101, .fieldAddr V.t_kmsg_Header (.tmp 100) 1, E.tNil⟩, ⟨none, none, .store E.tBs (.tmp 101) (.tmp 99), E.tNil⟩]))))))) (.reg [ ⟨none, some 82, .move (.tmp 18), E.tI32⟩, ⟨none, some 83, .binOp .add E.tI32 (.tmp 82) (.const (.int .i32 1)) E.tI32, E.tI32⟩, ⟨none, some 18, .assign (.tmp 83), E.tI32⟩])))))) (.seq (.reg [ ⟨none, some 102, .move (.tmp 16), V.t_l_kmsg_Header⟩, ⟨none, some 15, .assign (.tmp 102), V.t_l_kmsg_Header⟩]) (.reg [ ⟨none, some 103, .move (.tmp 8), V.t_pkmsg_Record⟩, ⟨none, some 104, .move (.tmp 15), V.t_l_kmsg_Header⟩, ⟨none, some 105, .nilCheck (.tmp 103), E.tNil⟩, ⟨none, some 106, .fieldAddr V.t_kmsg_Record (.tmp 105) 7, E.tNil⟩, ⟨none, none, .store V.t_l_kmsg_Header (.tmp 106) (.tmp 104), E.tNil⟩]))))))))) (.seq (.reg [ ⟨none, some 107, .call { callee := .value (.func E.f_pkbin_Reader_Complete), args := #[.tmp 7], argTypes := #[E.tRd] }, E.tErr⟩, ⟨none, some 6, .assign (.tmp 107), E.tErr⟩]) .ret))))))))))))
def nt_pkmsg_Record_readFrom : Nat := 108
def rs_pkmsg_Record_readFrom (E : Env) (V : EnvV) : List Rv := [.t 6]
def ir_pkmsg_Record_Default (E : Env) (V : EnvV) : Ir := .skip
def nt_pkmsg_Record_Default : Nat := 2
def rs_pkmsg_Record_Default (E : Env) (V : EnvV) : List Rv := []
def ir_pkmsg_Header_Default (E : Env) (V : EnvV) : Ir := .skip
def nt_pkmsg_Header_Default : Nat := 2
def rs_pkmsg_Header_Default (E : Env) (V : EnvV) : List Rv := []
def ir_impl_TellRecord (E : Env) (V : EnvV) : Ir := (.seq (.reg [ ⟨none, some 2, .alloc V.t_impl_Record, E.tNil⟩, ⟨none, some 3, .assign (.const (.bool false)), E.tB⟩]) (.seq (.reg [ ⟨none, some 4, .alloc V.t_kmsg_Record, E.tNil⟩]) (.seq (.seq (.reg [ ⟨none, some 8, .move (.tmp 0), E.tBs⟩, ⟨none, some 9, .call { callee := .value (.func V.f_impl_own), args := #[.tmp 8], argTypes := #[E.tBs] }, E.tBs⟩, ⟨none, some 10, .call { callee := .value (.func V.f_pkmsg_Record_ReadFrom), args := #[.tmp 4, .tmp 9], argTypes := #[V.t_kmsg_Record, E.tBs] }, E.tErr⟩, ⟨none, some 11, .binOp .neq E.tErr (.tmp 10) (.const (.nilIface)) E.tErr, E.tB⟩]) (.cond 11 (.seq (.reg [ ⟨none, some 12, .build V.t_impl_Record #[], V.t_impl_Record⟩, ⟨none, none, .store V.t_impl_Record (.tmp 2) (.tmp 12), E.tNil⟩, ⟨none, some 3, .assign (.const (.bool false)), E.tB⟩]) .ret) .skip)) (.seq (.regT (.free ⟨none, some 13, .fieldAddr V.t_kmsg_Record (.tmp 4) 0, E.tNil⟩ (.free ⟨none, some 14, .load E.tI32 (.tmp 13), E.tI32⟩ (.free ⟨none, some 15, .fieldAddr V.t_kmsg_Record (.tmp 4) 1, E.tNil⟩ (.free ⟨none, some 16, .load E.tI8 (.tmp 15), E.tI8⟩ (.free ⟨none, some 17, .fieldAddr V.t_kmsg_Record (.tmp 4) 3, E.tNil⟩ (.free ⟨none, some 18, .load E.tI64 (.tmp 17), E.tI64⟩ (.free ⟨none, some 19, .fieldAddr V.t_kmsg_Record (.tmp 4) 4, E.tNil⟩ (.free ⟨none, some 20, .load E.tI32 (.tmp 19), E.tI32⟩ (.free ⟨none, some 21, .fieldAddr V.t_kmsg_Record (.tmp 4) 5, E.tNil⟩ (.free ⟨none, some 22, .load E.tBs (.tmp 21), E.tBs⟩ (.free ⟨none, some 24, .fieldAddr V.t_kmsg_Record (.tmp 4) 6, E.tNil⟩ (.free ⟨none, some 25, .load E.tBs (.tmp 24), E.tBs⟩ (.act ⟨none, some 23, .call { callee := .value (.func V.f_impl_octets), args := #[.tmp 22], argTypes := #[E.tBs] }, V.t_impl_Octets⟩ (.act ⟨none, some 26, .call { callee := .value (.func V.f_impl_octets), args := #[.tmp 25], argTypes := #[E.tBs] }, V.t_impl_Octets⟩ (.free ⟨none, some 27, .build V.t_impl_Record #[(0, .tmp 14), (1, .tmp 16), (2, .tmp 18), (3, .tmp 20), (4, .tmp 23), (5, .tmp 26)], V.t_impl_Record⟩ (.act ⟨none, some 5, .alloc V.t_impl_Record, E.tNil⟩ (.act ⟨none, none, .store V.t_impl_Record (.tmp 5) (.tmp 27), E.tNil⟩ .done .stop) .stop)) (.act ⟨none, some 5, .alloc V.t_impl_Record, E.tNil⟩ (.act ⟨none, some 26, .call { callee := .value (.func V.f_impl_octets), args := #[.tmp 25], argTypes := #[E.tBs] }, V.t_impl_Octets⟩ (.free ⟨none, some 27, .build V.t_impl_Record #[(0, .tmp 14), (1, .tmp 16), (2, .tmp 18), (3, .tmp 20), (4, .tmp 23), (5, .tmp 26)], V.t_impl_Record⟩ (.act ⟨none, none, .store V.t_impl_Record (.tmp 5) (.tmp 27), E.tNil⟩ .done .stop)) .stop) .stop)) (.act ⟨none, some 5, .alloc V.t_impl_Record, E.tNil⟩ (.act ⟨none, some 23, .call { callee := .value (.func V.f_impl_octets), args := #[.tmp 22], argTypes := #[E.tBs] }, V.t_impl_Octets⟩ (.act ⟨none, some 26, .call { callee := .value (.func V.f_impl_octets), args := #[.tmp 25], argTypes := #[E.tBs] }, V.t_impl_Octets⟩ (.free ⟨none, some 27, .build V.t_impl_Record #[(0, .tmp 14), (1, .tmp 16), (2, .tmp 18), (3, .tmp 20), (4, .tmp 23), (5, .tmp 26)], V.t_impl_Record⟩ (.act ⟨none, none, .store V.t_impl_Record (.tmp 5) (.tmp 27), E.tNil⟩ .done .stop)) .stop) .stop) .stop))))))))))))))) (.seq (.seq (.reg [ ⟨none, some 28, .fieldAddr V.t_kmsg_Record (.tmp 4) 7, E.tNil⟩, ⟨none, some 29, .load V.t_l_kmsg_Header (.tmp 28), V.t_l_kmsg_Header⟩, ⟨none, some 30, .call { callee := .builtin .len, args := #[.tmp 29], argTypes := #[V.t_l_kmsg_Header] }, E.tInt⟩, ⟨none, some 31, .move (.const (.int .i64 0)), E.tInt⟩]) (.block 0 (.loop (.seq (.reg [ ⟨none, some 32, .binOp .lss E.tInt (.tmp 31) (.tmp 30) E.tInt, E.tNil⟩]) (.seq (.cond 32 .skip (.exit 0)) (.seq (.block 1 (.seq (.reg [ ⟨none, some 33, .indexAddr V.t_l_kmsg_Header (.tmp 29) (.tmp 31), E.tNil⟩, ⟨none, some 34, .load V.t_kmsg_Header (.tmp 33), V.t_kmsg_Header⟩, ⟨none, some 7, .alloc V.t_kmsg_Header, E.tNil⟩, ⟨none, none, .store V.t_kmsg_Header (.tmp 7) (.tmp 34), E.tNil⟩]) (.regT (.free ⟨none, some 35, .fieldAddr V.t_impl_Record (.tmp 5) 6, E.tNil⟩ (.free ⟨none, some 37, .fieldAddr V.t_kmsg_Header (.tmp 7) 0, E.tNil⟩ (.free ⟨none, some 38, .load E.tS (.tmp 37), E.tS⟩ (.free ⟨none, some 39, .fieldAddr V.t_kmsg_Header (.tmp 7) 1, E.tNil⟩ (.free ⟨none, some 40, .load E.tBs (.tmp 39), E.tBs⟩ (.act ⟨none, some 36, .load V.t_l_impl_Header (.tmp 35), V.t_l_impl_Header⟩ (.act ⟨none, some 41, .call { callee := .value (.func V.f_impl_octets), args := #[.tmp 40], argTypes := #[E.tBs] }, V.t_impl_Octets⟩ (.free ⟨none, some 42, .build V.t_impl_Header #[(0, .tmp 38), (1, .tmp 41)], V.t_impl_Header⟩ (.act ⟨none, some 43, .buildSlice V.t_l_impl_Header 1 #[(0, .tmp 42)], V.t_l_impl_Header⟩ (.act ⟨none, some 44, .call { callee := .builtin .append, args := #[.tmp 36, .tmp 43], argTypes := #[V.t_l_impl_Header, V.t_l_impl_Header] }, V.t_l_impl_Header⟩ (.free ⟨none, some 45, .fieldAddr V.t_impl_Record (.tmp 5) 6, E.tNil⟩ (.act ⟨none, none, .store V.t_l_impl_Header (.tmp 45) (.tmp 44), E.tNil⟩ .done .stop)) .stop) .stop)) .stop) (.act ⟨none, some 41, .call { callee := .value (.func V.f_impl_octets), args := #[.tmp 40], argTypes := #[E.tBs] }, V.t_impl_Octets⟩ (.free ⟨none, some 42, .build V.t_impl_Header #[(0, .tmp 38), (1, .tmp 41)], V.t_impl_Header⟩ (.act ⟨none, some 36, .load V.t_l_impl_Header (.tmp 35), V.t_l_impl_Header⟩ (.act ⟨none, some 43, .buildSlice V.t_l_impl_Header 1 #[(0, .tmp 42)], V.t_l_impl_Header⟩ (.act ⟨none, some 44, .call { callee := .builtin .append, args := #[.tmp 36, .tmp 43], argTypes := #[V.t_l_impl_Header, V.t_l_impl_Header] }, V.t_l_impl_Header⟩ (.free ⟨none, some 45, .fieldAddr V.t_impl_Record (.tmp 5) 6, E.tNil⟩ (.act ⟨none, none, .store V.t_l_impl_Header (.tmp 45) (.tmp 44), E.tNil⟩ .done .stop)) .stop) .stop) (.act ⟨none, some 43, .buildSlice V.t_l_impl_Header 1 #[(0, .tmp 42)], V.t_l_impl_Header⟩ (.act ⟨none, some 36, .load V.t_l_impl_Header (.tmp 35), V.t_l_impl_Header⟩ (.act ⟨none, some 44, .call { callee := .builtin .append, args := #[.tmp 36, .tmp 43], argTypes := #[V.t_l_impl_Header, V.t_l_impl_Header] }, V.t_l_impl_Header⟩ (.free ⟨none, some 45, .fieldAddr V.t_impl_Record (.tmp 5) 6, E.tNil⟩ (.act ⟨none, none, .store V.t_l_impl_Header (.tmp 45) (.tmp 44), E.tNil⟩ .done .stop)) .stop) .stop) .stop))) .stop)))))))))) (.reg [ ⟨none, some 46, .binOp .add E.tInt (.tmp 31) (.const (.int .i64 1)) E.tInt, E.tInt⟩, ⟨none, some 31, .move (.tmp 46), E.tInt⟩]))))))) (.seq (.reg [ ⟨none, some 47, .load V.t_impl_Record (.tmp 5), V.t_impl_Record⟩, ⟨none, none, .store V.t_impl_Record (.tmp 2) (.tmp 47), E.tNil⟩, ⟨none, some 3, .assign (.const (.bool true)), E.tB⟩]) .ret))))))
def nt_impl_TellRecord : Nat := 48
def rs_impl_TellRecord (E : Env) (V : EnvV) : List Rv := [.c 2 V.t_impl_Record, .t 3]
def ir_impl_MakeRecord (E : Env) (V : EnvV) : Ir := (.seq (.reg [ ⟨none, some 3, .box V.t_impl_Record (.tmp 1), E.tNil⟩, ⟨none, some 4, .assign (.const (.slice none 0 0)), E.tBs⟩]) (.seq (.regH [ (true, ⟨none, some 8, .fieldAddr V.t_impl_Record (.tmp 3) 0, E.tNil⟩), (true, ⟨none, some 9, .load E.tI32 (.tmp 8), E.tI32⟩), (true, ⟨none, some 10, .fieldAddr V.t_impl_Record (.tmp 3) 1, E.tNil⟩), (true, ⟨none, some 11, .load E.tI8 (.tmp 10), E.tI8⟩), (true, ⟨none, some 12, .fieldAddr V.t_impl_Record (.tmp 3) 2, E.tNil⟩), (true, ⟨none, some 13, .load E.tI64 (.tmp 12), E.tI64⟩), (true, ⟨none, some 14, .fieldAddr V.t_impl_Record (.tmp 3) 3, E.tNil⟩), (true, ⟨none, some 15, .load E.tI32 (.tmp 14), E.tI32⟩), (true, ⟨none, some 16, .fieldAddr V.t_impl_Record (.tmp 3) 4, E.tNil⟩), (true, ⟨none, some 17, .load V.t_impl_Octets (.tmp 16), V.t_impl_Octets⟩), (true, ⟨none, some 19, .fieldAddr V.t_impl_Record (.tmp 3) 5, E.tNil⟩), (true, ⟨none, some 20, .load V.t_impl_Octets (.tmp 19), V.t_impl_Octets⟩), (false, ⟨none, some 18, .call { callee := .value (.func V.f_impl_null), args := #[.tmp 17], argTypes := #[V.t_impl_Octets] }, E.tBs⟩), (false, ⟨none, some 21, .call { callee := .value (.func V.f_impl_null), args := #[.tmp 20], argTypes := #[V.t_impl_Octets] }, E.tBs⟩), (true, ⟨none, some 22, .build V.t_kmsg_Record #[(0, .tmp 9), (1, .tmp 11), (3, .tmp 13), (4, .tmp 15), (5, .tmp 18), (6, .tmp 21)], V.t_kmsg_Record⟩), (false, ⟨none, some 23, .box V.t_kmsg_Record (.tmp 22), V.t_pkmsg_Record⟩), (true, ⟨none, some 5, .assign (.tmp 23), V.t_pkmsg_Record⟩)]) (.seq (.seq (.reg [ ⟨none, some 24, .fieldAddr V.t_impl_Record (.tmp 3) 6, E.tNil⟩, ⟨none, some 25, .load V.t_l_impl_Header (.tmp 24), V.t_l_impl_Header⟩, ⟨none, some 26, .call { callee := .builtin .len, args := #[.tmp 25], argTypes := #[V.t_l_impl_Header] }, E.tInt⟩, ⟨none, some 27, .move (.const (.int .i64 0)), E.tInt⟩]) (.block 0 (.loop (.seq (.reg [ ⟨none, some 28, .binOp .lss E.tInt (.tmp 27) (.tmp 26) E.tInt, E.tNil⟩]) (.seq (.cond 28 .skip (.exit 0)) (.seq (.block 1 (.seq (.reg [ ⟨none, some 29, .indexAddr V.t_l_impl_Header (.tmp 25) (.tmp 27), E.tNil⟩, ⟨none, some 30, .load V.t_impl_Header (.tmp 29), V.t_impl_Header⟩, ⟨none, some 7, .alloc V.t_impl_Header, E.tNil⟩, ⟨none, none, .store V.t_impl_Header (.tmp 7) (.tmp 30), E.tNil⟩]) (.regT (.free ⟨none, some 31, .move (.tmp 5), V.t_pkmsg_Record⟩ (.free ⟨none, some 32, .move (.tmp 5), V.t_pkmsg_Record⟩ (.free ⟨none, some 33, .nilCheck (.tmp 32), E.tNil⟩ (.free ⟨none, some 34, .fieldAddr V.t_kmsg_Record (.tmp 33) 7, E.tNil⟩ (.free ⟨none, some 36, .fieldAddr V.t_impl_Header (.tmp 7) 0, E.tNil⟩ (.free ⟨none, some 37, .load E.tS (.tmp 36), E.tS⟩ (.free ⟨none, some 38, .fieldAddr V.t_impl_Header (.tmp 7) 1, E.tNil⟩ (.free ⟨none, some 39, .load V.t_impl_Octets (.tmp 38), V.t_impl_Octets⟩ (.act ⟨none, some 35, .load V.t_l_kmsg_Header (.tmp 34), V.t_l_kmsg_Header⟩ (.act ⟨none, some 40, .call { callee := .value (.func V.f_impl_null), args := #[.tmp 39], argTypes := #[V.t_impl_Octets] }, E.tBs⟩ (.free ⟨none, some 41, .build V.t_kmsg_Header #[(0, .tmp 37), (1, .tmp 40)], V.t_kmsg_Header⟩ (.act ⟨none, some 42, .buildSlice V.t_l_kmsg_Header 1 #[(0, .tmp 41)], V.t_l_kmsg_Header⟩ (.act ⟨none, some 43, .call { callee := .builtin .append, args := #[.tmp 35, .tmp 42], argTypes := #[V.t_l_kmsg_Header, V.t_l_kmsg_Header] }, V.t_l_kmsg_Header⟩ (.free ⟨none, some 44, .nilCheck (.tmp 31), E.tNil⟩ (.free ⟨none, some 45, .fieldAddr V.t_kmsg_Record (.tmp 44) 7, E.tNil⟩ (.act ⟨none, none, .store V.t_l_kmsg_Header (.tmp 45) (.tmp 43), E.tNil⟩ .done .stop))) .stop) .stop)) .stop) (.act ⟨none, some 40, .call { callee := .value (.func V.f_impl_null), args := #[.tmp 39], argTypes := #[V.t_impl_Octets] }, E.tBs⟩ (.free ⟨none, some 41, .build V.t_kmsg_Header #[(0, .tmp 37), (1, .tmp 40)], V.t_kmsg_Header⟩ (.act ⟨none, some 35, .load V.t_l_kmsg_Header (.tmp 34), V.t_l_kmsg_Header⟩ (.act ⟨none, some 42, .buildSlice V.t_l_kmsg_Header 1 #[(0, .tmp 41)], V.t_l_kmsg_Header⟩ (.act ⟨none, some 43, .call { callee := .builtin .append, args := #[.tmp 35, .tmp 42], argTypes := #[V.t_l_kmsg_Header, V.t_l_kmsg_Header] }, V.t_l_kmsg_Header⟩ (.free ⟨none, some 44, .nilCheck (.tmp 31), E.tNil⟩ (.free ⟨none, some 45, .fieldAddr V.t_kmsg_Record (.tmp 44) 7, E.tNil⟩ (.act ⟨none, none, .store V.t_l_kmsg_Header (.tmp 45) (.tmp 43), E.tNil⟩ .done .stop))) .stop) .stop) (.act ⟨none, some 42, .buildSlice V.t_l_kmsg_Header 1 #[(0, .tmp 41)], V.t_l_kmsg_Header⟩ (.act ⟨none, some 35, .load V.t_l_kmsg_Header (.tmp 34), V.t_l_kmsg_Header⟩ (.act ⟨none, some 43, .call { callee := .builtin .append, args := #[.tmp 35, .tmp 42], argTypes := #[V.t_l_kmsg_Header, V.t_l_kmsg_Header] }, V.t_l_kmsg_Header⟩ (.free ⟨none, some 44, .nilCheck (.tmp 31), E.tNil⟩ (.free ⟨none, some 45, .fieldAddr V.t_kmsg_Record (.tmp 44) 7, E.tNil⟩ (.act ⟨none, none, .store V.t_l_kmsg_Header (.tmp 45) (.tmp 43), E.tNil⟩ .done .stop))) .stop) .stop) .stop))) .stop))))))))))))) (.reg [ ⟨none, some 46, .binOp .add E.tInt (.tmp 27) (.const (.int .i64 1)) E.tInt, E.tInt⟩, ⟨none, some 27, .move (.tmp 46), E.tInt⟩]))))))) (.seq (.reg [ ⟨none, some 47, .move (.tmp 5), V.t_pkmsg_Record⟩, ⟨none, some 48, .move (.tmp 0), E.tBs⟩, ⟨none, some 49, .call { callee := .value (.func V.f_impl_own), args := #[.tmp 48], argTypes := #[E.tBs] }, E.tBs⟩, ⟨none, some 50, .call { callee := .value (.func V.f_pkmsg_Record_AppendTo), args := #[.tmp 47, .tmp 49], argTypes := #[V.t_pkmsg_Record, E.tBs] }, E.tBs⟩, ⟨none, some 4, .assign (.tmp 50), E.tBs⟩]) .ret))))
def nt_impl_MakeRecord : Nat := 51
def rs_impl_MakeRecord (E : Env) (V : EnvV) : List Rv := [.t 4]
def ir_impl_own (E : Env) (V : EnvV) : Ir := (.seq (.reg [ ⟨none, some 2, .assign (.const (.slice none 0 0)), E.tBs⟩]) (.seq (.reg [ ⟨none, some 3, .move (.tmp 0), E.tBs⟩, ⟨none, some 4, .call { callee := .builtin .append, args := #[.const (.slice none 0 0), .tmp 3], argTypes := #[E.tBs, E.tBs] }, E.tBs⟩, ⟨none, some 2, .assign (.tmp 4), E.tBs⟩]) .ret))
def nt_impl_own : Nat := 5
def rs_impl_own (E : Env) (V : EnvV) : List Rv := [.t 2]
def ir_impl_octets (E : Env) (V : EnvV) : Ir := (.seq (.reg [ ⟨none, some 2, .alloc V.t_impl_Octets, E.tNil⟩]) (.seq (.seq (.reg [ ⟨none, some 3, .move (.tmp 0), E.tBs⟩, ⟨none, some 4, .binOp .eql E.tBs (.tmp 3) (.const (.slice none 0 0)) E.tBs, E.tB⟩]) (.cond 4 (.seq (.reg [ ⟨none, some 5, .build V.t_impl_Octets #[(0, .const (.bool true))], V.t_impl_Octets⟩, ⟨none, none, .store V.t_impl_Octets (.tmp 2) (.tmp 5), E.tNil⟩]) .ret) .skip)) (.seq (.reg [ ⟨none, some 6, .buildSlice E.tBs 0 #[], E.tBs⟩, ⟨none, some 7, .move (.tmp 0), E.tBs⟩, ⟨none, some 8, .call { callee := .builtin .append, args := #[.tmp 6, .tmp 7], argTypes := #[E.tBs, E.tBs] }, E.tBs⟩, ⟨none, some 9, .build V.t_impl_Octets #[(1, .tmp 8)], V.t_impl_Octets⟩, ⟨none, none, .store V.t_impl_Octets (.tmp 2) (.tmp 9), E.tNil⟩]) .ret)))
def nt_impl_octets : Nat := 10
def rs_impl_octets (E : Env) (V : EnvV) : List Rv := [.c 2 V.t_impl_Octets]
def ir_impl_null (E : Env) (V : EnvV) : Ir := (.seq (.reg [ ⟨none, some 1, .box V.t_impl_Octets (.tmp 0), E.tNil⟩, ⟨none, some 2, .assign (.const (.slice none 0 0)), E.tBs⟩]) (.seq (.seq (.reg [ ⟨none, some 3, .fieldAddr V.t_impl_Octets (.tmp 1) 0, E.tNil⟩, ⟨none, some 4, .load E.tB (.tmp 3), E.tB⟩]) (.cond 4 (.seq (.reg [ ⟨none, some 2, .assign (.const (.slice none 0 0)), E.tBs⟩]) .ret) .skip)) (.seq (.reg [ ⟨none, some 5, .buildSlice E.tBs 0 #[], E.tBs⟩, ⟨none, some 6, .fieldAddr V.t_impl_Octets (.tmp 1) 1, E.tNil⟩, ⟨none, some 7, .load E.tBs (.tmp 6), E.tBs⟩, ⟨none, some 8, .call { callee := .builtin .append, args := #[.tmp 5, .tmp 7], argTypes := #[E.tBs, E.tBs] }, E.tBs⟩, ⟨none, some 2, .assign (.tmp 8), E.tBs⟩]) .ret)))
def nt_impl_null : Nat := 9
def rs_impl_null (E : Env) (V : EnvV) : List Rv := [.t 2]
def ir_spec_Measured (E : Env) (V : EnvV) : Ir := (.seq (.reg [ ⟨none, some 1, .box V.t_impl_Record (.tmp 0), E.tNil⟩, ⟨none, some 2, .alloc V.t_impl_Record, E.tNil⟩]) (.seq (.reg [ ⟨none, some 3, .load V.t_impl_Record (.tmp 1), V.t_impl_Record⟩, ⟨none, some 4, .call { callee := .value (.func V.f_spec_RecordRest), args := #[.tmp 3], argTypes := #[V.t_impl_Record] }, E.tBs⟩, ⟨none, some 5, .call { callee := .builtin .len, args := #[.tmp 4], argTypes := #[E.tBs] }, E.tInt⟩, ⟨none, some 6, .convert E.tInt E.tI32 (.tmp 5), E.tI32⟩, ⟨none, some 7, .fieldAddr V.t_impl_Record (.tmp 1) 0, E.tNil⟩, ⟨none, none, .store E.tI32 (.tmp 7) (.tmp 6), E.tNil⟩]) (.seq (.reg [ ⟨none, some 8, .load V.t_impl_Record (.tmp 1), V.t_impl_Record⟩, ⟨none, none, .store V.t_impl_Record (.tmp 2) (.tmp 8), E.tNil⟩]) .ret)))
def nt_spec_Measured : Nat := 9
def rs_spec_Measured (E : Env) (V : EnvV) : List Rv := [.c 2 V.t_impl_Record]
def ir_spec_RecordBytes (E : Env) (V : EnvV) : Ir := (.seq (.reg [ ⟨none, some 1, .box V.t_impl_Record (.tmp 0), E.tNil⟩, ⟨none, some 2, .assign (.const (.slice none 0 0)), E.tBs⟩]) (.seq (.regH [ (true, ⟨none, some 3, .fieldAddr V.t_impl_Record (.tmp 1) 0, E.tNil⟩), (true, ⟨none, some 4, .load E.tI32 (.tmp 3), E.tI32⟩), (true, ⟨none, some 5, .convert E.tI32 E.tI64 (.tmp 4), E.tI64⟩), (true, ⟨none, some 7, .load V.t_impl_Record (.tmp 1), V.t_impl_Record⟩), (false, ⟨none, some 6, .call { callee := .value (.func V.f_spec_Varint), args := #[.tmp 5], argTypes := #[E.tI64] }, E.tBs⟩), (false, ⟨none, some 8, .call { callee := .value (.func V.f_spec_RecordRest), args := #[.tmp 7], argTypes := #[V.t_impl_Record] }, E.tBs⟩), (false, ⟨none, some 9, .call { callee := .builtin .append, args := #[.tmp 6, .tmp 8], argTypes := #[E.tBs, E.tBs] }, E.tBs⟩), (true, ⟨none, some 2, .assign (.tmp 9), E.tBs⟩)]) .ret))
def nt_spec_RecordBytes : Nat := 10
def rs_spec_RecordBytes (E : Env) (V : EnvV) : List Rv := [.t 2]
def ir_spec_RecordRest (E : Env) (V : EnvV) : Ir := (.seq (.reg [ ⟨none, some 1, .box V.t_impl_Record (.tmp 0), E.tNil⟩, ⟨none, some 2, .assign (.const (.slice none 0 0)), E.tBs⟩]) (.seq (.regT (.free ⟨none, some 6, .fieldAddr V.t_impl_Record (.tmp 1) 1, E.tNil⟩ (.free ⟨none, some 7, .load E.tI8 (.tmp 6), E.tI8⟩ (.free ⟨none, some 8, .convert E.tI8 E.tU8 (.tmp 7), E.tU8⟩ (.free ⟨none, some 10, .fieldAddr V.t_impl_Record (.tmp 1) 2, E.tNil⟩ (.free ⟨none, some 11, .load E.tI64 (.tmp 10), E.tI64⟩ (.act ⟨none, some 9, .buildSlice E.tBs 1 #[(0, .tmp 8)], E.tBs⟩ (.act ⟨none, some 12, .call { callee := .value (.func V.f_spec_Varint), args := #[.tmp 11], argTypes := #[E.tI64] }, E.tBs⟩ (.act ⟨none, some 13, .call { callee := .builtin .append, args := #[.tmp 9, .tmp 12], argTypes := #[E.tBs, E.tBs] }, E.tBs⟩ (.free ⟨none, some 3, .assign (.tmp 13), E.tBs⟩ .done) .stop) .stop) (.act ⟨none, some 12, .call { callee := .value (.func V.f_spec_Varint), args := #[.tmp 11], argTypes := #[E.tI64] }, E.tBs⟩ (.act ⟨none, some 9, .buildSlice E.tBs 1 #[(0, .tmp 8)], E.tBs⟩ (.act ⟨none, some 13, .call { callee := .builtin .append, args := #[.tmp 9, .tmp 12], argTypes := #[E.tBs, E.tBs] }, E.tBs⟩ (.free ⟨none, some 3, .assign (.tmp 13), E.tBs⟩ .done) .stop) .stop) .stop)))))))) (.seq (.reg [ ⟨none, some 14, .move (.tmp 3), E.tBs⟩, ⟨none, some 15, .fieldAddr V.t_impl_Record (.tmp 1) 3, E.tNil⟩, ⟨none, some 16, .load E.tI32 (.tmp 15), E.tI32⟩, ⟨none, some 17, .convert E.tI32 E.tI64 (.tmp 16), E.tI64⟩, ⟨none, some 18, .call { callee := .value (.func V.f_spec_Varint), args := #[.tmp 17], argTypes := #[E.tI64] }, E.tBs⟩, ⟨none, some 19, .call { callee := .builtin .append, args := #[.tmp 14, .tmp 18], argTypes := #[E.tBs, E.tBs] }, E.tBs⟩, ⟨none, some 3, .assign (.tmp 19), E.tBs⟩]) (.seq (.reg [ ⟨none, some 20, .move (.tmp 3), E.tBs⟩, ⟨none, some 21, .fieldAddr V.t_impl_Record (.tmp 1) 4, E.tNil⟩, ⟨none, some 22, .load V.t_impl_Octets (.tmp 21), V.t_impl_Octets⟩, ⟨none, some 23, .call { callee := .value (.func V.f_spec_OctetsBytes), args := #[.tmp 22], argTypes := #[V.t_impl_Octets] }, E.tBs⟩, ⟨none, some 24, .call { callee := .builtin .append, args := #[.tmp 20, .tmp 23], argTypes := #[E.tBs, E.tBs] }, E.tBs⟩, ⟨none, some 3, .assign (.tmp 24), E.tBs⟩]) (.seq (.reg [ ⟨none, some 25, .move (.tmp 3), E.tBs⟩, ⟨none, some 26, .fieldAddr V.t_impl_Record (.tmp 1) 5, E.tNil⟩, ⟨none, some 27, .load V.t_impl_Octets (.tmp 26), V.t_impl_Octets⟩, ⟨none, some 28, .call { callee := .value (.func V.f_spec_OctetsBytes), args := #[.tmp 27], argTypes := #[V.t_impl_Octets] }, E.tBs⟩, ⟨none, some 29, .call { callee := .builtin .append, args := #[.tmp 25, .tmp 28], argTypes := #[E.tBs, E.tBs] }, E.tBs⟩, ⟨none, some 3, .assign (.tmp 29), E.tBs⟩]) (.seq (.reg [ ⟨none, some 30, .move (.tmp 3), E.tBs⟩, ⟨none, some 31, .fieldAddr V.t_impl_Record (.tmp 1) 6, E.tNil⟩, ⟨none, some 32, .load V.t_l_impl_Header (.tmp 31), V.t_l_impl_Header⟩, ⟨none, some 33, .call { callee := .builtin .len, args := #[.tmp 32], argTypes := #[V.t_l_impl_Header] }, E.tInt⟩, ⟨none, some 34, .call { callee := .value (.func V.f_spec_Varint), args := #[.tmp 33], argTypes := #[E.tI64] }, E.tBs⟩, ⟨none, some 35, .call { callee := .builtin .append, args := #[.tmp 30, .tmp 34], argTypes := #[E.tBs, E.tBs] }, E.tBs⟩, ⟨none, some 3, .assign (.tmp 35), E.tBs⟩]) (.seq (.seq (.reg [ ⟨none, some 36, .fieldAddr V.t_impl_Record (.tmp 1) 6, E.tNil⟩, ⟨none, some 37, .load V.t_l_impl_Header (.tmp 36), V.t_l_impl_Header⟩, ⟨none, some 38, .call { callee := .builtin .len, args := #[.tmp 37], argTypes := #[V.t_l_impl_Header] }, E.tInt⟩, ⟨none, some 39, .move (.const (.int .i64 0)), E.tInt⟩]) (.block 0 (.loop (.seq (.reg [ ⟨none, some 40, .binOp .lss E.tInt (.tmp 39) (.tmp 38) E.tInt, E.tNil⟩]) (.seq (.cond 40 .skip (.exit 0)) (.seq (.block 1 (.seq (.reg [ ⟨none, some 41, .indexAddr V.t_l_impl_Header (.tmp 37) (.tmp 39), E.tNil⟩, ⟨none, some 42, .load V.t_impl_Header (.tmp 41), V.t_impl_Header⟩, ⟨none, some 5, .alloc V.t_impl_Header, E.tNil⟩, ⟨none, none, .store V.t_impl_Header (.tmp 5) (.tmp 42), E.tNil⟩]) (.reg [ ⟨none, some 43, .move (.tmp 3), E.tBs⟩, ⟨none, some 44, .load V.t_impl_Header (.tmp 5), V.t_impl_Header⟩, ⟨none, some 45, .call { callee := .value (.func V.f_spec_HeaderBytes), args := #[.tmp 44], argTypes := #[V.t_impl_Header] }, E.tBs⟩, ⟨none, some 46, .call { callee := .builtin .append, args := #[.tmp 43, .tmp 45], argTypes := #[E.tBs, E.tBs] }, E.tBs⟩, ⟨none, some 3, .assign (.tmp 46), E.tBs⟩]))) (.reg [ ⟨none, some 47, .binOp .add E.tInt (.tmp 39) (.const (.int .i64 1)) E.tInt, E.tInt⟩, ⟨none, some 39, .move (.tmp 47), E.tInt⟩]))))))) (.seq (.reg [ ⟨none, some 48, .move (.tmp 3), E.tBs⟩, ⟨none, some 2, .assign (.tmp 48), E.tBs⟩]) .ret))))))))
def nt_spec_RecordRest : Nat := 49
def rs_spec_RecordRest (E : Env) (V : EnvV) : List Rv := [.t 2]
def ir_spec_Varint (E : Env) (V : EnvV) : Ir := (.seq (.reg [ ⟨none, some 2, .assign (.const (.slice none 0 0)), E.tBs⟩]) (.seq (.reg [ ⟨none, some 3, .move (.tmp 0), E.tI64⟩, ⟨none, some 4, .call { callee := .value (.func V.f_spec_Turned), args := #[.tmp 3], argTypes := #[E.tI64] }, E.tU64⟩, ⟨none, some 5, .call { callee := .value (.func E.f_spec_Uvarint), args := #[.tmp 4], argTypes := #[E.tU64] }, E.tBs⟩, ⟨none, some 2, .assign (.tmp 5), E.tBs⟩]) .ret))
def nt_spec_Varint : Nat := 6
def rs_spec_Varint (E : Env) (V : EnvV) : List Rv := [.t 2]
def ir_spec_Turned (E : Env) (V : EnvV) : Ir := (.seq (.reg [ ⟨none, some 2, .assign (.const (.int .u64 0)), E.tU64⟩]) (.seq (.reg [ ⟨none, some 3, .move (.tmp 0), E.tI64⟩, ⟨none, some 4, .convert E.tI64 E.tU64 (.tmp 3), E.tU64⟩, ⟨none, some 5, .binOp .shl E.tU64 (.tmp 4) (.const (.int .u64 1)) E.tUint, E.tU64⟩, ⟨none, some 6, .move (.tmp 0), E.tI64⟩, ⟨none, some 7, .binOp .shr E.tI64 (.tmp 6) (.const (.int .u64 63)) E.tUint, E.tI64⟩, ⟨none, some 8, .convert E.tI64 E.tU64 (.tmp 7), E.tU64⟩, ⟨none, some 9, .binOp .xor E.tU64 (.tmp 5) (.tmp 8) E.tU64, E.tU64⟩, ⟨none, some 2, .assign (.tmp 9), E.tU64⟩]) .ret))
def nt_spec_Turned : Nat := 10
def rs_spec_Turned (E : Env) (V : EnvV) : List Rv := [.t 2]
def ir_spec_OctetsBytes (E : Env) (V : EnvV) : Ir := (.seq (.reg [ ⟨none, some 1, .box V.t_impl_Octets (.tmp 0), E.tNil⟩, ⟨none, some 2, .assign (.const (.slice none 0 0)), E.tBs⟩]) (.seq (.seq (.reg [ ⟨none, some 3, .fieldAddr V.t_impl_Octets (.tmp 1) 0, E.tNil⟩, ⟨none, some 4, .load E.tB (.tmp 3), E.tB⟩]) (.cond 4 (.seq (.reg [ ⟨none, some 5, .call { callee := .value (.func V.f_spec_Varint), args := #[.const (.int .i64 (-1))], argTypes := #[E.tI64] }, E.tBs⟩, ⟨none, some 2, .assign (.tmp 5), E.tBs⟩]) .ret) .skip)) (.seq (.regH [ (true, ⟨none, some 6, .fieldAddr V.t_impl_Octets (.tmp 1) 1, E.tNil⟩), (true, ⟨none, some 7, .load E.tBs (.tmp 6), E.tBs⟩), (true, ⟨none, some 8, .call { callee := .builtin .len, args := #[.tmp 7], argTypes := #[E.tBs] }, E.tInt⟩), (true, ⟨none, some 10, .fieldAddr V.t_impl_Octets (.tmp 1) 1, E.tNil⟩), (true, ⟨none, some 11, .load E.tBs (.tmp 10), E.tBs⟩), (false, ⟨none, some 9, .call { callee := .value (.func V.f_spec_Varint), args := #[.tmp 8], argTypes := #[E.tI64] }, E.tBs⟩), (false, ⟨none, some 12, .call { callee := .builtin .append, args := #[.tmp 9, .tmp 11], argTypes := #[E.tBs, E.tBs] }, E.tBs⟩), (true, ⟨none, some 2, .assign (.tmp 12), E.tBs⟩)]) .ret)))
def nt_spec_OctetsBytes : Nat := 13
def rs_spec_OctetsBytes (E : Env) (V : EnvV) : List Rv := [.t 2]
def ir_spec_HeaderBytes (E : Env) (V : EnvV) : Ir := (.seq (.reg [ ⟨none, some 1, .box V.t_impl_Header (.tmp 0), E.tNil⟩, ⟨none, some 2, .assign (.const (.slice none 0 0)), E.tBs⟩]) (.seq (.regH [ (true, ⟨none, some 4, .fieldAddr V.t_impl_Header (.tmp 1) 0, E.tNil⟩), (true, ⟨none, some 5, .load E.tS (.tmp 4), E.tS⟩), (true, ⟨none, some 6, .call { callee := .builtin .len, args := #[.tmp 5], argTypes := #[E.tS] }, E.tInt⟩), (true, ⟨none, some 8, .fieldAddr V.t_impl_Header (.tmp 1) 0, E.tNil⟩), (true, ⟨none, some 9, .load E.tS (.tmp 8), E.tS⟩), (false, ⟨none, some 7, .call { callee := .value (.func V.f_spec_Varint), args := #[.tmp 6], argTypes := #[E.tI64] }, E.tBs⟩), (false, ⟨none, some 10, .call { callee := .builtin .append, args := #[.tmp 7, .tmp 9], argTypes := #[E.tBs, E.tS] }, E.tBs⟩), (true, ⟨none, some 3, .assign (.tmp 10), E.tBs⟩)]) (.seq (.reg [ ⟨none, some 11, .move (.tmp 3), E.tBs⟩, ⟨none, some 12, .fieldAddr V.t_impl_Header (.tmp 1) 1, E.tNil⟩, ⟨none, some 13, .load V.t_impl_Octets (.tmp 12), V.t_impl_Octets⟩, ⟨none, some 14, .call { callee := .value (.func V.f_spec_OctetsBytes), args := #[.tmp 13], argTypes := #[V.t_impl_Octets] }, E.tBs⟩, ⟨none, some 15, .call { callee := .builtin .append, args := #[.tmp 11, .tmp 14], argTypes := #[E.tBs, E.tBs] }, E.tBs⟩, ⟨none, some 2, .assign (.tmp 15), E.tBs⟩]) .ret)))
def nt_spec_HeaderBytes : Nat := 16
def rs_spec_HeaderBytes (E : Env) (V : EnvV) : List Rv := [.t 2]
def ir_spec_SameRecord (E : Env) (V : EnvV) : Ir := (.seq (.reg [ ⟨none, some 2, .box V.t_impl_Record (.tmp 0), E.tNil⟩, ⟨none, some 3, .box V.t_impl_Record (.tmp 1), E.tNil⟩, ⟨none, some 4, .assign (.const (.bool false)), E.tB⟩]) (.seq (.reg [ ⟨none, some 5, .fieldAddr V.t_impl_Record (.tmp 2) 0, E.tNil⟩, ⟨none, some 6, .load E.tI32 (.tmp 5), E.tI32⟩, ⟨none, some 7, .fieldAddr V.t_impl_Record (.tmp 3) 0, E.tNil⟩, ⟨none, some 8, .load E.tI32 (.tmp 7), E.tI32⟩, ⟨none, some 9, .binOp .eql E.tI32 (.tmp 6) (.tmp 8) E.tI32, E.tB⟩, ⟨none, some 10, .move (.tmp 9), E.tB⟩, ⟨(some (10, true)), some 11, .fieldAddr V.t_impl_Record (.tmp 2) 1, E.tNil⟩, ⟨(some (10, true)), some 12, .load E.tI8 (.tmp 11), E.tI8⟩, ⟨(some (10, true)), some 13, .fieldAddr V.t_impl_Record (.tmp 3) 1, E.tNil⟩, ⟨(some (10, true)), some 14, .load E.tI8 (.tmp 13), E.tI8⟩, ⟨(some (10, true)), some 15, .binOp .eql E.tI8 (.tmp 12) (.tmp 14) E.tI8, E.tB⟩, ⟨none, some 16, .pick (.tmp 10) (.tmp 15) (.const (.bool false)), E.tB⟩, ⟨none, some 17, .move (.tmp 16), E.tB⟩, ⟨(some (17, true)), some 18, .fieldAddr V.t_impl_Record (.tmp 2) 2, E.tNil⟩, ⟨(some (17, true)), some 19, .load E.tI64 (.tmp 18), E.tI64⟩, ⟨(some (17, true)), some 20, .fieldAddr V.t_impl_Record (.tmp 3) 2, E.tNil⟩, ⟨(some (17, true)), some 21, .load E.tI64 (.tmp 20), E.tI64⟩, ⟨(some (17, true)), some 22, .binOp .eql E.tI64 (.tmp 19) (.tmp 21) E.tI64, E.tB⟩, ⟨none, some 23, .pick (.tmp 17) (.tmp 22) (.const (.bool false)), E.tB⟩, ⟨none, some 24, .move (.tmp 23), E.tB⟩, ⟨(some (24, true)), some 25, .fieldAddr V.t_impl_Record (.tmp 2) 3, E.tNil⟩, ⟨(some (24, true)), some 26, .load E.tI32 (.tmp 25), E.tI32⟩, ⟨(some (24, true)), some 27, .fieldAddr V.t_impl_Record (.tmp 3) 3, E.tNil⟩, ⟨(some (24, true)), some 28, .load E.tI32 (.tmp 27), E.tI32⟩, ⟨(some (24, true)), some 29, .binOp .eql E.tI32 (.tmp 26) (.tmp 28) E.tI32, E.tB⟩, ⟨none, some 30, .pick (.tmp 24) (.tmp 29) (.const (.bool false)), E.tB⟩, ⟨none, some 31, .move (.tmp 30), E.tB⟩, ⟨(some (31, true)), some 32, .fieldAddr V.t_impl_Record (.tmp 2) 4, E.tNil⟩, ⟨(some (31, true)), some 33, .load V.t_impl_Octets (.tmp 32), V.t_impl_Octets⟩, ⟨(some (31, true)), some 34, .fieldAddr V.t_impl_Record (.tmp 3) 4, E.tNil⟩, ⟨(some (31, true)), some 35, .load V.t_impl_Octets (.tmp 34), V.t_impl_Octets⟩, ⟨(some (31, true)), some 36, .call { callee := .value (.func V.f_spec_SameOctets), args := #[.tmp 33, .tmp 35], argTypes := #[V.t_impl_Octets, V.t_impl_Octets] }, E.tB⟩, ⟨none, some 37, .pick (.tmp 31) (.tmp 36) (.const (.bool false)), E.tB⟩, ⟨none, some 38, .move (.tmp 37), E.tB⟩, ⟨(some (38, true)), some 39, .fieldAddr V.t_impl_Record (.tmp 2) 5, E.tNil⟩, ⟨(some (38, true)), some 40, .load V.t_impl_Octets (.tmp 39), V.t_impl_Octets⟩, ⟨(some (38, true)), some 41, .fieldAddr V.t_impl_Record (.tmp 3) 5, E.tNil⟩, ⟨(some (38, true)), some 42, .load V.t_impl_Octets (.tmp 41), V.t_impl_Octets⟩, ⟨(some (38, true)), some 43, .call { callee := .value (.func V.f_spec_SameOctets), args := #[.tmp 40, .tmp 42], argTypes := #[V.t_impl_Octets, V.t_impl_Octets] }, E.tB⟩, ⟨none, some 44, .pick (.tmp 38) (.tmp 43) (.const (.bool false)), E.tB⟩, ⟨none, some 45, .move (.tmp 44), E.tB⟩, ⟨(some (45, true)), some 46, .fieldAddr V.t_impl_Record (.tmp 2) 6, E.tNil⟩, ⟨(some (45, true)), some 47, .load V.t_l_impl_Header (.tmp 46), V.t_l_impl_Header⟩, ⟨(some (45, true)), some 48, .fieldAddr V.t_impl_Record (.tmp 3) 6, E.tNil⟩, ⟨(some (45, true)), some 49, .load V.t_l_impl_Header (.tmp 48), V.t_l_impl_Header⟩, ⟨(some (45, true)), some 50, .call { callee := .value (.func V.f_spec_SameHeaders), args := #[.tmp 47, .tmp 49], argTypes := #[V.t_l_impl_Header, V.t_l_impl_Header] }, E.tB⟩, ⟨none, some 51, .pick (.tmp 45) (.tmp 50) (.const (.bool false)), E.tB⟩, ⟨none, some 4, .assign (.tmp 51), E.tB⟩]) .ret))
def nt_spec_SameRecord : Nat := 52
def rs_spec_SameRecord (E : Env) (V : EnvV) : List Rv := [.t 4]
def ir_spec_SameOctets (E : Env) (V : EnvV) : Ir := (.seq (.reg [ ⟨none, some 2, .box V.t_impl_Octets (.tmp 0), E.tNil⟩, ⟨none, some 3, .box V.t_impl_Octets (.tmp 1), E.tNil⟩, ⟨none, some 4, .assign (.const (.bool false)), E.tB⟩]) (.seq (.reg [ ⟨none, some 5, .fieldAddr V.t_impl_Octets (.tmp 2) 0, E.tNil⟩, ⟨none, some 6, .load E.tB (.tmp 5), E.tB⟩, ⟨none, some 7, .fieldAddr V.t_impl_Octets (.tmp 3) 0, E.tNil⟩, ⟨none, some 8, .load E.tB (.tmp 7), E.tB⟩, ⟨none, some 9, .binOp .eql E.tB (.tmp 6) (.tmp 8) E.tB, E.tB⟩, ⟨none, some 10, .move (.tmp 9), E.tB⟩, ⟨(some (10, true)), some 11, .fieldAddr V.t_impl_Octets (.tmp 2) 0, E.tNil⟩, ⟨(some (10, true)), some 12, .load E.tB (.tmp 11), E.tB⟩, ⟨(some (10, true)), some 13, .move (.tmp 12), E.tB⟩, ⟨(some (13, false)), some 14, .fieldAddr V.t_impl_Octets (.tmp 2) 1, E.tNil⟩, ⟨(some (13, false)), some 15, .load E.tBs (.tmp 14), E.tBs⟩, ⟨(some (13, false)), some 16, .fieldAddr V.t_impl_Octets (.tmp 3) 1, E.tNil⟩, ⟨(some (13, false)), some 17, .load E.tBs (.tmp 16), E.tBs⟩, ⟨(some (13, false)), some 18, .call { callee := .value (.func E.f_spec_Same), args := #[.tmp 15, .tmp 17], argTypes := #[E.tBs, E.tBs] }, E.tB⟩, ⟨(some (10, true)), some 19, .pick (.tmp 13) (.const (.bool true)) (.tmp 18), E.tB⟩, ⟨none, some 20, .pick (.tmp 10) (.tmp 19) (.const (.bool false)), E.tB⟩, ⟨none, some 4, .assign (.tmp 20), E.tB⟩]) .ret))
def nt_spec_SameOctets : Nat := 21
def rs_spec_SameOctets (E : Env) (V : EnvV) : List Rv := [.t 4]
def ir_spec_SameHeaders (E : Env) (V : EnvV) : Ir := (.seq (.reg [ ⟨none, some 4, .assign (.const (.bool false)), E.tB⟩]) (.seq (.seq (.reg [ ⟨none, some 6, .move (.tmp 0), V.t_l_impl_Header⟩, ⟨none, some 7, .call { callee := .builtin .len, args := #[.tmp 6], argTypes := #[V.t_l_impl_Header] }, E.tInt⟩, ⟨none, some 8, .move (.tmp 1), V.t_l_impl_Header⟩, ⟨none, some 9, .call { callee := .builtin .len, args := #[.tmp 8], argTypes := #[V.t_l_impl_Header] }, E.tInt⟩, ⟨none, some 10, .binOp .neq E.tInt (.tmp 7) (.tmp 9) E.tInt, E.tB⟩]) (.cond 10 (.seq (.reg [ ⟨none, some 4, .assign (.const (.bool false)), E.tB⟩]) .ret) .skip)) (.seq (.seq (.reg [ ⟨none, some 11, .move (.tmp 0), V.t_l_impl_Header⟩, ⟨none, some 12, .call { callee := .builtin .len, args := #[.tmp 11], argTypes := #[V.t_l_impl_Header] }, E.tInt⟩, ⟨none, some 13, .move (.const (.int .i64 0)), E.tInt⟩]) (.block 0 (.loop (.seq (.reg [ ⟨none, some 14, .binOp .lss E.tInt (.tmp 13) (.tmp 12) E.tInt, E.tNil⟩]) (.seq (.cond 14 .skip (.exit 0)) (.seq (.block 1 (.seq (.reg [ ⟨none, some 15, .move (.tmp 13), E.tInt⟩, ⟨none, some 5, .assign (.tmp 15), E.tInt⟩]) (.seq (.regH [ (true, ⟨none, some 16, .move (.tmp 0), V.t_l_impl_Header⟩), (true, ⟨none, some 17, .move (.tmp 5), E.tInt⟩), (true, ⟨none, some 18, .indexAddr V.t_l_impl_Header (.tmp 16) (.tmp 17), E.tNil⟩), (true, ⟨none, some 19, .fieldAddr V.t_impl_Header (.tmp 18) 0, E.tNil⟩), (true, ⟨none, some 20, .load E.tS (.tmp 19), E.tS⟩), (true, ⟨none, some 21, .move (.tmp 1), V.t_l_impl_Header⟩), (true, ⟨none, some 22, .move (.tmp 5), E.tInt⟩), (true, ⟨none, some 23, .indexAddr V.t_l_impl_Header (.tmp 21) (.tmp 22), E.tNil⟩), (true, ⟨none, some 24, .fieldAddr V.t_impl_Header (.tmp 23) 0, E.tNil⟩), (true, ⟨none, some 25, .load E.tS (.tmp 24), E.tS⟩), (true, ⟨none, some 26, .binOp .neq E.tS (.tmp 20) (.tmp 25) E.tS, E.tB⟩), (true, ⟨none, some 27, .move (.tmp 26), E.tB⟩), (true, ⟨(some (27, false)), some 28, .move (.tmp 0), V.t_l_impl_Header⟩), (true, ⟨(some (27, false)), some 29, .move (.tmp 5), E.tInt⟩), (true, ⟨(some (27, false)), some 30, .indexAddr V.t_l_impl_Header (.tmp 28) (.tmp 29), E.tNil⟩), (true, ⟨(some (27, false)), some 31, .fieldAddr V.t_impl_Header (.tmp 30) 1, E.tNil⟩), (true, ⟨(some (27, false)), some 32, .load V.t_impl_Octets (.tmp 31), V.t_impl_Octets⟩), (true, ⟨(some (27, false)), some 33, .move (.tmp 1), V.t_l_impl_Header⟩), (true, ⟨(some (27, false)), some 34, .move (.tmp 5), E.tInt⟩), (true, ⟨(some (27, false)), some 35, .indexAddr V.t_l_impl_Header (.tmp 33) (.tmp 34), E.tNil⟩), (true, ⟨(some (27, false)), some 36, .fieldAddr V.t_impl_Header (.tmp 35) 1, E.tNil⟩), (true, ⟨(some (27, false)), some 37, .load V.t_impl_Octets (.tmp 36), V.t_impl_Octets⟩), (false, ⟨(some (27, false)), some 38, .call { callee := .value (.func V.f_spec_SameOctets), args := #[.tmp 32, .tmp 37], argTypes := #[V.t_impl_Octets, V.t_impl_Octets] }, E.tB⟩), (true, ⟨(some (27, false)), some 39, .unOp .not E.tB (.tmp 38), E.tB⟩), (true, ⟨none, some 40, .pick (.tmp 27) (.const (.bool true)) (.tmp 39), E.tB⟩)]) (.cond 40 (.seq (.reg [ ⟨none, some 4, .assign (.const (.bool false)), E.tB⟩]) .ret) .skip)))) (.reg [ ⟨none, some 41, .binOp .add E.tInt (.tmp 13) (.const (.int .i64 1)) E.tInt, E.tInt⟩, ⟨none, some 13, .move (.tmp 41), E.tInt⟩]))))))) (.seq (.reg [ ⟨none, some 4, .assign (.const (.bool true)), E.tB⟩]) .ret))))
def nt_spec_SameHeaders : Nat := 42
def rs_spec_SameHeaders (E : Env) (V : EnvV) : List Rv := [.t 4]
def ir_laws_zzFits7 (E : Env) (V : EnvV) : Ir := (.seq (.reg [ ⟨none, some 1, .box V.t_impl_Header (.tmp 0), E.tNil⟩, ⟨none, some 2, .assign (.const (.bool false)), E.tB⟩]) (.seq (.seq (.reg [ ⟨none, some 3, .fieldAddr V.t_impl_Header (.tmp 1) 0, E.tNil⟩, ⟨none, some 4, .load E.tS (.tmp 3), E.tS⟩, ⟨none, some 5, .call { callee := .builtin .len, args := #[.tmp 4], argTypes := #[E.tS] }, E.tInt⟩, ⟨none, some 6, .binOp .gtr E.tInt (.tmp 5) (.const (.int .i64 2147483647)) E.tInt, E.tB⟩]) (.cond 6 (.seq (.reg [ ⟨none, some 2, .assign (.const (.bool false)), E.tB⟩]) .ret) .skip)) (.seq (.seq (.reg [ ⟨none, some 7, .fieldAddr V.t_impl_Header (.tmp 1) 1, E.tNil⟩, ⟨none, some 8, .load V.t_impl_Octets (.tmp 7), V.t_impl_Octets⟩, ⟨none, some 9, .call { callee := .value (.func V.f_laws_zzFits8), args := #[.tmp 8], argTypes := #[V.t_impl_Octets] }, E.tB⟩, ⟨none, some 10, .unOp .not E.tB (.tmp 9), E.tB⟩]) (.cond 10 (.seq (.reg [ ⟨none, some 2, .assign (.const (.bool false)), E.tB⟩]) .ret) .skip)) (.seq (.reg [ ⟨none, some 2, .assign (.const (.bool true)), E.tB⟩]) .ret))))
def nt_laws_zzFits7 : Nat := 11
def rs_laws_zzFits7 (E : Env) (V : EnvV) : List Rv := [.t 2]
def ir_laws_zzFits8 (E : Env) (V : EnvV) : Ir := (.seq (.reg [ ⟨none, some 1, .box V.t_impl_Octets (.tmp 0), E.tNil⟩, ⟨none, some 2, .assign (.const (.bool false)), E.tB⟩]) (.seq (.seq (.reg [ ⟨none, some 3, .fieldAddr V.t_impl_Octets (.tmp 1) 1, E.tNil⟩, ⟨none, some 4, .load E.tBs (.tmp 3), E.tBs⟩, ⟨none, some 5, .call { callee := .builtin .len, args := #[.tmp 4], argTypes := #[E.tBs] }, E.tInt⟩, ⟨none, some 6, .binOp .gtr E.tInt (.tmp 5) (.const (.int .i64 2147483647)) E.tInt, E.tB⟩]) (.cond 6 (.seq (.reg [ ⟨none, some 2, .assign (.const (.bool false)), E.tB⟩]) .ret) .skip)) (.seq (.reg [ ⟨none, some 2, .assign (.const (.bool true)), E.tB⟩]) .ret)))
def nt_laws_zzFits8 : Nat := 7
def rs_laws_zzFits8 (E : Env) (V : EnvV) : List Rv := [.t 2]
def ir_laws_zzFits9 (E : Env) (V : EnvV) : Ir := (.seq (.reg [ ⟨none, some 1, .box V.t_impl_Record (.tmp 0), E.tNil⟩, ⟨none, some 2, .assign (.const (.bool false)), E.tB⟩]) (.seq (.seq (.reg [ ⟨none, some 3, .fieldAddr V.t_impl_Record (.tmp 1) 4, E.tNil⟩, ⟨none, some 4, .load V.t_impl_Octets (.tmp 3), V.t_impl_Octets⟩, ⟨none, some 5, .call { callee := .value (.func V.f_laws_zzFits8), args := #[.tmp 4], argTypes := #[V.t_impl_Octets] }, E.tB⟩, ⟨none, some 6, .unOp .not E.tB (.tmp 5), E.tB⟩]) (.cond 6 (.seq (.reg [ ⟨none, some 2, .assign (.const (.bool false)), E.tB⟩]) .ret) .skip)) (.seq (.seq (.reg [ ⟨none, some 7, .fieldAddr V.t_impl_Record (.tmp 1) 5, E.tNil⟩, ⟨none, some 8, .load V.t_impl_Octets (.tmp 7), V.t_impl_Octets⟩, ⟨none, some 9, .call { callee := .value (.func V.f_laws_zzFits8), args := #[.tmp 8], argTypes := #[V.t_impl_Octets] }, E.tB⟩, ⟨none, some 10, .unOp .not E.tB (.tmp 9), E.tB⟩]) (.cond 10 (.seq (.reg [ ⟨none, some 2, .assign (.const (.bool false)), E.tB⟩]) .ret) .skip)) (.seq (.seq (.reg [ ⟨none, some 11, .fieldAddr V.t_impl_Record (.tmp 1) 6, E.tNil⟩, ⟨none, some 12, .load V.t_l_impl_Header (.tmp 11), V.t_l_impl_Header⟩, ⟨none, some 13, .call { callee := .value (.func V.f_laws_zzFits10), args := #[.tmp 12], argTypes := #[V.t_l_impl_Header] }, E.tB⟩, ⟨none, some 14, .unOp .not E.tB (.tmp 13), E.tB⟩]) (.cond 14 (.seq (.reg [ ⟨none, some 2, .assign (.const (.bool false)), E.tB⟩]) .ret) .skip)) (.seq (.reg [ ⟨none, some 2, .assign (.const (.bool true)), E.tB⟩]) .ret)))))
def nt_laws_zzFits9 : Nat := 15
def rs_laws_zzFits9 (E : Env) (V : EnvV) : List Rv := [.t 2]
def ir_laws_zzFits10 (E : Env) (V : EnvV) : Ir := (.seq (.reg [ ⟨none, some 2, .assign (.const (.bool false)), E.tB⟩]) (.seq (.seq (.reg [ ⟨none, some 5, .move (.tmp 0), V.t_l_impl_Header⟩, ⟨none, some 6, .call { callee := .builtin .len, args := #[.tmp 5], argTypes := #[V.t_l_impl_Header] }, E.tInt⟩, ⟨none, some 7, .binOp .gtr E.tInt (.tmp 6) (.const (.int .i64 2147483647)) E.tInt, E.tB⟩]) (.cond 7 (.seq (.reg [ ⟨none, some 2, .assign (.const (.bool false)), E.tB⟩]) .ret) .skip)) (.seq (.seq (.reg [ ⟨none, some 8, .move (.tmp 0), V.t_l_impl_Header⟩, ⟨none, some 9, .call { callee := .builtin .len, args := #[.tmp 8], argTypes := #[V.t_l_impl_Header] }, E.tInt⟩, ⟨none, some 10, .move (.const (.int .i64 0)), E.tInt⟩]) (.block 0 (.loop (.seq (.reg [ ⟨none, some 11, .binOp .lss E.tInt (.tmp 10) (.tmp 9) E.tInt, E.tNil⟩]) (.seq (.cond 11 .skip (.exit 0)) (.seq (.block 1 (.seq (.reg [ ⟨none, some 12, .indexAddr V.t_l_impl_Header (.tmp 8) (.tmp 10), E.tNil⟩, ⟨none, some 13, .load V.t_impl_Header (.tmp 12), V.t_impl_Header⟩, ⟨none, some 4, .alloc V.t_impl_Header, E.tNil⟩, ⟨none, none, .store V.t_impl_Header (.tmp 4) (.tmp 13), E.tNil⟩]) (.seq (.reg [ ⟨none, some 14, .load V.t_impl_Header (.tmp 4), V.t_impl_Header⟩, ⟨none, some 15, .call { callee := .value (.func V.f_laws_zzFits7), args := #[.tmp 14], argTypes := #[V.t_impl_Header] }, E.tB⟩, ⟨none, some 16, .unOp .not E.tB (.tmp 15), E.tB⟩]) (.cond 16 (.seq (.reg [ ⟨none, some 2, .assign (.const (.bool false)), E.tB⟩]) .ret) .skip)))) (.reg [ ⟨none, some 17, .binOp .add E.tInt (.tmp 10) (.const (.int .i64 1)) E.tInt, E.tInt⟩, ⟨none, some 10, .move (.tmp 17), E.tInt⟩]))))))) (.seq (.reg [ ⟨none, some 2, .assign (.const (.bool true)), E.tB⟩]) .ret))))
def nt_laws_zzFits10 : Nat := 18
def rs_laws_zzFits10 (E : Env) (V : EnvV) : List Rv := [.t 2]
def ir_laws_little (E : Env) (V : EnvV) : Ir := (.seq (.reg [ ⟨none, some 1, .box V.t_impl_Record (.tmp 0), E.tNil⟩, ⟨none, some 2, .assign (.const (.bool false)), E.tB⟩]) (.seq (.reg [ ⟨none, some 3, .fieldAddr V.t_impl_Record (.tmp 1) 6, E.tNil⟩, ⟨none, some 4, .load V.t_l_impl_Header (.tmp 3), V.t_l_impl_Header⟩, ⟨none, some 5, .call { callee := .builtin .len, args := #[.tmp 4], argTypes := #[V.t_l_impl_Header] }, E.tInt⟩, ⟨none, some 6, .binOp .leq E.tInt (.tmp 5) (.const (.int .i64 1000)) E.tInt, E.tB⟩, ⟨none, some 7, .move (.tmp 6), E.tB⟩, ⟨(some (7, true)), some 8, .load V.t_impl_Record (.tmp 1), V.t_impl_Record⟩, ⟨(some (7, true)), some 9, .call { callee := .value (.func V.f_spec_RecordRest), args := #[.tmp 8], argTypes := #[V.t_impl_Record] }, E.tBs⟩, ⟨(some (7, true)), some 10, .call { callee := .builtin .len, args := #[.tmp 9], argTypes := #[E.tBs] }, E.tInt⟩, ⟨(some (7, true)), some 11, .binOp .leq E.tInt (.tmp 10) (.const (.int .i64 131072)) E.tInt, E.tB⟩, ⟨none, some 12, .pick (.tmp 7) (.tmp 11) (.const (.bool false)), E.tB⟩, ⟨none, some 2, .assign (.tmp 12), E.tB⟩]) .ret))
def nt_laws_little : Nat := 13
def rs_laws_little (E : Env) (V : EnvV) : List Rv := [.t 2]
def ir_laws_FnTellRecord (E : Env) (V : EnvV) : Ir := (.seq (.reg [ ⟨none, some 2, .box V.t_impl_Record (.tmp 0), E.tNil⟩, ⟨none, some 4, .assign (.const (.bool false)), E.tB⟩]) (.seq (.seq (.reg [ ⟨none, some 10, .load V.t_impl_Record (.tmp 2), V.t_impl_Record⟩, ⟨none, some 11, .call { callee := .value (.func V.f_laws_zzFits9), args := #[.tmp 10], argTypes := #[V.t_impl_Record] }, E.tB⟩, ⟨none, some 12, .unOp .not E.tB (.tmp 11), E.tB⟩]) (.cond 12 (.seq (.reg [ ⟨none, some 4, .assign (.const (.bool true)), E.tB⟩]) .ret) .skip)) (.seq (.seq (.reg [ ⟨none, some 13, .load V.t_impl_Record (.tmp 2), V.t_impl_Record⟩, ⟨none, some 14, .call { callee := .value (.func V.f_laws_little), args := #[.tmp 13], argTypes := #[V.t_impl_Record] }, E.tB⟩, ⟨none, some 15, .unOp .not E.tB (.tmp 14), E.tB⟩]) (.cond 15 (.seq (.reg [ ⟨none, some 4, .assign (.const (.bool true)), E.tB⟩]) .ret) .skip)) (.seq (.reg [ ⟨none, some 16, .load V.t_impl_Record (.tmp 2), V.t_impl_Record⟩, ⟨none, some 17, .call { callee := .value (.func V.f_spec_Measured), args := #[.tmp 16], argTypes := #[V.t_impl_Record] }, V.t_impl_Record⟩, ⟨none, none, .store V.t_impl_Record (.tmp 2) (.tmp 17), E.tNil⟩]) (.seq (.reg [ ⟨none, some 18, .load V.t_impl_Record (.tmp 2), V.t_impl_Record⟩, ⟨none, some 19, .call { callee := .value (.func V.f_spec_RecordBytes), args := #[.tmp 18], argTypes := #[V.t_impl_Record] }, E.tBs⟩, ⟨none, some 5, .assign (.tmp 19), E.tBs⟩]) (.seq (.reg [ ⟨none, some 21, .move (.tmp 5), E.tBs⟩, ⟨none, some 22, .call { callee := .value (.func V.f_impl_TellRecord), args := #[.tmp 21], argTypes := #[E.tBs] }, V.t_impl_Record_bool⟩, ⟨none, some 20, .move (.tmp 22), V.t_impl_Record_bool⟩, ⟨none, some 23, .extract (.tmp 20) 0, V.t_impl_Record⟩, ⟨none, some 24, .extract (.tmp 20) 1, E.tB⟩, ⟨none, some 6, .alloc V.t_impl_Record, E.tNil⟩, ⟨none, none, .store V.t_impl_Record (.tmp 6) (.tmp 23), E.tNil⟩, ⟨none, some 7, .assign (.tmp 24), E.tB⟩]) (.seq (.reg [ ⟨none, some 26, .move (.tmp 5), E.tBs⟩, ⟨none, some 27, .move (.tmp 1), E.tU16⟩, ⟨none, some 28, .convert E.tU16 E.tInt (.tmp 27), E.tInt⟩, ⟨none, some 29, .move (.tmp 5), E.tBs⟩, ⟨none, some 30, .call { callee := .builtin .len, args := #[.tmp 29], argTypes := #[E.tBs] }, E.tInt⟩, ⟨none, some 31, .binOp .rem E.tInt (.tmp 28) (.tmp 30) E.tInt, E.tInt⟩, ⟨none, some 32, .slice E.tBs (.tmp 26) none (some (.tmp 31)) none, E.tBs⟩, ⟨none, some 33, .call { callee := .value (.func V.f_impl_TellRecord), args := #[.tmp 32], argTypes := #[E.tBs] }, V.t_impl_Record_bool⟩, ⟨none, some 25, .move (.tmp 33), V.t_impl_Record_bool⟩, ⟨none, some 34, .extract (.tmp 25) 0, V.t_impl_Record⟩, ⟨none, some 35, .extract (.tmp 25) 1, E.tB⟩, ⟨none, some 8, .alloc V.t_impl_Record, E.tNil⟩, ⟨none, none, .store V.t_impl_Record (.tmp 8) (.tmp 34), E.tNil⟩, ⟨none, some 9, .assign (.tmp 35), E.tB⟩]) (.seq (.reg [ ⟨none, some 36, .move (.tmp 7), E.tB⟩, ⟨none, some 37, .move (.tmp 36), E.tB⟩, ⟨(some (37, true)), some 38, .move (.tmp 9), E.tB⟩, ⟨(some (37, true)), some 39, .unOp .not E.tB (.tmp 38), E.tB⟩, ⟨none, some 40, .pick (.tmp 37) (.tmp 39) (.const (.bool false)), E.tB⟩, ⟨none, some 41, .move (.tmp 40), E.tB⟩, ⟨(some (41, true)), some 42, .load V.t_impl_Record (.tmp 6), V.t_impl_Record⟩, ⟨(some (41, true)), some 43, .load V.t_impl_Record (.tmp 2), V.t_impl_Record⟩, ⟨(some (41, true)), some 44, .call { callee := .value (.func V.f_spec_SameRecord), args := #[.tmp 42, .tmp 43], argTypes := #[V.t_impl_Record, V.t_impl_Record] }, E.tB⟩, ⟨none, some 45, .pick (.tmp 41) (.tmp 44) (.const (.bool false)), E.tB⟩, ⟨none, some 46, .move (.tmp 45), E.tB⟩, ⟨(some (46, true)), some 47, .load V.t_impl_Record (.tmp 6), V.t_impl_Record⟩, ⟨(some (46, true)), some 48, .call { callee := .value (.func V.f_impl_MakeRecord), args := #[.const (.slice none 0 0), .tmp 47], argTypes := #[E.tBs, V.t_impl_Record] }, E.tBs⟩, ⟨(some (46, true)), some 49, .move (.tmp 5), E.tBs⟩, ⟨(some (46, true)), some 50, .call { callee := .value (.func E.f_spec_Same), args := #[.tmp 48, .tmp 49], argTypes := #[E.tBs, E.tBs] }, E.tB⟩, ⟨none, some 51, .pick (.tmp 46) (.tmp 50) (.const (.bool false)), E.tB⟩, ⟨none, some 4, .assign (.tmp 51), E.tB⟩]) .ret))))))))
def nt_laws_FnTellRecord : Nat := 52
def rs_laws_FnTellRecord (E : Env) (V : EnvV) : List Rv := [.t 4]
end Go.Kg

set_option linter.unusedSimpArgs false
set_option linter.unusedVariables false
namespace Go.Kg
open Go
/-- a struct of two cells: is it null, and its bytes -/
def OcAt (w : World) (K : Nat → Prop) (n d : Value) (o : Option (List UInt8)) : Prop := ∃ b l, n = .bool b ∧ BytesAt w K d l ∧ o = if b then none else some l
def IHd (w : World) (K : Nat → Prop) (cs : List Value) (h : HdV) : Prop := ∃ n d, cs = [strV h.1, n, d] ∧ OcAt w K n d h.2
def KHd (w : World) (K : Nat → Prop) (cs : List Value) (h : HdV) : Prop := ∃ d, cs = [strV h.1, d] ∧ BytesOpt w K d h.2
/-- cells in a row, sz each -/
def RowOf (sz : Nat) (R : List Value → HdV → Prop) (xs : List Value) (hs : List HdV) : Prop := xs.length = hs.length * sz ∧ ∀ i h, hs[i]? = some h → R ((xs.drop (i * sz)).take sz) h
/-- a slice of things -/
def LsAt (w : World) (K : Nat → Prop) (sz : Nat) (R : List Value → HdV → Prop) (v : Value) (hs : List HdV) : Prop :=
  ((∃ a, v = .slice a 0 0) ∧ hs = []) ∨ ∃ b o c xs, v = .slice (some ⟨b, o, none⟩) hs.length c ∧ hs.length ≤ c ∧ (hs ≠ [] → K b) ∧ CellsAt w b o xs ∧ RowOf sz R xs hs
theorem OcAt.ext {C K : Nat → Prop} {w w' : World} {n d : Value} {o : Option (List UInt8)} (h : OcAt w K n d o) (he : Ext C w w') (hD : ∀ b, b < w.heap.size → K b → ¬ C b) : OcAt w' K n d o := by
  obtain ⟨b, l, h1, h2, h3⟩ := h; exact ⟨b, l, h1, h2.ext he hD, h3⟩
theorem BytesOpt.extV {C K : Nat → Prop} {w w' : World} {d : Value} {o : Option (List UInt8)} (h : BytesOpt w K d o) (he : Ext C w w') (hD : ∀ b, b < w.heap.size → K b → ¬ C b) : BytesOpt w' K d o := by
  cases o with
  | none => exact h
  | some l => exact ⟨h.1.ext he hD, h.2⟩
theorem IHd.ext {C K : Nat → Prop} {w w' : World} {cs : List Value} {o : HdV} (h : IHd w K cs o) (he : Ext C w w') (hD : ∀ b, b < w.heap.size → K b → ¬ C b) : IHd w' K cs o := by
  obtain ⟨n, d, h1, h2⟩ := h; exact ⟨n, d, h1, h2.ext he hD⟩
theorem KHd.ext {C K : Nat → Prop} {w w' : World} {cs : List Value} {o : HdV} (h : KHd w K cs o) (he : Ext C w w') (hD : ∀ b, b < w.heap.size → K b → ¬ C b) : KHd w' K cs o := by
  obtain ⟨d, h1, h2⟩ := h; exact ⟨d, h1, BytesOpt.extV h2 he hD⟩
theorem OcAt.mono {K K' : Nat → Prop} {w : World} {n d : Value} {o : Option (List UInt8)} (h : OcAt w K n d o) (hK : ∀ b, K b → K' b) : OcAt w K' n d o := by
  obtain ⟨b, l, h1, h2, h3⟩ := h; exact ⟨b, l, h1, h2.mono (fun b _ => hK b), h3⟩
theorem IHd.mono {K K' : Nat → Prop} {w : World} {cs : List Value} {o : HdV} (h : IHd w K cs o) (hK : ∀ b, K b → K' b) : IHd w K' cs o := by
  obtain ⟨n, d, h1, h2⟩ := h; exact ⟨n, d, h1, h2.mono hK⟩
theorem KHd.mono {K K' : Nat → Prop} {w : World} {cs : List Value} {o : HdV} (h : KHd w K cs o) (hK : ∀ b, K b → K' b) : KHd w K' cs o := by
  obtain ⟨d, h1, h2⟩ := h; exact ⟨d, h1, BytesOpt.mono hK h2⟩
theorem CellsAt.extV {C : Nat → Prop} {w w' : World} {b o : Nat} {cs : List Value} (h : CellsAt w b o cs) (he : Ext C w w') (hc : cs ≠ [] → ¬ C b) : CellsAt w' b o cs := by
  intro j u hj
  exact he.cell (h j u hj) (hc (by rintro rfl; cases hj))
theorem RowOf.imp {sz : Nat} {R R' : List Value → HdV → Prop} {xs : List Value} {hs : List HdV} (h : RowOf sz R xs hs) (hR : ∀ cs h, R cs h → R' cs h) : RowOf sz R' xs hs := ⟨h.1, fun i x hx => hR _ _ (h.2 i x hx)⟩
theorem RowOf.nil {sz : Nat} {R : List Value → HdV → Prop} : RowOf sz R [] [] := ⟨by simp, by simp⟩
theorem RowOf.snoc {sz : Nat} {R : List Value → HdV → Prop} {xs cs : List Value} {hs : List HdV} {h : HdV} (H : RowOf sz R xs hs) (hc : cs.length = sz) (hr : R cs h) : RowOf sz R (xs ++ cs) (hs ++ [h]) := by
  obtain ⟨h1, h2⟩ := H
  refine ⟨by simp [h1, hc, Nat.add_mul], fun i x hx => ?_⟩
  by_cases hi : i < hs.length
  · rw [List.getElem?_append_left hi] at hx
    have hle : i * sz + sz ≤ xs.length := by rw [h1, ← Nat.succ_mul]; exact Nat.mul_le_mul_right _ hi
    rw [List.drop_append_of_le_length (by omega), List.take_append_of_le_length (by simp; omega)]
    exact h2 i x hx
  · have hi' : i = hs.length := by
      have := (List.getElem?_eq_some_iff.1 hx).1
      simp at this; omega
    subst hi'
    rw [List.getElem?_append_right (Nat.le_refl _)] at hx
    simp at hx
    subst hx
    rw [← h1]
    simp [← hc]
    exact hr
theorem LsAt.ext {C K : Nat → Prop} {sz : Nat} {w w' : World} {R : World → List Value → HdV → Prop} {v : Value} {hs : List HdV} (hsz : 0 < sz) (h : LsAt w K sz (R w) v hs) (he : Ext C w w') (hR : ∀ cs x, R w cs x → R w' cs x) (hD : ∀ b, b < w.heap.size → K b → ¬ C b) : LsAt w' K sz (R w') v hs := by
  rcases h with h | ⟨b, o, c, xs, h1, h2, h3, h4, h5⟩
  · exact .inl h
  · refine .inr ⟨b, o, c, xs, h1, h2, h3, h4.extV he (fun hx => ?_), h5.imp hR⟩
    obtain ⟨u, us, rfl⟩ := List.exists_cons_of_ne_nil hx
    have hb := h4 0 u rfl
    refine hD b (World.block_lt_of_cell? w _ hb) (h3 ?_)
    rintro rfl
    have := h5.1
    simp at this
theorem LsAt.mono {K K' : Nat → Prop} {sz : Nat} {w : World} {R R' : List Value → HdV → Prop} {v : Value} {hs : List HdV} (h : LsAt w K sz R v hs) (hK : ∀ b, K b → K' b) (hR : ∀ cs x, R cs x → R' cs x) : LsAt w K' sz R' v hs := by
  rcases h with h | ⟨b, o, c, xs, h1, h2, h3, h4, h5⟩
  · exact .inl h
  · exact .inr ⟨b, o, c, xs, h1, h2, fun hx => hK _ (h3 hx), h4, h5.imp hR⟩
theorem LsAt.len {K : Nat → Prop} {sz : Nat} {w : World} {R : List Value → HdV → Prop} {v : Value} {hs : List HdV} (h : LsAt w K sz R v hs) : ∃ a c, v = .slice a hs.length c ∧ hs.length ≤ c := by
  rcases h with ⟨⟨a, rfl⟩, rfl⟩ | ⟨b, o, c, xs, rfl, h2, _⟩
  · exact ⟨a, 0, rfl, Nat.le_refl _⟩
  · exact ⟨_, c, rfl, h2⟩
/-- one of the things -/
theorem LsAt.get {K : Nat → Prop} {sz : Nat} {w : World} {R : List Value → HdV → Prop} {v : Value} {hs : List HdV} (h : LsAt w K sz R v hs) {i : Nat} {x : HdV} (hx : hs[i]? = some x) :
    ∃ b o c cs, v = .slice (some ⟨b, o, none⟩) hs.length c ∧ hs.length ≤ c ∧ K b ∧ cs.length = sz ∧ CellsAt w b (o + i * sz) cs ∧ R cs x := by
  rcases h with ⟨_, rfl⟩ | ⟨b, o, c, xs, h1, h2, h3, h4, h5⟩
  · simp at hx
  · have hi := (List.getElem?_eq_some_iff.1 hx).1
    have hle : i * sz + sz ≤ xs.length := by rw [h5.1, ← Nat.succ_mul]; exact Nat.mul_le_mul_right _ hi
    refine ⟨b, o, c, (xs.drop (i * sz)).take sz, h1, h2, h3 (by rintro rfl; simp at hi), by simp; omega, fun j u hj => ?_, h5.2 i x hx⟩
    rw [List.getElem?_take] at hj
    split at hj
    · rw [List.getElem?_drop] at hj
      have := h4 _ u hj
      rw [← this]; congr 2; omega
    · cases hj
/-- One slice appended to another: is the outcome nil? -/
theorem st_append2 {P : Program} {f : Nat → Value} {w : World} {ty : TypeId} {K : Value → World → Prop} {t e s bytes : Nat} {z : Value} (hS : SliI P t e s bytes z) (hs : 0 < s) {x y : Operand} {base : Nat} {xs : List Value}
    (hown : Own w base e s (evF f x) xs) {ad : Option Addr} {m c : Nat} {news : List Value} (hy : evF f y = .slice ad m c) (hl : news.length = m * s)
    (hz : ad = none → m = 0 ∧ c = 0) (hnews : ∀ a, ad = some a → ∀ j u, news[j]? = some u → w.cell? (a.add j) = some u) (h1 : ∀ u ∈ news, u.oneCell' = true)
    (hb' : xs.length + news.length ≤ maxLen) (hbytes : (xs.length + news.length) * bytes ≤ 140737488355328) (hbase : base ≤ w.heap.size)
    (h : ∀ v' w', Own w' base e s v' (xs ++ news) → Grew w (evF f x) w' v' → (evF f x ≠ .slice none 0 0 → v' ≠ .slice none 0 0) → K v' w') :
    stepF P f (.call { callee := .builtin .append, args := #[x, y], argTypes := #[t, t] }) ty w K := by
  obtain ⟨i, h1', h2', h3', h4'⟩ := hS.inf
  have hown0 := hown
  obtain ⟨n, hown⟩ := hown
  have hn : n ≤ xs.length := by rw [hown.1]; exact Nat.le_mul_of_pos_right n hs
  have key : ∀ K' : Value → World → Prop, (∀ v' w', Own w' base e s v' (xs ++ news) → Grew w (evF f x) w' v' → K' v' w') → stepF P f (.call { callee := .builtin .append, args := #[x, y], argTypes := #[t, t] }) ty w K' :=
    fun K' hK => st_append hS hs hown0 hy hl hz hnews h1 hb' hbytes hbase hK
  cases ad with
  | none =>
    obtain ⟨rfl, rfl⟩ := hz rfl
    have hnl : news = [] := List.eq_nil_of_length_eq_zero (by simpa using hl)
    subst hnl
    have hr := run_append_owned_none (P := P) w base t ty e i s hS.und h1' (evF f x) n xs hown
    rw [stepF_ok (v := evF f x) (w' := w)]
    · exact h _ _ ⟨n, by simpa using hown⟩ (Grew.refl _ _) id
    · simp only [runF, execOp, resolve, invoke, builtin, Sem.run_bind, Sem.run_pure, Result.andThen_ok, List.map_toArray, List.map_cons, List.map_nil, hy, hr]
  | some a =>
    have hm : m ≤ news.length := by rw [hl]; exact Nat.le_mul_of_pos_right m hs
    obtain ⟨v', w', hr, ho, hg, hnil⟩ := run_append_own (P := P) w base t ty e i z s bytes hS.und h1' h2' h3' h4' hS.zs hs (evF f x) n xs hown a m c news hl (hnews a rfl) h1 (by omega)
      (Nat.le_trans (Nat.mul_le_mul_right bytes (by omega)) hbytes) hbase
    have hrun : runF P f (.call { callee := .builtin .append, args := #[x, y], argTypes := #[t, t] }) ty w = .ok (.value v') w' := by
      simp only [runF, execOp, resolve, invoke, builtin, Sem.run_bind, Sem.run_pure, Result.andThen_ok, List.map_toArray, List.map_cons, List.map_nil, hy, hr]
    have k2 := key (fun u' x' => Own x' base e s u' (xs ++ news) ∧ Grew w (evF f x) x' u') (fun v' w' a b => ⟨a, b⟩)
    rw [stepF_ok hrun] at k2 ⊢
    exact h _ _ k2.1 k2.2 (fun hv hv' => hv (hnil.1 hv').1)
theorem st_app_bytes2 {P : Program} {f : Nat → Value} {w : World} {ty : TypeId} {K : Value → World → Prop} {t e : Nat} {z : Value} (hS : SliI P t e 1 1 z) {x y : Operand} {base : Nat} {s : List UInt8} {v : Value} (hx : evF f x = v) (ho : OwnB e w base v s) (hw : base ≤ w.heap.size) {k : Nat → Prop} {bs : List UInt8}
    (hy : BytesAt w k (evF f y) bs) (hsz : s.length + bs.length ≤ 1099511627776)
    (h : ∀ v' w', OwnB e w' base v' (s ++ bs) → Grew w v w' v' → (v ≠ .slice none 0 0 → v' ≠ .slice none 0 0) → K v' w') :
    stepF P f (.call { callee := .builtin .append, args := #[x, y], argTypes := #[t, t] }) ty w K := by
  subst hx
  have hh : ∀ v' w', Own w' base e 1 v' (cellsOf s ++ cellsOf bs) → Grew w (evF f x) w' v' → (evF f x ≠ .slice none 0 0 → v' ≠ .slice none 0 0) → K v' w' := by
    intro v' w' h1 h2 h3
    refine h v' w' ?_ h2 h3
    have : cellsOf (s ++ bs) = cellsOf s ++ cellsOf bs := by simp [cellsOf]
    unfold OwnB; rw [this]; exact h1
  rcases hy with ⟨⟨a, hy⟩, rfl⟩ | ⟨b, o, c, hy, hc, _, hcc⟩
  · exact st_append2 hS (by omega) ho hy (news := []) (by simp) (fun _ => ⟨rfl, rfl⟩) (by simp) (by simp) (by simp [maxLen] at *; omega) (by simp at *; omega) hw (by simpa [cellsOf] using hh)
  · refine st_append2 hS (by omega) ho hy (news := cellsOf bs) (by simp) (by simp) ?_ cellsOf_one (by simp [maxLen]; omega) (by simp; omega) hw hh
    intro a ha j u hj
    cases ha
    rw [Addr.add_mk]
    simp only [cellsOf, List.getElem?_map, Option.map_eq_some_iff] at hj
    obtain ⟨x', hx', rfl⟩ := hj
    exact hcc j x' hx'
end Go.Kg

set_option linter.unusedSimpArgs false
set_option linter.unusedVariables false
set_option linter.unusedSectionVars false
namespace Go.Kg
open Go
/-- What is asked of the types. -/
structure TyV (P : Program) (E : Env) (V : EnvV) : Prop where
  rs : TyRs P E
  ws : TyWs P E
  kB : kindOf P E.tB = .scl
  uB : P.underlying E.tB = some .bool
  kI32 : kindOf P E.tI32 = .scl
  kI8 : kindOf P E.tI8 = .scl
  kI64 : kindOf P E.tI64 = .scl
  iI8 : intKind? P E.tI8 = some .i8
  kOc : kindOf P V.t_impl_Octets = .agg 2
  kIH : kindOf P V.t_impl_Header = .agg 3
  kIR : kindOf P V.t_impl_Record = .agg 9
  kKH : kindOf P V.t_kmsg_Header = .agg 2
  kKR : kindOf P V.t_kmsg_Record = .agg 8
  kLI : kindOf P V.t_l_impl_Header = .scl
  kLK : kindOf P V.t_l_kmsg_Header = .scl
  oc0 : fldOff P V.t_impl_Octets 0 = some 0
  oc1 : fldOff P V.t_impl_Octets 1 = some 1
  ih0 : fldOff P V.t_impl_Header 0 = some 0
  ih1 : fldOff P V.t_impl_Header 1 = some 1
  ir0 : fldOff P V.t_impl_Record 0 = some 0
  ir1 : fldOff P V.t_impl_Record 1 = some 1
  ir2 : fldOff P V.t_impl_Record 2 = some 2
  ir3 : fldOff P V.t_impl_Record 3 = some 3
  ir4 : fldOff P V.t_impl_Record 4 = some 4
  ir5 : fldOff P V.t_impl_Record 5 = some 6
  ir6 : fldOff P V.t_impl_Record 6 = some 8
  kh0 : fldOff P V.t_kmsg_Header 0 = some 0
  kh1 : fldOff P V.t_kmsg_Header 1 = some 1
  kr0 : fldOff P V.t_kmsg_Record 0 = some 0
  kr1 : fldOff P V.t_kmsg_Record 1 = some 1
  kr2 : fldOff P V.t_kmsg_Record 2 = some 2
  kr3 : fldOff P V.t_kmsg_Record 3 = some 3
  kr4 : fldOff P V.t_kmsg_Record 4 = some 4
  kr5 : fldOff P V.t_kmsg_Record 5 = some 5
  kr6 : fldOff P V.t_kmsg_Record 6 = some 6
  kr7 : fldOff P V.t_kmsg_Record 7 = some 7
  sI : SliI P V.t_l_impl_Header V.t_impl_Header 3 48 (.agg #[.string ⟨#[]⟩, .bool false, .slice none 0 0])
  sK : SliI P V.t_l_kmsg_Header V.t_kmsg_Header 2 40 (.agg #[.string ⟨#[]⟩, .slice none 0 0])
  zOc : zeroOf P V.t_impl_Octets = some (.agg #[.bool false, .slice none 0 0])
  zIR : zeroOf P V.t_impl_Record = some (.agg #[.int .i32 0, .int .i8 0, .int .i64 0, .int .i32 0, .bool false, .slice none 0 0, .bool false, .slice none 0 0, .slice none 0 0])
  zIH : zeroOf P V.t_impl_Header = some (.agg #[.string ⟨#[]⟩, .bool false, .slice none 0 0])
  zKR : zeroOf P V.t_kmsg_Record = some (.agg #[.int .i32 0, .int .i8 0, .int .i32 0, .int .i64 0, .int .i32 0, .slice none 0 0, .slice none 0 0, .slice none 0 0])
  zKH : zeroOf P V.t_kmsg_Header = some (.agg #[.string ⟨#[]⟩, .slice none 0 0])
  plOc : places P V.t_impl_Octets = some [(0, 1), (1, 1)]
  plIH : places P V.t_impl_Header = some [(0, 1), (1, 2)]
  plKH : places P V.t_kmsg_Header = some [(0, 1), (1, 1)]
  plIR : places P V.t_impl_Record = some [(0, 1), (1, 1), (2, 1), (3, 1), (4, 2), (6, 2), (8, 1)]
  plKR : places P V.t_kmsg_Record = some [(0, 1), (1, 1), (2, 1), (3, 1), (4, 1), (5, 1), (6, 1), (7, 1)]
  uIR : ∃ fs, P.underlying V.t_impl_Record = some (.struct fs)
  uErr : ∃ ms, P.underlying E.tErr = some (.interface ms)
structure IRec (w : World) (K : Nat → Prop) (cs : List Value) (r : RecV) : Prop where
  ex : ∃ kn kd vn vd hv, cs = [.int .i32 r.len, .int .i8 r.attr, .int .i64 r.delta, .int .i32 r.off, kn, kd, vn, vd, hv] ∧ OcAt w K kn kd r.key ∧ OcAt w K vn vd r.val ∧ LsAt w K 3 (IHd w K) hv r.hs
theorem IRec.ext {C K : Nat → Prop} {w w' : World} {cs : List Value} {r : RecV} (h : IRec w K cs r) (he : Ext C w w') (hD : ∀ b, b < w.heap.size → K b → ¬ C b) : IRec w' K cs r := by
  obtain ⟨kn, kd, vn, vd, hv, h1, h2, h3, h4⟩ := h.ex
  exact ⟨kn, kd, vn, vd, hv, h1, h2.ext he hD, h3.ext he hD, LsAt.ext (R := fun w => IHd w K) (by omega) h4 he (fun cs x h => h.ext he hD) hD⟩
theorem flat_take_le (hs : List HdV) (i : Nat) : ((hs.take i).flatMap hdW).length ≤ (hs.flatMap hdW).length := by
  have := congrArg List.length (congrArg (List.flatMap hdW) (List.take_append_drop i hs))
  rw [List.flatMap_append, List.length_append] at this
  omega
theorem flat_snoc {hs : List HdV} {i : Nat} {h : HdV} (hx : hs[i]? = some h) : (hs.take (i + 1)).flatMap hdW = (hs.take i).flatMap hdW ++ hdW h := by
  rw [List.take_add_one, hx]; simp
theorem cellsFrom_blk {w : World} {b : Nat} {cur : Array Value} {t : TypeId} {fz : Nat × Nat} (hb : w.heap[b]? = some (.cells cur t fz)) (o n : Nat) (h : o + n ≤ cur.size) : cellsFrom w ⟨b, o, none⟩ 0 n = some ((cur.toList.drop o).take n) := by
  have hl : ((cur.toList.drop o).take n).length = n := by simp; omega
  have := cellsFrom_list (w := w) ((cur.toList.drop o).take n) b o 0 (fun j u hj => by
    rw [cell_of_blk hb]
    rw [List.getElem?_take] at hj
    split at hj
    · rw [List.getElem?_drop] at hj; simpa using hj
    · cases hj)
  rwa [hl] at this
section
variable {P : Program} {E : Env} {V : EnvV} (ht : TyV P E V)
include ht
theorem c_STurned (hI : FnIs P V.f_spec_Turned nt_spec_Turned (rs_spec_Turned E V) (ir_spec_Turned E V)) {n : Int} (h0 : -9223372036854775808 ≤ n) (h1 : n < 9223372036854775808) (w : World) :
    Ret P V.f_spec_Turned #[.int .i64 n] w fun v w' => v = .int .u64 (zz n) ∧ w' = w := by
  refine hI.call (args := [_]) (by simp [nt_spec_Turned]) ?_
  have e := zz64 h0 h1
  simp [ir_spec_Turned, rs_spec_Turned, ht.ws.iI64, ht.ws.iU64, IntKind.bits, bin?, e]
theorem c_SVarint (hI : FnIs P V.f_spec_Varint nt_spec_Varint (rs_spec_Varint E V) (ir_spec_Varint E V))
    (hT : ∀ n : Int, -9223372036854775808 ≤ n → n < 9223372036854775808 → ∀ w, Ret P V.f_spec_Turned #[.int .i64 n] w fun v w' => v = .int .u64 (zz n) ∧ w' = w)
    (hU : ∀ n : Nat, n < 18446744073709551616 → SpC P E.tU8 E.f_spec_Uvarint [.int .u64 n] (uvS n)) {n : Int} (h0 : -9223372036854775808 ≤ n) (h1 : n < 9223372036854775808) :
    SpC P E.tU8 V.f_spec_Varint [.int .i64 n] (vW n) := by
  intro w
  refine hI.call (args := [_]) (by simp [nt_spec_Varint]) ?_
  simp [ir_spec_Varint, rs_spec_Varint]
  refine (hT n h0 h1 w).mono ?_
  rintro v w1 ⟨rfl, rfl⟩
  exact hU (zz n) (zz_lt64 h0 h1) _
def SVarC (P : Program) (E : Env) (V : EnvV) : Prop := ∀ n : Int, -9223372036854775808 ≤ n → n < 9223372036854775808 → SpC P E.tU8 V.f_spec_Varint [.int .i64 n] (vW n)
def SOcC (P : Program) (E : Env) (V : EnvV) : Prop := ∀ w K n d o, OcAt w K n d o → (ocW o).length ≤ 1099511627776 → Ret P V.f_spec_OctetsBytes #[.agg #[n, d]] w fun v w' => Fresh E.tU8 w v w' (ocW o)
theorem c_SOctets (hI : FnIs P V.f_spec_OctetsBytes nt_spec_OctetsBytes (rs_spec_OctetsBytes E V) (ir_spec_OctetsBytes E V)) (hV : SVarC P E V) : SOcC P E V := by
  rintro w K n d o ⟨b, l, rfl, hd, ho⟩ hsz
  obtain ⟨a, c, rfl, hc⟩ := hd.len
  refine hI.call (args := [_]) (by simp [nt_spec_OctetsBytes]) ?_
  have hcs : (Value.agg #[.bool b, .slice a l.length c]).cells = #[.bool b, .slice a l.length c] := rfl
  simp [ir_spec_OctetsBytes, rs_spec_OctetsBytes, hcs]
  generalize hw1 : w.alloc (.cells #[.bool b, .slice a l.length c] V.t_impl_Octets) = w1
  have hE : Ext none1 w w1 := by subst hw1; exact (Ext.refl none1 w).alloc _
  have hb1 : w1.heap[w.heap.size]? = some (.cells #[.bool b, .slice a l.length c] V.t_impl_Octets (0, 0)) := by subst hw1; exact alloc_new
  have c0 : w1.cell? ⟨w.heap.size, 0, none⟩ = some (.bool b) := by rw [cell_of_blk hb1]; rfl
  have c1 : w1.cell? ⟨w.heap.size, 1, none⟩ = some (.slice a l.length c) := by rw [cell_of_blk hb1]; rfl
  simp [ht.oc0, Addr.add_mk, ld_scl ht.kB, c0]
  cases b with
  | true =>
    have ho' : o = none := by simpa using ho
    subst ho'
    refine cw_true (by simp) ?_
    simp
    refine (hV (-1) (by omega) (by omega) w1).mono ?_
    intro v w2 h
    exact Fresh.pre hE h
  | false =>
    have ho' : o = some l := by simpa using ho
    subst ho'
    refine cw_false (by simp) ?_
    simp
    have r1 : ∀ w', Ext none1 w1 w' → w'.cell? ⟨w.heap.size, 1, none⟩ = some (.slice a l.length c) := fun w' h => h.cell c1 (fun h => h)
    refine cw_regH (Ext none1 w1) (Ext.refl none1 w1).drew ?_
    have hD := (Ext.refl none1 w1).drew
    simp [ocW] at hsz
    simp +contextual [ht.oc1, Addr.add_mk, ld_scl ht.rs.kBs, c1, r1, len_slice ht.rs.uBs]
    refine (hV l.length (by omega) (by omega) w1.drew).mono ?_
    intro v w2 h
    have h3 := hD.trans h.2
    simp [h3]
    refine st_app_bytes ht.ws.sBs (by simp) h.1 h.2.size ((hd.ext (hE.trans h3) (K := K) (by simp [none1]))) (by omega) ?_
    intro v' w' k1 k2
    have h4 := Fresh.grow h k1 k2
    refine ⟨hD.trans h4.2, ?_⟩
    exact Fresh.pre (hE.trans hD) h4
theorem c_SHeader (hI : FnIs P V.f_spec_HeaderBytes nt_spec_HeaderBytes (rs_spec_HeaderBytes E V) (ir_spec_HeaderBytes E V)) (hV : SVarC P E V) (hO : SOcC P E V) : ∀ w K cs h, IHd w K cs h → (hdW h).length ≤ 1099511627776 →
    Ret P V.f_spec_HeaderBytes #[.agg cs.toArray] w fun v w' => Fresh E.tU8 w v w' (hdW h) := by
  rintro w K cs h ⟨n, d, rfl, ho⟩ hsz
  have ho0 := ho
  obtain ⟨b, l, rfl, hd, _⟩ := ho0
  obtain ⟨a, c, rfl, hc⟩ := hd.len
  refine hI.call (args := [_]) (by simp [nt_spec_HeaderBytes]) ?_
  have hcs : (Value.agg #[strV h.1, .bool b, .slice a l.length c]).cells = #[strV h.1, .bool b, .slice a l.length c] := rfl
  simp [ir_spec_HeaderBytes, rs_spec_HeaderBytes, hcs]
  generalize hw1 : w.alloc (.cells #[strV h.1, .bool b, .slice a l.length c] V.t_impl_Header) = w1
  have hE : Ext none1 w w1 := by subst hw1; exact (Ext.refl none1 w).alloc _
  have hb1 : w1.heap[w.heap.size]? = some (.cells #[strV h.1, .bool b, .slice a l.length c] V.t_impl_Header (0, 0)) := by subst hw1; exact alloc_new
  have c0 : w1.cell? ⟨w.heap.size, 0, none⟩ = some (.string ⟨h.1.toArray⟩) := by rw [cell_of_blk hb1]; rfl
  have r0 : ∀ w', Ext none1 w1 w' → w'.cell? ⟨w.heap.size, 0, none⟩ = some (.string ⟨h.1.toArray⟩) := fun w' h => h.cell c0 (fun h => h)
  refine cw_regH (Ext none1 w1) (Ext.refl none1 w1).drew ?_
  have hD := (Ext.refl none1 w1).drew
  simp [hdW, vsW] at hsz
  simp +contextual [ht.ih0, Addr.add_mk, ld_scl ht.rs.kS, c0, r0, len_str ht.rs.uS]
  refine (hV h.1.length (by omega) (by omega) w1.drew).mono ?_
  intro v w2 hf
  have h3 := hD.trans hf.2
  simp [h3]
  refine st_app_str ht.ws.sBs ht.rs.uS (by simp) hf.1 hf.2.size (bs := ⟨h.1.toArray⟩) (by simp) (by simp; omega) ?_
  intro v' w' k1 k2
  simp only [bts_mk] at k1
  have h4 := Fresh.grow hf k1 k2
  have h5 := Fresh.pre hD h4
  refine ⟨h5.2, ?_⟩
  have hx : cellsFrom w' ⟨w.heap.size, 1, none⟩ 0 2 = some [.bool b, .slice a l.length c] := by
    have hb2 := h5.2.old hb1 (fun h => h)
    refine cellsFrom_list (w := w') [.bool b, .slice a l.length c] w.heap.size 1 0 ?_
    intro j u hj
    rw [cell_of_blk hb2]
    rcases j with _ | _ | j <;> simp at hj <;> subst hj <;> rfl
  simp [ht.ih1, Addr.add_mk, ld_agg ht.kOc, hx]
  refine (hO w' K _ _ h.2 (ho.ext (hE.trans h5.2) (by simp [none1])) (by omega)).mono ?_
  intro v3 w3 g
  refine st_app_bytes ht.ws.sBs (by simp) (h5.post g.2).1 (h5.post g.2).2.size (k := All) (bs := ocW h.2) (by simpa using own_bytes g.1) (by simp; omega) ?_
  intro v4 w4 k3 k4
  have h6 := Fresh.grow (h5.post g.2) k3 k4
  have := Fresh.pre hE h6
  simpa [hdW, vsW] using this
def SHdC (P : Program) (E : Env) (V : EnvV) : Prop := ∀ w K cs h, IHd w K cs h → (hdW h).length ≤ 1099511627776 → Ret P V.f_spec_HeaderBytes #[.agg cs.toArray] w fun v w' => Fresh E.tU8 w v w' (hdW h)
/-- what holds in the loop over headers -/
def RestInv (u8 : Nat) (w : World) (hv : Value) (hs : List HdV) (pre : List UInt8) (f : Nat → Value) (w' : World) : Prop :=
  ∃ i s, i ≤ hs.length ∧ s = pre ++ (hs.take i).flatMap hdW ∧ f 39 = .int .i64 i ∧ f 38 = .int .i64 hs.length ∧ f 37 = hv ∧ Fresh u8 w (f 3) w' s
end
section
variable {P : Program} {E : Env} {V : EnvV} (ht : TyV P E V)
include ht
def RestSt (P : Program) (E : Env) (V : EnvV) (w1 : World) (b : Nat) (s : List UInt8) (f : Nat → Value) (w' : World) : Prop := f 1 = .pointer (some ⟨b, 0, none⟩) ∧ Fresh E.tU8 w1 (f 3) w' s
set_option maxHeartbeats 1000000 in
theorem c_SRest (hI : FnIs P V.f_spec_RecordRest nt_spec_RecordRest (rs_spec_RecordRest E V) (ir_spec_RecordRest E V)) (hV : SVarC P E V) (hO : SOcC P E V) (hH : SHdC P E V) : ∀ w K cs r, IRec w K cs r → r.fit → (restW r).length ≤ 1099511627776 →
    Ret P V.f_spec_RecordRest #[.agg cs.toArray] w fun v w' => Fresh E.tU8 w v w' (restW r) := by
  rintro w K cs r ⟨kn, kd, vn, vd, hv, rfl, hk, hvl, hh⟩ hfit hsz
  refine hI.call (args := [_]) (by simp [nt_spec_RecordRest]) ?_
  generalize hcur : #[Value.int .i32 r.len, .int .i8 r.attr, .int .i64 r.delta, .int .i32 r.off, kn, kd, vn, vd, hv] = cur
  have hcs : (Value.agg [Value.int .i32 r.len, .int .i8 r.attr, .int .i64 r.delta, .int .i32 r.off, kn, kd, vn, vd, hv].toArray).cells = cur := hcur
  simp only [ir_spec_RecordRest, rs_spec_RecordRest, cw_seq]
  simp [hcs]
  have hcc : (Value.agg cur).cells = cur := rfl
  simp only [hcc]
  generalize hw1 : w.alloc (.cells cur V.t_impl_Record) = w1
  have hE : Ext none1 w w1 := by subst hw1; exact (Ext.refl none1 w).alloc _
  have hb1 : w1.heap[w.heap.size]? = some (.cells cur V.t_impl_Record (0, 0)) := by subst hw1; exact alloc_new
  have hD := (Ext.refl none1 w1).drew
  have cl : ∀ (i : Nat) (u : Value), cur[i]? = some u → ∀ w', Ext none1 w1 w' → w'.cell? ⟨w.heap.size, i, none⟩ = some u := by
    intro i u hu w' he
    rw [cell_of_blk (he.old hb1 (fun h => h))]; exact hu
  have k1 := cl 1 (.int .i8 r.attr) (by rw [← hcur]; rfl)
  have k2 := cl 2 (.int .i64 r.delta) (by rw [← hcur]; rfl)
  have k3 := cl 3 (.int .i32 r.off) (by rw [← hcur]; rfl)
  have k8 := cl 8 hv (by rw [← hcur]; rfl)
  have cf : ∀ (o n : Nat), o + n ≤ 9 → ∀ w', Ext none1 w1 w' → cellsFrom w' ⟨w.heap.size, o, none⟩ 0 n = some ((cur.toList.drop o).take n) := fun o n h w' he => cellsFrom_blk (he.old hb1 (fun h => h)) o n (by rw [← hcur]; exact h)
  have x4 : ∀ w', Ext none1 w1 w' → cellsFrom w' ⟨w.heap.size, 4, none⟩ 0 2 = some [kn, kd] := fun w' he => by rw [cf 4 2 (by omega) w' he, ← hcur]; rfl
  have x6 : ∀ w', Ext none1 w1 w' → cellsFrom w' ⟨w.heap.size, 6, none⟩ 0 2 = some [vn, vd] := fun w' he => by rw [cf 6 2 (by omega) w' he, ← hcur]; rfl
  have hb8 : bval r.attr = UInt8.ofNat (r.attr % 256).toNat := rfl
  simp [restW] at hsz
  -- the first region
  refine cw_then (RestSt P E V w1 w.heap.size ([bval r.attr] ++ vW r.delta)) ?_ ?_
  · refine cw_regT (Ext none1 w1) hD ?_
    simp +contextual [ht.ir1, ht.ir2, Addr.add_mk, ld_scl ht.kI8, ld_scl ht.kI64, k1, k2, hD, k1 w1 (Ext.refl _ _), k2 w1 (Ext.refl _ _), ht.iI8, ht.ws.iU8, st_bsl ht.ws.sBs, denseFrom, allSz, flat, Value.cells]
    refine ⟨⟨hD.alloc _, ?_⟩, ?_⟩
    · have hl := fresh_lit (u8 := E.tU8) (w := w1.drew) (bs := [bval r.attr]) (cs := #[.int .u8 (IntKind.u8.wrap r.attr)]) (by simp [cellsOf, u8wrap]) (by simp)
      refine (hV r.delta hfit.delta.1 hfit.delta.2 _).mono ?_
      intro v w2 hf
      have h2 := hl.post hf.2
      refine ⟨hD.trans h2.2, ?_⟩
      refine st_app_bytes ht.ws.sBs (by simp) h2.1 h2.2.size (k := All) (bs := vW r.delta) (by simpa using own_bytes hf.1) (by simp; omega) ?_
      intro v' w' a b
      have h3 := Fresh.pre hD (Fresh.grow h2 a b)
      exact ⟨h3.2, by simp, by simpa using h3⟩
    · refine (hV r.delta hfit.delta.1 hfit.delta.2 _).mono ?_
      intro v w2 hf
      have he2 := hD.trans hf.2
      have hl := fresh_lit (u8 := E.tU8) (w := w2) (bs := [bval r.attr]) (cs := #[.int .u8 (IntKind.u8.wrap r.attr)]) (by simp [cellsOf, u8wrap]) (by simp)
      refine ⟨he2, he2.alloc _, ?_⟩
      refine st_app_bytes ht.ws.sBs (by simp) hl.1 hl.2.size (k := All) (bs := vW r.delta) (by simpa using own_bytes (hf.post hl.2).1) (by simp; omega) ?_
      intro v' w' a b
      have h3 := Fresh.pre he2 (Fresh.grow hl a b)
      exact ⟨h3.2, by simp, by simpa using h3⟩
  -- the offset
  rintro f w2 ⟨f1, hf⟩
  rw [cw_seq]
  refine cw_then (RestSt P E V w1 w.heap.size ([bval r.attr] ++ vW r.delta ++ vW r.off)) ?_ ?_
  · simp [f1, ht.ir3, Addr.add_mk, ld_scl ht.kI32, k3 w2 hf.2, ht.ws.iI32, ht.ws.iI64, i64_small (n := r.off) (by have := hfit.off; omega) (by have := hfit.off; omega)]
    refine (hV r.off (by have := hfit.off; omega) (by have := hfit.off; omega) _).mono ?_
    intro v w3 g
    refine st_app_bytes ht.ws.sBs (by simp) (hf.post g.2).1 (hf.post g.2).2.size (k := All) (bs := vW r.off) (by simpa using own_bytes g.1) (by simp; omega) ?_
    intro v' w' a b
    exact ⟨by simp [f1], by simpa using Fresh.grow (hf.post g.2) a b⟩
  rintro f w2 ⟨f1, hf⟩
  rw [cw_seq]
  refine cw_then (RestSt P E V w1 w.heap.size ([bval r.attr] ++ vW r.delta ++ vW r.off ++ ocW r.key)) ?_ ?_
  · simp [f1, ht.ir4, Addr.add_mk, ld_agg ht.kOc, x4 w2 hf.2]
    refine (hO w2 K _ _ r.key (hk.ext (hE.trans hf.2) (by simp [none1])) (by omega)).mono ?_
    intro v w3 g
    refine st_app_bytes ht.ws.sBs (by simp) (hf.post g.2).1 (hf.post g.2).2.size (k := All) (bs := ocW r.key) (by simpa using own_bytes g.1) (by simp; omega) ?_
    intro v' w' a b
    exact ⟨by simp [f1], by simpa using Fresh.grow (hf.post g.2) a b⟩
  rintro f w2 ⟨f1, hf⟩
  rw [cw_seq]
  refine cw_then (RestSt P E V w1 w.heap.size ([bval r.attr] ++ vW r.delta ++ vW r.off ++ ocW r.key ++ ocW r.val)) ?_ ?_
  · simp [f1, ht.ir5, Addr.add_mk, ld_agg ht.kOc, x6 w2 hf.2]
    refine (hO w2 K _ _ r.val (hvl.ext (hE.trans hf.2) (by simp [none1])) (by omega)).mono ?_
    intro v w3 g
    refine st_app_bytes ht.ws.sBs (by simp) (hf.post g.2).1 (hf.post g.2).2.size (k := All) (bs := ocW r.val) (by simpa using own_bytes g.1) (by simp; omega) ?_
    intro v' w' a b
    exact ⟨by simp [f1], by simpa using Fresh.grow (hf.post g.2) a b⟩
  rintro f w2 ⟨f1, hf⟩
  rw [cw_seq]
  obtain ⟨ah, ch, rfl, hch⟩ := hh.len
  have hn := hfit.hn
  refine cw_then (RestSt P E V w1 w.heap.size ([bval r.attr] ++ vW r.delta ++ vW r.off ++ ocW r.key ++ ocW r.val ++ vW r.hs.length)) ?_ ?_
  · simp [f1, ht.ir6, Addr.add_mk, ld_scl ht.kLI, k8 w2 hf.2, len_slice ht.sI.und]
    refine (hV r.hs.length (by omega) (by omega) _).mono ?_
    intro v w3 g
    refine st_app_bytes ht.ws.sBs (by simp) (hf.post g.2).1 (hf.post g.2).2.size (k := All) (bs := vW r.hs.length) (by simpa using own_bytes g.1) (by simp; omega) ?_
    intro v' w' a b
    exact ⟨by simp [f1], by simpa using Fresh.grow (hf.post g.2) a b⟩
  rintro f w2 ⟨f1, hf⟩
  rw [cw_seq]
  refine cw_then (fun f w' => Fresh E.tU8 w1 (f 3) w' (restW r)) ?_ ?_
  · simp [f1, ht.ir6, Addr.add_mk, ld_scl ht.kLI, k8 w2 hf.2, len_slice ht.sI.und]
    refine cw_loop (RestInv E.tU8 w1 (.slice ah r.hs.length ch) r.hs ([bval r.attr] ++ vW r.delta ++ vW r.off ++ ocW r.key ++ ocW r.val ++ vW r.hs.length)) (fun f _ => match f 39 with | .int _ i => ((r.hs.length : Int) - i).toNat | _ => 0) ⟨0, _, by omega, rfl, by simp, by simp, by simp, by simpa using hf⟩ ?_
    rintro f w3 ⟨i, s, hi, rfl, h39, h38, h37, hf3⟩
    simp [h39, h38]
    by_cases hlt : i < r.hs.length
    rotate_left
    · refine cw_false (by simp; omega) ?_
      simp
      have : i = r.hs.length := by omega
      subst this
      simpa [restW] using hf3
    refine cw_true (by simp; omega) ?_
    obtain ⟨x, hx⟩ : ∃ x, r.hs[i]? = some x := ⟨_, List.getElem?_eq_getElem hlt⟩
    obtain ⟨bb, oo, cc, cs, hvv, _, _, hcl, hcx0, hrel⟩ := hh.get hx
    cases hvv
    have hE3 := hE.trans hf3.2
    have hcx := cellsFrom_list0 (hcx0.extV (C := none1) hE3 (fun _ h => h))
    rw [hcl] at hcx
    have hrel3 := hrel.ext hE3 (by simp [none1])
    have hrel0 := hrel
    obtain ⟨n, d, rfl, b, l, rfl, hd, _⟩ := hrel0
    obtain ⟨ad, cd, rfl, _⟩ := hd.len
    have ho2 : allOne [strV x.1, .bool b, .slice ad l.length cd] = true := rfl
    have hzc : (Value.agg #[.string ⟨#[]⟩, .bool false, .slice none 0 0]).cells = #[.string ⟨#[]⟩, .bool false, .slice none 0 0] := rfl
    have hov : over #[Value.string ⟨#[]⟩, .bool false, .slice none 0 0] 0 [strV x.1, .bool b, .slice ad l.length cd] = #[strV x.1, .bool b, .slice ad l.length cd] := rfl
    simp [h39, h37, idx?, ht.sI.siz, hlt, Addr.add_mk, ld_agg ht.kIH, hcx, ht.zIH, hzc, store_agg ht.kIH, ho2, putK_blk alloc_new, hov]
    generalize hw4 : (w3.alloc (.cells #[.string ⟨#[]⟩, .bool false, .slice none 0 0] V.t_impl_Header)).setBlk w3.heap.size (.cells #[strV x.1, .bool b, .slice ad l.length cd] V.t_impl_Header (0, 0)) = w4
    have hb4 : w4.heap[w3.heap.size]? = some (.cells #[strV x.1, .bool b, .slice ad l.length cd] V.t_impl_Header (0, 0)) := by subst hw4; exact setBlk_same alloc_new
    have hx4 : Ext none1 w3 w4 := by subst hw4; exact ((Ext.refl none1 w3).alloc _).setBlk (.inl (Nat.le_refl _)) _
    have hcf4 : cellsFrom w4 ⟨w3.heap.size, 0, none⟩ 0 3 = some [strV x.1, .bool b, .slice ad l.length cd] := cellsFrom_blk hb4 0 3 (by simp)
    have hsn := flat_snoc hx
    have hle := flat_take_le r.hs (i + 1)
    rw [hsn] at hle
    simp only [List.length_append] at hle
    have hsum : (List.flatMap hdW r.hs).length = (List.map (fun a => (hdW a).length) r.hs).sum := by simp
    simp [hcf4]
    refine (hH w4 K _ x (hrel3.ext hx4 (by simp [none1])) (by omega)).mono ?_
    intro v w5 g
    have hf5 := (hf3.post hx4).post g.2
    refine st_app_bytes ht.ws.sBs (by simp) hf5.1 hf5.2.size (k := All) (bs := hdW x) (by simpa using own_bytes g.1) (by simp at hle ⊢; omega) ?_
    intro v' w' a b
    have h6 := Fresh.grow hf5 a b
    have hwr : IntKind.i64.wrap ((i : Int) + 1) = (i : Int) + 1 := i64_small (by omega) (by omega)
    refine ⟨⟨i + 1, _, by omega, rfl, by simp [hwr], by simp [h38], by simp [h37], ?_⟩, by rw [hwr]; omega⟩
    rw [hsn]
    simpa using h6
  · intro f w3 hf3
    simp
    exact Fresh.pre hE hf3
end
end Go.Kg

set_option linter.unusedVariables false
namespace Go.Kg
open Go
end Go.Kg

set_option linter.unusedSimpArgs false
set_option linter.unusedVariables false
namespace Go.Kg
open Go
def SomeB (w : World) (u : Value) (w' : World) : Prop := (∃ b, u = .bool b) ∧ Ext none1 w w'
section
variable {P : Program} {E : Env} (ht : TyF P E)
include ht
end
end Go.Kg

set_option linter.unusedSimpArgs false
set_option linter.unusedVariables false
set_option linter.unusedSectionVars false
namespace Go.Kg
open Go
def SRestC (P : Program) (E : Env) (V : EnvV) : Prop := ∀ w K cs r, IRec w K cs r → r.fit → (restW r).length ≤ 1099511627776 → Ret P V.f_spec_RecordRest #[.agg cs.toArray] w fun v w' => Fresh E.tU8 w v w' (restW r)
/-- a box of a record -/
theorem box_rec {w w1 : World} {cur : Array Value} {t : TypeId} (hw1 : w.alloc (.cells cur t) = w1) : Ext none1 w w1 ∧ w1.heap[w.heap.size]? = some (.cells cur t (0, 0)) := by
  subst hw1; exact ⟨(Ext.refl none1 w).alloc _, alloc_new⟩
section
variable {P : Program} {E : Env} {V : EnvV} (ht : TyV P E V)
include ht
theorem c_SRec (hI : FnIs P V.f_spec_RecordBytes nt_spec_RecordBytes (rs_spec_RecordBytes E V) (ir_spec_RecordBytes E V)) (hV : SVarC P E V) (hR : SRestC P E V) : ∀ w K cs r, IRec w K cs r → r.fit → (recW r).length ≤ 1099511627776 →
    Ret P V.f_spec_RecordBytes #[.agg cs.toArray] w fun v w' => Fresh E.tU8 w v w' (recW r) := by
  intro w K cs r hr hfit hsz
  have hr0 := hr
  obtain ⟨kn, kd, vn, vd, hv, rfl, hk, hvl, hh⟩ := hr0
  refine hI.call (args := [_]) (by simp [nt_spec_RecordBytes]) ?_
  generalize hcur : [Value.int .i32 r.len, .int .i8 r.attr, .int .i64 r.delta, .int .i32 r.off, kn, kd, vn, vd, hv] = cs at hr ⊢
  have hcc : (Value.agg cs.toArray).cells = cs.toArray := rfl
  have hlen := hfit.len
  simp [ir_spec_RecordBytes, rs_spec_RecordBytes, hcc]
  generalize hw1 : w.alloc (.cells cs.toArray V.t_impl_Record) = w1
  obtain ⟨hE, hb1⟩ := box_rec hw1
  have hD := (Ext.refl none1 w1).drew
  have k0 : ∀ w', Ext none1 w1 w' → w'.cell? ⟨w.heap.size, 0, none⟩ = some (.int .i32 r.len) := fun w' he => by rw [cell_of_blk (he.old hb1 (fun h => h)), ← hcur]; rfl
  have x0 : ∀ w', Ext none1 w1 w' → cellsFrom w' ⟨w.heap.size, 0, none⟩ 0 9 = some cs := fun w' he => by rw [cellsFrom_blk (he.old hb1 (fun h => h)) 0 9 (by rw [← hcur]; simp), ← hcur]; rfl
  have hd9 : w1.drew.cell? ⟨w.heap.size, 0, none⟩ = some (.int .i32 r.len) := k0 _ hD
  have hx9 : cellsFrom w1.drew ⟨w.heap.size, 0, none⟩ 0 9 = some cs := x0 _ hD
  refine cw_regH (Ext none1 w1) hD ?_
  simp [recW] at hsz
  simp +contextual [ht.ir0, Addr.add_mk, ld_scl ht.kI32, ld_agg ht.kIR, k0, x0, k0 w1 (Ext.refl _ _), hx9, ht.ws.iI32, ht.ws.iI64, i64_small (n := r.len) (by omega) (by omega), hD]
  refine (hV r.len (by omega) (by omega) w1.drew).mono ?_
  intro v w2 g
  have he2 := hD.trans g.2
  refine ⟨he2, ?_⟩
  refine (hR w2 K cs r (hr.ext (hE.trans he2) (by simp [none1])) hfit (by omega)).mono ?_
  intro u w3 g2
  refine ⟨he2.trans g2.2, ?_⟩
  refine st_app_bytes ht.ws.sBs (by simp) (g.post g2.2).1 (g.post g2.2).2.size (k := All) (bs := restW r) (by simpa using own_bytes g2.1) (by omega) ?_
  intro v' w' a b
  have h3 := Fresh.pre hD (Fresh.grow (g.post g2.2) a b)
  refine ⟨h3.2, ?_⟩
  have := Fresh.pre hE h3
  simpa [recW] using this
theorem c_SMeas (hI : FnIs P V.f_spec_Measured nt_spec_Measured (rs_spec_Measured E V) (ir_spec_Measured E V)) (hR : SRestC P E V) : ∀ w K cs r, IRec w K cs r → r.fit → (restW r).length < 2147483648 →
    Ret P V.f_spec_Measured #[.agg cs.toArray] w fun v w' => ∃ cs', v = .agg cs'.toArray ∧ IRec w' K cs' { r with len := (restW r).length } ∧ Ext none1 w w' := by
  intro w K cs r hr hfit hsz
  have hr0 := hr
  obtain ⟨kn, kd, vn, vd, hv, rfl, hk, hvl, hh⟩ := hr0
  refine hI.call (args := [_]) (by simp [nt_spec_Measured]) ?_
  generalize hcur : [Value.int .i32 r.len, .int .i8 r.attr, .int .i64 r.delta, .int .i32 r.off, kn, kd, vn, vd, hv] = cs at hr ⊢
  have hcc : (Value.agg cs.toArray).cells = cs.toArray := rfl
  simp [ir_spec_Measured, rs_spec_Measured, hcc, ht.zIR]
  have hzc : ∀ l : Array Value, (Value.agg l).cells = l := fun _ => rfl
  simp only [hzc]
  generalize hz : #[Value.int .i32 0, Value.int .i8 0, Value.int .i64 0, Value.int .i32 0, Value.bool false, Value.slice none 0 0, Value.bool false, Value.slice none 0 0, Value.slice none 0 0] = z
  have hzs : z.size = 9 := by rw [← hz]; rfl
  generalize hw1 : w.alloc (.cells cs.toArray V.t_impl_Record) = w1
  obtain ⟨hE, hb1⟩ := box_rec hw1
  have hs1 : w1.heap.size = w.heap.size + 1 := by rw [← hw1]; simp
  generalize hw2 : w1.alloc (.cells z V.t_impl_Record) = w2
  obtain ⟨hE2, hb2⟩ := box_rec hw2
  rw [hs1] at hb2
  have hs2 : w2.heap.size = w.heap.size + 2 := by rw [← hw2]; simp [hs1]
  have hb12 := hE2.old hb1 (fun h => h)
  have hcl : cs.length = 9 := by rw [← hcur]; rfl
  have x0 : cellsFrom w2 ⟨w.heap.size, 0, none⟩ 0 9 = some cs := by rw [cellsFrom_blk hb12 0 9 (by simp [hcl])]; simp [← hcl]
  simp [ld_agg ht.kIR, x0]
  refine (hR w2 K cs r (hr.ext (hE.trans hE2) (by simp [none1])) hfit (by omega)).mono ?_
  intro v w3 g
  obtain ⟨a3, c3, rfl, _⟩ := (own_bytes g.1).len
  have hb13 := g.2.old hb12 (fun h => h)
  have hb23 := g.2.old hb2 (fun h => h)
  have hl32 : IntKind.i32.wrap ((restW r).length : Int) = (restW r).length := i32_lenV hsz
  have hcs0 : cs.set 0 (.int .i32 (restW r).length) = [Value.int .i32 (restW r).length, .int .i8 r.attr, .int .i64 r.delta, .int .i32 r.off, kn, kd, vn, vd, hv] := by rw [← hcur]; rfl
  simp [len_slice ht.rs.uBs, ht.rs.iInt, ht.rs.iI32, hl32, ht.ir0, Addr.add_mk, store_scl ht.kI32, Value.oneCell', put1K_blk hb13, hcl, hcs0]
  generalize hcs' : [Value.int .i32 (restW r).length, .int .i8 r.attr, .int .i64 r.delta, .int .i32 r.off, kn, kd, vn, vd, hv] = cs'
  have hcl' : cs'.length = 9 := by rw [← hcs']; rfl
  generalize hw4 : w3.setBlk w.heap.size (.cells cs'.toArray V.t_impl_Record (0, 0)) = w4
  have hb14 : w4.heap[w.heap.size]? = some (.cells cs'.toArray V.t_impl_Record (0, 0)) := by rw [← hw4]; exact setBlk_same hb13
  have hb24 : w4.heap[w.heap.size + 1]? = some (.cells z V.t_impl_Record (0, 0)) := by rw [← hw4, setBlk_other (by omega)]; exact hb23
  have hE4 : Ext none1 w w4 := by rw [← hw4]; exact ((hE.trans hE2).trans g.2).setBlk (.inl (Nat.le_refl _)) _
  have hone : allOne cs' = true := by
    obtain ⟨b1, l1, rfl, hd1, _⟩ := hk
    obtain ⟨b2, l2, rfl, hd2, _⟩ := hvl
    obtain ⟨a1, c1, rfl, _⟩ := hd1.len
    obtain ⟨a2, c2, rfl, _⟩ := hd2.len
    obtain ⟨a3, c3, rfl, _⟩ := hh.len
    rw [← hcs']; rfl
  have x4 : cellsFrom w4 ⟨w.heap.size, 0, none⟩ 0 9 = some cs' := by rw [cellsFrom_blk hb14 0 9 (by simp [hcl'])]; simp [← hcl']
  have hov : over z 0 cs' = cs'.toArray := by
    have : z.toList.drop cs'.length = [] := by rw [hcl', ← hzs]; simp
    simp [over, this]
  simp [ld_agg ht.kIR, x4, store_agg ht.kIR, hcl', hone, putK_blk hb24, hzs, hov]
  generalize hw5 : w4.setBlk (w.heap.size + 1) (.cells cs'.toArray V.t_impl_Record (0, 0)) = w5
  have hb5 : w5.heap[w.heap.size + 1]? = some (.cells cs'.toArray V.t_impl_Record (0, 0)) := by rw [← hw5]; exact setBlk_same hb24
  have hE5 : Ext none1 w w5 := by rw [← hw5]; exact hE4.setBlk (.inl (by omega)) _
  have x5 : cellsFrom w5 ⟨w.heap.size + 1, 0, none⟩ 0 9 = some cs' := by rw [cellsFrom_blk hb5 0 9 (by simp [hcl'])]; simp [← hcl']
  simp [x5]
  refine ⟨⟨⟨kn, kd, vn, vd, hv, hcs'.symm, hk.ext hE5 (by simp [none1]), hvl.ext hE5 (by simp [none1]), LsAt.ext (R := fun w => IHd w K) (by omega) hh hE5 (fun cs x h => h.ext hE5 (by simp [none1])) (by simp [none1])⟩⟩, hE5⟩
theorem c_little (hI : FnIs P V.f_laws_little nt_laws_little (rs_laws_little E V) (ir_laws_little E V)) (hR : SRestC P E V) : ∀ w K cs r, IRec w K cs r → r.fit → (restW r).length ≤ 1099511627776 →
    Ret P V.f_laws_little #[.agg cs.toArray] w fun v w' => v = .bool (decide (r.hs.length ≤ 1000) && decide ((restW r).length ≤ 131072)) ∧ Ext none1 w w' := by
  intro w K cs r hr hfit hsz
  have hr0 := hr
  obtain ⟨kn, kd, vn, vd, hv, rfl, hk, hvl, hh⟩ := hr0
  refine hI.call (args := [_]) (by simp [nt_laws_little]) ?_
  obtain ⟨ah, ch, rfl, _⟩ := hh.len
  generalize hcur : [Value.int .i32 r.len, .int .i8 r.attr, .int .i64 r.delta, .int .i32 r.off, kn, kd, vn, vd, .slice ah r.hs.length ch] = cs at hr ⊢
  have hcc : (Value.agg cs.toArray).cells = cs.toArray := rfl
  have hcl : cs.length = 9 := by rw [← hcur]; rfl
  simp [ir_laws_little, rs_laws_little, hcc]
  generalize hw1 : w.alloc (.cells cs.toArray V.t_impl_Record) = w1
  obtain ⟨hE, hb1⟩ := box_rec hw1
  have k8 : w1.cell? ⟨w.heap.size, 8, none⟩ = some (.slice ah r.hs.length ch) := by rw [cell_of_blk hb1, ← hcur]; rfl
  have x0 : cellsFrom w1 ⟨w.heap.size, 0, none⟩ 0 9 = some cs := by rw [cellsFrom_blk hb1 0 9 (by simp [hcl])]; simp [← hcl]
  simp [ht.ir6, Addr.add_mk, ld_scl ht.kLI, k8, len_slice ht.sI.und, bin?]
  by_cases h1 : r.hs.length ≤ 1000
  · have h1' : (r.hs.length : Int) ≤ 1000 := by omega
    simp [h1', ld_agg ht.kIR, x0]
    refine (hR w1 K cs r (hr.ext hE (by simp [none1])) hfit hsz).mono ?_
    intro v w3 g
    obtain ⟨a3, c3, rfl, _⟩ := (own_bytes g.1).len
    simp [len_slice ht.rs.uBs, h1, h1']
    exact ⟨by omega, hE.trans g.2⟩
  · have h1' : ¬ (r.hs.length : Int) ≤ 1000 := by omega
    simp [h1, h1']
    exact hE
theorem c_zzFits8 (hI : FnIs P V.f_laws_zzFits8 nt_laws_zzFits8 (rs_laws_zzFits8 E V) (ir_laws_zzFits8 E V)) : ∀ w K n d o, OcAt w K n d o → Ret P V.f_laws_zzFits8 #[.agg #[n, d]] w (SomeB w) := by
  rintro w K n d o ⟨b, l, rfl, hd, _⟩
  obtain ⟨a, c, rfl, _⟩ := hd.len
  refine hI.call (args := [_]) (by simp [nt_laws_zzFits8]) ?_
  have hcc : (Value.agg #[.bool b, .slice a l.length c]).cells = #[.bool b, .slice a l.length c] := rfl
  simp [ir_laws_zzFits8, rs_laws_zzFits8, hcc]
  generalize hw1 : w.alloc (.cells #[.bool b, .slice a l.length c] V.t_impl_Octets) = w1
  obtain ⟨hE, hb1⟩ := box_rec hw1
  have c1 : w1.cell? ⟨w.heap.size, 1, none⟩ = some (.slice a l.length c) := by rw [cell_of_blk hb1]; rfl
  simp [ht.oc1, Addr.add_mk, ld_scl ht.rs.kBs, c1, len_slice ht.rs.uBs]
  refine cw_bool (c := decide ((2147483647 : Int) < l.length)) (by simp) ?_ ?_ <;> intro _ <;> simp <;> exact ⟨⟨_, rfl⟩, hE⟩
theorem c_zzFits7 (hI : FnIs P V.f_laws_zzFits7 nt_laws_zzFits7 (rs_laws_zzFits7 E V) (ir_laws_zzFits7 E V)) (h8 : ∀ w K n d o, OcAt w K n d o → Ret P V.f_laws_zzFits8 #[.agg #[n, d]] w (SomeB w)) : ∀ w K cs h, IHd w K cs h → Ret P V.f_laws_zzFits7 #[.agg cs.toArray] w (SomeB w) := by
  rintro w K cs h ⟨n, d, rfl, ho⟩
  refine hI.call (args := [_]) (by simp [nt_laws_zzFits7]) ?_
  have hcc : (Value.agg #[strV h.1, n, d]).cells = #[strV h.1, n, d] := rfl
  simp [ir_laws_zzFits7, rs_laws_zzFits7, hcc]
  generalize hw1 : w.alloc (.cells #[strV h.1, n, d] V.t_impl_Header) = w1
  obtain ⟨hE, hb1⟩ := box_rec hw1
  have c0 : w1.cell? ⟨w.heap.size, 0, none⟩ = some (.string ⟨h.1.toArray⟩) := by rw [cell_of_blk hb1]; rfl
  have x1 : cellsFrom w1 ⟨w.heap.size, 1, none⟩ 0 2 = some [n, d] := by rw [cellsFrom_blk hb1 1 2 (by simp)]; rfl
  simp [ht.ih0, Addr.add_mk, ld_scl ht.rs.kS, c0, len_str ht.rs.uS]
  refine cw_bool (c := decide ((2147483647 : Int) < h.1.length)) (by simp) ?_ ?_
  · intro _; simp; exact ⟨⟨_, rfl⟩, hE⟩
  intro _
  simp [ht.ih1, Addr.add_mk, ld_agg ht.kOc, x1]
  refine (h8 w1 K n d _ (ho.ext hE (by simp [none1]))).mono ?_
  rintro _ w2 ⟨⟨b, rfl⟩, he2⟩
  simp
  cases b
  · refine cw_true (by simp) ?_
    simp
    exact ⟨⟨_, rfl⟩, hE.trans he2⟩
  · refine cw_false (by simp) ?_
    simp
    exact ⟨⟨_, rfl⟩, hE.trans he2⟩
end
end Go.Kg

set_option linter.unusedSimpArgs false
set_option linter.unusedVariables false
set_option linter.unusedSectionVars false
namespace Go.Kg
open Go
def FzV (w : World) (hv : Value) (n : Nat) (f : Nat → Value) (w' : World) : Prop := ∃ i, i ≤ n ∧ f 10 = .int .i64 i ∧ f 9 = .int .i64 n ∧ f 8 = hv ∧ Ext none1 w w'
/-- a header is laid in a block of its own -/
theorem hd_zc : (Value.agg #[.string ⟨#[]⟩, .bool false, .slice none 0 0]).cells = #[.string ⟨#[]⟩, .bool false, .slice none 0 0] := rfl
theorem hd_over (a b c : Value) : over #[Value.string ⟨#[]⟩, .bool false, .slice none 0 0] 0 [a, b, c] = #[a, b, c] := rfl
theorem put_new {w w3 : World} {z : Array Value} {cs : Array Value} {t : TypeId} (h : (w.alloc (.cells z t)).setBlk w.heap.size (.cells cs t (0, 0)) = w3) : Ext none1 w w3 ∧ w3.heap[w.heap.size]? = some (.cells cs t (0, 0)) := by
  subst h; exact ⟨((Ext.refl none1 w).alloc _).setBlk (.inl (Nat.le_refl _)) _, setBlk_same alloc_new⟩
theorem regW_app {P : Program} {Q : (Nat → Value) → World → Prop} {l2 : List Ro} : ∀ (l1 : List Ro) (f : Nat → Value) (w : World), regW P Q (l1 ++ l2) f w = regW P (regW P Q l2) l1 f w
  | [], f, w => rfl
  | o :: r, f, w => by
    rw [List.cons_append, regW_cons, regW_cons]
    have e : ∀ f w, regW P Q (r ++ l2) f w = regW P (regW P Q l2) r f w := fun f w => regW_app r f w
    simp only [e]
theorem regW_cut {P : Program} {Q : (Nat → Value) → World → Prop} (n : Nat) (l : List Ro) (f : Nat → Value) (w : World) : regW P Q l f w = regW P (regW P Q (l.drop n)) (l.take n) f w := by
  rw [← regW_app, List.take_append_drop]
section
variable {P : Program} {E : Env} {V : EnvV} (ht : TyV P E V)
include ht
theorem c_zzFits10 (hI : FnIs P V.f_laws_zzFits10 nt_laws_zzFits10 (rs_laws_zzFits10 E V) (ir_laws_zzFits10 E V)) (h7 : ∀ w K cs h, IHd w K cs h → Ret P V.f_laws_zzFits7 #[.agg cs.toArray] w (SomeB w)) :
    ∀ w K hv hs, LsAt w K 3 (IHd w K) hv hs → hs.length < 9000000000000000000 → Ret P V.f_laws_zzFits10 #[hv] w (SomeB w) := by
  intro w K hv hs hh hmx
  obtain ⟨ah, ch, rfl, _⟩ := hh.len
  refine hI.call (args := [_]) (by simp [nt_laws_zzFits10]) ?_
  simp [ir_laws_zzFits10, rs_laws_zzFits10, len_slice ht.sI.und]
  refine cw_bool (c := decide ((2147483647 : Int) < hs.length)) (by simp) ?_ ?_
  · intro _
    simp
    exact ⟨⟨_, rfl⟩, Ext.refl _ _⟩
  intro _
  simp [len_slice ht.sI.und]
  refine cw_loop (FzV w (.slice ah hs.length ch) hs.length) (fun f _ => match f 10 with | .int _ i => ((hs.length : Int) - i).toNat | _ => 0) ⟨0, by omega, by simp, by simp, by simp, Ext.refl _ _⟩ ?_
  rintro f w' ⟨i, hi, h10, h9, h8, he⟩
  simp [h10, h9]
  by_cases hlt : i < hs.length
  rotate_left
  · refine cw_false (by simp; omega) ?_
    simp
    exact ⟨⟨_, rfl⟩, he⟩
  refine cw_true (by simp; omega) ?_
  obtain ⟨x, hx⟩ : ∃ x, hs[i]? = some x := ⟨_, List.getElem?_eq_getElem hlt⟩
  obtain ⟨bb, oo, cc, cs, hvv, _, _, hcl, hcx0, hrel⟩ := hh.get hx
  cases hvv
  have hcx := cellsFrom_list0 (hcx0.extV (C := none1) he (fun _ h => h))
  rw [hcl] at hcx
  have hrel3 := hrel.ext he (by simp [none1])
  have hrel0 := hrel
  obtain ⟨n, d, rfl, b, l, rfl, hd, _⟩ := hrel0
  obtain ⟨ad, cd, rfl, _⟩ := hd.len
  have ho2 : allOne [strV x.1, .bool b, .slice ad l.length cd] = true := rfl
  simp [h10, h8, idx?, ht.sI.siz, hlt, Addr.add_mk, ld_agg ht.kIH, hcx, ht.zIH, hd_zc, store_agg ht.kIH, ho2, putK_blk alloc_new, hd_over]
  generalize hw4 : (w'.alloc (.cells #[.string ⟨#[]⟩, .bool false, .slice none 0 0] V.t_impl_Header)).setBlk w'.heap.size (.cells #[strV x.1, .bool b, .slice ad l.length cd] V.t_impl_Header (0, 0)) = w4
  obtain ⟨hx4, hb4⟩ := put_new hw4
  have hcf4 : cellsFrom w4 ⟨w'.heap.size, 0, none⟩ 0 3 = some [strV x.1, .bool b, .slice ad l.length cd] := cellsFrom_blk hb4 0 3 (by simp)
  simp [hcf4]
  refine (h7 w4 K _ x (hrel3.ext hx4 (by simp [none1]))).mono ?_
  rintro _ w5 ⟨⟨b, rfl⟩, he5⟩
  have hwr : IntKind.i64.wrap ((i : Int) + 1) = (i : Int) + 1 := i64_small (by omega) (by omega)
  simp
  cases b
  · refine cw_true (by simp) ?_
    simp
    exact ⟨⟨_, rfl⟩, (he.trans hx4).trans he5⟩
  · refine cw_false (by simp) ?_
    simp [h10]
    refine ⟨⟨i + 1, by omega, by simp [hwr], by simp [h9], by simp [h8], (he.trans hx4).trans he5⟩, by rw [hwr]; omega⟩
theorem c_zzFits9 (hI : FnIs P V.f_laws_zzFits9 nt_laws_zzFits9 (rs_laws_zzFits9 E V) (ir_laws_zzFits9 E V)) (h8 : ∀ w K n d o, OcAt w K n d o → Ret P V.f_laws_zzFits8 #[.agg #[n, d]] w (SomeB w))
    (h10 : ∀ w K hv hs, LsAt w K 3 (IHd w K) hv hs → hs.length < 9000000000000000000 → Ret P V.f_laws_zzFits10 #[hv] w (SomeB w)) : ∀ w K cs r, IRec w K cs r → r.hs.length < 9000000000000000000 → Ret P V.f_laws_zzFits9 #[.agg cs.toArray] w (SomeB w) := by
  intro w K cs r hr hmx
  have hr0 := hr
  obtain ⟨kn, kd, vn, vd, hv, rfl, hk, hvl, hh⟩ := hr0
  refine hI.call (args := [_]) (by simp [nt_laws_zzFits9]) ?_
  generalize hcur : [Value.int .i32 r.len, .int .i8 r.attr, .int .i64 r.delta, .int .i32 r.off, kn, kd, vn, vd, hv] = cs at hr ⊢
  have hcc : (Value.agg cs.toArray).cells = cs.toArray := rfl
  have hcl : cs.length = 9 := by rw [← hcur]; rfl
  simp [ir_laws_zzFits9, rs_laws_zzFits9, hcc]
  generalize hw1 : w.alloc (.cells cs.toArray V.t_impl_Record) = w1
  obtain ⟨hE, hb1⟩ := box_rec hw1
  have x4 : ∀ w', Ext none1 w1 w' → cellsFrom w' ⟨w.heap.size, 4, none⟩ 0 2 = some [kn, kd] := fun w' he => by rw [cellsFrom_blk (he.old hb1 (fun h => h)) 4 2 (by simp [hcl]), ← hcur]; rfl
  have x6 : ∀ w', Ext none1 w1 w' → cellsFrom w' ⟨w.heap.size, 6, none⟩ 0 2 = some [vn, vd] := fun w' he => by rw [cellsFrom_blk (he.old hb1 (fun h => h)) 6 2 (by simp [hcl]), ← hcur]; rfl
  have k8 : ∀ w', Ext none1 w1 w' → w'.cell? ⟨w.heap.size, 8, none⟩ = some hv := fun w' he => by rw [cell_of_blk (he.old hb1 (fun h => h)), ← hcur]; rfl
  simp [ht.ir4, Addr.add_mk, ld_agg ht.kOc, x4 w1 (Ext.refl _ _)]
  refine (h8 w1 K kn kd _ (hk.ext hE (by simp [none1]))).mono ?_
  rintro _ w2 ⟨⟨b, rfl⟩, he2⟩
  simp
  cases b
  · refine cw_true (by simp) ?_
    simp
    exact ⟨⟨_, rfl⟩, hE.trans he2⟩
  refine cw_false (by simp) ?_
  simp [ht.ir5, Addr.add_mk, ld_agg ht.kOc, x6 w2 he2]
  refine (h8 w2 K vn vd _ (hvl.ext (hE.trans he2) (by simp [none1]))).mono ?_
  rintro _ w3 ⟨⟨b, rfl⟩, he3⟩
  have he13 := he2.trans he3
  simp
  cases b
  · refine cw_true (by simp) ?_
    simp
    exact ⟨⟨_, rfl⟩, hE.trans he13⟩
  refine cw_false (by simp) ?_
  simp [ht.ir6, Addr.add_mk, ld_scl ht.kLI, k8 w3 he13]
  refine (h10 w3 K hv r.hs (LsAt.ext (R := fun w => IHd w K) (by omega) hh (hE.trans he13) (fun cs x h => h.ext (hE.trans he13) (by simp [none1])) (by simp [none1])) hmx).mono ?_
  rintro _ w4 ⟨⟨b, rfl⟩, he4⟩
  simp
  cases b
  · refine cw_true (by simp) ?_
    simp
    exact ⟨⟨_, rfl⟩, hE.trans (he13.trans he4)⟩
  · refine cw_false (by simp) ?_
    simp
    exact ⟨⟨_, rfl⟩, hE.trans (he13.trans he4)⟩
theorem c_SmOc (hI : FnIs P V.f_spec_SameOctets nt_spec_SameOctets (rs_spec_SameOctets E V) (ir_spec_SameOctets E V)) (hS : SameC P E) : ∀ w K K' n d n' d' o, OcAt w K n d o → OcAt w K' n' d' o → (o.getD []).length ≤ 1099511627776 →
    Ret P V.f_spec_SameOctets #[.agg #[n, d], .agg #[n', d']] w fun v w' => v = .bool true ∧ Ext none1 w w' := by
  rintro w K K' n d n' d' o ⟨b, l, rfl, hd, ho⟩ ⟨b', l', rfl, hd', ho'⟩ hsz
  have hbb : b = b' := by subst ho; cases b <;> cases b' <;> simp_all
  subst hbb
  obtain ⟨a, c, rfl, _⟩ := hd.len
  obtain ⟨a', c', rfl, _⟩ := hd'.len
  refine hI.call (args := [_, _]) (by simp [nt_spec_SameOctets]) ?_
  have hcc : ∀ (x y : Value), (Value.agg #[x, y]).cells = #[x, y] := fun _ _ => rfl
  simp [ir_spec_SameOctets, rs_spec_SameOctets, hcc]
  generalize hw1 : w.alloc (.cells #[.bool b, .slice a l.length c] V.t_impl_Octets) = w1
  obtain ⟨hE, hb1⟩ := box_rec hw1
  have hs1 : w1.heap.size = w.heap.size + 1 := by rw [← hw1]; simp
  generalize hw2 : w1.alloc (.cells #[.bool b, .slice a' l'.length c'] V.t_impl_Octets) = w2
  obtain ⟨hE2, hb2⟩ := box_rec hw2
  rw [hs1] at hb2
  have hb12 := hE2.old hb1 (fun h => h)
  have p0 : w2.cell? ⟨w.heap.size, 0, none⟩ = some (.bool b) := by rw [cell_of_blk hb12]; rfl
  have p1 : w2.cell? ⟨w.heap.size, 1, none⟩ = some (.slice a l.length c) := by rw [cell_of_blk hb12]; rfl
  have q0 : w2.cell? ⟨w.heap.size + 1, 0, none⟩ = some (.bool b) := by rw [cell_of_blk hb2]; rfl
  have q1 : w2.cell? ⟨w.heap.size + 1, 1, none⟩ = some (.slice a' l'.length c') := by rw [cell_of_blk hb2]; rfl
  have hE12 := hE.trans hE2
  cases b with
  | true =>
    simp [ht.oc0, ht.oc1, Addr.add_mk, ld_scl ht.kB, ld_scl ht.rs.kBs, p0, q0, p1, q1, bin_bool_eql ht.uB]
    exact hE12
  | false =>
    have hll : l = l' := by simp_all
    subst hll
    simp [ht.oc0, ht.oc1, Addr.add_mk, ld_scl ht.kB, ld_scl ht.rs.kBs, p0, q0, p1, q1, bin_bool_eql ht.uB]
    refine (hS w2 K K' _ _ l l (hd.ext hE12 (by simp [none1])) (hd'.ext hE12 (by simp [none1])) (by simpa [ho] using hsz)).mono ?_
    rintro v w3 ⟨rfl, he⟩
    simp
    exact hE12.trans he
def SmOcC (P : Program) (V : EnvV) : Prop := ∀ w K K' n d n' d' o, OcAt w K n d o → OcAt w K' n' d' o → (o.getD []).length ≤ 1099511627776 → Ret P V.f_spec_SameOctets #[.agg #[n, d], .agg #[n', d']] w fun v w' => v = .bool true ∧ Ext none1 w w'
def SmV (w : World) (va vb : Value) (n : Nat) (f : Nat → Value) (w' : World) : Prop := ∃ i, i ≤ n ∧ f 13 = .int .i64 i ∧ f 12 = .int .i64 n ∧ f 0 = va ∧ f 1 = vb ∧ Ext none1 w w'
theorem c_SmHs (hI : FnIs P V.f_spec_SameHeaders nt_spec_SameHeaders (rs_spec_SameHeaders E V) (ir_spec_SameHeaders E V)) (hO : SmOcC P V) : ∀ w K K' va vb hs, LsAt w K 3 (IHd w K) va hs → LsAt w K' 3 (IHd w K') vb hs → (∀ h ∈ hs, h.fit) → hs.length < 9000000000000000000 →
    Ret P V.f_spec_SameHeaders #[va, vb] w fun v w' => v = .bool true ∧ Ext none1 w w' := by
  intro w K K' va vb hs h1 h2 hfit hmx
  obtain ⟨a1, c1, rfl, _⟩ := h1.len
  obtain ⟨a2, c2, rfl, _⟩ := h2.len
  refine hI.call (args := [_, _]) (by simp [nt_spec_SameHeaders]) ?_
  simp [ir_spec_SameHeaders, rs_spec_SameHeaders, len_slice ht.sI.und, bin?]
  refine cw_false (by simp) ?_
  simp [len_slice ht.sI.und]
  refine cw_loop (SmV w (.slice a1 hs.length c1) (.slice a2 hs.length c2) hs.length) (fun f _ => match f 13 with | .int _ i => ((hs.length : Int) - i).toNat | _ => 0) ⟨0, by omega, by simp, by simp, by simp, by simp, Ext.refl _ _⟩ ?_
  rintro f w' ⟨i, hi, h13, h12, h0, h1', he⟩
  simp [h13, h12]
  by_cases hlt : i < hs.length
  rotate_left
  · refine cw_false (by simp; omega) ?_
    simp
    exact he
  refine cw_true (by simp; omega) ?_
  obtain ⟨x, hx⟩ : ∃ x, hs[i]? = some x := ⟨_, List.getElem?_eq_getElem hlt⟩
  obtain ⟨bb, oo, cc, cs, hvv, _, _, hcl, hcx, hrel⟩ := h1.get hx
  obtain ⟨bb', oo', cc', cs', hvv', _, _, hcl', hcx', hrel'⟩ := h2.get hx
  cases hvv
  cases hvv'
  obtain ⟨n, d, rfl, ho⟩ := hrel
  obtain ⟨n', d', rfl, ho'⟩ := hrel'
  have p0 : ∀ w2, Ext none1 w w2 → w2.cell? ⟨bb, oo + i * 3, none⟩ = some (.string ⟨x.1.toArray⟩) := fun w2 h => by simpa [strV] using h.cell (hcx 0 _ rfl) (fun h => h)
  have q0 : ∀ w2, Ext none1 w w2 → w2.cell? ⟨bb', oo' + i * 3, none⟩ = some (.string ⟨x.1.toArray⟩) := fun w2 h => by simpa [strV] using h.cell (hcx' 0 _ rfl) (fun h => h)
  have p1 : ∀ w2, Ext none1 w w2 → cellsFrom w2 ⟨bb, oo + i * 3 + 1, none⟩ 0 2 = some [n, d] := fun w2 h => by
    have hc2 := hcx.extV (C := none1) h (fun _ h => h)
    refine cellsFrom_list (w := w2) [n, d] bb (oo + i * 3 + 1) 0 ?_
    intro j u hj
    have := hc2 (j + 1) u (by simpa using hj)
    rw [← this]; congr 2; omega
  have q1 : ∀ w2, Ext none1 w w2 → cellsFrom w2 ⟨bb', oo' + i * 3 + 1, none⟩ 0 2 = some [n', d'] := fun w2 h => by
    have hc2 := hcx'.extV (C := none1) h (fun _ h => h)
    refine cellsFrom_list (w := w2) [n', d'] bb' (oo' + i * 3 + 1) 0 ?_
    intro j u hj
    have := hc2 (j + 1) u (by simpa using hj)
    rw [← this]; congr 2; omega
  have hwr : IntKind.i64.wrap ((i : Int) + 1) = (i : Int) + 1 := i64_small (by omega) (by omega)
  have hxf := hfit x (List.mem_of_getElem? hx)
  simp [h13]
  have heD := he.drew
  refine cw_thenOr (fun f w2 => f 40 = .bool false ∧ f 13 = .int .i64 i ∧ f 12 = .int .i64 hs.length ∧ f 0 = .slice (some ⟨bb, oo, none⟩) hs.length c1 ∧ f 1 = .slice (some ⟨bb', oo', none⟩) hs.length c2 ∧ Ext none1 w w2) ?_ ?_
  · refine cw_regH (Ext none1 w) heD ?_
    simp +contextual [h0, h1', h12, h13, idx?, ht.sI.siz, hlt, ht.ih0, ht.ih1, Addr.add_mk, ld_scl ht.rs.kS, ld_agg ht.kOc, p0, q0, p1, q1, p0 w' he, q0 w' he, p1 _ heD, q1 _ heD, bin?, meetOr]
    refine (hO w'.drew K K' n d n' d' x.2 (ho.ext heD (by simp [none1])) (ho'.ext heD (by simp [none1])) (by have := hxf.2; omega)).mono ?_
    rintro v w2 ⟨rfl, he2⟩
    simp
    exact heD.trans he2
  · rintro f w2 ⟨g40, g13, g12, g0, g1, he2⟩
    refine cw_false (by simp [g40]) ?_
    simp [g13]
    exact ⟨⟨i + 1, by omega, by simp [hwr], by simp [g12], by simp [g0], by simp [g1], he2⟩, by rw [hwr]; omega⟩
theorem c_SmRec (hI : FnIs P V.f_spec_SameRecord nt_spec_SameRecord (rs_spec_SameRecord E V) (ir_spec_SameRecord E V)) (hO : SmOcC P V)
    (hH : ∀ w K K' va vb hs, LsAt w K 3 (IHd w K) va hs → LsAt w K' 3 (IHd w K') vb hs → (∀ h ∈ hs, h.fit) → hs.length < 9000000000000000000 → Ret P V.f_spec_SameHeaders #[va, vb] w fun v w' => v = .bool true ∧ Ext none1 w w') :
    ∀ w K K' cs cs' r, IRec w K cs r → IRec w K' cs' r → r.fit → Ret P V.f_spec_SameRecord #[.agg cs.toArray, .agg cs'.toArray] w fun v w' => v = .bool true ∧ Ext none1 w w' := by
  intro w K K' cs cs' r h1 h2 hfit
  obtain ⟨kn, kd, vn, vd, hv, rfl, hk, hvl, hh⟩ := h1
  obtain ⟨kn', kd', vn', vd', hv', rfl, hk', hvl', hh'⟩ := h2
  refine hI.call (args := [_, _]) (by simp [nt_spec_SameRecord]) ?_
  generalize hcur : [Value.int .i32 r.len, .int .i8 r.attr, .int .i64 r.delta, .int .i32 r.off, kn, kd, vn, vd, hv] = cs
  generalize hcur' : [Value.int .i32 r.len, .int .i8 r.attr, .int .i64 r.delta, .int .i32 r.off, kn', kd', vn', vd', hv'] = cs'
  have hcc : ∀ l : List Value, (Value.agg l.toArray).cells = l.toArray := fun _ => rfl
  have hcl : cs.length = 9 := by rw [← hcur]; rfl
  have hcl' : cs'.length = 9 := by rw [← hcur']; rfl
  simp only [ir_spec_SameRecord, rs_spec_SameRecord]
  generalize hB : Ir.seq (Ir.reg _) Ir.ret = B
  simp [hcc]
  generalize hw1 : w.alloc (.cells cs.toArray V.t_impl_Record) = w1
  obtain ⟨hE, hb1⟩ := box_rec hw1
  have hs1 : w1.heap.size = w.heap.size + 1 := by rw [← hw1]; simp
  generalize hw2 : w1.alloc (.cells cs'.toArray V.t_impl_Record) = w2
  obtain ⟨hE2, hb2⟩ := box_rec hw2
  rw [hs1] at hb2
  have hb12 := hE2.old hb1 (fun h => h)
  have hE12 := hE.trans hE2
  have p : ∀ (i : Nat) u, cs[i]? = some u → ∀ w', Ext none1 w2 w' → w'.cell? ⟨w.heap.size, i, none⟩ = some u := fun i u hu w' he => by rw [cell_of_blk (he.old hb12 (fun h => h))]; simpa using hu
  have q : ∀ (i : Nat) u, cs'[i]? = some u → ∀ w', Ext none1 w2 w' → w'.cell? ⟨w.heap.size + 1, i, none⟩ = some u := fun i u hu w' he => by rw [cell_of_blk (he.old hb2 (fun h => h))]; simpa using hu
  have hr := Ext.refl none1 w2
  have p0 := p 0 _ (by rw [← hcur]; rfl) w2 hr
  have p1 := p 1 _ (by rw [← hcur]; rfl) w2 hr
  have p2 := p 2 _ (by rw [← hcur]; rfl) w2 hr
  have p3 := p 3 _ (by rw [← hcur]; rfl) w2 hr
  have p8 := p 8 hv (by rw [← hcur]; rfl)
  have q0 := q 0 _ (by rw [← hcur']; rfl) w2 hr
  have q1 := q 1 _ (by rw [← hcur']; rfl) w2 hr
  have q2 := q 2 _ (by rw [← hcur']; rfl) w2 hr
  have q3 := q 3 _ (by rw [← hcur']; rfl) w2 hr
  have q8 := q 8 hv' (by rw [← hcur']; rfl)
  have x4 : ∀ w', Ext none1 w2 w' → cellsFrom w' ⟨w.heap.size, 4, none⟩ 0 2 = some [kn, kd] := fun w' he => by rw [cellsFrom_blk (he.old hb12 (fun h => h)) 4 2 (by simp [hcl]), ← hcur]; rfl
  have x6 : ∀ w', Ext none1 w2 w' → cellsFrom w' ⟨w.heap.size, 6, none⟩ 0 2 = some [vn, vd] := fun w' he => by rw [cellsFrom_blk (he.old hb12 (fun h => h)) 6 2 (by simp [hcl]), ← hcur]; rfl
  have y4 : ∀ w', Ext none1 w2 w' → cellsFrom w' ⟨w.heap.size + 1, 4, none⟩ 0 2 = some [kn', kd'] := fun w' he => by rw [cellsFrom_blk (he.old hb2 (fun h => h)) 4 2 (by simp [hcl']), ← hcur']; rfl
  have y6 : ∀ w', Ext none1 w2 w' → cellsFrom w' ⟨w.heap.size + 1, 6, none⟩ 0 2 = some [vn', vd'] := fun w' he => by rw [cellsFrom_blk (he.old hb2 (fun h => h)) 6 2 (by simp [hcl']), ← hcur']; rfl
  subst hB
  rw [cw_seq, cw_reg]
  rw [regW_cut 6]
  generalize hR : regW P _ (List.drop 6 _) = R
  simp only [List.take_succ_cons, List.take_zero]
  simp [ht.ir0, Addr.add_mk, ld_scl ht.kI32, p0, q0, bin?]
  subst hR
  simp only [List.drop_succ_cons, List.drop_zero]
  rw [regW_cut 7]
  generalize hR : regW P _ (List.drop 7 _) = R
  simp only [List.take_succ_cons, List.take_zero]
  simp [ht.ir1, Addr.add_mk, ld_scl ht.kI8, p1, q1, bin?]
  subst hR
  simp only [List.drop_succ_cons, List.drop_zero]
  rw [regW_cut 7]
  generalize hR : regW P _ (List.drop 7 _) = R
  simp only [List.take_succ_cons, List.take_zero]
  simp [ht.ir2, Addr.add_mk, ld_scl ht.kI64, p2, q2, bin?]
  subst hR
  simp only [List.drop_succ_cons, List.drop_zero]
  rw [regW_cut 7]
  generalize hR : regW P _ (List.drop 7 _) = R
  simp only [List.take_succ_cons, List.take_zero]
  simp [ht.ir3, Addr.add_mk, ld_scl ht.kI32, p3, q3, bin?]
  subst hR
  simp only [List.drop_succ_cons, List.drop_zero]
  rw [regW_cut 7]
  generalize hR : regW P _ (List.drop 7 _) = R
  simp only [List.take_succ_cons, List.take_zero]
  simp [ht.ir4, Addr.add_mk, ld_agg ht.kOc, x4 w2 hr, y4 w2 hr]
  refine (hO w2 K K' kn kd kn' kd' r.key (hk.ext hE12 (by simp [none1])) (hk'.ext hE12 (by simp [none1])) (by have := hfit.key; omega)).mono ?_
  rintro v w3 ⟨rfl, he3⟩
  subst hR
  simp only [List.drop_succ_cons, List.drop_zero]
  rw [regW_cut 7]
  generalize hR : regW P _ (List.drop 7 _) = R
  simp only [List.take_succ_cons, List.take_zero]
  simp [ht.ir5, Addr.add_mk, ld_agg ht.kOc, x6 w3 he3, y6 w3 he3]
  refine (hO w3 K K' vn vd vn' vd' r.val (hvl.ext (hE12.trans he3) (by simp [none1])) (hvl'.ext (hE12.trans he3) (by simp [none1])) (by have := hfit.val; omega)).mono ?_
  rintro v w4 ⟨rfl, he4⟩
  have he24 := he3.trans he4
  have heA := hE12.trans he24
  subst hR
  simp [ht.ir6, Addr.add_mk, ld_scl ht.kLI, p8 w4 he24, q8 w4 he24]
  refine (hH w4 K K' hv hv' r.hs (LsAt.ext (R := fun w => IHd w K) (by omega) hh heA (fun cs x h => h.ext heA (by simp [none1])) (by simp [none1])) (LsAt.ext (R := fun w => IHd w K') (by omega) hh' heA (fun cs x h => h.ext heA (by simp [none1])) (by simp [none1])) hfit.hs (by have := hfit.hn; omega)).mono ?_
  rintro v w5 ⟨rfl, he5⟩
  simp
  exact heA.trans he5
end
end Go.Kg

set_option linter.unusedSimpArgs false
set_option linter.unusedVariables false
set_option linter.unusedSectionVars false
namespace Go.Kg
open Go
def NewB (w : World) (b : Nat) : Prop := w.heap.size ≤ b
theorem OwnB.new {u8 : Nat} {w w' : World} {v : Value} {s : List UInt8} (h : OwnB u8 w' w.heap.size v s) : BytesAt w' (NewB w) v s := (own_bytesK h).mono (fun b _ h => h.1)
structure KRec (w : World) (K : Nat → Prop) (cs : List Value) (r : RecV) : Prop where
  ex : ∃ td kv vv hv, cs = [.int .i32 r.len, .int .i8 r.attr, .int .i32 td, .int .i64 r.delta, .int .i32 r.off, kv, vv, hv] ∧ BytesOpt w K kv r.key ∧ BytesOpt w K vv r.val ∧ LsAt w K 2 (KHd w K) hv r.hs ∧ (r.delta = 0 → td = 0)
theorem KRec.ext {C K : Nat → Prop} {w w' : World} {cs : List Value} {r : RecV} (h : KRec w K cs r) (he : Ext C w w') (hD : ∀ b, b < w.heap.size → K b → ¬ C b) : KRec w' K cs r := by
  obtain ⟨td, kv, vv, hv, h1, h2, h3, h4, h5⟩ := h.ex
  exact ⟨td, kv, vv, hv, h1, BytesOpt.extV h2 he hD, BytesOpt.extV h3 he hD, LsAt.ext (R := fun w => KHd w K) (by omega) h4 he (fun cs x h => h.ext he hD) hD, h5⟩
section
variable {P : Program} {E : Env} {V : EnvV} (ht : TyV P E V)
include ht
theorem bld_oc0 (b : Bool) : bld? P V.t_impl_Octets [(0, .bool b)] = some (.agg #[.bool b, .slice none 0 0]) := by
  simp [bld?, ht.zOc, ht.plOc, Instr.fill, Value.cells]
theorem bld_oc1 (a : Option Addr) (n c : Nat) : bld? P V.t_impl_Octets [(1, .slice a n c)] = some (.agg #[.bool false, .slice a n c]) := by
  simp [bld?, ht.zOc, ht.plOc, Instr.fill, Value.cells]
theorem bld_ih (k : List UInt8) (n d : Value) : bld? P V.t_impl_Header [(0, strV k), (1, .agg #[n, d])] = some (.agg #[strV k, n, d]) := by
  simp [bld?, ht.zIH, ht.plIH, Instr.fill, Value.cells, strV]
theorem bld_kh (k : List UInt8) (a : Option Addr) (n c : Nat) : bld? P V.t_kmsg_Header [(0, strV k), (1, .slice a n c)] = some (.agg #[strV k, .slice a n c]) := by
  simp [bld?, ht.zKH, ht.plKH, Instr.fill, Value.cells, strV]
theorem bld_ir (a b c d : Int) (n d1 m d2 : Value) : bld? P V.t_impl_Record [(0, .int .i32 a), (1, .int .i8 b), (2, .int .i64 c), (3, .int .i32 d), (4, .agg #[n, d1]), (5, .agg #[m, d2])] = some (.agg #[.int .i32 a, .int .i8 b, .int .i64 c, .int .i32 d, n, d1, m, d2, .slice none 0 0]) := by
  simp [bld?, ht.zIR, ht.plIR, Instr.fill, Value.cells]
theorem bld_kr (a b c d : Int) (x y : Option Addr) (n p m q : Nat) : bld? P V.t_kmsg_Record [(0, .int .i32 a), (1, .int .i8 b), (3, .int .i64 c), (4, .int .i32 d), (5, .slice x n p), (6, .slice y m q)] = some (.agg #[.int .i32 a, .int .i8 b, .int .i32 0, .int .i64 c, .int .i32 d, .slice x n p, .slice y m q, .slice none 0 0]) := by
  simp [bld?, ht.zKR, ht.plKR, Instr.fill, Value.cells]
theorem bld_ir0 : bldA? P V.t_impl_Record = some (.agg #[.int .i32 0, .int .i8 0, .int .i64 0, .int .i32 0, .bool false, .slice none 0 0, .bool false, .slice none 0 0, .slice none 0 0]) := by
  obtain ⟨fs, hu⟩ := ht.uIR
  simp [bldA?, hu, ht.zIR, ht.plIR, Value.cells]
theorem c_own (hI : FnIs P V.f_impl_own nt_impl_own (rs_impl_own E V) (ir_impl_own E V)) : ∀ w K v s, BytesAt w K v s → s.length ≤ 1099511627776 → Ret P V.f_impl_own #[v] w fun v' w' => Fresh E.tU8 w v' w' s := by
  intro w K v s hv hsz
  refine hI.call (args := [_]) (by simp [nt_impl_own]) ?_
  simp [ir_impl_own, rs_impl_own]
  have hn : Fresh E.tU8 w (.slice none 0 0) w [] := Fresh.nil (Ext.refl _ _)
  refine st_app_bytes ht.ws.sBs (by simp) hn.1 hn.2.size (k := K) (bs := s) (by simpa using hv) (by simp; omega) ?_
  intro v' w' a b
  simpa using Fresh.grow hn a b
theorem c_nullV (hI : FnIs P V.f_impl_null nt_impl_null (rs_impl_null E V) (ir_impl_null E V)) : ∀ w K n d o, OcAt w K n d o → (o.getD []).length ≤ 1099511627776 → Ret P V.f_impl_null #[.agg #[n, d]] w fun v' w' => BytesOpt w' (NewB w) v' o ∧ Ext none1 w w' := by
  rintro w K n d o ⟨b, l, rfl, hd, ho⟩ hsz
  obtain ⟨a, c, rfl, _⟩ := hd.len
  refine hI.call (args := [_]) (by simp [nt_impl_null]) ?_
  have hcc : (Value.agg #[.bool b, .slice a l.length c]).cells = #[.bool b, .slice a l.length c] := rfl
  simp [ir_impl_null, rs_impl_null, hcc]
  generalize hw1 : w.alloc (.cells #[.bool b, .slice a l.length c] V.t_impl_Octets) = w1
  obtain ⟨hE, hb1⟩ := box_rec hw1
  have c0 : w1.cell? ⟨w.heap.size, 0, none⟩ = some (.bool b) := by rw [cell_of_blk hb1]; rfl
  simp [ht.oc0, Addr.add_mk, ld_scl ht.kB, c0]
  cases b with
  | true =>
    have ho' : o = none := by simpa using ho
    subst ho'
    refine cw_true (by simp) ?_
    simp
    exact ⟨rfl, hE⟩
  | false =>
    have ho' : o = some l := by simpa using ho
    subst ho'
    have hsz' : l.length ≤ 1099511627776 := hsz
    refine cw_false (by simp) ?_
    have hl := fresh_lit (u8 := E.tU8) (w := w1) (bs := []) (cs := #[]) rfl (by simp)
    have c1 : (w1.alloc (.cells #[] E.tU8)).cell? ⟨w.heap.size, 1, none⟩ = some (.slice a l.length c) := by rw [cell_of_blk (hl.2.old hb1 (fun h => h))]; rfl
    simp [st_bsl0 ht.ws.sBs, ht.oc1, Addr.add_mk, ld_scl ht.rs.kBs, c1]
    refine st_app_bytes2 ht.ws.sBs (by simp) hl.1 hl.2.size (k := K) (bs := l) (by simpa using hd.ext (hE.trans hl.2) (by simp [none1])) (by simp; omega) ?_
    intro v' w' x y z
    have h2 := Fresh.grow hl x y
    have h3 := Fresh.pre hE h2
    exact ⟨⟨by simpa using OwnB.new h3.1, z (by simp)⟩, h3.2⟩
theorem c_octets (hI : FnIs P V.f_impl_octets nt_impl_octets (rs_impl_octets E V) (ir_impl_octets E V)) : ∀ w K d o, BytesOpt w K d o → (o.getD []).length ≤ 1099511627776 →
    Ret P V.f_impl_octets #[d] w fun v' w' => ∃ n' d', v' = .agg #[n', d'] ∧ OcAt w' (NewB w) n' d' o ∧ Ext none1 w w' := by
  intro w K d o hd hsz
  refine hI.call (args := [_]) (by simp [nt_impl_octets]) ?_
  have hz : (Value.agg #[.bool false, .slice none 0 0]).cells = #[.bool false, .slice none 0 0] := rfl
  cases o with
  | none =>
    cases hd
    simp [ir_impl_octets, rs_impl_octets, ht.zOc, hz, bin_nil_slice ht.ws.sBs.und]
    refine cw_true (by simp) ?_
    simp
    have hov : over #[Value.bool false, .slice none 0 0] 0 [Value.bool true, .slice none 0 0] = #[.bool true, .slice none 0 0] := rfl
    have ho2 : allOne [Value.bool true, .slice none 0 0] = true := rfl
    simp [bld_oc0 ht, store_agg ht.kOc, ho2, putK_blk alloc_new, hov]
    generalize hw4 : (w.alloc (.cells #[.bool false, .slice none 0 0] V.t_impl_Octets)).setBlk w.heap.size (.cells #[.bool true, .slice none 0 0] V.t_impl_Octets (0, 0)) = w4
    obtain ⟨hx4, hb4⟩ := put_new hw4
    have hcf4 : cellsFrom w4 ⟨w.heap.size, 0, none⟩ 0 2 = some [.bool true, .slice none 0 0] := cellsFrom_blk hb4 0 2 (by simp)
    simp [ld_agg ht.kOc, hcf4]
    exact ⟨_, _, (by first | rfl | exact ⟨rfl, rfl⟩), ⟨true, [], rfl, .inl ⟨⟨_, rfl⟩, rfl⟩, rfl⟩, hx4⟩
  | some l =>
    obtain ⟨aa, c, rfl⟩ := hd.1.opt hd.2
    simp [ir_impl_octets, rs_impl_octets, ht.zOc, hz, bin_nil_slice ht.ws.sBs.und]
    refine cw_false (by simp) ?_
    generalize hw1 : w.alloc (.cells #[.bool false, .slice none 0 0] V.t_impl_Octets) = w1
    obtain ⟨hE, hb1⟩ := box_rec hw1
    simp [st_bsl0 ht.ws.sBs]
    have hl := fresh_lit (u8 := E.tU8) (w := w1) (bs := []) (cs := #[]) rfl (by simp)
    have hsz' : l.length ≤ 1099511627776 := hsz
    refine st_app_bytes2 ht.ws.sBs (by simp) hl.1 hl.2.size (k := K) (bs := l) (by simpa using hd.1.ext (hE.trans hl.2) (by simp [none1])) (by simp; omega) ?_
    intro v' w' x y z
    have h2 := Fresh.grow hl x y
    have hb' := h2.2.old hb1 (fun h => h)
    obtain ⟨ap, cp, rfl, _⟩ := (own_bytes h2.1).len
    have hov : over #[Value.bool false, .slice none 0 0] 0 [Value.bool false, .slice ap ([] ++ l).length cp] = #[.bool false, .slice ap ([] ++ l).length cp] := rfl
    have ho2 : allOne [Value.bool false, .slice ap ([] ++ l).length cp] = true := rfl
    simp only [List.nil_append] at hov ho2
    simp [bld_oc1 ht, store_agg ht.kOc, ho2, putK_blk hb', hov]
    generalize hw4 : w'.setBlk w.heap.size (.cells #[.bool false, .slice ap l.length cp] V.t_impl_Octets (0, 0)) = w4
    have hb4 : w4.heap[w.heap.size]? = some (.cells #[.bool false, .slice ap l.length cp] V.t_impl_Octets (0, 0)) := by rw [← hw4]; exact setBlk_same hb'
    have hE4 : Ext none1 w w4 := by rw [← hw4]; exact (hE.trans h2.2).setBlk (.inl (Nat.le_refl _)) _
    have hx4 : Ext (fun b => b = w.heap.size) w' w4 := by rw [← hw4]; exact (Ext.refl (fun b => b = w.heap.size) w').setBlk (.inr rfl) _
    have hcf4 : cellsFrom w4 ⟨w.heap.size, 0, none⟩ 0 2 = some [.bool false, .slice ap l.length cp] := cellsFrom_blk hb4 0 2 (by simp)
    simp [ld_agg ht.kOc, hcf4]
    have hby := own_bytesK h2.1
    have hs1 : w1.heap.size = w.heap.size + 1 := by rw [← hw1]; simp
    refine ⟨_, _, (by first | rfl | exact ⟨rfl, rfl⟩), ⟨false, l, rfl, ?_, rfl⟩, hE4⟩
    have := hby.ext hx4 (fun b _ hb he => by have := hb.1; omega)
    refine (by simpa using this : BytesAt w4 _ _ l).mono (fun b _ hb => ?_)
    have := hb.1
    show w.heap.size ≤ b
    omega
end
end Go.Kg

set_option linter.unusedSimpArgs false
set_option linter.unusedVariables false
set_option linter.unusedSectionVars false
namespace Go.Kg
open Go
structure WrV (P : Program) (E : Env) : Prop where
  vi : ∀ n : Int, -2147483648 ≤ n → n < 2147483648 → WrC P E.tU8 E.f_kbin_AppendVarint [.int .i32 n] (vW n)
  i8 : ∀ n : Int, WrC P E.tU8 E.f_kbin_AppendInt8 [.int .i8 n] [bval n]
  vl : ∀ n : Int, -9223372036854775808 ≤ n → n < 9223372036854775808 → WrC P E.tU8 E.f_kbin_AppendVarlong [.int .i64 n] (vW n)
  vb : ∀ (o : Option (List UInt8)) u, (o.getD []).length < 2147483648 → WrP P E.tU8 E.f_kbin_AppendVarintBytes (fun w base => BytesOpt w (· < base) u o) [u] (ocW o)
  vs : ∀ l : List UInt8, l.length < 2147483648 → WrC P E.tU8 E.f_kbin_AppendVarintString [strV l] (vsW l)
def ApSt (E : Env) (w : World) (v : Value) (base b : Nat) (s : List UInt8) (f : Nat → Value) (w' : World) : Prop := f 0 = .pointer (some ⟨b, 0, none⟩) ∧ OwnB E.tU8 w' base (f 1) s ∧ Grew w v w' (f 1)
def ApLp (E : Env) (w : World) (v : Value) (base : Nat) (hv : Value) (hs : List HdV) (pre : List UInt8) (f : Nat → Value) (w' : World) : Prop :=
  ∃ i s, i ≤ hs.length ∧ s = pre ++ (hs.take i).flatMap hdW ∧ f 76 = .int .i64 i ∧ f 75 = .int .i64 hs.length ∧ f 11 = hv ∧ OwnB E.tU8 w' base (f 1) s ∧ Grew w v w' (f 1)
section
variable {P : Program} {E : Env} {V : EnvV} (ht : TyV P E V)
include ht
set_option maxHeartbeats 1000000 in
theorem c_RecApp (hI : FnIs P V.f_pkmsg_Record_AppendTo nt_pkmsg_Record_AppendTo (rs_pkmsg_Record_AppendTo E V) (ir_pkmsg_Record_AppendTo E V)) (hW : WrV P E) : ∀ w base v s b cs r,
    w.heap[b]? = some (.cells cs.toArray V.t_kmsg_Record (0, 0)) → KRec w (· < base) cs r → b < base → r.fit → OwnB E.tU8 w base v s → base ≤ w.heap.size → s.length + (recW r).length ≤ 1099511627776 →
    Ret P V.f_pkmsg_Record_AppendTo #[.pointer (some ⟨b, 0, none⟩), v] w fun v' w' => OwnB E.tU8 w' base v' (s ++ recW r) ∧ Grew w v w' v' := by
  rintro w base v s b cs r hb ⟨td, kv, vv, hv, rfl, hk, hvl, hh, htd⟩ hbb hfit ho hw hsz
  refine hI.call (args := [_, _]) (by simp [nt_pkmsg_Record_AppendTo]) ?_
  have hone : kv.oneCell' = true ∧ vv.oneCell' = true := by
    obtain ⟨a1, c1, h1, _⟩ := (BytesOpt.bytes ht.rs hk).len
    obtain ⟨a2, c2, h2, _⟩ := (BytesOpt.bytes ht.rs hvl).len
    rw [h1, h2]; exact ⟨rfl, rfl⟩
  have cl : ∀ (i : Nat) (u : Value), [Value.int .i32 r.len, .int .i8 r.attr, .int .i32 td, .int .i64 r.delta, .int .i32 r.off, kv, vv, hv][i]? = some u → ∀ w' v', Grew w v w' v' → w'.cell? ⟨b, i, none⟩ = some u := by
    intro i u hu w' v' g
    refine Grew.cell ?_ g ho hbb
    rw [cell_of_blk hb]; simpa using hu
  have k0 := cl 0 _ rfl
  have k1 := cl 1 _ rfl
  have k2 := cl 2 _ rfl
  have k3 := cl 3 _ rfl
  have k4 := cl 4 _ rfl
  have k5 := cl 5 _ rfl
  have k6 := cl 6 _ rfl
  have k7 := cl 7 _ rfl
  have keep : ∀ w' v' o u, Grew w v w' v' → BytesOpt w (· < base) u o → BytesOpt w' (· < base) u o := fun w' v' o u g h => BytesOpt.extV h g.ext (fun b _ hb ho' => by have := (Own.below ho ho').1; omega)
  obtain ⟨ah, ch, rfl, _⟩ := hh.len
  have hn := hfit.hn
  simp [recW, restW] at hsz
  simp only [ir_pkmsg_Record_AppendTo, rs_pkmsg_Record_AppendTo, cw_seq]
  refine cw_then (ApSt E w v base b s) ?_ ?_
  · simp [meet]
    exact ⟨by simp, by simpa using ho, by simpa using Grew.refl w v⟩
  -- length
  rintro f w1 ⟨f0, o1, g1⟩
  rw [cw_seq]
  refine cw_then (ApSt E w v base b (s ++ vW r.len)) ?_ ?_
  · simp [f0, ht.kr0, Addr.add_mk, ld_scl ht.kI32, k0 _ _ g1]
    refine (hW.vi r.len hfit.len.1 hfit.len.2 w1 base (f 1) s o1 (Nat.le_trans hw g1.size) (by omega)).mono ?_
    rintro v2 w2 ⟨o2, g2⟩
    exact ⟨by simp [f0], by simpa using o2, by simpa using g1.trans g2⟩
  rintro f w1 ⟨f0, o1, g1⟩
  rw [cw_seq]
  refine cw_then (ApSt E w v base b (s ++ vW r.len ++ [bval r.attr])) ?_ ?_
  · simp [f0, ht.kr1, Addr.add_mk, ld_scl ht.kI8, k1 _ _ g1]
    refine (hW.i8 r.attr w1 base (f 1) _ o1 (Nat.le_trans hw g1.size) (by simp; omega)).mono ?_
    rintro v2 w2 ⟨o2, g2⟩
    exact ⟨by simp [f0], by simpa using o2, by simpa using g1.trans g2⟩
  rintro f w1 ⟨f0, o1, g1⟩
  rw [cw_seq]
  refine cw_then (ApSt E w v base b (s ++ vW r.len ++ [bval r.attr] ++ vW r.delta)) ?_ ?_
  · simp [f0, ht.kr3, Addr.add_mk, ld_scl ht.kI64, k3 _ _ g1, bin?]
    by_cases hd0 : r.delta = 0
    · refine cw_true (by simp [hd0]) ?_
      simp [f0, ht.kr2, Addr.add_mk, ld_scl ht.kI32, k2 _ _ g1, htd hd0, ht.ws.iI32, ht.ws.iI64, show IntKind.i64.wrap 0 = 0 by decide]
      refine (hW.vl 0 (by omega) (by omega) w1 base (f 1) _ o1 (Nat.le_trans hw g1.size) (by rw [hd0] at hsz; simp; omega)).mono ?_
      rintro v2 w2 ⟨o2, g2⟩
      exact ⟨by simp [f0], by simpa [hd0] using o2, by simpa using g1.trans g2⟩
    · refine cw_false (by simp [hd0]) ?_
      simp
      refine (hW.vl r.delta hfit.delta.1 hfit.delta.2 w1 base (f 1) _ o1 (Nat.le_trans hw g1.size) (by simp; omega)).mono ?_
      rintro v2 w2 ⟨o2, g2⟩
      exact ⟨by simp [f0], by simpa using o2, by simpa using g1.trans g2⟩
  rintro f w1 ⟨f0, o1, g1⟩
  rw [cw_seq]
  refine cw_then (ApSt E w v base b (s ++ vW r.len ++ [bval r.attr] ++ vW r.delta ++ vW r.off)) ?_ ?_
  · simp [f0, ht.kr4, Addr.add_mk, ld_scl ht.kI32, k4 _ _ g1]
    refine (hW.vi r.off hfit.off.1 hfit.off.2 w1 base (f 1) _ o1 (Nat.le_trans hw g1.size) (by simp; omega)).mono ?_
    rintro v2 w2 ⟨o2, g2⟩
    exact ⟨by simp [f0], by simpa using o2, by simpa using g1.trans g2⟩
  rintro f w1 ⟨f0, o1, g1⟩
  rw [cw_seq]
  refine cw_then (ApSt E w v base b (s ++ vW r.len ++ [bval r.attr] ++ vW r.delta ++ vW r.off ++ ocW r.key)) ?_ ?_
  · simp [f0, ht.kr5, Addr.add_mk, ld_scl ht.rs.kBs, k5 _ _ g1]
    refine (hW.vb r.key kv hfit.key w1 base (f 1) _ (keep _ _ _ _ g1 hk) o1 (Nat.le_trans hw g1.size) (by simp; omega)).mono ?_
    rintro v2 w2 ⟨o2, g2⟩
    exact ⟨by simp [f0], by simpa using o2, by simpa using g1.trans g2⟩
  rintro f w1 ⟨f0, o1, g1⟩
  rw [cw_seq]
  refine cw_then (ApSt E w v base b (s ++ vW r.len ++ [bval r.attr] ++ vW r.delta ++ vW r.off ++ ocW r.key ++ ocW r.val)) ?_ ?_
  · simp [f0, ht.kr6, Addr.add_mk, ld_scl ht.rs.kBs, k6 _ _ g1]
    refine (hW.vb r.val vv hfit.val w1 base (f 1) _ (keep _ _ _ _ g1 hvl) o1 (Nat.le_trans hw g1.size) (by simp; omega)).mono ?_
    rintro v2 w2 ⟨o2, g2⟩
    exact ⟨by simp [f0], by simpa using o2, by simpa using g1.trans g2⟩
  rintro f w1 ⟨f0, o1, g1⟩
  rw [cw_seq]
  refine cw_then (ApSt E w v base b (s ++ recW r)) ?_ ?_
  · have hl32 : IntKind.i32.wrap (r.hs.length : Int) = r.hs.length := i32_lenV hn
    simp [f0, ht.kr7, Addr.add_mk, ld_scl ht.kLK, k7 _ _ g1, len_slice ht.sK.und, ht.rs.iInt, ht.rs.iI32, hl32]
    refine (hW.vi r.hs.length (by omega) (by omega) w1 base (f 1) _ o1 (Nat.le_trans hw g1.size) (by simp; omega)).mono ?_
    rintro v2 w2 ⟨o2, g2⟩
    refine cw_loop (fun f w' => f 0 = .pointer (some ⟨b, 0, none⟩) ∧ ApLp E w v base (.slice ah r.hs.length ch) r.hs (s ++ vW r.len ++ [bval r.attr] ++ vW r.delta ++ vW r.off ++ ocW r.key ++ ocW r.val ++ vW r.hs.length) f w') (fun f _ => match f 76 with | .int _ i => ((r.hs.length : Int) - i).toNat | _ => 0)
      ⟨by simp [f0], 0, _, by omega, rfl, by simp, by simp, by simp, by simpa using o2, by simpa using g1.trans g2⟩ ?_
    rintro f w3 ⟨f0, i, s3, hi, rfl, h76, h75, h11, o3, g3⟩
    simp [h76, h75]
    by_cases hlt : i < r.hs.length
    rotate_left
    · refine cw_false (by simp; omega) ?_
      simp
      have : i = r.hs.length := by omega
      subst this
      exact ⟨by simp [f0], by simpa [recW, restW] using o3, by simpa using g3⟩
    refine cw_true (by simp; omega) ?_
    obtain ⟨x, hx⟩ : ∃ x, r.hs[i]? = some x := ⟨_, List.getElem?_eq_getElem hlt⟩
    obtain ⟨bb, oo, cc, cs, hvv, _, hKb, hcl, hcx, hrel⟩ := hh.get hx
    cases hvv
    obtain ⟨d, rfl, hod⟩ := hrel
    have hxf := hfit.hs x (List.mem_of_getElem? hx)
    have p0 : ∀ w' v', Grew w v w' v' → w'.cell? ⟨bb, oo + i * 2, none⟩ = some (strV x.1) := fun w' v' g => Grew.cell (by simpa using hcx 0 _ rfl) g ho hKb
    have p1 : ∀ w' v', Grew w v w' v' → w'.cell? ⟨bb, oo + i * 2 + 1, none⟩ = some d := fun w' v' g => Grew.cell (by simpa using hcx 1 _ rfl) g ho hKb
    have hsn := flat_snoc hx
    have hle := flat_take_le r.hs (i + 1)
    rw [hsn] at hle
    simp only [List.length_append, hdW] at hle
    have hsum : (List.flatMap hdW r.hs).length = (List.map (fun a => (hdW a).length) r.hs).sum := by simp
    simp [h76, h11, idx?, ht.sK.siz, hlt, ht.kh0, Addr.add_mk, ld_scl ht.rs.kS, p0 _ _ g3]
    refine (hW.vs x.1 hxf.1 w3 base (f 1) _ o3 (Nat.le_trans hw g3.size) (by simp at hle ⊢; omega)).mono ?_
    rintro v4 w4 ⟨o4, g4⟩
    have g34 := g3.trans g4
    simp [ht.kh1, Addr.add_mk, ld_scl ht.rs.kBs, p1 _ _ g34]
    refine (hW.vb x.2 d hxf.2 w4 base v4 _ (keep _ _ _ _ g34 hod) (by simpa using o4) (Nat.le_trans hw g34.size) (by simp at hle ⊢; omega)).mono ?_
    rintro v5 w5 ⟨o5, g5⟩
    have hwr : IntKind.i64.wrap ((i : Int) + 1) = (i : Int) + 1 := i64_small (by omega) (by omega)
    refine ⟨⟨by simp [f0], i + 1, _, by omega, rfl, by simp [hwr], by simp [h75], by simp [h11], ?_, by simpa using g34.trans g5⟩, by rw [hwr]; omega⟩
    rw [hsn]
    simpa [hdW] using o5
  · rintro f w1 ⟨f0, o1, g1⟩
    simp
    exact ⟨o1, g1⟩
end
end Go.Kg

set_option linter.unusedSimpArgs false
set_option linter.unusedVariables false
set_option linter.unusedSectionVars false
namespace Go.Kg
open Go
/-- blocks of data: not the struct's own, not the slice's row -/
def Kx (w : World) (hv : Value) (b5 : Nat) (b : Nat) : Prop := b < w.heap.size ∧ ¬ own1 hv b ∧ b ≠ b5
theorem BytesAt.here {w : World} {K : Nat → Prop} {v : Value} {s : List UInt8} (h : BytesAt w K v s) : BytesAt w (fun b => K b ∧ b < w.heap.size) v s := by
  rcases h with h | ⟨b, o, c, h1, h2, hk, h3⟩
  · exact .inl h
  · refine .inr ⟨b, o, c, h1, h2, fun hs => ⟨hk hs, ?_⟩, h3⟩
    obtain ⟨x, xs, rfl⟩ := List.exists_cons_of_ne_nil hs
    exact World.block_lt_of_cell? w _ (h3 0 x rfl)
theorem BytesOpt.here {w : World} {K : Nat → Prop} {v : Value} {o : Option (List UInt8)} (h : BytesOpt w K v o) : BytesOpt w (fun b => K b ∧ b < w.heap.size) v o := by
  cases o with
  | none => exact h
  | some l => exact ⟨h.1.here, h.2⟩
theorem OcAt.here {w : World} {K : Nat → Prop} {n d : Value} {o : Option (List UInt8)} (h : OcAt w K n d o) : OcAt w (fun b => K b ∧ b < w.heap.size) n d o := by
  obtain ⟨b, l, h1, h2, h3⟩ := h; exact ⟨b, l, h1, h2.here, h3⟩
/-- What is said of things in memory, and does not turn with what else turns. -/
structure Stays {α : Type} (R : World → (Nat → Prop) → α → Prop) : Prop where
  ext : ∀ {w w' : World} {K X : Nat → Prop} {x : α}, R w K x → Ext X w w' → (∀ b, b < w.heap.size → K b → ¬ X b) → R w' K x
  mono : ∀ {w : World} {K K' : Nat → Prop} {x : α}, R w K x → (∀ b, K b → K' b) → R w K' x
  here : ∀ {w : World} {K : Nat → Prop} {x : α}, R w K x → R w (fun b => K b ∧ b < w.heap.size) x
structure GrowAt (e sz : Nat) (R : World → (Nat → Prop) → List Value × HdV → Prop) (T : World → (Nat → Prop) → Unit → Prop) (w w' : World) (b5 : Nat) (cur : Array Value) (t j : Nat) (hs : List HdV) (hv : Value) (xs : List Value) : Prop where
  blk : w'.heap[b5]? = some (.cells (cur.setIfInBounds j hv) t (0, 0))
  own : Own w' w.heap.size e sz hv xs
  row : RowOf sz (fun cs x => R w' (Kx w' hv b5) (cs, x)) xs hs
  oth : T w' (Kx w' hv b5) ()
  nb : ¬ own1 hv b5
  ext : Ext none1 w w'
  le : w.heap.size ≤ b5
theorem GrowAt.step {e sz : Nat} {R : World → (Nat → Prop) → List Value × HdV → Prop} {T : World → (Nat → Prop) → Unit → Prop} (hR : Stays R) (hT : Stays T) {w w' wb : World} {b5 : Nat} {cur : Array Value} {t j : Nat} {hs : List HdV} {hv : Value} {xs cs : List Value} {x : HdV}
    (G : GrowAt e sz R T w w' b5 cur t j hs hv xs) (he : Ext none1 w' wb) (hl : cs.length = sz) (hx : R wb (fun b => w'.heap.size ≤ b) (cs, x)) {v' : Value} {w'' : World} (ho : Own w'' w.heap.size e sz v' (xs ++ cs)) (hg : Grew wb hv w'' v') :
    w''.heap[b5]? = some (.cells (cur.setIfInBounds j hv) t (0, 0)) ∧ GrowAt e sz R T w (w''.setBlk b5 (.cells (cur.setIfInBounds j v') t (0, 0))) b5 cur t j (hs ++ [x]) v' (xs ++ cs) := by
  have hb5 := lt_of_heap G.blk
  have hbb := he.old G.blk (fun h => h)
  have hb2 : w''.heap[b5]? = some (.cells (cur.setIfInBounds j hv) t (0, 0)) := hg.ext.old hbb G.nb
  have hsz := he.size
  have hsz2 := hg.ext.size
  generalize hw3 : w''.setBlk b5 (.cells (cur.setIfInBounds j v') t (0, 0)) = w3
  have hX : Ext (fun b => own1 hv b ∨ b = b5) w' w3 := by
    have h1 : Ext (fun b => own1 hv b ∨ b = b5) w' wb := he.mono (fun _ _ h => h.elim)
    have h2 : Ext (fun b => own1 hv b ∨ b = b5) wb w'' := hg.ext.mono (fun _ _ h => .inl h)
    rw [← hw3]; exact (h1.trans h2).setBlk (.inr (.inr rfl)) _
  have hXb : Ext (fun b => own1 hv b ∨ b = b5) wb w3 := by
    have h2 : Ext (fun b => own1 hv b ∨ b = b5) wb w'' := hg.ext.mono (fun _ _ h => .inl h)
    rw [← hw3]; exact h2.setBlk (.inr (.inr rfl)) _
  have hs3 : w''.heap.size = w3.heap.size := by rw [← hw3]; simp
  have hK : ∀ b, Kx w' hv b5 b → Kx w3 v' b5 b := fun b h => by
    refine ⟨by have := h.1; omega, fun ho' => ?_, h.2.2⟩
    rcases hg.own b ho' with h' | h'
    · exact h.2.1 h'
    · have := h.1; omega
  have nb' : ¬ own1 v' b5 := fun ho' => by
    rcases hg.own b5 ho' with h' | h'
    · exact G.nb h'
    · omega
  refine ⟨hb2, ⟨by rw [← hw3]; exact setBlk_same hb2, ?_, ?_, ?_, nb', ?_, G.le⟩⟩
  · have h3 : Ext (fun b => b = b5) w'' w3 := by rw [← hw3]; exact (Ext.refl (fun b => b = b5) w'').setBlk (.inr rfl) _
    exact Own.ext ho h3 (fun b hb h => nb' (h ▸ hb))
  · refine RowOf.snoc (G.row.imp fun cs x h => ?_) hl ?_
    · exact hR.mono (hR.ext h hX (fun b _ hb h' => h'.elim hb.2.1 hb.2.2)) hK
    · have h1 := hR.here hx
      refine hR.mono (hR.ext h1 hXb (fun b _ hb h' => ?_)) (fun b hb => ?_)
      · rcases h' with h' | rfl
        · have := (Own.below G.own h').2; have := hb.1; omega
        · have := hb.1; omega
      · refine ⟨by have := hb.2; omega, fun ho' => ?_, by rintro rfl; have := hb.1; omega⟩
        rcases hg.own b ho' with h' | h'
        · have := (Own.below G.own h').2; have := hb.1; omega
        · have := hb.2; omega
  · exact hT.mono (hT.ext G.oth hX (fun b _ hb h' => h'.elim hb.2.1 hb.2.2)) hK
  · have h1 : Ext none1 w w'' := by
      refine ⟨hg.ext.os.trans (he.os.trans G.ext.os), hg.ext.tape.trans (he.tape.trans G.ext.tape), hg.ext.output.trans (he.output.trans G.ext.output), Nat.le_trans G.ext.size (Nat.le_trans hsz hsz2), fun k hk _ => ?_⟩
      rw [hg.ext.block k (by have := G.ext.size; omega) (fun h => by have := (Own.below G.own h).1; omega), he.block k (by have := G.ext.size; omega) (fun h => h)]
      exact G.ext.block k hk (fun h => h)
    rw [← hw3]; exact h1.setBlk (.inl G.le) _
theorem GrowAt.start {e sz : Nat} {R : World → (Nat → Prop) → List Value × HdV → Prop} {T : World → (Nat → Prop) → Unit → Prop} (hT : Stays T) {w w3 : World} {K : Nat → Prop} (he : Ext none1 w w3) (h : T w3 K ()) {cur : Array Value} {t j : Nat} (hj : cur.setIfInBounds j (.slice none 0 0) = cur) :
    GrowAt e sz R T w (w3.alloc (.cells cur t)) w3.heap.size cur t j [] (.slice none 0 0) [] := by
  refine ⟨by rw [hj]; exact alloc_new, Own.nil _ _ _ _, RowOf.nil, ?_, by simp [own1, Value.ownBlock], he.alloc _, he.size⟩
  refine hT.mono (hT.ext (hT.here h) ((Ext.refl none1 w3).alloc _) (fun _ _ _ h => h)) (fun b hb => ⟨?_, by simp [own1, Value.ownBlock], ?_⟩)
  · have := hb.2; simp; omega
  · have := hb.2; omega
/-- nothing but new things has come -/
theorem GrowAt.post {e sz : Nat} {R : World → (Nat → Prop) → List Value × HdV → Prop} {T : World → (Nat → Prop) → Unit → Prop} (hR : Stays R) (hT : Stays T) {w w' wb : World} {b5 : Nat} {cur : Array Value} {t j : Nat} {hs : List HdV} {hv : Value} {xs : List Value}
    (G : GrowAt e sz R T w w' b5 cur t j hs hv xs) (he : Ext none1 w' wb) : GrowAt e sz R T w wb b5 cur t j hs hv xs := by
  have hsz := he.size
  have hK : ∀ b, Kx w' hv b5 b → Kx wb hv b5 b := fun b h => ⟨by have := h.1; omega, h.2.1, h.2.2⟩
  exact ⟨he.old G.blk (fun h => h), Own.ext G.own he (fun _ _ h => h), G.row.imp fun cs x h => hR.mono (hR.ext h he (fun _ _ _ h => h)) hK, hT.mono (hT.ext G.oth he (fun _ _ _ h => h)) hK, G.nb, G.ext.trans he, G.le⟩
/-- the slice, read -/
theorem GrowAt.ls {e sz : Nat} {R : World → (Nat → Prop) → List Value × HdV → Prop} {T : World → (Nat → Prop) → Unit → Prop} (hsz : 0 < sz) {w w' : World} {b5 : Nat} {cur : Array Value} {t j : Nat} {hs : List HdV} {hv : Value} {xs : List Value}
    (G : GrowAt e sz R T w w' b5 cur t j hs hv xs) : LsAt w' (fun b => w.heap.size ≤ b ∧ b < w'.heap.size) sz (fun cs x => R w' (Kx w' hv b5) (cs, x)) hv hs := by
  obtain ⟨n, h1, h2⟩ := G.own
  have hn : n = hs.length := by
    have := G.row.1
    rw [h1] at this
    exact Nat.eq_of_mul_eq_mul_right hsz this
  subst hn
  rcases h2 with ⟨rfl, hn⟩ | ⟨g, cap, cur', rfl, hb, hg, hnc, hcm, hcs, htake⟩
  · exact .inl ⟨⟨_, rfl⟩, List.eq_nil_of_length_eq_zero hn⟩
  · refine .inr ⟨g, 0, cap, xs, rfl, hnc, fun _ => ⟨hb, lt_of_heap hg⟩, fun k u hk => ?_, G.row⟩
    rw [cell_of_blk hg]
    rw [← htake, List.getElem?_take] at hk
    split at hk
    · simpa using hk
    · cases hk
theorem stays_KHd : Stays (fun w K (p : List Value × HdV) => KHd w K p.1 p.2) := ⟨fun h he hD => h.ext he hD, fun h hK => h.mono hK, fun h => by obtain ⟨d, h1, h2⟩ := h; exact ⟨d, h1, h2.here⟩⟩
theorem stays_IHd : Stays (fun w K (p : List Value × HdV) => IHd w K p.1 p.2) := ⟨fun h he hD => h.ext he hD, fun h hK => h.mono hK, fun h => by obtain ⟨n, d, h1, h2⟩ := h; exact ⟨n, d, h1, h2.here⟩⟩
/-- key and value -/
def KvT (kv vv : Value) (k v : Option (List UInt8)) (w : World) (K : Nat → Prop) (_ : Unit) : Prop := BytesOpt w K kv k ∧ BytesOpt w K vv v
theorem stays_KvT {kv vv : Value} {k v : Option (List UInt8)} : Stays (KvT kv vv k v) :=
  ⟨fun h he hD => ⟨BytesOpt.extV h.1 he hD, BytesOpt.extV h.2 he hD⟩, fun h hK => ⟨BytesOpt.mono hK h.1, BytesOpt.mono hK h.2⟩, fun h => ⟨h.1.here, h.2.here⟩⟩
def OvT (kn kd vn vd : Value) (k v : Option (List UInt8)) (w : World) (K : Nat → Prop) (_ : Unit) : Prop := OcAt w K kn kd k ∧ OcAt w K vn vd v
theorem stays_OvT {kn kd vn vd : Value} {k v : Option (List UInt8)} : Stays (OvT kn kd vn vd k v) :=
  ⟨fun h he hD => ⟨h.1.ext he hD, h.2.ext he hD⟩, fun h hK => ⟨h.1.mono hK, h.2.mono hK⟩, fun h => ⟨h.1.here, h.2.here⟩⟩
end Go.Kg
