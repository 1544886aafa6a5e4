/- What is proved here: how the code of the messages runs, in general: a semantics of calls by their texts, and contracts of the functions of kbin and of the reference. No condition but those that each theorem names. -/
import Derived.Laws.IdiomCopy
import Derived.Test.YthmmcbmgeoaefaaGreatDoorKa
set_option linter.unusedSectionVars false
set_option linter.unusedSimpArgs false
set_option linter.unusedVariables false
set_option linter.unusedSimpArgs false
set_option linter.unusedVariables false
namespace Go.Kg
open Go
theorem st_index_str {P : Program} {f : Nat → Value} {ty : TypeId} {w : World} {K : Value → World → Prop} {t : TypeId} {x y : Operand} (hu : P.underlying t = some .string) {s : ByteArray} {k : IntKind} {i : Nat} {b : UInt8}
    (hx : evF f x = .string s) (hy : evF f y = .int k i) (hb : s[i]? = some b) : stepF P f (.index t x y) ty w K = K (.int .u8 b.toNat) w := by
  refine stepF_ok ?_
  simp [runF, execOp, hx, hy, Instr.index, asIntOf, run_underlying hu, hb]
theorem bits_mask7 (k : IntKind) (N : Nat) (hN : 7 ≤ N) (hj : N ≤ k.bits) (hk : ∀ n : Int, 0 ≤ n → n < 2 ^ N → k.wrap n = n) (x : Int) (h0 : 0 ≤ x) (h1 : x < 2 ^ N) : bits .and k x 127 = x % 128 :=
  bits_mask k N hj hk 7 hN x h0 h1
theorem g7 (x : Int) (h0 : 0 ≤ x) (h1 : x < 4294967296) : bits .or .u32 (bits .and .u32 x 127) 128 = x % 128 + 128 := by
  rw [bits_mask7 .u32 32 (by decide) (by decide) wraps_u32 x h0 h1]
  have := bits_join_low .u32 32 (by decide) wraps_u32 7 (x % 128) 128 (by omega) (by omega) (by omega) (by omega) (by omega) (by omega)
  rw [this]
/-- how many binary digits (below 256) -/
def b8 (i : Nat) : Nat := if i < 1 then 0 else if i < 2 then 1 else if i < 4 then 2 else if i < 8 then 3 else if i < 16 then 4 else if i < 32 then 5 else if i < 64 then 6 else if i < 128 then 7 else 8
theorem tab8_at : ∀ i : Fin 256, tab8[i.val]? = some (UInt8.ofNat (b8 i.val)) := by decide +kernel
def len32 (n : Nat) : Nat :=
  if n < 256 then b8 n else if n < 65536 then 8 + b8 (n / 256) else if n < 16777216 then 16 + b8 (n / 65536) else 24 + b8 (n / 16777216)
theorem b8_le (n : Nat) : b8 n ≤ 8 := by unfold b8; repeat' split
                                         all_goals omega
theorem b8_u8 (n : Nat) : (UInt8.ofNat (b8 n)).toNat = b8 n := by have := b8_le n; simp; omega
theorem c_Len32 {P : Program} {E : Env} (ht : TyWr P E) (uS : P.underlying E.tS = some .string) (hI : FnIs P E.f_math_bits_Len32 nt_math_bits_Len32 (rs_math_bits_Len32 E) (ir_math_bits_Len32 E)) {w : World} {n : Nat} (hn : n < 4294967296) :
    Ret P E.f_math_bits_Len32 #[.int .u32 n] w fun v w' => v = .int .i64 (len32 n) ∧ w' = w := by
  refine hI.call (args := [_]) (by simp [nt_math_bits_Len32]) ?_
  simp only [ir_math_bits_Len32, rs_math_bits_Len32, cw_seq, cw_reg]
  by_cases h1 : n < 65536
  · by_cases h2 : n < 256
    · simp [bin?]
      refine cw_false (by simp; omega) ?_
      simp [bin?]
      refine cw_false (by simp; omega) ?_
      have hb := b8_le (n)
      have e1 : IntKind.u8.wrap (n : Int) = ((n : Nat) : Int) := by simp [IntKind.wrap, IntKind.signed, IntKind.bits]; omega
      simp [bin?, IntKind.bits, Int.fdiv_eq_ediv_of_nonneg, IntKind.wrap_i64, ht.iU32, ht.iU8, e1]
      rw [st_index_str uS (k := .u8) (i := n) (by simp) (by simp) (tab8_at ⟨n, by omega⟩)]
      simp [ht.iU8, ht.iInt, b8_u8, bin?, IntKind.wrap_i64, len32]
      rw [if_pos h2]; omega
    · simp [bin?]
      refine cw_false (by simp; omega) ?_
      simp [bin?]
      refine cw_true (by simp; omega) ?_
      have hb := b8_le (n / 256)
      have e1 : IntKind.u8.wrap (n / 256 : Int) = ((n / 256 : Nat) : Int) := by simp [IntKind.wrap, IntKind.signed, IntKind.bits]; omega
      simp [bin?, IntKind.bits, Int.fdiv_eq_ediv_of_nonneg, IntKind.wrap_i64, ht.iU32, ht.iU8, e1]
      rw [st_index_str uS (k := .u8) (i := n / 256) (by simp) (by simp) (tab8_at ⟨n / 256, by omega⟩)]
      simp [ht.iU8, ht.iInt, b8_u8, bin?, IntKind.wrap_i64, len32]
      rw [if_neg h2, if_pos h1]; omega
  · by_cases h2 : n < 16777216
    · simp [bin?]
      refine cw_true (by simp; omega) ?_
      simp [bin?, IntKind.bits, Int.fdiv_eq_ediv_of_nonneg]
      refine cw_false (by simp; omega) ?_
      have hb := b8_le (n / 65536)
      have e1 : IntKind.u8.wrap (n / 65536 : Int) = ((n / 65536 : Nat) : Int) := by simp [IntKind.wrap, IntKind.signed, IntKind.bits]; omega
      simp [bin?, IntKind.bits, Int.fdiv_eq_ediv_of_nonneg, IntKind.wrap_i64, ht.iU32, ht.iU8, e1]
      rw [st_index_str uS (k := .u8) (i := n / 65536) (by simp) (by simp) (tab8_at ⟨n / 65536, by omega⟩)]
      simp [ht.iU8, ht.iInt, b8_u8, bin?, IntKind.wrap_i64, len32]
      rw [if_neg (by omega), if_neg h1, if_pos h2]; omega
    · simp [bin?]
      refine cw_true (by simp; omega) ?_
      simp [bin?, IntKind.bits, Int.fdiv_eq_ediv_of_nonneg]
      refine cw_true (by simp; omega) ?_
      have hb := b8_le (n / 16777216)
      have e1 : IntKind.u8.wrap (n / 65536 / 256 : Int) = ((n / 16777216 : Nat) : Int) := by simp [IntKind.wrap, IntKind.signed, IntKind.bits]; omega
      simp [bin?, IntKind.bits, Int.fdiv_eq_ediv_of_nonneg, IntKind.wrap_i64, ht.iU32, ht.iU8, e1]
      rw [st_index_str uS (k := .u8) (i := n / 16777216) (by simp) (by simp) (tab8_at ⟨n / 16777216, by omega⟩)]
      simp [ht.iU8, ht.iInt, b8_u8, bin?, IntKind.wrap_i64, len32]
      rw [if_neg (by omega), if_neg h1, if_neg h2]; omega
/-- how many groups of seven bits -/
def uvl (n : Nat) : Nat := if n < 128 then 1 else if n < 16384 then 2 else if n < 2097152 then 3 else if n < 268435456 then 4 else 5
theorem tabU_at : ∀ i : Fin 33, tabU[i.val]? = some (UInt8.ofNat (if i.val < 8 then 1 else if i.val < 15 then 2 else if i.val < 22 then 3 else if i.val < 29 then 4 else 5)) := by decide +kernel
theorem len32_uvl (n : Nat) (hn : n < 4294967296) : len32 n < 33 ∧ uvl n = (if len32 n < 8 then 1 else if len32 n < 15 then 2 else if len32 n < 22 then 3 else if len32 n < 29 then 4 else 5) := by
  have key : ∀ m, m < 256 → (m < 1 ∧ b8 m = 0) ∨ (1 ≤ m ∧ m < 2 ∧ b8 m = 1) ∨ (2 ≤ m ∧ m < 4 ∧ b8 m = 2) ∨ (4 ≤ m ∧ m < 8 ∧ b8 m = 3) ∨ (8 ≤ m ∧ m < 16 ∧ b8 m = 4) ∨ (16 ≤ m ∧ m < 32 ∧ b8 m = 5) ∨
      (32 ≤ m ∧ m < 64 ∧ b8 m = 6) ∨ (64 ≤ m ∧ m < 128 ∧ b8 m = 7) ∨ (128 ≤ m ∧ b8 m = 8) := by
    intro m hm
    unfold b8
    repeat' split
    all_goals omega
  have kU : (n < 128 ∧ uvl n = 1) ∨ (128 ≤ n ∧ n < 16384 ∧ uvl n = 2) ∨ (16384 ≤ n ∧ n < 2097152 ∧ uvl n = 3) ∨ (2097152 ≤ n ∧ n < 268435456 ∧ uvl n = 4) ∨ (268435456 ≤ n ∧ uvl n = 5) := by
    unfold uvl
    repeat' split
    all_goals omega
  have kL : ∃ l, len32 n = l ∧ l < 33 ∧ ((l < 8 ∧ n < 128) ∨ (8 ≤ l ∧ l < 15 ∧ 128 ≤ n ∧ n < 16384) ∨ (15 ≤ l ∧ l < 22 ∧ 16384 ≤ n ∧ n < 2097152) ∨ (22 ≤ l ∧ l < 29 ∧ 2097152 ≤ n ∧ n < 268435456) ∨ (29 ≤ l ∧ 268435456 ≤ n)) := by
    refine ⟨_, rfl, ?_⟩
    unfold len32
    split
    · have := key n (by omega); omega
    · split
      · have := key (n / 256) (by omega); omega
      · split
        · have := key (n / 65536) (by omega); omega
        · have := key (n / 16777216) (by omega); omega
  obtain ⟨l, h1, h2, h3⟩ := kL
  rw [h1]
  refine ⟨h2, ?_⟩
  repeat' split
  all_goals omega
theorem c_UvLen {P : Program} {E : Env} (ht : TyWr P E) (uS : P.underlying E.tS = some .string) (hI : FnIs P E.f_kbin_UvarintLen nt_kbin_UvarintLen (rs_kbin_UvarintLen E) (ir_kbin_UvarintLen E))
    (hL : ∀ (w : World) (n : Nat), n < 4294967296 → Ret P E.f_math_bits_Len32 #[.int .u32 n] w fun v w' => v = .int .i64 (len32 n) ∧ w' = w) {w : World} {n : Nat} (hn : n < 4294967296) :
    Ret P E.f_kbin_UvarintLen #[.int .u32 n] w fun v w' => v = .int .i64 (uvl n) ∧ w' = w := by
  refine hI.call (args := [_]) (by simp [nt_kbin_UvarintLen]) ?_
  simp [ir_kbin_UvarintLen, rs_kbin_UvarintLen]
  refine (hL w n hn).mono ?_
  rintro v w' ⟨rfl, rfl⟩
  obtain ⟨h1, h2⟩ := len32_uvl n hn
  have e1 : IntKind.u8.wrap (len32 n : Int) = (len32 n : Nat) := by simp [IntKind.wrap, IntKind.signed, IntKind.bits]; omega
  simp [ht.iInt, ht.iU8, e1]
  rw [st_index_str uS (k := .u8) (i := len32 n) (by simp) (by simp) (tabU_at ⟨len32 n, h1⟩)]
  simp only [← h2]
  have : uvl n ≤ 5 := by unfold uvl; repeat' split
                         all_goals omega
  simp [ht.iU8, ht.iInt, IntKind.wrap_i64]
  omega
/-- Groups of seven bits, the lowest one first. -/
def uvE : Nat → Nat → List UInt8
  | 0, n => [UInt8.ofNat n]
  | k + 1, n => if n < 128 then [UInt8.ofNat n] else UInt8.ofNat (n % 128 + 128) :: uvE k (n / 128)
def uvOut (n : Nat) : List UInt8 := uvE 4 n
theorem uvOut1 {n : Nat} (h1 : n < 128) : uvOut n = [bval ((n : Int))] := by
  rw [bval_nat (x := (n : Int)) (n := n) (by omega)]
  simp only [uvOut, uvE, Nat.div_div_eq_div_mul, if_pos (show n < 128 by omega)]
theorem uvl1 {n : Nat} (h1 : n < 128) : uvl n = 1 := by
  unfold uvl
  repeat' split
  all_goals omega
theorem uvOut2 {n : Nat} (h0 : 128 ≤ n) (h1 : n < 16384) : uvOut n = [bval ((n : Int) % 128 + 128), bval ((n : Int) / 128)] := by
  rw [bval_nat (x := (n : Int) % 128 + 128) (n := n % 128 + 128) (by omega), bval_nat (x := (n : Int) / 128) (n := n / 128) (by omega)]
  simp only [uvOut, uvE, Nat.div_div_eq_div_mul, if_neg (show ¬ n < 128 by omega), if_pos (show n / 128 < 128 by omega)]
theorem uvl2 {n : Nat} (h0 : 128 ≤ n) (h1 : n < 16384) : uvl n = 2 := by
  unfold uvl
  repeat' split
  all_goals omega
theorem uvOut3 {n : Nat} (h0 : 16384 ≤ n) (h1 : n < 2097152) : uvOut n = [bval ((n : Int) % 128 + 128), bval ((n : Int) / 128 % 128 + 128), bval ((n : Int) / 16384)] := by
  rw [bval_nat (x := (n : Int) % 128 + 128) (n := n % 128 + 128) (by omega), bval_nat (x := (n : Int) / 128 % 128 + 128) (n := n / 128 % 128 + 128) (by omega), bval_nat (x := (n : Int) / 16384) (n := n / 16384) (by omega)]
  simp only [uvOut, uvE, Nat.div_div_eq_div_mul, if_neg (show ¬ n < 128 by omega), if_neg (show ¬ n / 128 < 128 by omega), if_pos (show n / 16384 < 128 by omega)]
theorem uvl3 {n : Nat} (h0 : 16384 ≤ n) (h1 : n < 2097152) : uvl n = 3 := by
  unfold uvl
  repeat' split
  all_goals omega
theorem uvOut4 {n : Nat} (h0 : 2097152 ≤ n) (h1 : n < 268435456) : uvOut n = [bval ((n : Int) % 128 + 128), bval ((n : Int) / 128 % 128 + 128), bval ((n : Int) / 16384 % 128 + 128), bval ((n : Int) / 2097152)] := by
  rw [bval_nat (x := (n : Int) % 128 + 128) (n := n % 128 + 128) (by omega), bval_nat (x := (n : Int) / 128 % 128 + 128) (n := n / 128 % 128 + 128) (by omega), bval_nat (x := (n : Int) / 16384 % 128 + 128) (n := n / 16384 % 128 + 128) (by omega), bval_nat (x := (n : Int) / 2097152) (n := n / 2097152) (by omega)]
  simp only [uvOut, uvE, Nat.div_div_eq_div_mul, if_neg (show ¬ n < 128 by omega), if_neg (show ¬ n / 128 < 128 by omega), if_neg (show ¬ n / 16384 < 128 by omega), if_pos (show n / 2097152 < 128 by omega)]
theorem uvl4 {n : Nat} (h0 : 2097152 ≤ n) (h1 : n < 268435456) : uvl n = 4 := by
  unfold uvl
  repeat' split
  all_goals omega
theorem uvOut5 {n : Nat} (h0 : 268435456 ≤ n) (h1 : n < 4294967296) : uvOut n = [bval ((n : Int) % 128 + 128), bval ((n : Int) / 128 % 128 + 128), bval ((n : Int) / 16384 % 128 + 128), bval ((n : Int) / 2097152 % 128 + 128), bval ((n : Int) / 268435456)] := by
  rw [bval_nat (x := (n : Int) % 128 + 128) (n := n % 128 + 128) (by omega), bval_nat (x := (n : Int) / 128 % 128 + 128) (n := n / 128 % 128 + 128) (by omega), bval_nat (x := (n : Int) / 16384 % 128 + 128) (n := n / 16384 % 128 + 128) (by omega), bval_nat (x := (n : Int) / 2097152 % 128 + 128) (n := n / 2097152 % 128 + 128) (by omega), bval_nat (x := (n : Int) / 268435456) (n := n / 268435456) (by omega)]
  simp only [uvOut, uvE, Nat.div_div_eq_div_mul, if_neg (show ¬ n < 128 by omega), if_neg (show ¬ n / 128 < 128 by omega), if_neg (show ¬ n / 16384 < 128 by omega), if_neg (show ¬ n / 2097152 < 128 by omega)]
theorem uvl5 {n : Nat} (h0 : 268435456 ≤ n) (h1 : n < 4294967296) : uvl n = 5 := by
  unfold uvl
  repeat' split
  all_goals omega
theorem c_wUvarint {P : Program} {E : Env} (ht : TyWr P E) (hI : FnIs P E.f_kbin_AppendUvarint nt_kbin_AppendUvarint (rs_kbin_AppendUvarint E) (ir_kbin_AppendUvarint E))
    (hL : ∀ (w : World) (n : Nat), n < 4294967296 → Ret P E.f_kbin_UvarintLen #[.int .u32 n] w fun v w' => v = .int .i64 (uvl n) ∧ w' = w) {n : Nat} (hn : n < 4294967296) :
    WrC P E.tU8 E.f_kbin_AppendUvarint [.int .u32 n] (uvOut n) := by
  intro w base v s ho hw hsz
  refine hI.call (args := [_, _]) (by simp [nt_kbin_AppendUvarint]) ?_
  simp only [ir_kbin_AppendUvarint, rs_kbin_AppendUvarint, cw_seq, cw_reg]
  simp
  refine (hL w n hn).mono ?_
  rintro v1 w1 ⟨rfl, rfl⟩
  have i0 := g7 (n : Int) (by omega) (by omega)
  have i1 := g7 ((n : Int) / 128) (by omega) (by omega)
  have i2 := g7 ((n : Int) / 16384) (by omega) (by omega)
  have i3 := g7 ((n : Int) / 2097152) (by omega) (by omega)
  by_cases h : 268435456 ≤ n
  · rw [uvl5 h (by omega)]
    simp [bin?]
    refine cw_true (by simp) ?_
    simp [bin?, IntKind.bits, Int.fdiv_eq_ediv_of_nonneg, i0, i1, i2, i3, ht.iU32, ht.iU8, st_bsl ht.sBs, denseFrom, allSz, flat, Value.cells, u8wrap]
    have hu := uvOut5 h (by omega)
    refine st_app_lit ht.sBs (by simp) ho hw (uvOut n) ?_ ?_ hsz fun v' w' h1 h2 => ⟨h1, h2⟩
    · rw [hu]; simp [cellsOf]
    · rw [hu]; simp
  by_cases h : 2097152 ≤ n
  · rw [uvl4 h (by omega)]
    simp [bin?]
    refine cw_false (by simp) ?_
    simp [bin?]
    refine cw_true (by simp) ?_
    simp [bin?, IntKind.bits, Int.fdiv_eq_ediv_of_nonneg, i0, i1, i2, i3, ht.iU32, ht.iU8, st_bsl ht.sBs, denseFrom, allSz, flat, Value.cells, u8wrap]
    have hu := uvOut4 h (by omega)
    refine st_app_lit ht.sBs (by simp) ho hw (uvOut n) ?_ ?_ hsz fun v' w' h1 h2 => ⟨h1, h2⟩
    · rw [hu]; simp [cellsOf]
    · rw [hu]; simp
  by_cases h : 16384 ≤ n
  · rw [uvl3 h (by omega)]
    simp [bin?]
    refine cw_false (by simp) ?_
    simp [bin?]
    refine cw_false (by simp) ?_
    simp [bin?]
    refine cw_true (by simp) ?_
    simp [bin?, IntKind.bits, Int.fdiv_eq_ediv_of_nonneg, i0, i1, i2, i3, ht.iU32, ht.iU8, st_bsl ht.sBs, denseFrom, allSz, flat, Value.cells, u8wrap]
    have hu := uvOut3 h (by omega)
    refine st_app_lit ht.sBs (by simp) ho hw (uvOut n) ?_ ?_ hsz fun v' w' h1 h2 => ⟨h1, h2⟩
    · rw [hu]; simp [cellsOf]
    · rw [hu]; simp
  by_cases h : 128 ≤ n
  · rw [uvl2 h (by omega)]
    simp [bin?]
    refine cw_false (by simp) ?_
    simp [bin?]
    refine cw_false (by simp) ?_
    simp [bin?]
    refine cw_false (by simp) ?_
    simp [bin?]
    refine cw_true (by simp) ?_
    simp [bin?, IntKind.bits, Int.fdiv_eq_ediv_of_nonneg, i0, i1, i2, i3, ht.iU32, ht.iU8, st_bsl ht.sBs, denseFrom, allSz, flat, Value.cells, u8wrap]
    have hu := uvOut2 h (by omega)
    refine st_app_lit ht.sBs (by simp) ho hw (uvOut n) ?_ ?_ hsz fun v' w' h1 h2 => ⟨h1, h2⟩
    · rw [hu]; simp [cellsOf]
    · rw [hu]; simp
  · rw [uvl1 (n := n) (by omega)]
    simp [bin?]
    refine cw_false (by simp) ?_
    simp [bin?]
    refine cw_false (by simp) ?_
    simp [bin?]
    refine cw_false (by simp) ?_
    simp [bin?]
    refine cw_false (by simp) ?_
    simp [bin?]
    refine cw_true (by simp) ?_
    simp [bin?, IntKind.bits, Int.fdiv_eq_ediv_of_nonneg, i0, i1, i2, i3, ht.iU32, ht.iU8, st_bsl ht.sBs, denseFrom, allSz, flat, Value.cells, u8wrap]
    have hu := uvOut1 (n := n) (by omega)
    refine st_app_lit ht.sBs (by simp) ho hw (uvOut n) ?_ ?_ hsz fun v' w' h1 h2 => ⟨h1, h2⟩
    · rw [hu]; simp [cellsOf]
    · rw [hu]; simp
end Go.Kg

set_option linter.unusedSimpArgs false
set_option linter.unusedVariables false
namespace Go.Kg
open Go
def strV (l : List UInt8) : Value := .string ⟨l.toArray⟩
@[simp] theorem bts_mk {l : List UInt8} : bts ⟨l.toArray⟩ = l := by simp [bts]
@[simp] theorem size_mk {l : List UInt8} : (ByteArray.mk l.toArray).size = l.length := rfl
/-- f appends 'out' to what it is handed, where 'pre' holds. -/
def WrP (P : Program) (u8 f : Nat) (pre : World → Nat → Prop) (args : List Value) (out : List UInt8) : Prop := ∀ w base v s, pre w base → OwnB u8 w base v s → base ≤ w.heap.size → s.length + out.length ≤ 1099511627776 →
  Ret P f (v :: args).toArray w fun v' w' => OwnB u8 w' base v' (s ++ out) ∧ Grew w v w' v'
theorem WrC.p {P : Program} {u8 f : Nat} {pre : World → Nat → Prop} {args : List Value} {out : List UInt8} (h : WrC P u8 f args out) : WrP P u8 f pre args out := fun w base v s _ => h w base v s
theorem Grew.bytes {u8 : Nat} {w w' : World} {v v' : Value} {base : Nat} {s bs : List UInt8} {u : Value} (h : BytesAt w (· < base) u bs) (g : Grew w v w' v') (ho : OwnB u8 w base v s) : BytesAt w' (· < base) u bs :=
  h.ext g.ext fun b _ hb ho' => by have := (Own.below ho ho').1; omega
theorem Grew.cell {u8 : Nat} {w w' : World} {v v' : Value} {base : Nat} {s : List UInt8} {a : Addr} {u : Value} (h : w.cell? a = some u) (g : Grew w v w' v') (ho : OwnB u8 w base v s) (hb : a.block < base) : w'.cell? a = some u :=
  g.ext.cell h fun ho' => by have := (Own.below ho ho').1; omega
theorem Grew.size {w w' : World} {v v' : Value} (g : Grew w v w' v') : w.heap.size ≤ w'.heap.size := g.ext.size
/-- a pointer to a text, or none -/
def StrPtr (w : World) (K : Nat → Prop) (v : Value) (o : Option (List UInt8)) : Prop :=
  match o with
  | none => v = .pointer none
  | some l => ∃ a : Addr, v = .pointer (some a) ∧ K a.block ∧ w.cell? a = some (strV l)
structure TyWs (P : Program) (E : Env) : Prop extends TyWr P E where
  uS : P.underlying E.tS = some .string
  kS : kindOf P E.tS = .scl
  uPS : E.tPS ≠ 0 → P.underlying E.tPS = some (.pointer E.tS)
theorem len16 {l : Nat} : IntKind.i16.wrap (l : Int) % 65536 = (l : Int) % 65536 := by simp [IntKind.wrap, IntKind.signed, IntKind.bits]; omega
theorem len32i {l : Nat} : IntKind.i32.wrap (l : Int) % 4294967296 = (l : Int) % 4294967296 := by simp [IntKind.wrap, IntKind.signed, IntKind.bits]; omega
theorem len32u {l : Nat} : IntKind.u32.wrap (1 + IntKind.u32.wrap (l : Int)) = (((l + 1) % 4294967296 : Nat) : Int) := by simp [IntKind.wrap, IntKind.signed, IntKind.bits]; omega
def wStr (l : List UInt8) : List UInt8 := bigE 2 (l.length % 65536) ++ l
def wCStr (l : List UInt8) : List UInt8 := uvOut ((l.length + 1) % 4294967296) ++ l
section
variable {P : Program} {E : Env} (ht : TyWs P E)
include ht
theorem c_wString (n16 : E.tI16 ≠ 0) (hI : FnIs P E.f_kbin_AppendString nt_kbin_AppendString (rs_kbin_AppendString E) (ir_kbin_AppendString E))
    (h16 : ∀ n : Int, WrC P E.tU8 E.f_kbin_AppendInt16 [.int .i16 n] (bigE 2 (n % 65536).toNat)) (l : List UInt8) :
    WrC P E.tU8 E.f_kbin_AppendString [strV l] (wStr l) := by
  intro w base v s ho hw hsz
  refine hI.call (args := [_, _]) (by simp [nt_kbin_AppendString]) ?_
  simp [ir_kbin_AppendString, rs_kbin_AppendString, strV, len_str ht.uS, ht.iInt, ht.iI16 n16]
  simp [wStr] at hsz
  refine (h16 (IntKind.i16.wrap l.length) w base v s ho hw (by simp; omega)).mono ?_
  rintro v1 w1 ⟨ho1, hg1⟩
  have e : (IntKind.i16.wrap (l.length : Int) % 65536).toNat = l.length % 65536 := by rw [len16]; omega
  rw [e] at ho1
  have := hg1.size
  refine st_app_str ht.sBs ht.uS (by simp) ho1 (by omega) (bs := ⟨l.toArray⟩) (by simp) (by simp; omega) ?_
  intro v' w' h1 h2
  simp only [bts_mk, List.append_assoc] at h1
  exact ⟨h1, hg1.trans h2⟩
theorem c_wCString (hI : FnIs P E.f_kbin_AppendCompactString nt_kbin_AppendCompactString (rs_kbin_AppendCompactString E) (ir_kbin_AppendCompactString E))
    (hU : ∀ n : Nat, n < 4294967296 → WrC P E.tU8 E.f_kbin_AppendUvarint [.int .u32 n] (uvOut n)) (l : List UInt8) :
    WrC P E.tU8 E.f_kbin_AppendCompactString [strV l] (wCStr l) := by
  intro w base v s ho hw hsz
  refine hI.call (args := [_, _]) (by simp [nt_kbin_AppendCompactString]) ?_
  simp [ir_kbin_AppendCompactString, rs_kbin_AppendCompactString, strV, len_str ht.uS, ht.iInt, ht.iU32, bin?, len32u]
  simp [wCStr] at hsz
  refine (by simpa using hU ((l.length + 1) % 4294967296) (by omega) w base v s ho hw (by omega) : Ret P _ _ _ _).mono ?_
  rintro v1 w1 ⟨ho1, hg1⟩
  have := hg1.size
  refine st_app_str ht.sBs ht.uS (by simp) ho1 (by omega) (bs := ⟨l.toArray⟩) (by simp) (by simp; omega) ?_
  intro v' w' h1 h2
  simp only [bts_mk, List.append_assoc] at h1
  exact ⟨h1, hg1.trans h2⟩
def wNStr : Option (List UInt8) → List UInt8
  | none => bigE 2 65535
  | some l => wStr l
def wCNStr : Option (List UInt8) → List UInt8
  | none => uvOut 0
  | some l => wCStr l
theorem c_wNString (h0 : E.tPS ≠ 0) (hI : FnIs P E.f_kbin_AppendNullableString nt_kbin_AppendNullableString (rs_kbin_AppendNullableString E) (ir_kbin_AppendNullableString E))
    (h16 : ∀ n : Int, WrC P E.tU8 E.f_kbin_AppendInt16 [.int .i16 n] (bigE 2 (n % 65536).toNat)) (hS : ∀ l, WrC P E.tU8 E.f_kbin_AppendString [strV l] (wStr l)) (o : Option (List UInt8)) (u : Value) :
    WrP P E.tU8 E.f_kbin_AppendNullableString (fun w base => StrPtr w (· < base) u o) [u] (wNStr o) := by
  intro w base v s hp ho hw hsz
  refine hI.call (args := [_, _]) (by simp [nt_kbin_AppendNullableString]) ?_
  cases o with
  | none =>
    cases hp
    simp [ir_kbin_AppendNullableString, rs_kbin_AppendNullableString, bin_nil_ptr (ht.uPS h0)]
    refine cw_true (by simp) ?_
    simp
    exact h16 (-1) w base v s ho hw hsz
  | some l =>
    obtain ⟨a, rfl, ha, hc⟩ := hp
    simp [ir_kbin_AppendNullableString, rs_kbin_AppendNullableString, bin_nil_ptr (ht.uPS h0)]
    refine cw_false (by simp) ?_
    simp [ld_scl ht.kS, hc]
    exact hS l w base v s ho hw hsz
theorem c_wCNString (h0 : E.tPS ≠ 0) (hI : FnIs P E.f_kbin_AppendCompactNullableString nt_kbin_AppendCompactNullableString (rs_kbin_AppendCompactNullableString E) (ir_kbin_AppendCompactNullableString E))
    (hU : ∀ n : Nat, n < 4294967296 → WrC P E.tU8 E.f_kbin_AppendUvarint [.int .u32 n] (uvOut n)) (hS : ∀ l, WrC P E.tU8 E.f_kbin_AppendCompactString [strV l] (wCStr l)) (o : Option (List UInt8)) (u : Value) :
    WrP P E.tU8 E.f_kbin_AppendCompactNullableString (fun w base => StrPtr w (· < base) u o) [u] (wCNStr o) := by
  intro w base v s hp ho hw hsz
  refine hI.call (args := [_, _]) (by simp [nt_kbin_AppendCompactNullableString]) ?_
  cases o with
  | none =>
    cases hp
    simp [ir_kbin_AppendCompactNullableString, rs_kbin_AppendCompactNullableString, bin_nil_ptr (ht.uPS h0)]
    refine cw_true (by simp) ?_
    simp
    exact hU 0 (by omega) w base v s ho hw hsz
  | some l =>
    obtain ⟨a, rfl, ha, hc⟩ := hp
    simp [ir_kbin_AppendCompactNullableString, rs_kbin_AppendCompactNullableString, bin_nil_ptr (ht.uPS h0)]
    refine cw_false (by simp) ?_
    simp [ld_scl ht.kS, hc]
    exact hS l w base v s ho hw hsz
end
end Go.Kg

set_option linter.unusedSimpArgs false
set_option linter.unusedVariables false
namespace Go.Kg
open Go
def wBytes (l : List UInt8) : List UInt8 := bigE 4 (l.length % 4294967296) ++ l
def wCBytes (l : List UInt8) : List UInt8 := uvOut ((l.length + 1) % 4294967296) ++ l
def wNBytes : Option (List UInt8) → List UInt8
  | none => bigE 4 4294967295
  | some l => wBytes l
def wCNBytes : Option (List UInt8) → List UInt8
  | none => uvOut 0
  | some l => wCBytes l
def wLen (n : Nat) : List UInt8 := bigE 4 (n % 4294967296)
def wCLen (n : Nat) : List UInt8 := uvOut ((n + 1) % 4294967296)
def wNLen (n : Nat) (nil : Bool) : List UInt8 := if nil then bigE 4 4294967295 else wLen n
def wCNLen (n : Nat) (nil : Bool) : List UInt8 := if nil then uvOut 0 else wCLen n
/-- bytes that may be nil -/
def BytesOpt (w : World) (K : Nat → Prop) (u : Value) : Option (List UInt8) → Prop
  | none => u = .slice none 0 0
  | some l => BytesAt w K u l ∧ u ≠ .slice none 0 0
theorem BytesAt.opt {w : World} {K : Nat → Prop} {u : Value} {l : List UInt8} (h : BytesAt w K u l) (hn : u ≠ .slice none 0 0) : ∃ a c, u = .slice (some a) l.length c := by
  rcases h with ⟨⟨a, h⟩, h0⟩ | ⟨b, o, c, h, _⟩
  · subst h0
    cases a with
    | none => exact absurd h hn
    | some a => exact ⟨a, 0, h⟩
  · exact ⟨_, c, h⟩
section
variable {P : Program} {E : Env} (ht : TyWs P E)
include ht
theorem c_wLen (hI : FnIs P E.f_kbin_AppendArrayLen nt_kbin_AppendArrayLen (rs_kbin_AppendArrayLen E) (ir_kbin_AppendArrayLen E))
    (h32 : ∀ n : Int, WrC P E.tU8 E.f_kbin_AppendInt32 [.int .i32 n] (bigE 4 (n % 4294967296).toNat)) (n : Nat) :
    WrC P E.tU8 E.f_kbin_AppendArrayLen [.int .i64 n] (wLen n) := by
  intro w base v s ho hw hsz
  refine hI.call (args := [_, _]) (by simp [nt_kbin_AppendArrayLen]) ?_
  simp [ir_kbin_AppendArrayLen, rs_kbin_AppendArrayLen, ht.iInt, ht.iI32]
  have e : (IntKind.i32.wrap (n : Int) % 4294967296).toNat = n % 4294967296 := by rw [len32i]; omega
  have := h32 (IntKind.i32.wrap n) w base v s ho hw (by simpa [wLen] using hsz)
  rw [e] at this
  exact this
theorem c_wCLen (hI : FnIs P E.f_kbin_AppendCompactArrayLen nt_kbin_AppendCompactArrayLen (rs_kbin_AppendCompactArrayLen E) (ir_kbin_AppendCompactArrayLen E))
    (hU : ∀ n : Nat, n < 4294967296 → WrC P E.tU8 E.f_kbin_AppendUvarint [.int .u32 n] (uvOut n)) (n : Nat) :
    WrC P E.tU8 E.f_kbin_AppendCompactArrayLen [.int .i64 n] (wCLen n) := by
  intro w base v s ho hw hsz
  refine hI.call (args := [_, _]) (by simp [nt_kbin_AppendCompactArrayLen]) ?_
  simp [ir_kbin_AppendCompactArrayLen, rs_kbin_AppendCompactArrayLen, ht.iInt, ht.iU32, bin?, len32u]
  simpa [wCLen] using hU ((n + 1) % 4294967296) (by omega) w base v s ho hw hsz
theorem c_wUuid (hI : FnIs P E.f_kbin_AppendUuid nt_kbin_AppendUuid (rs_kbin_AppendUuid E) (ir_kbin_AppendUuid E)) (uUu : P.underlying E.tUu = some (.array 16 E.tU8)) {l : List UInt8} (hl : l.length = 16) :
    WrC P E.tU8 E.f_kbin_AppendUuid [.agg (cellsOf l).toArray] l := by
  intro w base v s ho hw hsz
  refine hI.call (args := [_, _]) (by simp [nt_kbin_AppendUuid]) ?_
  obtain ⟨i, hi, _⟩ := ht.sBs.inf
  have hE := (Ext.refl none1 w).alloc (.cells (cellsOf l).toArray E.tUu)
  simp [ir_kbin_AppendUuid, rs_kbin_AppendUuid, slice?, uUu, hi, Addr.add_mk, Value.cells]
  refine st_app_bytes ht.sBs (by simp) (Own.ext ho hE (fun _ _ h => h)) (by simp; omega) (k := fun _ => True) (bs := l) (.inr ⟨w.heap.size, 0, 16, by simp [hl], by omega, fun _ => trivial, ?_⟩) (by simpa using hsz) ?_
  · intro j x hx
    rw [cell_of_blk alloc_new]
    simp [cellsOf, hx]
  · intro v' w' h1 h2
    exact ⟨h1, Grew.pre hE h2⟩
end
end Go.Kg

set_option linter.unusedSimpArgs false
set_option linter.unusedVariables false
namespace Go.Kg
open Go
def rdUv (rs : RS) : Nat × RS := match uv rs.src with
  | some (n, r) => (n, ⟨r, rs.bad, true⟩)
  | none => (0, .fail)
theorem c_Uvarint {P : Program} {E : Env} (ht : TyRd P E) (hI : FnIs P E.f_pkbin_Reader_Uvarint nt_pkbin_Reader_Uvarint (rs_pkbin_Reader_Uvarint E) (ir_pkbin_Reader_Uvarint E)) (hU : UvF P E.f_kbin_Uvarint) :
    RdC P E.tRd E.f_pkbin_Reader_Uvarint fun rs => (.int .u32 (rdUv rs).1, (rdUv rs).2) := by
  intro w pb D rs hne ⟨sv, hb, hs, hnn⟩
  obtain ⟨src, bad, nn⟩ := rs
  obtain ⟨a, c, rfl, hc⟩ := hs.len
  obtain ⟨t1, t2, t3, t4, t5, t6⟩ := ht
  refine hI.call (args := [_]) (by simp [nt_pkbin_Reader_Uvarint]) ?_
  simp [ir_pkbin_Reader_Uvarint, rs_pkbin_Reader_Uvarint, t5, ld_scl t1, Addr.add_mk, cell_of_blk hb]
  refine (hU w _ _ _ hs).mono ?_
  rintro v w1 ⟨hm, he⟩
  have hb1 := he.old hb (by simp [none1])
  have hs1 := hs.ext (K := (· = D)) he (fun _ _ _ h => h)
  cases hu : uv src with
  | none =>
    simp only [hu] at hm
    obtain ⟨m, rfl, hm⟩ := hm
    simp [bin?]
    refine cw_true (by simp; omega) ?_
    simp [t5, t6, Addr.add_mk, cell_of_blk hb1, store_scl t2, store_scl t1, put1K_blk hb1, put1K_blk (setBlk_same hb1), Value.oneCell', setBlk_setBlk]
    simp only [rdUv, hu]
    exact ⟨rfl, he.setPb _ _, rdFail hb1⟩
  | some p =>
    obtain ⟨n, r⟩ := p
    simp only [hu] at hm
    obtain ⟨m, rfl, hm0, hml, rfl⟩ := hm
    simp [bin?]
    refine cw_false (by simp; omega) ?_
    have hml' : m ≤ src.length := hml
    simp [t5, ld_scl t1, Addr.add_mk, cell_of_blk hb1, slice_cut t4 (k := .i64) (l := (m : Int)) (by omega) (by simpa using hml'), store_scl t1, put1K_blk hb1]
    simp only [rdUv, hu]
    exact ⟨trivial, he.setPb _ _, rdCut hne hb1 hs1 hml' (hs1.ne (ne_of_le hml' hm0))⟩
/-- text of bytes -/
theorem convK_bytes {P : Program} {f : Nat → Value} {S D e : TypeId} {x : Operand} {ty : TypeId} {w : World} {K : Value → World → Prop} (hS : P.underlying S = some (.slice e)) (he : P.underlying e = some (.int .u8)) (hD : P.underlying D = some .string)
    {C : Nat → Prop} {v : Value} {s : List UInt8} (hv : BytesAt w C v s) (hx : evF f x = v) : convK P f S D x ty w K v = K (strV s) w := by
  have h1 : convK P f S D x ty w K v = stepF P f (.convert S D x) ty w K := by
    rcases hv with ⟨⟨a, rfl⟩, _⟩ | ⟨b, o, c, rfl, _⟩ <;> rfl
  rw [h1]
  refine stepF_ok ?_
  rcases hv with ⟨⟨a, rfl⟩, rfl⟩ | ⟨b, o, c, rfl, _, _, hc⟩
  · cases a with
    | none =>
      simp only [runF, execOp, hx, Sem.run_bind, run_convert_bytes_nil w S e hS he 0 0 D hD, Result.andThen_ok, Sem.run_pure]
      rfl
    | some a =>
      have := run_convert_bytes_back (P := P) w S D e a 0 [] hS he hD (by intro j hj; simp at hj)
      simp only [List.length_nil] at this
      simp only [runF, execOp, hx, Sem.run_bind, this, Result.andThen_ok, Sem.run_pure, strV]
  · have := run_convert_bytes_back (P := P) w S D e ⟨b, o, none⟩ c s hS he hD (by
      intro j hj
      rw [Addr.add_mk]
      exact hc j _ (List.getElem?_eq_getElem hj))
    simp only [runF, execOp, hx, Sem.run_bind, this, Result.andThen_ok, Sem.run_pure, strV]
structure TyRs (P : Program) (E : Env) : Prop extends TyRd P E where
  uU8 : P.underlying E.tU8 = some (.int .u8)
  uS : P.underlying E.tS = some .string
  kS : kindOf P E.tS = .scl
  zS : zeroOf P E.tS = some (.string ⟨#[]⟩)
  iI16 : E.tI16 ≠ 0 → intKind? P E.tI16 = some .i16
  iI32 : intKind? P E.tI32 = some .i32
  iU32 : intKind? P E.tU32 = some .u32
  iInt : intKind? P E.tInt = some .i64
def i16 (n : Nat) : Int := IntKind.i16.wrap n
def i32 (n : Nat) : Int := IntKind.i32.wrap n
theorem i16_i64 {n : Nat} : IntKind.i64.wrap (i16 n) = i16 n := by simp [i16, IntKind.wrap, IntKind.signed, IntKind.bits]; omega
theorem i32_i64 {n : Nat} : IntKind.i64.wrap (i32 n) = i32 n := by simp [i32, IntKind.wrap, IntKind.signed, IntKind.bits]; omega
theorem i64_small {n : Int} (h0 : -9223372036854775808 ≤ n) (h1 : n < 9223372036854775808) : IntKind.i64.wrap n = n := by simp [IntKind.wrap, IntKind.signed, IntKind.bits]; omega
theorem uvGo_lt : ∀ {k : Nat} {s r : List UInt8} {n : Nat}, uvGo k s = some (n, r) → n < 128 ^ k * 16 := by
  intro k
  induction k with
  | zero =>
    intro s r n h
    cases s with
    | nil => cases h
    | cons b s => simp only [uvGo] at h; split at h
                  · cases h; simp; omega
                  · cases h
  | succ k ih =>
    intro s r n h
    cases s with
    | nil => cases h
    | cons b s =>
      simp only [uvGo] at h
      split at h
      · cases h
        have : 1 ≤ 128 ^ k := Nat.one_le_pow _ _ (by omega)
        rw [Nat.pow_succ]; omega
      · obtain ⟨⟨m, r'⟩, hm, he⟩ := Option.map_eq_some_iff.1 h
        cases he
        have := ih hm
        rw [Nat.pow_succ]; omega
theorem rdUv_lt (rs : RS) : (rdUv rs).1 < 4294967296 := by
  unfold rdUv
  split
  · rename_i n r h
    have := uvGo_lt h
    simpa using this
  · simp
def rdStr (rs : RS) : List UInt8 × RS := rdSpan (i16 (rdFixed 2 rs).1) (rdFixed 2 rs).2
def rdCStr (rs : RS) : List UInt8 × RS := rdSpan ((rdUv rs).1 - 1) (rdUv rs).2
def rdNStr (rs : RS) : Option (List UInt8) × RS := if i16 (rdFixed 2 rs).1 < 0 then (none, (rdFixed 2 rs).2) else (some (rdStr rs).1, (rdStr rs).2)
def rdCNStr (rs : RS) : Option (List UInt8) × RS := if ((rdUv rs).1 : Int) - 1 < 0 then (none, (rdUv rs).2) else (some (rdCStr rs).1, (rdCStr rs).2)
/-- A reader whose result stands in memory as R says. -/
def RdPC (P : Program) (TR f : Nat) {α : Type} (R : World → Nat → World → Value → α → Prop) (g : RS → α × RS) : Prop := ∀ w pb D rs, pb ≠ D → D < w.heap.size → RdAt TR w pb D rs →
  Ret P f #[.pointer (some ⟨pb, 0, none⟩)] w fun v w' => R w D w' v (g rs).1 ∧ Ext (· = pb) w w' ∧ RdAt TR w' pb D (g rs).2
def RNStr (w0 : World) (D : Nat) (w : World) (v : Value) (o : Option (List UInt8)) : Prop := StrPtr w (fun b => w0.heap.size ≤ b) v o
theorem RdAt.ext {TR : TypeId} {w w' : World} {pb D : Nat} {rs : RS} (h : RdAt TR w pb D rs) {C : Nat → Prop} (he : Ext C w w') (h1 : ¬ C pb) (h2 : ¬ C D) : RdAt TR w' pb D rs := by
  obtain ⟨sv, hb, hs, hn⟩ := h
  exact ⟨sv, he.old hb h1, hs.ext he (by rintro b _ rfl; exact h2), hn⟩
theorem RdAt.lt {TR : TypeId} {w : World} {pb D : Nat} {rs : RS} (h : RdAt TR w pb D rs) : pb < w.heap.size := by
  obtain ⟨sv, hb, _⟩ := h; exact lt_of_heap hb
theorem Ext.tr {C : Nat → Prop} {a b c : World} (h : Ext C a b) (k : Ext C b c) : Ext C a c := h.trans k
section
variable {P : Program} {E : Env} (ht : TyRs P E)
include ht
theorem c_String (n16 : E.tI16 ≠ 0) (hI : FnIs P E.f_pkbin_Reader_String nt_pkbin_Reader_String (rs_pkbin_Reader_String E) (ir_pkbin_Reader_String E))
    (h16 : RdC P E.tRd E.f_pkbin_Reader_Int16 fun rs => (.int .i16 (IntKind.i16.wrap (rdFixed 2 rs).1), (rdFixed 2 rs).2)) (hSp : SpanC P E.tRd E.f_pkbin_Reader_Span) :
    RdC P E.tRd E.f_pkbin_Reader_String fun rs => (strV (rdStr rs).1, (rdStr rs).2) := by
  intro w pb D rs hne hr
  refine hI.call (args := [_]) (by simp [nt_pkbin_Reader_String]) ?_
  simp [ir_pkbin_Reader_String, rs_pkbin_Reader_String]
  refine (h16 w pb D rs hne hr).mono ?_
  rintro v w1 ⟨rfl, he1, hr1⟩
  have e : IntKind.i64.wrap (IntKind.i16.wrap (rdFixed 2 rs).1) = i16 (rdFixed 2 rs).1 := i16_i64
  simp [ht.iI16 n16, ht.iInt, e]
  refine (hSp w1 pb D _ _ hne hr1).mono ?_
  rintro v w2 ⟨hv, _, he2, hr2⟩
  rw [convK_bytes ht.uBs ht.uU8 ht.uS hv (by simp)]
  simp
  exact ⟨rfl, he1.trans he2, hr2⟩
theorem c_CString (hI : FnIs P E.f_pkbin_Reader_CompactString nt_pkbin_Reader_CompactString (rs_pkbin_Reader_CompactString E) (ir_pkbin_Reader_CompactString E))
    (hU : RdC P E.tRd E.f_pkbin_Reader_Uvarint fun rs => (.int .u32 (rdUv rs).1, (rdUv rs).2)) (hSp : SpanC P E.tRd E.f_pkbin_Reader_Span) :
    RdC P E.tRd E.f_pkbin_Reader_CompactString fun rs => (strV (rdCStr rs).1, (rdCStr rs).2) := by
  intro w pb D rs hne hr
  refine hI.call (args := [_]) (by simp [nt_pkbin_Reader_CompactString]) ?_
  simp [ir_pkbin_Reader_CompactString, rs_pkbin_Reader_CompactString]
  refine (hU w pb D rs hne hr).mono ?_
  rintro v w1 ⟨rfl, he1, hr1⟩
  have := rdUv_lt rs
  have e1 : IntKind.i64.wrap ((rdUv rs).1 : Int) = (rdUv rs).1 := i64_small (by omega) (by omega)
  have e2 : IntKind.i64.wrap ((rdUv rs).1 - 1 : Int) = (rdUv rs).1 - 1 := i64_small (by omega) (by omega)
  simp [ht.iU32, ht.iInt, e1, e2, bin?]
  refine (hSp w1 pb D _ _ hne hr1).mono ?_
  rintro v w2 ⟨hv, _, he2, hr2⟩
  rw [convK_bytes ht.uBs ht.uU8 ht.uS hv (by simp)]
  simp
  exact ⟨rfl, he1.trans he2, hr2⟩
theorem c_NString (n16 : E.tI16 ≠ 0) (hI : FnIs P E.f_pkbin_Reader_NullableString nt_pkbin_Reader_NullableString (rs_pkbin_Reader_NullableString E) (ir_pkbin_Reader_NullableString E))
    (h16 : RdC P E.tRd E.f_pkbin_Reader_Int16 fun rs => (.int .i16 (IntKind.i16.wrap (rdFixed 2 rs).1), (rdFixed 2 rs).2)) (hSp : SpanC P E.tRd E.f_pkbin_Reader_Span) :
    RdPC P E.tRd E.f_pkbin_Reader_NullableString RNStr rdNStr := by
  intro w pb D rs hne hD hr
  refine hI.call (args := [_]) (by simp [nt_pkbin_Reader_NullableString]) ?_
  simp [ir_pkbin_Reader_NullableString, rs_pkbin_Reader_NullableString]
  refine (h16 w pb D rs hne hr).mono ?_
  rintro v w1 ⟨rfl, he1, hr1⟩
  have e : IntKind.i64.wrap (IntKind.i16.wrap (rdFixed 2 rs).1) = i16 (rdFixed 2 rs).1 := i16_i64
  simp [bin?]
  by_cases hlt : i16 (rdFixed 2 rs).1 < 0
  · refine cw_true (by simpa [i16] using hlt) ?_
    simp only [rdNStr, if_pos hlt]
    simp
    exact ⟨rfl, he1, hr1⟩
  · refine cw_false (by simpa [i16] using hlt) ?_
    simp [ht.iI16 n16, ht.iInt, e]
    refine (hSp w1 pb D _ _ hne hr1).mono ?_
    rintro v w2 ⟨hv, _, he2, hr2⟩
    rw [convK_bytes ht.uBs ht.uU8 ht.uS hv (by simp)]
    simp [ht.zS, store_scl ht.kS, Value.cells, put1K_blk alloc_new, strV, Value.oneCell']
    simp only [rdNStr, if_neg hlt]
    have he := he1.trans he2
    have hsz := he.size
    have hlt2 : pb < w2.heap.size := hr2.lt
    have heN : Ext none1 w2 ((w2.alloc (.cells #[.string ⟨#[]⟩] E.tS)).setBlk w2.heap.size (.cells #[.string ⟨(rdStr rs).1.toArray⟩] E.tS)) := ((Ext.refl none1 w2).alloc _).setBlk (.inl (Nat.le_refl _)) _
    refine ⟨⟨_, rfl, hsz, ?_⟩, ((he.alloc _).setBlk (.inl hsz) _), ?_⟩
    · rw [cell_of_blk (setBlk_same alloc_new)]; rfl
    · exact hr2.ext heN (fun h => h) (fun h => h)
theorem c_CNString (n16 : E.tI16 ≠ 0) (hI : FnIs P E.f_pkbin_Reader_CompactNullableString nt_pkbin_Reader_CompactNullableString (rs_pkbin_Reader_CompactNullableString E) (ir_pkbin_Reader_CompactNullableString E))
    (hU : RdC P E.tRd E.f_pkbin_Reader_Uvarint fun rs => (.int .u32 (rdUv rs).1, (rdUv rs).2)) (hSp : SpanC P E.tRd E.f_pkbin_Reader_Span) :
    RdPC P E.tRd E.f_pkbin_Reader_CompactNullableString RNStr rdCNStr := by
  intro w pb D rs hne hD hr
  refine hI.call (args := [_]) (by simp [nt_pkbin_Reader_CompactNullableString]) ?_
  simp [ir_pkbin_Reader_CompactNullableString, rs_pkbin_Reader_CompactNullableString]
  refine (hU w pb D rs hne hr).mono ?_
  rintro v w1 ⟨rfl, he1, hr1⟩
  have := rdUv_lt rs
  have e1 : IntKind.i64.wrap ((rdUv rs).1 : Int) = (rdUv rs).1 := i64_small (by omega) (by omega)
  have e : IntKind.i64.wrap ((rdUv rs).1 - 1 : Int) = (rdUv rs).1 - 1 := i64_small (by omega) (by omega)
  simp [ht.iU32, ht.iInt, e1, e, bin?]
  by_cases hlt : ((rdUv rs).1 : Int) - 1 < 0
  · refine cw_true (by simpa [i16] using hlt) ?_
    simp only [rdCNStr, if_pos hlt]
    simp
    exact ⟨rfl, he1, hr1⟩
  · refine cw_false (by simpa [i16] using hlt) ?_
    simp [ht.iI16 n16, ht.iInt, e]
    refine (hSp w1 pb D _ _ hne hr1).mono ?_
    rintro v w2 ⟨hv, _, he2, hr2⟩
    rw [convK_bytes ht.uBs ht.uU8 ht.uS hv (by simp)]
    simp [ht.zS, store_scl ht.kS, Value.cells, put1K_blk alloc_new, strV, Value.oneCell']
    simp only [rdCNStr, if_neg hlt]
    have he := he1.trans he2
    have hsz := he.size
    have hlt2 : pb < w2.heap.size := hr2.lt
    have heN : Ext none1 w2 ((w2.alloc (.cells #[.string ⟨#[]⟩] E.tS)).setBlk w2.heap.size (.cells #[.string ⟨(rdCStr rs).1.toArray⟩] E.tS)) := ((Ext.refl none1 w2).alloc _).setBlk (.inl (Nat.le_refl _)) _
    refine ⟨⟨_, rfl, hsz, ?_⟩, ((he.alloc _).setBlk (.inl hsz) _), ?_⟩
    · rw [cell_of_blk (setBlk_same alloc_new)]; rfl
    · exact hr2.ext heN (fun h => h) (fun h => h)
end
end Go.Kg

set_option linter.unusedSimpArgs false
set_option linter.unusedVariables false
namespace Go.Kg
open Go
def rdBytes (rs : RS) : List UInt8 × RS := if i32 (rdFixed 4 rs).1 = -1 then ([], (rdFixed 4 rs).2) else rdSpan (i32 (rdFixed 4 rs).1) (rdFixed 4 rs).2
def rdCBytes (rs : RS) : List UInt8 × RS := if (rdUv rs).1 = 0 then ([], (rdUv rs).2) else rdSpan ((rdUv rs).1 - 1) (rdUv rs).2
def optOf (p : List UInt8 × RS) : Option (List UInt8) × RS := (if p.2.nn then some p.1 else none, p.2)
def rdNBytes (rs : RS) : Option (List UInt8) × RS := if i32 (rdFixed 4 rs).1 < 0 then (none, (rdFixed 4 rs).2) else optOf (rdSpan (i32 (rdFixed 4 rs).1) (rdFixed 4 rs).2)
def capLen (n : Int) (rs : RS) : Int × RS := if (rs.src.length : Int) < n then (0, .fail) else (n, rs)
def rdLen (rs : RS) : Int × RS := capLen (i32 (rdFixed 4 rs).1) (rdFixed 4 rs).2
def rdCLen (rs : RS) : Int × RS := capLen (IntKind.i32.wrap (i32 (rdUv rs).1 - 1)) (rdUv rs).2
section
variable {P : Program} {E : Env} (ht : TyRs P E)
include ht
theorem c_Len (hI : FnIs P E.f_pkbin_Reader_ArrayLen nt_pkbin_Reader_ArrayLen (rs_pkbin_Reader_ArrayLen E) (ir_pkbin_Reader_ArrayLen E))
    (h32 : RdC P E.tRd E.f_pkbin_Reader_Int32 fun rs => (.int .i32 (IntKind.i32.wrap (rdFixed 4 rs).1), (rdFixed 4 rs).2)) :
    RdC P E.tRd E.f_pkbin_Reader_ArrayLen fun rs => (.int .i32 (rdLen rs).1, (rdLen rs).2) := by
  intro w pb D rs hne hr
  refine hI.call (args := [_]) (by simp [nt_pkbin_Reader_ArrayLen]) ?_
  simp [ir_pkbin_Reader_ArrayLen, rs_pkbin_Reader_ArrayLen]
  refine (h32 w pb D rs hne hr).mono ?_
  rintro v w1 ⟨rfl, he1, hr1⟩
  obtain ⟨sv, hb, hs, hn⟩ := hr1
  obtain ⟨a, c, rfl, hc⟩ := hs.len
  have e : IntKind.i64.wrap (IntKind.i32.wrap (rdFixed 4 rs).1) = i32 (rdFixed 4 rs).1 := i32_i64
  simp [ht.rd0, ld_scl ht.kBs, Addr.add_mk, cell_of_blk hb, len_slice ht.uBs, ht.iI32, ht.iInt, e, bin?]
  by_cases hlt : ((rdFixed 4 rs).2.src.length : Int) < i32 (rdFixed 4 rs).1
  · refine cw_true (by simp [hlt]) ?_
    simp [ht.rd0, ht.rd1, Addr.add_mk, cell_of_blk hb, store_scl ht.kB, store_scl ht.kBs, put1K_blk hb, put1K_blk (setBlk_same hb), Value.oneCell', setBlk_setBlk]
    simp only [rdLen, capLen, if_pos hlt]
    exact ⟨trivial, he1.setBlk (.inr rfl) _, rdFail hb⟩
  · refine cw_false (by simp [hlt]) ?_
    simp only [rdLen, capLen, if_neg hlt]
    simp
    exact ⟨rfl, he1, ⟨_, hb, hs, hn⟩⟩
theorem c_CLen (hI : FnIs P E.f_pkbin_Reader_CompactArrayLen nt_pkbin_Reader_CompactArrayLen (rs_pkbin_Reader_CompactArrayLen E) (ir_pkbin_Reader_CompactArrayLen E))
    (hU : RdC P E.tRd E.f_pkbin_Reader_Uvarint fun rs => (.int .u32 (rdUv rs).1, (rdUv rs).2)) :
    RdC P E.tRd E.f_pkbin_Reader_CompactArrayLen fun rs => (.int .i32 (rdCLen rs).1, (rdCLen rs).2) := by
  intro w pb D rs hne hr
  refine hI.call (args := [_]) (by simp [nt_pkbin_Reader_CompactArrayLen]) ?_
  simp [ir_pkbin_Reader_CompactArrayLen, rs_pkbin_Reader_CompactArrayLen]
  refine (hU w pb D rs hne hr).mono ?_
  rintro v w1 ⟨rfl, he1, hr1⟩
  obtain ⟨sv, hb, hs, hn⟩ := hr1
  obtain ⟨a, c, rfl, hc⟩ := hs.len
  obtain ⟨m, hm⟩ : ∃ m, IntKind.i32.wrap (i32 (rdUv rs).1 - 1) = m := ⟨_, rfl⟩
  have hmr : -2147483648 ≤ m ∧ m < 2147483648 := by subst hm; simp [IntKind.wrap, IntKind.signed, IntKind.bits]; omega
  have e0 : IntKind.i32.wrap (IntKind.i32.wrap ((rdUv rs).1 : Int) - 1) = m := hm
  have e : IntKind.i64.wrap m = m := i64_small (by omega) (by omega)
  simp [ht.rd0, ld_scl ht.kBs, Addr.add_mk, cell_of_blk hb, len_slice ht.uBs, ht.iI32, ht.iU32, ht.iInt, e0, e, bin?]
  by_cases hlt : ((rdUv rs).2.src.length : Int) < m
  · refine cw_true (by simp [hlt]) ?_
    simp [ht.rd0, ht.rd1, Addr.add_mk, cell_of_blk hb, store_scl ht.kB, store_scl ht.kBs, put1K_blk hb, put1K_blk (setBlk_same hb), Value.oneCell', setBlk_setBlk]
    simp only [rdCLen, capLen, hm, if_pos hlt]
    exact ⟨trivial, he1.setBlk (.inr rfl) _, rdFail hb⟩
  · refine cw_false (by simp [hlt]) ?_
    simp only [rdCLen, capLen, hm, if_neg hlt]
    simp [hm]
    exact ⟨he1, ⟨_, hb, hs, hn⟩⟩
theorem c_Ok (hI : FnIs P E.f_pkbin_Reader_Ok nt_pkbin_Reader_Ok (rs_pkbin_Reader_Ok E) (ir_pkbin_Reader_Ok E)) {w : World} {pb D : Nat} {rs : RS} (hr : RdAt E.tRd w pb D rs) :
    Ret P E.f_pkbin_Reader_Ok #[.pointer (some ⟨pb, 0, none⟩)] w fun v w' => v = .bool !rs.bad ∧ w' = w := by
  obtain ⟨sv, hb, hs, hn⟩ := hr
  refine hI.call (args := [_]) (by simp [nt_pkbin_Reader_Ok]) ?_
  simp [ir_pkbin_Reader_Ok, rs_pkbin_Reader_Ok, ht.rd1, ld_scl ht.kB, Addr.add_mk, cell_of_blk hb]
theorem c_Complete (kErr : kindOf P E.tErr = .scl) (hI : FnIs P E.f_pkbin_Reader_Complete nt_pkbin_Reader_Complete (rs_pkbin_Reader_Complete E) (ir_pkbin_Reader_Complete E)) {w : World} {pb D : Nat} {rs : RS} (hr : RdAt E.tRd w pb D rs)
    {ev : Value} (hev : rs.bad = true → w.cell? ⟨E.g_kbin_ErrNotEnoughData, 0, none⟩ = some ev) :
    Ret P E.f_pkbin_Reader_Complete #[.pointer (some ⟨pb, 0, none⟩)] w fun v w' => v = (if rs.bad then ev else .nilIface) ∧ w' = w := by
  obtain ⟨sv, hb, hs, hn⟩ := hr
  refine hI.call (args := [_]) (by simp [nt_pkbin_Reader_Complete]) ?_
  simp [ir_pkbin_Reader_Complete, rs_pkbin_Reader_Complete, ht.rd1, ld_scl ht.kB, Addr.add_mk, cell_of_blk hb]
  cases h : rs.bad
  · refine cw_false (by simp) ?_
    simp
  · refine cw_true (by simp) ?_
    simp [ld_scl kErr, hev h]
end
end Go.Kg

set_option linter.unusedSimpArgs false
set_option linter.unusedVariables false
namespace Go.Kg
open Go
/-- copy of bytes into a row of its own, as long -/
theorem st_copy {P : Program} {f : Nat → Value} {ty : TypeId} {w : World} {K : Value → World → Prop} {t e n g : Nat} {tc : TypeId} {cur : Array Value} {x y : Operand} (ht : P.underlying t = some (.slice e)) (hs : (P.info? e).map (·.size) = some 1)
    (hx : evF f x = .slice (some ⟨g, 0, none⟩) n n) (hg : w.heap[g]? = some (.cells cur tc (0, 0))) (hn : cur.size = n) {C : Nat → Prop} {s : List UInt8} (hy : BytesAt w C (evF f y) s) (hl : s = [] ∨ s.length = n) :
    stepF P f (.call { callee := .builtin .copy, args := #[x, y], argTypes := #[t, t] }) ty w K =
      K (.int .i64 s.length) (if s = [] then w else w.setBlk g (.cells (cellsOf s).toArray tc (0, 0))) := by
  have hg64 : ∀ k : Nat, goInt (k : Int) = .int .i64 k := fun k => rfl
  rcases hl with rfl | hl
  · rw [if_pos rfl]
    have hr : ∃ a m c, evF f y = .slice a m c ∧ m = 0 := by
      rcases hy with ⟨⟨_, h⟩, _⟩ | ⟨b, o, c, h, _⟩
      · exact ⟨_, _, _, h, rfl⟩
      · exact ⟨_, _, _, h, rfl⟩
    obtain ⟨a, m, c, h, rfl⟩ := hr
    refine stepF_ok ?_
    have := run_copy_none (P := P) w t t ty e (some ⟨g, 0, none⟩) a n n 0 c ht hs (by simp)
    simp only [runF, execOp, resolve, invoke, builtin, Sem.run_bind, Sem.run_pure, Result.andThen_ok, List.map_toArray, List.map_cons, List.map_nil, hx, h, this]
    rfl
  · by_cases h0 : s = []
    · subst h0
      rw [if_pos rfl]
      have hr : ∃ a m c, evF f y = .slice a m c ∧ m = 0 := by
        rcases hy with ⟨⟨_, h⟩, _⟩ | ⟨b, o, c, h, _⟩
        · exact ⟨_, _, _, h, rfl⟩
        · exact ⟨_, _, _, h, rfl⟩
      obtain ⟨a, m, c, h, rfl⟩ := hr
      refine stepF_ok ?_
      have := run_copy_none (P := P) w t t ty e (some ⟨g, 0, none⟩) a n n 0 c ht hs (by simp)
      simp only [runF, execOp, resolve, invoke, builtin, Sem.run_bind, Sem.run_pure, Result.andThen_ok, List.map_toArray, List.map_cons, List.map_nil, hx, h, this]
      rfl
    · rw [if_neg h0]
      rcases hy with ⟨_, h⟩ | ⟨b, o, c, h, hc, _, hcc⟩
      · exact absurd h h0
      refine stepF_ok ?_
      have := run_copy_row (P := P) w t t ty e g 0 n n ⟨b, o, none⟩ s.length c cur tc (cellsOf s) ht hs hg (by simp [hl]) (by
        intro j v hj
        rw [Addr.add_mk]
        simp only [cellsOf, List.getElem?_map, Option.map_eq_some_iff] at hj
        obtain ⟨x', hx', rfl⟩ := hj
        exact hcc j x' hx') (by simp; omega) cellsOf_one
      simp only [runF, execOp, resolve, invoke, builtin, Sem.run_bind, Sem.run_pure, Result.andThen_ok, List.map_toArray, List.map_cons, List.map_nil, hx, h, this]
      rw [setRow_setBlk hg]
      have hd : cur.toList.drop (0 + (cellsOf s).length) = [] := List.drop_eq_nil_of_le (by simp; omega)
      rw [hd]
      simp
      exact hg64 _
def rdUuid (rs : RS) : List UInt8 × RS := (if (rdSpan 16 rs).1.length = 16 then (rdSpan 16 rs).1 else List.replicate 16 0, (rdSpan 16 rs).2)
theorem rdSpan_len {l : Int} {rs : RS} {n : Nat} (hl : l = n) : (rdSpan l rs).1 = [] ∨ (rdSpan l rs).1.length = n := by
  subst hl
  unfold rdSpan
  split
  · exact .inl rfl
  · refine .inr ?_
    simp; omega
def z16 : Array Value := (cellsOf (List.replicate 16 0)).toArray
theorem z16_size : z16.size = 16 := by simp [z16]
@[simp] theorem stp_copy {P : Program} {f : Nat → Value} {ty : TypeId} {w : World} {K : Value → World → Prop} {xs : Array Operand} {ts : Array TypeId} : stp P f (.call { callee := .builtin .copy, args := xs, argTypes := ts }) ty w K = stepF P f (.call { callee := .builtin .copy, args := xs, argTypes := ts }) ty w K := (rfl)
structure TyUu (P : Program) (E : Env) : Prop where
  uUu : P.underlying E.tUu = some (.array 16 E.tU8)
  zUu : zeroOf P E.tUu = some (.agg z16)
  kUu : kindOf P E.tUu = .agg 16
  sU8 : (P.info? E.tU8).map (·.size) = some 1
theorem cellsFrom_list {w : World} : ∀ (l : List Value) (b o i : Nat), (∀ j v, l[j]? = some v → w.cell? ⟨b, o + (i + j), none⟩ = some v) → cellsFrom w ⟨b, o, none⟩ i l.length = some l := by
  intro l
  induction l with
  | nil => intro b o i h; rfl
  | cons v l ih =>
    intro b o i h
    have h0 := h 0 v rfl
    have := ih b o (i + 1) (fun j u hj => by have := h (j + 1) u hj; rwa [show o + (i + (j + 1)) = o + (i + 1 + j) by omega] at this)
    simp only [List.length_cons, cellsFrom, Addr.add_mk, this]
    simp at h0
    simp [h0]
theorem cellsFrom_row {w : World} {b : Nat} {c : Array Value} {e : TypeId} {fz : Nat × Nat} (hb : w.heap[b]? = some (.cells c e fz)) : cellsFrom w ⟨b, 0, none⟩ 0 c.size = some c.toList := by
  have := cellsFrom_list (w := w) c.toList b 0 0 (fun j v hj => by rw [cell_of_blk hb]; simpa using hj)
  simpa using this
def RUuid (w0 : World) (D : Nat) (w : World) (v : Value) (l : List UInt8) : Prop := v = .agg (cellsOf l).toArray ∧ l.length = 16
theorem allOne_cells : ∀ l : List UInt8, allOne (cellsOf l) = true
  | [] => rfl
  | b :: l => by simp only [cellsOf, List.map_cons, allOne, Value.oneCell', Bool.true_and]; exact allOne_cells l
theorem c_Uuid {P : Program} {E : Env} (ht : TyRs P E) (hu : TyUu P E) (hI : FnIs P E.f_pkbin_Reader_Uuid nt_pkbin_Reader_Uuid (rs_pkbin_Reader_Uuid E) (ir_pkbin_Reader_Uuid E)) (hSp : SpanC P E.tRd E.f_pkbin_Reader_Span) :
    RdPC P E.tRd E.f_pkbin_Reader_Uuid RUuid rdUuid := by
  intro w pb D rs hne hD hr
  refine hI.call (args := [_]) (by simp [nt_pkbin_Reader_Uuid]) ?_
  obtain ⟨i, hi, hi1⟩ := Option.map_eq_some_iff.1 hu.sU8
  simp [ir_pkbin_Reader_Uuid, rs_pkbin_Reader_Uuid, hu.zUu, Value.cells]
  generalize hw1 : ((w.alloc (.cells z16 E.tUu)).alloc (.cells z16 E.tUu)) = w1
  have hE : Ext none1 w w1 := by subst hw1; exact ((Ext.refl none1 w).alloc _).alloc _
  have hsz : w1.heap.size = w.heap.size + 2 := by subst hw1; simp
  have hb0 : w1.heap[w.heap.size]? = some (.cells z16 E.tUu (0, 0)) := by subst hw1; exact alloc_old alloc_new
  have hb1 : w1.heap[w.heap.size + 1]? = some (.cells z16 E.tUu (0, 0)) := by
    subst hw1
    have := alloc_new (w := w.alloc (.cells z16 E.tUu)) (o := .cells z16 E.tUu)
    simpa using this
  have hlt := hr.lt
  refine cw_regH (fun _ => True) trivial ?_
  have hr1 : RdAt E.tRd w1.drew pb D rs := hr.ext hE.drew (fun h => h) (fun h => h)
  simp [slice?, hu.uUu, hi, Addr.add_mk]
  refine (hSp w1.drew pb D rs 16 hne hr1).mono ?_
  rintro v w2 ⟨hv, _, he2, hr2⟩
  have hbA := he2.old (b := w.heap.size) (o := .cells z16 E.tUu (0, 0)) hb0 (by omega)
  have hbB := he2.old (b := w.heap.size + 1) (o := .cells z16 E.tUu (0, 0)) hb1 (by omega)
  rw [st_copy ht.uBs hu.sU8 (by simp) hbB z16_size (by simpa using hv) (rdSpan_len (n := 16) rfl)]
  -- what stands in the second box
  obtain ⟨l, hl, hlr, hbL⟩ : ∃ l : List UInt8, l.length = 16 ∧ l = (rdUuid rs).1 ∧ (if (rdSpan 16 rs).1 = [] then w2 else w2.setBlk (w.heap.size + 1) (.cells (cellsOf (rdSpan 16 rs).1).toArray E.tUu (0, 0))).heap[w.heap.size + 1]? = some (.cells (cellsOf l).toArray E.tUu (0, 0)) := by
    rcases rdSpan_len (l := 16) (rs := rs) (n := 16) rfl with h | h
    · refine ⟨List.replicate 16 0, by simp, by simp [rdUuid, h], ?_⟩
      rw [if_pos h]; exact hbB
    · refine ⟨_, h, by simp [rdUuid, h], ?_⟩
      rw [if_neg (by intro h'; rw [h'] at h; cases h)]
      exact setBlk_same hbB
  have hbAL : (if (rdSpan 16 rs).1 = [] then w2 else w2.setBlk (w.heap.size + 1) (.cells (cellsOf (rdSpan 16 rs).1).toArray E.tUu (0, 0))).heap[w.heap.size]? = some (.cells z16 E.tUu (0, 0)) := by
    split
    · exact hbA
    · rw [setBlk_other (by omega)]; exact hbA
  generalize hw3 : (if (rdSpan 16 rs).1 = [] then w2 else w2.setBlk (w.heap.size + 1) (.cells (cellsOf (rdSpan 16 rs).1).toArray E.tUu (0, 0))) = w3 at hbL hbAL
  have he3 : Ext (· = pb) w w3 := by
    have h12 : Ext (· = pb) w w2 := (hE.drew.mono (fun _ _ h => h.elim)).trans he2
    subst hw3
    split
    · exact h12
    · exact h12.setBlk (.inl (by omega)) _
  have hr3 : RdAt E.tRd w3 pb D (rdSpan 16 rs).2 := by
    subst hw3
    split
    · exact hr2
    · refine hr2.ext ((Ext.refl (· = w.heap.size + 1) w2).setBlk (.inr rfl) _) (by omega) ?_
      omega
  have lB := cellsFrom_row hbL
  have lA := cellsFrom_row hbAL
  have hs16 : (cellsOf l).toArray.size = 16 := by simp [hl]
  rw [hs16] at lB
  simp [ld_agg hu.kUu, lB, store_agg hu.kUu, hl, putK_blk hbAL, z16_size]
  have hov : over z16 0 (cellsOf l) = (cellsOf l).toArray := by
    simp [over, hl, z16]
  have hbF := setBlk_same (o := .cells (cellsOf l).toArray E.tUu (0, 0)) hbAL
  have lF := cellsFrom_row hbF
  rw [hs16] at lF
  rw [hov, lF]
  simp
  refine ⟨?_, ⟨by rw [hlr], by rw [← hlr]; exact hl⟩, he3.setBlk (.inl (Nat.le_refl _)) _, ?_⟩
  · exact allOne_cells l
  · exact hr3.ext ((Ext.refl (· = w.heap.size) w3).setBlk (.inr rfl) _) (by omega) (by omega)
end Go.Kg

set_option linter.unusedVariables false
namespace Go.Kg
open Go
def ir_kmsg_internalReadTags (E : Env) : Ir := (.seq (.reg [ ⟨none, some 2, .alloc E.t_kmsg_Tags, E.tNil⟩]) (.seq (.reg [ ⟨none, some 3, .alloc E.t_kmsg_Tags, E.tNil⟩]) (.seq (.seq (.reg [ ⟨none, some 7, .move (.tmp 0), E.tPRd⟩, ⟨none, some 8, .call { callee := .value (.func E.f_pkbin_Reader_Uvarint), args := #[.tmp 7], argTypes := #[E.tPRd] }, E.tU32⟩, ⟨none, some 4, .assign (.tmp 8), E.tU32⟩]) (.block 0 (.loop (.seq (.seq (.reg [ ⟨none, some 9, .move (.tmp 4), E.tU32⟩, ⟨none, some 10, .binOp .gtr E.tU32 (.tmp 9) (.const (.int .u32 0)) E.tU32, E.tB⟩]) (.cond 10 .skip (.exit 0))) (.seq (.block 1 (.seq (.reg [ ⟨none, some 13, .move (.tmp 0), E.tPRd⟩, ⟨none, some 14, .call { callee := .value (.func E.f_pkbin_Reader_Uvarint), args := #[.tmp 13], argTypes := #[E.tPRd] }, E.tU32⟩, ⟨none, some 15, .move (.tmp 0), E.tPRd⟩, ⟨none, some 16, .call { callee := .value (.func E.f_pkbin_Reader_Uvarint), args := #[.tmp 15], argTypes := #[E.tPRd] }, E.tU32⟩, ⟨none, some 5, .assign (.tmp 14), E.tU32⟩, ⟨none, some 6, .assign (.tmp 16), E.tU32⟩]) (.reg [ ⟨none, some 17, .move (.tmp 5), E.tU32⟩, ⟨none, some 18, .move (.tmp 0), E.tPRd⟩, ⟨none, some 19, .move (.tmp 6), E.tU32⟩, ⟨none, some 20, .convert E.tU32 E.tInt (.tmp 19), E.tInt⟩, ⟨none, some 21, .call { callee := .value (.func E.f_pkbin_Reader_Span), args := #[.tmp 18, .tmp 20], argTypes := #[E.tPRd, E.tInt] }, E.tBs⟩, ⟨none, some 22, .call { callee := .value (.func E.f_pkmsg_Tags_Set), args := #[.tmp 3, .tmp 17, .tmp 21], argTypes := #[E.t_kmsg_Tags, E.tU32, E.tBs] }, E.tNil⟩]))) (.reg [ ⟨none, some 11, .move (.tmp 4), E.tU32⟩, ⟨none, some 12, .binOp .sub E.tU32 (.tmp 11) (.const (.int .u32 1)) E.tU32, E.tU32⟩, ⟨none, some 4, .assign (.tmp 12), E.tU32⟩])))))) (.seq (.reg [ ⟨none, some 23, .load E.t_kmsg_Tags (.tmp 3), E.t_kmsg_Tags⟩, ⟨none, none, .store E.t_kmsg_Tags (.tmp 2) (.tmp 23), E.tNil⟩]) .ret))))
def nt_kmsg_internalReadTags : Nat := 24
def rs_kmsg_internalReadTags (E : Env) : List Rv := [.c 2 E.t_kmsg_Tags]
def ir_pkmsg_Tags_Len (E : Env) : Ir := (.seq (.reg [ ⟨none, some 2, .assign (.const (.int .i64 0)), E.tInt⟩]) (.seq (.reg [ ⟨none, some 3, .move (.tmp 0), E.t_pkmsg_Tags⟩, ⟨none, some 4, .nilCheck (.tmp 3), E.tNil⟩, ⟨none, some 5, .fieldAddr E.t_kmsg_Tags (.tmp 4) 0, E.tNil⟩, ⟨none, some 6, .load E.t_map_uint32_l_uint8 (.tmp 5), E.t_map_uint32_l_uint8⟩, ⟨none, some 7, .call { callee := .builtin .len, args := #[.tmp 6], argTypes := #[E.t_map_uint32_l_uint8] }, E.tInt⟩, ⟨none, some 2, .assign (.tmp 7), E.tInt⟩]) .ret))
def nt_pkmsg_Tags_Len : Nat := 8
def rs_pkmsg_Tags_Len (E : Env) : List Rv := [.t 2]
def ir_pkmsg_Tags_Each (E : Env) : Ir := (.seq (.seq (.reg [ ⟨none, some 8, .move (.tmp 0), E.t_pkmsg_Tags⟩, ⟨none, some 9, .nilCheck (.tmp 8), E.tNil⟩, ⟨none, some 10, .fieldAddr E.t_kmsg_Tags (.tmp 9) 0, E.tNil⟩, ⟨none, some 11, .load E.t_map_uint32_l_uint8 (.tmp 10), E.t_map_uint32_l_uint8⟩, ⟨none, some 12, .call { callee := .builtin .len, args := #[.tmp 11], argTypes := #[E.t_map_uint32_l_uint8] }, E.tInt⟩, ⟨none, some 13, .binOp .eql E.tInt (.tmp 12) (.const (.int .i64 0)) E.tInt, E.tB⟩]) (.cond 13 .ret .skip)) (.seq (.reg [ ⟨none, some 14, .move (.tmp 0), E.t_pkmsg_Tags⟩, ⟨none, some 15, .nilCheck (.tmp 14), E.tNil⟩, ⟨none, some 16, .fieldAddr E.t_kmsg_Tags (.tmp 15) 0, E.tNil⟩, ⟨none, some 17, .load E.t_map_uint32_l_uint8 (.tmp 16), E.t_map_uint32_l_uint8⟩, ⟨none, some 18, .call { callee := .builtin .len, args := #[.tmp 17], argTypes := #[E.t_map_uint32_l_uint8] }, E.tInt⟩, ⟨none, some 19, .makeSlice E.t_l_uint32 (.const (.int .i64 0)) (.tmp 18), E.t_l_uint32⟩, ⟨none, some 4, .alloc E.t_l_uint32, E.tNil⟩, ⟨none, none, .store E.t_l_uint32 (.tmp 4) (.tmp 19), E.tNil⟩]) (.seq (.seq (.reg [ ⟨none, some 20, .move (.tmp 0), E.t_pkmsg_Tags⟩, ⟨none, some 21, .nilCheck (.tmp 20), E.tNil⟩, ⟨none, some 22, .fieldAddr E.t_kmsg_Tags (.tmp 21) 0, E.tNil⟩, ⟨none, some 23, .load E.t_map_uint32_l_uint8 (.tmp 22), E.t_map_uint32_l_uint8⟩, ⟨none, some 24, .range E.t_map_uint32_l_uint8 (.tmp 23), E.tNil⟩]) (.block 0 (.loop (.seq (.reg [ ⟨none, some 25, .next (.tmp 24) false, E.tNil⟩, ⟨none, some 26, .extract (.tmp 25) 0, E.tB⟩]) (.seq (.cond 26 .skip (.exit 0)) (.block 1 (.seq (.reg [ ⟨none, some 27, .entry (.tmp 24), E.tNil⟩, ⟨none, some 28, .extract (.tmp 27) 0, E.tU32⟩, ⟨none, some 5, .assign (.tmp 28), E.tU32⟩]) (.reg [ ⟨none, some 29, .load E.t_l_uint32 (.tmp 4), E.t_l_uint32⟩, ⟨none, some 30, .move (.tmp 5), E.tU32⟩, ⟨none, some 31, .buildSlice E.t_l_uint32 1 #[(0, .tmp 30)], E.t_l_uint32⟩, ⟨none, some 32, .call { callee := .builtin .append, args := #[.tmp 29, .tmp 31], argTypes := #[E.t_l_uint32, E.t_l_uint32] }, E.t_l_uint32⟩, ⟨none, none, .store E.t_l_uint32 (.tmp 4) (.tmp 32), E.tNil⟩])))))))) (.seq (.reg [ ⟨none, some 33, .load E.t_l_uint32 (.tmp 4), E.t_l_uint32⟩, ⟨none, some 34, .makeInterface E.t_l_uint32 (.tmp 33), E.tAny⟩, ⟨none, some 35, .makeFunc (.func E.f_pkmsg_Tags_Each_1) #[] #[.tmp 4], E.t_funcint_int_bool⟩, ⟨none, some 36, .call { callee := .value (.func E.f_sort_Slice), args := #[.tmp 34, .tmp 35], argTypes := #[E.tAny, E.t_funcint_int_bool] }, E.tNil⟩]) (.seq (.reg [ ⟨none, some 37, .load E.t_l_uint32 (.tmp 4), E.t_l_uint32⟩, ⟨none, some 38, .call { callee := .builtin .len, args := #[.tmp 37], argTypes := #[E.t_l_uint32] }, E.tInt⟩, ⟨none, some 39, .move (.const (.int .i64 0)), E.tInt⟩]) (.block 2 (.loop (.seq (.reg [ ⟨none, some 40, .binOp .lss E.tInt (.tmp 39) (.tmp 38) E.tInt, E.tNil⟩]) (.seq (.cond 40 .skip (.exit 2)) (.seq (.block 3 (.seq (.reg [ ⟨none, some 41, .indexAddr E.t_l_uint32 (.tmp 37) (.tmp 39), E.tNil⟩, ⟨none, some 42, .load E.tU32 (.tmp 41), E.tU32⟩, ⟨none, some 7, .assign (.tmp 42), E.tU32⟩]) (.reg [ ⟨none, some 43, .move (.tmp 1), E.t_funcuint32_l_uint8⟩, ⟨none, some 44, .move (.tmp 7), E.tU32⟩, ⟨none, some 45, .move (.tmp 0), E.t_pkmsg_Tags⟩, ⟨none, some 46, .nilCheck (.tmp 45), E.tNil⟩, ⟨none, some 47, .fieldAddr E.t_kmsg_Tags (.tmp 46) 0, E.tNil⟩, ⟨none, some 48, .load E.t_map_uint32_l_uint8 (.tmp 47), E.t_map_uint32_l_uint8⟩, ⟨none, some 49, .move (.tmp 7), E.tU32⟩, ⟨none, some 50, .lookup E.t_map_uint32_l_uint8 (.tmp 48) (.tmp 49) false, E.tBs⟩, ⟨none, some 51, .call { callee := .value (.tmp 43), args := #[.tmp 44, .tmp 50], argTypes := #[E.tU32, E.tBs] }, E.tNil⟩]))) (.reg [ ⟨none, some 52, .binOp .add E.tInt (.tmp 39) (.const (.int .i64 1)) E.tInt, E.tInt⟩, ⟨none, some 39, .move (.tmp 52), E.tInt⟩])))))))))))
def nt_pkmsg_Tags_Each : Nat := 53
def rs_pkmsg_Tags_Each (E : Env) : List Rv := []
def ir_pkmsg_Tags_Each_1 (E : Env) : Ir := (.seq (.reg [ ⟨none, some 5, .assign (.const (.bool false)), E.tB⟩]) (.seq (.regH [ (true, ⟨none, some 6, .load E.t_l_uint32 (.tmp 2), E.t_l_uint32⟩), (true, ⟨none, some 7, .move (.tmp 0), E.tInt⟩), (true, ⟨none, some 8, .indexAddr E.t_l_uint32 (.tmp 6) (.tmp 7), E.tNil⟩), (true, ⟨none, some 9, .load E.tU32 (.tmp 8), E.tU32⟩), (true, ⟨none, some 10, .load E.t_l_uint32 (.tmp 2), E.t_l_uint32⟩), (true, ⟨none, some 11, .move (.tmp 1), E.tInt⟩), (true, ⟨none, some 12, .indexAddr E.t_l_uint32 (.tmp 10) (.tmp 11), E.tNil⟩), (true, ⟨none, some 13, .load E.tU32 (.tmp 12), E.tU32⟩), (true, ⟨none, some 14, .binOp .lss E.tU32 (.tmp 9) (.tmp 13) E.tU32, E.tB⟩), (true, ⟨none, some 5, .assign (.tmp 14), E.tB⟩)]) .ret))
def nt_pkmsg_Tags_Each_1 : Nat := 15
def rs_pkmsg_Tags_Each_1 (E : Env) : List Rv := [.t 5]
def ir_pkmsg_Tags_Set (E : Env) : Ir := (.seq (.seq (.reg [ ⟨none, some 6, .move (.tmp 0), E.t_pkmsg_Tags⟩, ⟨none, some 7, .nilCheck (.tmp 6), E.tNil⟩, ⟨none, some 8, .fieldAddr E.t_kmsg_Tags (.tmp 7) 0, E.tNil⟩, ⟨none, some 9, .load E.t_map_uint32_l_uint8 (.tmp 8), E.t_map_uint32_l_uint8⟩, ⟨none, some 10, .binOp .eql E.t_map_uint32_l_uint8 (.tmp 9) (.const (.map none)) E.t_map_uint32_l_uint8, E.tB⟩]) (.cond 10 (.reg [ ⟨none, some 11, .move (.tmp 0), E.t_pkmsg_Tags⟩, ⟨none, some 12, .makeMap E.t_map_uint32_l_uint8 none, E.t_map_uint32_l_uint8⟩, ⟨none, some 13, .nilCheck (.tmp 11), E.tNil⟩, ⟨none, some 14, .fieldAddr E.t_kmsg_Tags (.tmp 13) 0, E.tNil⟩, ⟨none, none, .store E.t_map_uint32_l_uint8 (.tmp 14) (.tmp 12), E.tNil⟩]) .skip)) (.reg [ ⟨none, some 15, .move (.tmp 0), E.t_pkmsg_Tags⟩, ⟨none, some 16, .nilCheck (.tmp 15), E.tNil⟩, ⟨none, some 17, .fieldAddr E.t_kmsg_Tags (.tmp 16) 0, E.tNil⟩, ⟨none, some 18, .load E.t_map_uint32_l_uint8 (.tmp 17), E.t_map_uint32_l_uint8⟩, ⟨none, some 19, .move (.tmp 1), E.tU32⟩, ⟨none, some 20, .move (.tmp 2), E.tBs⟩, ⟨none, none, .mapUpdate E.t_map_uint32_l_uint8 (.tmp 18) (.tmp 19) (.tmp 20), E.tNil⟩]))
def nt_pkmsg_Tags_Set : Nat := 21
def rs_pkmsg_Tags_Set (E : Env) : List Rv := []
def ir_pkmsg_Tags_AppendEach (E : Env) : Ir := (.seq (.reg [ ⟨none, some 3, .box E.tBs (.tmp 1), E.tNil⟩, ⟨none, some 4, .assign (.const (.slice none 0 0)), E.tBs⟩]) (.seq (.reg [ ⟨none, some 5, .move (.tmp 0), E.t_pkmsg_Tags⟩, ⟨none, some 6, .makeFunc (.func E.f_pkmsg_Tags_AppendEach_1) #[] #[.tmp 3], E.t_funcuint32_l_uint8⟩, ⟨none, some 7, .call { callee := .value (.func E.f_pkmsg_Tags_Each), args := #[.tmp 5, .tmp 6], argTypes := #[E.t_pkmsg_Tags, E.t_funcuint32_l_uint8] }, E.tNil⟩]) (.seq (.reg [ ⟨none, some 8, .load E.tBs (.tmp 3), E.tBs⟩, ⟨none, some 4, .assign (.tmp 8), E.tBs⟩]) .ret)))
def nt_pkmsg_Tags_AppendEach : Nat := 9
def rs_pkmsg_Tags_AppendEach (E : Env) : List Rv := [.t 4]
def ir_pkmsg_Tags_AppendEach_1 (E : Env) : Ir := (.seq (.reg [ ⟨none, some 5, .load E.tBs (.tmp 2), E.tBs⟩, ⟨none, some 6, .move (.tmp 0), E.tU32⟩, ⟨none, some 7, .call { callee := .value (.func E.f_kbin_AppendUvarint), args := #[.tmp 5, .tmp 6], argTypes := #[E.tBs, E.tU32] }, E.tBs⟩, ⟨none, none, .store E.tBs (.tmp 2) (.tmp 7), E.tNil⟩]) (.seq (.reg [ ⟨none, some 8, .load E.tBs (.tmp 2), E.tBs⟩, ⟨none, some 9, .move (.tmp 1), E.tBs⟩, ⟨none, some 10, .call { callee := .builtin .len, args := #[.tmp 9], argTypes := #[E.tBs] }, E.tInt⟩, ⟨none, some 11, .convert E.tInt E.tU32 (.tmp 10), E.tU32⟩, ⟨none, some 12, .call { callee := .value (.func E.f_kbin_AppendUvarint), args := #[.tmp 8, .tmp 11], argTypes := #[E.tBs, E.tU32] }, E.tBs⟩, ⟨none, none, .store E.tBs (.tmp 2) (.tmp 12), E.tNil⟩]) (.reg [ ⟨none, some 13, .load E.tBs (.tmp 2), E.tBs⟩, ⟨none, some 14, .move (.tmp 1), E.tBs⟩, ⟨none, some 15, .call { callee := .builtin .append, args := #[.tmp 13, .tmp 14], argTypes := #[E.tBs, E.tBs] }, E.tBs⟩, ⟨none, none, .store E.tBs (.tmp 2) (.tmp 15), E.tNil⟩])))
def nt_pkmsg_Tags_AppendEach_1 : Nat := 16
def rs_pkmsg_Tags_AppendEach_1 (E : Env) : List Rv := []
end Go.Kg

set_option linter.unusedSimpArgs false
set_option linter.unusedVariables false
namespace Go.Kg
open Go
abbrev TagL := List (Nat × List UInt8)
/-- Counters of the code: l: locals, t: temporaries, k: blocks -/
structure Ct where
  l : Nat
  t : Nat
  k : Nat
/-- fx: the message has a variable isFlexible; sv, sf: where version and isFlexible stand. -/
structure Cfg where
  E : Env
  fx : Bool
  sv : Nat
  sf : Nat
/-- u: the numbers of the readers that are 'unsafe' (String, CompactString, NullableString, CompactNullableString). rs: where the reader stands. -/
structure CfgR extends Cfg where
  rs : Nat
  u : Nat × Nat × Nat × Nat
structure DSt where
  k : Nat
  o : Nat
  ty : Nat
  v : Value
inductive DI where
  | st (x : DSt)
  | ad (k ty : Nat)
def DI.st? : DI → Option DSt
  | .st x => some x
  | .ad _ _ => none
def tagsOk (l : TagL) : Prop := l.length ≤ 40000 ∧ (l.map (·.1)).Nodup ∧ ∀ x ∈ l, x.1 < 4294967296 ∧ x.2.length ≤ 32767
/-- a reader that may end early, of a longer text -/
structure GoodO {α : Type} (g : RS → Option (α × RS)) : Prop where
  ext : ∀ p z nn y rs, g ⟨p, false, nn⟩ = some (y, rs) → rs.bad = false → g ⟨p ++ z, false, nn⟩ = some (y, ⟨rs.src ++ z, false, rs.nn⟩)
  bad : ∀ rs y rs', g rs = some (y, rs') → rs.bad = true → rs'.bad = true
def RS.fine (rs : RS) : Prop := rs.bad = true → rs.src = []
def FineO {α : Type} (g : RS → Option (α × RS)) : Prop := ∀ rs y rs', rs.fine → g rs = some (y, rs') → rs'.fine
def flagOk (C : Cfg) (f : Nat → Value) (fl : Bool) : Prop := (C.fx = true → f C.sf = .bool fl ∧ C.sf ≠ 1) ∧ (C.fx = false → fl = false)
def CellsAt (w : World) (b a : Nat) (cs : List Value) : Prop := ∀ j u, cs[j]? = some u → w.cell? ⟨b, a + j, none⟩ = some u
structure FrW (C : Cfg) (f : Nat → Value) (pv b a : Nat) (ver : Int) (fl : Bool) (n : Nat) : Prop where
  ptr : f pv = .pointer (some ⟨b, a, none⟩)
  ptrN : pv < n ∧ pv ≠ 1
  svv : f C.sv = .int .i16 ver
  svN : C.sv < n ∧ C.sv ≠ 1
  flg : flagOk C f fl
  sfN : C.fx = true → C.sf < n
  one : 1 < n
def Dst (C : Cfg) (f : Nat → Value) (w : World) (base : Nat) (s : List UInt8) : Prop := OwnB C.E.tU8 w base (f 1) s ∧ base ≤ w.heap.size
def KeepR (f f' : Nat → Value) (n m t : Nat) : Prop := ∀ x, x ≠ 1 → (x < n ∨ (m ≤ x ∧ x < t)) → f' x = f x
structure Wrote (C : Cfg) (f : Nat → Value) (w : World) (base : Nat) (s out : List UInt8) (n m t : Nat) (f' : Nat → Value) (w' : World) : Prop where
  dst : Dst C f' w' base (s ++ out)
  grew : Grew w (f 1) w' (f' 1)
  keep : KeepR f f' n m t
def segL (c : Array Value) (a n : Nat) : List Value := (c.toList.drop a).take n
structure Rdr where
  pb : Nat
  D : Nat
  base : Nat
  et : TypeId
  evv : Value
/-- the error -/
def Rdr.ev (R : Rdr) : Value := .iface R.et R.evv
def RK (R : Rdr) (k : Nat) : Prop := k = R.D ∨ R.base ≤ k
def CB (R : Rdr) (b k : Nat) : Prop := k = R.pb ∨ k = b
structure RW (C : CfgR) (R : Rdr) (b : Nat) (w : World) : Prop where
  lt : R.pb < R.base ∧ b < R.base ∧ R.D < R.base ∧ R.base ≤ w.heap.size
  ne : R.pb ≠ R.D ∧ b ≠ R.D ∧ R.pb ≠ b
  err : w.cell? ⟨C.E.g_kbin_ErrNotEnoughData, 0, none⟩ = some R.ev
  errN : C.E.g_kbin_ErrNotEnoughData ≠ R.pb ∧ C.E.g_kbin_ErrNotEnoughData ≠ b
structure FrR (C : CfgR) (R : Rdr) (f : Nat → Value) (pv b a : Nat) (ver : Int) (fl : Bool) (n : Nat) : Prop where
  ptr : f pv = .pointer (some ⟨b, a, none⟩)
  ptrN : 8 < pv ∧ pv < n
  v0 : C.fx = true → 0 ≤ ver
  ver : f 8 = .int .i16 ver
  flg : C.fx = true → f 9 = .bool fl
  flN : C.fx = false → fl = false
  rd : f C.rs = .pointer (some ⟨R.pb, 0, none⟩)
  us : f 2 = .bool false
  nN : 10 ≤ n
  rsN : 7 ≤ C.rs ∧ C.rs < n
structure StR (C : CfgR) (R : Rdr) (b a n : Nat) (w : World) (cc : Array Value) (e : TypeId) (rs : RS) : Prop where
  blk : w.heap[b]? = some (.cells cc e (0, 0))
  fit : a + n ≤ cc.size
  rd : RdAt C.E.tRd w R.pb R.D rs
  rw_ : RW C R b w
structure RdTo (C : CfgR) (R : Rdr) (b a n lo : Nat) (w : World) (cc : Array Value) (e : TypeId) (f : Nat → Value) (l m t : Nat) (rs' : RS) (f' : Nat → Value) (w' : World) (cc' : Array Value) : Prop where
  ext : Ext (CB R b) w w'
  st : StR C R b a n w' cc' e rs'
  size : cc'.size = cc.size
  same : ∀ j, (j < a + lo ∨ a + n ≤ j) → cc'[j]? = cc[j]?
  keep : KeepR f f' l m t
def seqL : List Ir → Ir
  | [] => .skip
  | [a] => a
  | a :: l => .seq a (seqL l)
/-- What a part is, by itself: its values, how it is written and read, how it stands in a struct's cells (own: which cells), the code of it, its defaults; and the laws of these. -/
structure Cus where
  T : Type
  dfl : T
  wr : Int → Bool → T → List UInt8
  rd : Int → Bool → RS → Option (T × RS)
  Rep : World → (Nat → Prop) → List Value → T → Prop
  tyB : Program → Cfg → Nat → Bool
  genW : Cfg → Nat → Nat → Nat → Ct → List Ir × Ct
  genR : CfgR → Nat → Nat → Nat → Ct → List Ir × Ct
  dit : Cfg → List DI
  chkD : List Value → Bool
  own : List Nat
  TagsOk : (TagL → Prop) → T → Prop
  wf : Int → Bool → T → Prop
  pos : Int → Bool → Bool
  posE : Int → Bool → Bool
  rep_ext : ∀ {w w' : World} {K C : Nat → Prop} {cs : List Value} {x : T}, Ext C w w' → (∀ b, b < w.heap.size → K b → ¬ C b) → Rep w K cs x → Rep w' K cs x
  rep_mono : ∀ {w : World} {K K' : Nat → Prop} {cs : List Value} {x : T}, (∀ b, K b → K' b) → Rep w K cs x → Rep w K' cs x
  rep_lt : ∀ {w : World} {K : Nat → Prop} {cs : List Value} {x : T}, Rep w K cs x → Rep w (fun k => K k ∧ k < w.heap.size) cs x
  rep_own : ∀ {w : World} {K : Nat → Prop} {cs cs' : List Value} {x : T}, (∀ j ∈ own, cs'[j]? = cs[j]?) → Rep w K cs x → Rep w K cs' x
  rep_dfl : ∀ {w : World} {K : Nat → Prop} {cs : List Value}, chkD cs = true → Rep w K cs dfl
  chk_own : ∀ {cs cs' : List Value}, (∀ j ∈ own, cs'[j]? = cs[j]?) → chkD cs = true → chkD cs' = true
  tags_dfl : TagsOk (· = []) dfl
  tags_mono : ∀ {p q : TagL → Prop} {x : T}, (∀ l, p l → q l) → TagsOk p x → TagsOk q x
  good : ∀ ver fl, GoodO (rd ver fl)
  fine : ∀ ver fl, FineO (rd ver fl)
  pos_wr : ∀ {ver fl x}, pos ver fl = true → wf ver fl x → 1 ≤ (wr ver fl x).length
  rd_wr : ∀ {ver fl x}, posE ver fl = true → wf ver fl x → ∀ r nn, ∃ y nn', rd ver fl ⟨wr ver fl x ++ r, false, nn⟩ = some (y, ⟨r, false, nn'⟩) ∧ wr ver fl y = wr ver fl x ∧ TagsOk tagsOk y
  any : ∀ {ver fl rs x rs'}, rd ver fl rs = some (x, rs') → rs'.bad = false → rs.src.length ≤ 32767 → wf ver fl x ∧ TagsOk tagsOk x ∧ (wr ver fl x).length + rs'.src.length ≤ rs.src.length
  mono_w : ∀ C T PT pv c, c.l ≤ (genW C T PT pv c).2.l ∧ c.t ≤ (genW C T PT pv c).2.t
  mono_r : ∀ C T PT pv c, c.l ≤ (genR C T PT pv c).2.l ∧ c.t ≤ (genR C T PT pv c).2.t
  one : ∀ C, ∀ x ∈ (dit C).filterMap DI.st?, x.v.oneCell' = true
/-- the code of a part writes it -/
def Cus.SoundW (c : Cus) (P : Program) (C : Cfg) (ok : TagL → Prop) : Prop := ∀ (T PT pv : Nat) (ct : Ct) (Q : Post) (f : Nat → Value) (w : World) (b a : Nat) (cs : List Value) (x : c.T) (ver : Int) (fl : Bool) (base : Nat) (s : List UInt8),
  c.tyB P C T = true → FrW C f pv b a ver fl ct.l → (c.genW C T PT pv ct).2.l ≤ ct.t → b < base → CellsAt w b a cs → c.Rep w (· < base) cs x → c.TagsOk ok x → Dst C f w base s → s.length + (c.wr ver fl x).length ≤ 1099511627776 →
  (∀ f' w', Wrote C f w base s (c.wr ver fl x) ct.l (c.genW C T PT pv ct).2.l ct.t f' w' → Q .normal f' w') → (seqL (c.genW C T PT pv ct).1).wp P Q f w
/-- the code of a part reads it -/
def Cus.SoundR (c : Cus) (P : Program) (C : CfgR) : Prop := ∀ (T PT pv : Nat) (ct : Ct) (Q : Post) (f : Nat → Value) (w : World) (b a n : Nat) (cc : Array Value) (e : TypeId) (ver : Int) (fl : Bool) (R : Rdr) (rs : RS),
  c.tyB P C.toCfg T = true → (∀ j ∈ c.own, j < n) → FrR C R f pv b a ver fl ct.l → (c.genR C T PT pv ct).2.l ≤ ct.t → StR C R b a n w cc e rs → c.chkD (segL cc a n) = true →
  (c.rd ver fl rs = none → ∀ f' w', f' 6 = R.ev → Ext (CB R b) w w' → Q .ret f' w') →
  (∀ x rs', c.rd ver fl rs = some (x, rs') → ∀ f' w' cc', RdTo C R b a n 0 w cc e f ct.l (c.genR C T PT pv ct).2.l ct.t rs' f' w' cc' → (∀ j, (∀ i ∈ c.own, j ≠ a + i) → cc'[j]? = cc[j]?) → c.Rep w' (RK R) (segL cc' a n) x → Q .normal f' w') →
  (seqL (c.genR C T PT pv ct).1).wp P Q f w
end Go.Kg

set_option linter.unusedSimpArgs false
set_option linter.unusedVariables false
namespace Go.Kg
open Go
inductive Prim where
  | bool | i8 | i16 | u16 | i32 | i64 | uuid | str | nstr | bytes | nbytes
deriving DecidableEq
def Prim.T : Prim → Type
  | .bool => Bool
  | .i8 | .i16 | .u16 | .i32 | .i64 => Int
  | .uuid | .str | .bytes => List UInt8
  | .nstr | .nbytes => Option (List UInt8)
/-- From which version on, and up to which, a field stands. -/
structure Gd where
  lo : Option Nat
  hi : Option Nat
def Gd.on (g : Gd) (v : Int) : Bool := match g.lo, g.hi with
  | none, _ => true
  | some n, none => decide ((n : Int) ≤ v)
  | some n, some m => decide ((n : Int) ≤ v) && decide (v ≤ (m : Int))
/-- k: the field's place in its struct; o: its first cell; sT: a slice's type; d: a number's default; nul: from which version on a list may be null (only so written); T, PT: a struct's and its pointer's type, sz: its cells, df: its function Default. -/
inductive Sch where
  | fin
  | tags (k o : Nat)
  | prim (g : Gd) (k o : Nat) (p : Prim) (en : Nat) (d : Int) (rest : Sch)
  | arrP (g : Gd) (k o sT : Nat) (nul : Option Nat) (p : Prim) (rest : Sch)
  | arrS (g : Gd) (k o sT : Nat) (nul : Option Nat) (T PT sz df : Nat) (e rest : Sch)
  | sub (g : Gd) (k o T PT sz df : Nat) (e rest : Sch)
  | opt (g : Gd) (k o T PT PP sz df : Nat) (e rest : Sch)
  | cus (c : Cus)
def Sch.T : Sch → Type
  | .fin => Unit
  | .tags _ _ => TagL
  | .prim _ _ _ p _ _ rest => p.T × rest.T
  | .arrP _ _ _ _ _ p rest => Option (List p.T) × rest.T
  | .arrS _ _ _ _ _ _ _ _ _ e rest => Option (List e.T) × rest.T
  | .sub _ _ _ _ _ _ _ e rest => e.T × rest.T
  | .opt _ _ _ _ _ _ _ _ e rest => Option e.T × rest.T
  | .cus c => c.T
def num (k : Nat) (n : Int) : List UInt8 := bigE k (n % (256 ^ k : Nat)).toNat
def Prim.wr : (p : Prim) → Bool → p.T → List UInt8
  | .bool, _, b => [if (show Bool from b) then 1 else 0]
  | .i8, _, n => [bval n]
  | .i16, _, n => num 2 n
  | .u16, _, n => num 2 n
  | .i32, _, n => num 4 n
  | .i64, _, n => num 8 n
  | .uuid, _, l => l
  | .str, fl, l => if fl then wCStr l else wStr l
  | .nstr, fl, o => if fl then wCNStr o else wNStr o
  | .bytes, fl, l => if fl then wCBytes l else wBytes l
  | .nbytes, fl, o => if fl then wCNBytes o else wNBytes o
def lenW (nul : Option Nat) (fl : Bool) (n : Nat) (nil : Bool) : List UInt8 :=
  match nul with
  | none => if fl then wCLen n else wLen n
  | some _ => if fl then wCNLen n nil else wNLen n nil
/-- by rising keys -/
def insTag (x : Nat × List UInt8) : TagL → TagL
  | [] => [x]
  | y :: l => if x.1 ≤ y.1 then x :: y :: l else y :: insTag x l
def sortTags : TagL → TagL
  | [] => []
  | x :: l => insTag x (sortTags l)
def tagsOut (l : TagL) : List UInt8 := (sortTags l).flatMap fun x => uvOut x.1 ++ uvOut (x.2.length % 4294967296) ++ x.2
/-- a thing that may be null -/
def optW {α : Type} (g : α → List UInt8) : Option α → List UInt8
  | none => [255]
  | some x => 1 :: g x
def Sch.wr (ver : Int) (fl : Bool) : (S : Sch) → S.T → List UInt8
  | .fin, _ => []
  | .tags _ _, l => if fl then uvOut (l.length % 4294967296) ++ tagsOut l else []
  | .prim g _ _ p _ _ rest, (x, r) => (if g.on ver then p.wr fl x else []) ++ rest.wr ver fl r
  | .arrP g _ _ _ nul p rest, (a, r) => (if g.on ver then lenW nul fl (a.getD []).length a.isNone ++ (a.getD []).flatMap (p.wr fl) else []) ++ rest.wr ver fl r
  | .arrS g _ _ _ nul _ _ _ _ e rest, (a, r) => (if g.on ver then lenW nul fl (a.getD []).length a.isNone ++ (a.getD []).flatMap (e.wr ver fl) else []) ++ rest.wr ver fl r
  | .sub g _ _ _ _ _ _ e rest, (x, r) => (if g.on ver then e.wr ver fl x else []) ++ rest.wr ver fl r
  | .opt g _ _ _ _ _ _ _ e rest, (a, r) => (if g.on ver then optW (e.wr ver fl) a else []) ++ rest.wr ver fl r
  | .cus c, x => c.wr ver fl x
def Prim.ty (E : Env) : Prim → Nat
  | .bool => E.tB | .i8 => E.tI8 | .i16 => E.tI16 | .u16 => E.tU16 | .i32 => E.tI32 | .i64 => E.tI64 | .uuid => E.tUu | .str => E.tS | .nstr => E.tPS | .bytes => E.tBs | .nbytes => E.tBs
def Prim.text : Prim → Bool
  | .str | .nstr | .bytes | .nbytes => true
  | _ => false
def Prim.fW (E : Env) : Prim → Bool → Nat
  | .bool, _ => E.f_kbin_AppendBool
  | .i8, _ => E.f_kbin_AppendInt8
  | .i16, _ => E.f_kbin_AppendInt16
  | .u16, _ => E.f_kbin_AppendUint16
  | .i32, _ => E.f_kbin_AppendInt32
  | .i64, _ => E.f_kbin_AppendInt64
  | .uuid, _ => E.f_kbin_AppendUuid
  | .str, false => E.f_kbin_AppendString
  | .str, true => E.f_kbin_AppendCompactString
  | .nstr, false => E.f_kbin_AppendNullableString
  | .nstr, true => E.f_kbin_AppendCompactNullableString
  | .bytes, false => E.f_kbin_AppendBytes
  | .bytes, true => E.f_kbin_AppendCompactBytes
  | .nbytes, false => E.f_kbin_AppendNullableBytes
  | .nbytes, true => E.f_kbin_AppendCompactNullableBytes
/-- a field's address: three operations -/
def addrR (C : Cfg) (T PT pv k t : Nat) : List Ro :=
  [⟨none, some t, .move (.tmp pv), PT⟩, ⟨none, some (t + 1), .nilCheck (.tmp t), C.E.tNil⟩, ⟨none, some (t + 2), .fieldAddr T (.tmp (t + 1)) k, C.E.tNil⟩]
/-- what a local variable gets: its own cell, or (16 octets) a block -/
def putL (C : Cfg) (p : Prim) (ty l s : Nat) : List Ro :=
  if p = .uuid then [⟨none, some l, .alloc C.E.tUu, C.E.tNil⟩, ⟨none, none, .store C.E.tUu (.tmp l) (.tmp s), C.E.tNil⟩]
  else [⟨none, some l, .assign (.tmp s), ty⟩]
def getL (C : Cfg) (p : Prim) (l t : Nat) : Ro :=
  if p = .uuid then ⟨none, some t, .load C.E.tUu (.tmp l), C.E.tUu⟩ else ⟨none, some t, .move (.tmp l), p.ty C.E⟩
/-- dst = kbin.Append..(dst, v) -/
def call1R (C : Cfg) (p : Prim) (fl : Bool) (l t : Nat) : List Ro :=
  [⟨none, some t, .move (.tmp 1), C.E.tBs⟩, getL C p l (t + 1),
   ⟨none, some (t + 2), .call { callee := .value (.func (p.fW C.E fl)), args := #[.tmp t, .tmp (t + 1)], argTypes := #[C.E.tBs, p.ty C.E] }, C.E.tBs⟩, ⟨none, some 1, .assign (.tmp (t + 2)), C.E.tBs⟩]
/-- if isFlexible {a} else {b} -/
def flexI (C : Cfg) (t : Nat) (a b : Ir) : Ir := .seq (.reg [⟨none, some t, .move (.tmp C.sf), C.E.tB⟩]) (.cond t a b)
def emitW (C : Cfg) (p : Prim) (l t : Nat) : Ir :=
  if p.text && C.fx then flexI C t (.reg (call1R C p true l (t + 1))) (.reg (call1R C p false l (t + 4))) else .reg (call1R C p false l t)
def emitN (C : Cfg) (p : Prim) : Nat := if p.text && C.fx then 7 else 3
/-- if version >= lo && version <= hi {..} : the body starts at t + gdN -/
def gdN (g : Gd) : Nat := match g.lo, g.hi with
  | none, _ => 0
  | some _, none => 2
  | some _, some _ => 6
def gdI (C : Cfg) (g : Gd) (t : Nat) (body : Ir) : Ir := match g.lo, g.hi with
  | none, _ => body
  | some n, none => .seq (.reg [⟨none, some t, .move (.tmp C.sv), C.E.tI16⟩, ⟨none, some (t + 1), .binOp .geq C.E.tI16 (.tmp t) (.const (.int .i16 n)) C.E.tI16, C.E.tB⟩]) (.cond (t + 1) body .skip)
  | some n, some m => .seq (.reg [⟨none, some t, .move (.tmp C.sv), C.E.tI16⟩, ⟨none, some (t + 1), .binOp .geq C.E.tI16 (.tmp t) (.const (.int .i16 n)) C.E.tI16, C.E.tB⟩,
      ⟨none, some (t + 2), .move (.tmp (t + 1)), C.E.tB⟩, ⟨some (t + 2, true), some (t + 3), .move (.tmp C.sv), C.E.tI16⟩,
      ⟨some (t + 2, true), some (t + 4), .binOp .leq C.E.tI16 (.tmp (t + 3)) (.const (.int .i16 m)) C.E.tI16, C.E.tB⟩, ⟨none, some (t + 5), .pick (.tmp (t + 2)) (.tmp (t + 4)) (.const (.bool false)), C.E.tB⟩]) (.cond (t + 5) body .skip)
def lenR (C : Cfg) (nul : Option Nat) (fl : Bool) (sT l t : Nat) : List Ro :=
  match nul with
  | none => [⟨none, some t, .move (.tmp 1), C.E.tBs⟩, ⟨none, some (t + 1), .move (.tmp l), sT⟩, ⟨none, some (t + 2), .call { callee := .builtin .len, args := #[.tmp (t + 1)], argTypes := #[sT] }, C.E.tInt⟩,
      ⟨none, some (t + 3), .call { callee := .value (.func (if fl then C.E.f_kbin_AppendCompactArrayLen else C.E.f_kbin_AppendArrayLen)), args := #[.tmp t, .tmp (t + 2)], argTypes := #[C.E.tBs, C.E.tInt] }, C.E.tBs⟩, ⟨none, some 1, .assign (.tmp (t + 3)), C.E.tBs⟩]
  | some _ => [⟨none, some t, .move (.tmp 1), C.E.tBs⟩, ⟨none, some (t + 1), .move (.tmp l), sT⟩, ⟨none, some (t + 2), .call { callee := .builtin .len, args := #[.tmp (t + 1)], argTypes := #[sT] }, C.E.tInt⟩,
      ⟨none, some (t + 3), .move (.tmp l), sT⟩, ⟨none, some (t + 4), .binOp .eql sT (.tmp (t + 3)) (.const (.slice none 0 0)) sT, C.E.tB⟩,
      ⟨none, some (t + 5), .call { callee := .value (.func (if fl then C.E.f_kbin_AppendCompactNullableArrayLen else C.E.f_kbin_AppendNullableArrayLen)), args := #[.tmp t, .tmp (t + 2), .tmp (t + 4)], argTypes := #[C.E.tBs, C.E.tInt, C.E.tB] }, C.E.tBs⟩, ⟨none, some 1, .assign (.tmp (t + 5)), C.E.tBs⟩]
def lenRN (nul : Option Nat) : Nat := if nul.isSome then 6 else 4
def lenI (C : Cfg) (nul : Option Nat) (sT l t : Nat) : Ir :=
  if C.fx then flexI C t (.reg (lenR C nul true sT l (t + 1))) (.reg (lenR C nul false sT l (t + 1 + lenRN nul))) else .reg (lenR C nul false sT l t)
def lenN (C : Cfg) (nul : Option Nat) : Nat := if C.fx then 1 + lenRN nul + lenRN nul else lenRN nul
/-- for i := range v: body, with what comes behind each pass at t' -/
def rangeI (C : Cfg) (sT l t t' k : Nat) (body : Ir) : Ir :=
  .seq (.reg [⟨none, some t, .move (.tmp l), sT⟩, ⟨none, some (t + 1), .call { callee := .builtin .len, args := #[.tmp t], argTypes := #[sT] }, C.E.tInt⟩, ⟨none, some (t + 2), .move (.const (.int .i64 0)), C.E.tInt⟩])
    (.block k (.loop (.seq (.reg [⟨none, some (t + 3), .binOp .lss C.E.tInt (.tmp (t + 2)) (.tmp (t + 1)) C.E.tInt, C.E.tNil⟩]) (.seq (.cond (t + 3) .skip (.exit k))
      (.seq (.block (k + 1) body) (.reg [⟨none, some t', .binOp .add C.E.tInt (.tmp (t + 2)) (.const (.int .i64 1)) C.E.tInt, C.E.tInt⟩, ⟨none, some (t + 2), .move (.tmp t'), C.E.tInt⟩]))))))
/-- i := the counter -/
def idxI (C : Cfg) (l t c : Nat) : Ir := .reg [⟨none, some t, .move (.tmp c), C.E.tInt⟩, ⟨none, some l, .assign (.tmp t), C.E.tInt⟩]
def tagsW (C : Cfg) (T PT pv k t : Nat) : Ir :=
  flexI C t (.seq (.reg ([⟨none, some (t + 1), .move (.tmp 1), C.E.tBs⟩] ++ addrR C T PT pv k (t + 2) ++ [⟨none, some (t + 5), .call { callee := .value (.func C.E.f_pkmsg_Tags_Len), args := #[.tmp (t + 4)], argTypes := #[C.E.t_kmsg_Tags] }, C.E.tInt⟩,
      ⟨none, some (t + 6), .convert C.E.tInt C.E.tU32 (.tmp (t + 5)), C.E.tU32⟩, ⟨none, some (t + 7), .binOp .add C.E.tU32 (.const (.int .u32 0)) (.tmp (t + 6)) C.E.tU32, C.E.tU32⟩,
      ⟨none, some (t + 8), .call { callee := .value (.func C.E.f_kbin_AppendUvarint), args := #[.tmp (t + 1), .tmp (t + 7)], argTypes := #[C.E.tBs, C.E.tU32] }, C.E.tBs⟩, ⟨none, some 1, .assign (.tmp (t + 8)), C.E.tBs⟩]))
    (.reg (addrR C T PT pv k (t + 9) ++ [⟨none, some (t + 12), .move (.tmp 1), C.E.tBs⟩, ⟨none, some (t + 13), .call { callee := .value (.func C.E.f_pkmsg_Tags_AppendEach), args := #[.tmp (t + 11), .tmp (t + 12)], argTypes := #[C.E.t_kmsg_Tags, C.E.tBs] }, C.E.tBs⟩,
      ⟨none, some 1, .assign (.tmp (t + 13)), C.E.tBs⟩]))) .skip
/-- dst = append(dst, n) -/
def app1I (C : Cfg) (n t : Nat) : Ir :=
  .reg [⟨none, some t, .move (.tmp 1), C.E.tBs⟩, ⟨none, some (t + 1), .buildSlice C.E.tBs 1 #[(0, .const (.int .u8 n))], C.E.tBs⟩, ⟨none, some (t + 2), .call { callee := .builtin .append, args := #[.tmp t, .tmp (t + 1)], argTypes := #[C.E.tBs, C.E.tBs] }, C.E.tBs⟩, ⟨none, some 1, .assign (.tmp (t + 2)), C.E.tBs⟩]
/-- v := v.F -/
def loadI (C : Cfg) (T PT pv k ty l t : Nat) (p : Prim) : Ir := .reg (addrR C T PT pv k t ++ [⟨none, some (t + 3), .load ty (.tmp (t + 2)), ty⟩] ++ putL C p ty l (t + 3))
def Sch.genW (C : Cfg) (T PT pv : Nat) : Sch → Ct → List Ir × Ct
  | .fin, c => ([], c)
  | .tags k _, c => ([tagsW C T PT pv k c.t], ⟨c.l, c.t + 14, c.k⟩)
  | .prim g k _ p en _ rest, c =>
    let t := c.t + gdN g
    let (b, c') := if en = 0 then ([loadI C T PT pv k (p.ty C.E) c.l t p, emitW C p c.l (t + 4)], (⟨c.l + 1, t + 4 + emitN C p, c.k⟩ : Ct))
      else ([loadI C T PT pv k en c.l t p, .reg [⟨none, some (t + 4), .move (.tmp c.l), en⟩, ⟨none, some (c.l + 1), .assign (.tmp (t + 4)), p.ty C.E⟩], emitW C p (c.l + 1) (t + 5)], ⟨c.l + 2, t + 5 + emitN C p, c.k⟩)
    let (r, c'') := rest.genW C T PT pv c'
    (gdI C g c.t (seqL b) :: r, c'')
  | .arrP g k _ sT nul p rest, c =>
    let t := c.t + gdN g
    let t1 := t + 4 + lenN C nul
    let body := seqL [idxI C (c.l + 1) (t1 + 4) (t1 + 2),
      .reg ([⟨none, some (t1 + 5), .move (.tmp c.l), sT⟩, ⟨none, some (t1 + 6), .move (.tmp (c.l + 1)), C.E.tInt⟩, ⟨none, some (t1 + 7), .indexAddr sT (.tmp (t1 + 5)) (.tmp (t1 + 6)), C.E.tNil⟩, ⟨none, some (t1 + 8), .load (p.ty C.E) (.tmp (t1 + 7)), p.ty C.E⟩] ++ putL C p (p.ty C.E) (c.l + 2) (t1 + 8)),
      emitW C p (c.l + 2) (t1 + 9)]
    let t2 := t1 + 9 + emitN C p
    let (r, c'') := rest.genW C T PT pv ⟨c.l + 3, t2 + 1, c.k + 2⟩
    (gdI C g c.t (seqL [loadI C T PT pv k sT c.l t .i8, lenI C nul sT c.l (t + 4), rangeI C sT c.l t1 t2 c.k body]) :: r, c'')
  | .arrS g k _ sT nul T' PT' _ _ e rest, c =>
    let t := c.t + gdN g
    let t1 := t + 4 + lenN C nul
    let (eb, c1) := e.genW C T' PT' (c.l + 2) ⟨c.l + 3, t1 + 8, c.k + 2⟩
    let body := seqL (idxI C (c.l + 1) (t1 + 4) (t1 + 2) ::
      .reg [⟨none, some (t1 + 5), .move (.tmp c.l), sT⟩, ⟨none, some (t1 + 6), .move (.tmp (c.l + 1)), C.E.tInt⟩, ⟨none, some (t1 + 7), .indexAddr sT (.tmp (t1 + 5)) (.tmp (t1 + 6)), C.E.tNil⟩, ⟨none, some (c.l + 2), .assign (.tmp (t1 + 7)), PT'⟩] :: eb)
    let (r, c'') := rest.genW C T PT pv ⟨c1.l, c1.t + 1, c1.k⟩
    (gdI C g c.t (seqL [loadI C T PT pv k sT c.l t .i8, lenI C nul sT c.l (t + 4), rangeI C sT c.l t1 c1.t c.k body]) :: r, c'')
  | .sub g k _ T' PT' _ _ e rest, c =>
    let t := c.t + gdN g
    let (eb, c1) := e.genW C T' PT' c.l ⟨c.l + 1, t + 3, c.k⟩
    let (r, c'') := rest.genW C T PT pv c1
    (gdI C g c.t (seqL (.reg (addrR C T PT pv k t ++ [⟨none, some c.l, .assign (.tmp (t + 2)), PT'⟩]) :: eb)) :: r, c'')
  | .opt g k _ T' PT' _ _ _ e rest, c =>
    let t := c.t + gdN g
    let (eb, c1) := e.genW C T' PT' c.l ⟨c.l + 1, t + 12, c.k⟩
    let (r, c'') := rest.genW C T PT pv c1
    (gdI C g c.t (seqL [loadI C T PT pv k PT' c.l t .i8,
      .seq (.reg [⟨none, some (t + 4), .move (.tmp c.l), PT'⟩, ⟨none, some (t + 5), .binOp .eql PT' (.tmp (t + 4)) (.const (.pointer none)) PT', C.E.tB⟩])
        (.cond (t + 5) (app1I C 255 (t + 6)) (seqL (app1I C 1 (t + 9) :: eb)))]) :: r, c'')
  | .cus u, c => u.genW C T PT pv c
def ct0 (C : Cfg) (nl : Nat) : Ct := ⟨if C.fx then 7 else 6, if C.fx then nl + 8 else nl + 5, 0⟩
/-- AppendTo: result at 4, version at 5 (field 0 of the message), isFlexible at 6 where fx; nl: how many locals there are. -/
def msgW (C : Cfg) (T PT : Nat) (flex : Nat) (S : Sch) (nl : Nat) : Ir :=
  let t := nl
  let pre : List Ir := [.reg [⟨none, some 4, .assign (.const (.slice none 0 0)), C.E.tBs⟩],
    .reg (addrR C T PT 0 0 t ++ [⟨none, some (t + 3), .load C.E.tI16 (.tmp (t + 2)), C.E.tI16⟩, ⟨none, some 5, .assign (.tmp (t + 3)), C.E.tI16⟩]),
    .reg [⟨none, some (t + 4), .move (.tmp 5), C.E.tI16⟩]]
  let fl : List Ir := if C.fx then [.reg [⟨none, some (t + 5), .move (.tmp 5), C.E.tI16⟩, ⟨none, some (t + 6), .binOp .geq C.E.tI16 (.tmp (t + 5)) (.const (.int .i16 flex)) C.E.tI16, C.E.tB⟩, ⟨none, some 6, .assign (.tmp (t + 6)), C.E.tB⟩],
    .reg [⟨none, some (t + 7), .move (.tmp 6), C.E.tB⟩]] else []
  let (b, c) := S.genW C T PT 0 (ct0 C nl)
  seqL (pre ++ fl ++ b ++ [.reg [⟨none, some c.t, .move (.tmp 1), C.E.tBs⟩, ⟨none, some 4, .assign (.tmp c.t), C.E.tBs⟩], .ret])
end Go.Kg

set_option linter.unusedSimpArgs false
set_option linter.unusedVariables false
namespace Go.Kg
open Go
def seg (cs : List Value) (o : Nat) (vs : List Value) : Prop := ∀ j u, vs[j]? = some u → cs[o + j]? = some u
/-- The cells of a struct (or of any value) from an address on. -/
def Prim.rep1 (w : World) (K : Nat → Prop) (v : Value) : (p : Prim) → p.T → Prop
  | .bool, b => v = .bool b
  | .i8, n => v = .int .i8 n
  | .i16, n => v = .int .i16 n
  | .u16, n => ∃ m : Nat, n = (m : Int) ∧ m < 65536 ∧ v = .int .u16 m
  | .i32, n => v = .int .i32 n
  | .i64, n => v = .int .i64 n
  | .uuid, l => v = .agg (cellsOf l).toArray ∧ (show List UInt8 from l).length = 16
  | .str, l => v = strV l
  | .nstr, o => StrPtr w K v o
  | .bytes, l => BytesAt w K v l
  | .nbytes, o => BytesOpt w K v o
def TagsAt (w : World) (K : Nat → Prop) (v : Value) (l : TagL) : Prop :=
  (v = .map none ∧ l = []) ∨ ∃ b es clock, v = .map (some b) ∧ K b ∧ w.heap[b]? = some (.map es clock) ∧ es.size = l.length ∧ ((l.map (·.1)).Nodup ∧ (es.toList.map (·.born)).Nodup) ∧ (l.length < 4294967296 ∧ l ≠ []) ∧
    ∀ (i : Nat) e x, es[i]? = some e → l[i]? = some x → e.key = .int .u32 x.1 ∧ x.1 < 4294967296 ∧ e.born < clock ∧ BytesAt w K e.val x.2
/-- A slice: its elements' cells, sz each. -/
def ArrAt (w : World) (K : Nat → Prop) (sz : Nat) (v : Value) : Option (List (List Value)) → Prop
  | none => v = .slice none 0 0
  | some ls => ∃ b o c, v = .slice (some ⟨b, o, none⟩) ls.length c ∧ K b ∧ (ls.length ≤ c ∧ ls.length ≤ 1099511627776) ∧ ∀ i cs, ls[i]? = some cs → cs.length = sz ∧ CellsAt w b (o + i * sz) cs
def Prim.sz : Prim → Nat
  | .uuid => 16
  | _ => 1
/-- a slice's block is there -/
def InHeap (w : World) (v : Value) : Prop := ∀ a n c, v = .slice (some a) n c → a.block < w.heap.size
theorem InHeap.nil (w : World) : InHeap w (.slice none 0 0) := by intro a n c h; cases h
theorem InHeap.ext {w w' : World} {v : Value} {C : Nat → Prop} (h : InHeap w v) (he : Ext C w w') : InHeap w' v := fun a n c e => Nat.lt_of_lt_of_le (h a n c e) he.size
def Sch.Rep (w : World) (K : Nat → Prop) : (S : Sch) → List Value → S.T → Prop
  | .fin, _, _ => True
  | .tags _ o, cs, l => ∃ v, cs[o]? = some v ∧ TagsAt w K v l
  | .prim _ _ o p _ _ rest, cs, (x, r) => (∃ v, seg cs o v.cells.toList ∧ p.rep1 w K v x) ∧ rest.Rep w K cs r
  | .arrP _ _ o _ _ p rest, cs, (a, r) => (∃ v ls, cs[o]? = some v ∧ ArrAt w K p.sz v ls ∧ (ls.isSome = a.isSome ∧ InHeap w v) ∧ (ls.getD []).length = (a.getD []).length ∧
      ∀ (i : Nat) (es : List Value) x, (ls.getD [])[i]? = some es → (a.getD [])[i]? = some x → ∃ u, es = u.cells.toList ∧ p.rep1 w K u x) ∧ rest.Rep w K cs r
  | .arrS _ _ o _ _ _ _ sz _ e rest, cs, (a, r) => (∃ v ls, cs[o]? = some v ∧ ArrAt w K sz v ls ∧ (ls.isSome = a.isSome ∧ InHeap w v) ∧ (ls.getD []).length = (a.getD []).length ∧
      ∀ (i : Nat) (es : List Value) x, (ls.getD [])[i]? = some es → (a.getD [])[i]? = some x → e.Rep w K es x) ∧ rest.Rep w K cs r
  | .sub _ _ o _ _ sz _ e rest, cs, (x, r) => e.Rep w K ((cs.drop o).take sz) x ∧ rest.Rep w K cs r
  | .opt _ _ o _ _ _ sz _ e rest, cs, (a, r) => (∃ v, cs[o]? = some v ∧ (a = none → v = .pointer none) ∧ ∀ x, a = some x → ∃ b c es, v = .pointer (some ⟨b, c, none⟩) ∧ K b ∧ b < w.heap.size ∧ es.length = sz ∧ CellsAt w b c es ∧ e.Rep w K es x) ∧ rest.Rep w K cs r
  | .cus c, cs, x => c.Rep w K cs x
def isScl : TK → Bool
  | .scl => true
  | _ => false
theorem isScl_spec {k : TK} (h : isScl k = true) : k = .scl := by cases k <;> first | rfl | cases h
def isAgg16 : TK → Bool
  | .agg 16 => true
  | _ => false
def Prim.kOk (P : Program) (T : Nat) (p : Prim) : Bool := if p = .uuid then isAgg16 (kindOf P T) else isScl (kindOf P T)
theorem kOk_uu {P : Program} {E : Env} {p : Prim} (hk : p.kOk P (p.ty E) = true) : p = .uuid → isAgg16 (kindOf P E.tUu) = true := by
  rintro rfl
  simpa [Prim.kOk, Prim.ty] using hk
/-- a pointer type -/
def isPtrT (P : Program) (T : Nat) : Bool := match P.underlying T with
  | some (.pointer _) => true
  | _ => false
theorem isPtrT_spec {P : Program} {T : Nat} (h : isPtrT P T = true) : ∃ E, P.underlying T = some (.pointer E) := by
  unfold isPtrT at h; split at h
  · rename_i E hE; exact ⟨E, hE⟩
  · cases h
def Sch.tyW (P : Program) (C : Cfg) : Nat → Sch → Bool
  | _, .fin => true
  | T, .tags k o => C.fx && fldOff P T k == some o
  | T, .prim _ k o p en _ rest => fldOff P T k == some o && p.kOk P (if en = 0 then p.ty C.E else en) && (en == 0 || p != .uuid) && rest.tyW P C T
  | T, .arrP _ k o sT _ p rest => fldOff P T k == some o && isScl (kindOf P sT) && sliSz P sT == some p.sz && p.kOk P (p.ty C.E) && rest.tyW P C T
  | T, .arrS _ k o sT _ T' _ sz _ e rest => fldOff P T k == some o && isScl (kindOf P sT) && sliSz P sT == some sz && e.tyW P C T' && rest.tyW P C T
  | T, .sub _ k o T' _ _ _ e rest => fldOff P T k == some o && e.tyW P C T' && rest.tyW P C T
  | T, .opt _ k o T' PT' _ _ _ e rest => fldOff P T k == some o && isScl (kindOf P PT') && isPtrT P PT' && e.tyW P C T' && rest.tyW P C T
  | T, .cus c => c.tyB P C T
def PrimW (P : Program) (C : Cfg) (p : Prim) : Prop := ∀ fl, (fl = true → C.fx = true) → ∀ x u, WrP P C.E.tU8 (p.fW C.E fl) (fun w base => p.rep1 w (· < base) u x) [u] (p.wr fl x)
def LenWC (P : Program) (C : Cfg) (nul : Option Nat) : Prop := ∀ fl, (fl = true → C.fx = true) → ∀ (n : Nat) (b : Bool),
  match nul with
  | none => WrC P C.E.tU8 (if fl then C.E.f_kbin_AppendCompactArrayLen else C.E.f_kbin_AppendArrayLen) [.int .i64 n] (lenW none fl n b)
  | some m => WrC P C.E.tU8 (if fl then C.E.f_kbin_AppendCompactNullableArrayLen else C.E.f_kbin_AppendNullableArrayLen) [.int .i64 n, .bool b] (lenW (some m) fl n b)
/-- The methods of Tags. -/
structure TagsC (P : Program) (E : Env) (ok : TagL → Prop) : Prop where
  len : ∀ w K (b o : Nat) v l, w.cell? ⟨b, o, none⟩ = some v → TagsAt w K v l → Ret P E.f_pkmsg_Tags_Len #[.pointer (some ⟨b, o, none⟩)] w fun u w' => u = .int .i64 l.length ∧ w' = w
  each : ∀ w base v s (b o : Nat) u l, ok l → ¬ own1 v b → w.cell? ⟨b, o, none⟩ = some u → TagsAt w (· < base) u l → OwnB E.tU8 w base v s → base ≤ w.heap.size → s.length + (tagsOut l).length ≤ 1099511627776 →
    Ret P E.f_pkmsg_Tags_AppendEach #[.pointer (some ⟨b, o, none⟩), v] w fun v' w' => OwnB E.tU8 w' base v' (s ++ tagsOut l) ∧ Grew w v w' v'
  uv : ∀ n : Nat, n < 4294967296 → WrC P E.tU8 E.f_kbin_AppendUvarint [.int .u32 n] (uvOut n)
/-- What is asked of all the tags within. -/
def Sch.TagsOk (ok : TagL → Prop) : (S : Sch) → S.T → Prop
  | .fin, _ => True
  | .tags _ _, l => ok l
  | .prim _ _ _ _ _ _ rest, (_, r) => rest.TagsOk ok r
  | .arrP _ _ _ _ _ _ rest, (_, r) => rest.TagsOk ok r
  | .arrS _ _ _ _ _ _ _ _ _ e rest, (a, r) => (∀ (i : Nat) y, (a.getD [])[i]? = some y → e.TagsOk ok y) ∧ rest.TagsOk ok r
  | .sub _ _ _ _ _ _ _ e rest, (x, r) => e.TagsOk ok x ∧ rest.TagsOk ok r
  | .opt _ _ _ _ _ _ _ _ e rest, (a, r) => (∀ x, a = some x → e.TagsOk ok x) ∧ rest.TagsOk ok r
  | .cus c, x => c.TagsOk ok x
def Sch.NeedW (P : Program) (C : Cfg) (ok : TagL → Prop) : Sch → Prop
  | .fin => True
  | .tags _ _ => TagsC P C.E ok
  | .prim _ _ _ p _ _ rest => PrimW P C p ∧ rest.NeedW P C ok
  | .arrP _ _ _ _ nul p rest => PrimW P C p ∧ LenWC P C nul ∧ rest.NeedW P C ok
  | .arrS _ _ _ _ nul _ _ _ _ e rest => LenWC P C nul ∧ e.NeedW P C ok ∧ rest.NeedW P C ok
  | .sub _ _ _ _ _ _ _ e rest => e.NeedW P C ok ∧ rest.NeedW P C ok
  | .opt _ _ _ _ _ _ _ _ e rest => SliI P C.E.tBs C.E.tU8 1 1 (.int .u8 0) ∧ e.NeedW P C ok ∧ rest.NeedW P C ok
  | .cus c => c.SoundW P C ok
structure TyC (P : Program) (C : Cfg) : Prop where
  kI16 : kindOf P C.E.tI16 = .scl
  iInt : intKind? P C.E.tInt = some .i64
  iU32 : intKind? P C.E.tU32 = some .u32
  uu : isAgg16 (kindOf P C.E.tUu) = true → TyUu P C.E
  fx : C.fx = true → True
theorem wp_reg {P : Program} {Q : Post} {l : List Ro} {f : Nat → Value} {w : World} (h : regW P (Q .normal) l f w) : (Ir.reg l).wp P Q f w := regW_sound l h
theorem wp_seqI {P : Program} {Q : Post} {a b : Ir} {f : Nat → Value} {w : World} (h : a.wp P (thenF (b.wp P Q) Q) f w) : (Ir.seq a b).wp P Q f w := h
section
variable {P : Program} {C : Cfg} {Q : Post} {f : Nat → Value} {w : World}
/-- what a local variable holds -/
def LocVal (w : World) (f : Nat → Value) (p : Prim) (l : Nat) (u : Value) : Prop :=
  if p = .uuid then ∃ b cs e fz, f l = .pointer (some ⟨b, 0, none⟩) ∧ w.heap[b]? = some (.cells cs e fz) ∧ u = .agg cs ∧ cs.size = 16 else f l = u
/-- the frame below t (but for slot 1) is as it was -/
def Keeps (f f' : Nat → Value) (t : Nat) : Prop := ∀ x, x < t → x ≠ 1 → f' x = f x
theorem Keeps.refl (f : Nat → Value) (t : Nat) : Keeps f f t := fun _ _ _ => rfl
theorem Keeps.trans {f g h : Nat → Value} {t t' : Nat} (a : Keeps f g t) (b : Keeps g h t') (ht : t ≤ t') : Keeps f h t := fun x hx h1 => (b x (by omega) h1).trans (a x hx h1)
theorem Keeps.mono {f g : Nat → Value} {t t' : Nat} (a : Keeps f g t) (ht : t' ≤ t) : Keeps f g t' := fun x hx h1 => a x (by omega) h1
theorem keeps_upd {g : Nat → Value} {t d : Nat} {v : Value} (h : Keeps f g t) (hd : t ≤ d) : Keeps f (upd g d v) t := by
  intro x hx h1
  rw [upd_apply, if_neg (by omega)]
  exact h x hx h1
theorem keeps_one {g : Nat → Value} {t : Nat} {v : Value} (h : Keeps f g t) : Keeps f (upd g 1 v) t := by
  intro x hx h1
  rw [upd_apply, if_neg h1]
  exact h x hx h1
theorem cellsFrom_seg {b a o : Nat} {cs : List Value} {u : Array Value} (hc : CellsAt w b a cs) (hs : seg cs o u.toList) : cellsFrom w ⟨b, a + o, none⟩ 0 u.size = some u.toList := by
  have := cellsFrom_list (w := w) u.toList b (a + o) 0 (fun j v hj => by
    have h1 := hc _ _ (hs j v hj)
    rw [← h1]; congr 2; omega)
  simpa using this
theorem w_load (ht : TyC P C) {T PT pv k o ty l t : Nat} {p : Prim} (hq : p = .uuid → isAgg16 (kindOf P C.E.tUu) = true) {b a : Nat} {cs : List Value} {u : Value} (hpv : f pv = .pointer (some ⟨b, a, none⟩)) (hF : fldOff P T k = some o) (hk : p.kOk P ty = true)
    (hc : CellsAt w b a cs) (hs : seg cs o u.cells.toList) (hu : if p = .uuid then ∃ c : Array Value, u = .agg c ∧ c.size = 16 ∧ allOne c.toList = true else u.oneCell' = true) (hl : l < t) (hl1 : 1 < l)
    (h : ∀ f' w', LocVal w' f' p l u → Ext none1 w w' → (∀ x, x < t → x ≠ l → f' x = f x) → Q .normal f' w') : (loadI C T PT pv k ty l t p).wp P Q f w := by
  have e1 : l ≠ t := by omega
  have e2 : ∀ n, l ≠ t + n := by omega
  have e3 : ∀ n, (t + n = l) = False := by intro n; simp; omega
  have keep : ∀ a b c d e, ∀ x, x < t → x ≠ l → upd (upd (upd (upd (upd f t a) (t + 1) b) (t + 2) c) (t + 3) d) l e x = f x := by
    intro a b c d e x hx hx2
    have x3 : ∀ n, (x = t + n) = False := by intro n; simp; omega
    have x4 : (x = t) = False := by simp; omega
    simp [x3, x4, hx2]
  by_cases hp : p = .uuid
  · subst hp
    simp only [if_true] at hu
    obtain ⟨c, rfl, hc16, hone⟩ := hu
    have hk' : kindOf P ty = .agg 16 := by
      simp only [Prim.kOk, if_true] at hk
      revert hk; cases kindOf P ty <;> simp [isAgg16]
      intro h'; split at h' <;> simp_all
    have hl' := cellsFrom_seg hc (u := c) hs
    rw [hc16] at hl'
    refine wp_reg ?_
    have hz : zeroOf P C.E.tUu = some (.agg z16) := (ht.uu (hq rfl)).zUu
    simp [loadI, addrR, putL, hpv, hF, Addr.add_mk, ld_agg hk', hl', hz, Value.cells, e3, store_agg (ht.uu (hq rfl)).kUu, hc16, hone, putK_blk alloc_new, z16_size]
    refine h _ _ ?_ ?_ (keep _ _ _ _ _)
    · simp only [LocVal, if_true]
      refine ⟨w.heap.size, c, C.E.tUu, (0, 0), by simp, ?_, rfl, hc16⟩
      have hov : over z16 0 c.toList = c := by
        have hd : z16.toList.drop (0 + c.toList.length) = [] := List.drop_eq_nil_of_le (by simp [z16_size, hc16])
        simp only [over, hd]; simp
      rw [hov]
      exact setBlk_same alloc_new
    · exact ((Ext.refl none1 w).alloc _).setBlk (.inl (Nat.le_refl _)) _
  · simp only [if_neg hp] at hu
    have hk' : kindOf P ty = .scl := by simp only [Prim.kOk, if_neg hp] at hk; exact isScl_spec hk
    have huc : u.cells = #[u] := by cases u <;> simp_all [Value.oneCell', Value.cells]
    have hl' : w.cell? ⟨b, a + o, none⟩ = some u := hc _ _ (by simpa using hs 0 u (by simp [huc]))
    refine wp_reg ?_
    simp [loadI, addrR, putL, hp, hpv, hF, Addr.add_mk, ld_scl hk', hl']
    refine h _ _ ?_ (Ext.refl _ _) (keep _ _ _ _ _)
    · simp [LocVal, hp]
/-- dst = kbin.Append..(dst, v) -/
theorem w_call1 (ht : TyC P C) {p : Prim} (hq : p = .uuid → isAgg16 (kindOf P C.E.tUu) = true) {fl : Bool} {l t : Nat} {u v : Value} {base : Nat} {s out : List UInt8} {pre : World → Nat → Prop} (hl : l < t) (hl1 : l ≠ 1) (ht1 : 1 < t) (hv : LocVal w f p l u) (h1 : f 1 = v)
    (hW : WrP P C.E.tU8 (p.fW C.E fl) pre [u] out) (hp : pre w base) (ho : OwnB C.E.tU8 w base v s) (hb : base ≤ w.heap.size) (hsz : s.length + out.length ≤ 1099511627776)
    (h : ∀ f' w' v', f' 1 = v' → OwnB C.E.tU8 w' base v' (s ++ out) → Grew w v w' v' → Keeps f f' t → Q .normal f' w') : (Ir.reg (call1R C p fl l t)).wp P Q f w := by
  have e3 : ∀ n, (l = t + n) = False := by intro n; simp; omega
  have e4 : (l = t) = False := by simp; omega
  refine wp_reg ?_
  have kk : ∀ v', Keeps f (upd (upd (upd (upd f t v) (t + 1) u) (t + 2) v') 1 v') t := fun v' => keeps_one (keeps_upd (keeps_upd (keeps_upd (Keeps.refl _ _) (by omega)) (by omega)) (by omega))
  by_cases hpu : p = .uuid
  · subst hpu
    simp only [LocVal, if_true] at hv
    obtain ⟨b, cs, e, fz, hf, hbk, rfl, h16⟩ := hv
    have lB := cellsFrom_row hbk
    rw [h16] at lB
    simp [call1R, getL, h1, hf, e3, e4, ld_agg (ht.uu (hq rfl)).kUu, lB]
    refine (hW w base v s hp ho hb hsz).mono ?_
    rintro v' w' ⟨ho', hg⟩
    exact h _ _ v' (by simp) ho' hg (by simpa using kk v')
  · simp only [LocVal, if_neg hpu] at hv
    simp [call1R, getL, hpu, h1, hv, e3, e4]
    refine (hW w base v s hp ho hb hsz).mono ?_
    rintro v' w' ⟨ho', hg⟩
    exact h _ _ v' (by simp) ho' hg (by simpa using kk v')
theorem w_flex {t : Nat} {a b : Ir} {fl : Bool} (hf : f C.sf = .bool fl) (hs : C.sf < t) (ht1 : 1 < t) (ha : fl = true → ∀ f', Keeps f f' t → f' 1 = f 1 → a.wp P Q f' w) (hb : fl = false → ∀ f', Keeps f f' t → f' 1 = f 1 → b.wp P Q f' w) : (flexI C t a b).wp P Q f w := by
  refine wp_seqI (wp_reg ?_)
  simp [hf]
  have k : Keeps f (upd f t (.bool fl)) t := keeps_upd (Keeps.refl _ _) (Nat.le_refl _)
  cases fl
  · exact .inr ⟨by simp, hb rfl _ k (by rw [upd_apply, if_neg (by omega)])⟩
  · exact .inl ⟨by simp, ha rfl _ k (by rw [upd_apply, if_neg (by omega)])⟩
theorem LocVal.keep {p : Prim} {l t : Nat} {u : Value} {f' : Nat → Value} (h : LocVal w f p l u) (hk : Keeps f f' t) (hl : l < t) (hl1 : l ≠ 1) : LocVal w f' p l u := by
  unfold LocVal at h ⊢
  rw [hk l hl hl1]
  exact h
/-- the flag that counts -/
theorem prim_wr_plain {p : Prim} (h : p.text = false) (fl fl' : Bool) (x : p.T) : p.wr fl x = p.wr fl' x := by cases p <;> first | rfl | cases h
theorem w_emit (ht : TyC P C) {p : Prim} (hq : p = .uuid → isAgg16 (kindOf P C.E.tUu) = true) {fl : Bool} {l t : Nat} {u v : Value} {base : Nat} {s : List UInt8} {x : p.T} (hl : l < t) (hl1 : l ≠ 1) (ht1 : 1 < t) (hv : LocVal w f p l u) (h1 : f 1 = v) (hfl : flagOk C f fl) (hsf : C.fx = true → C.sf < t)
    (hW : PrimW P C p) (hp : p.rep1 w (· < base) u x) (ho : OwnB C.E.tU8 w base v s) (hb : base ≤ w.heap.size) (hsz : s.length + (p.wr fl x).length ≤ 1099511627776)
    (h : ∀ f' w' v', f' 1 = v' → OwnB C.E.tU8 w' base v' (s ++ p.wr fl x) → Grew w v w' v' → Keeps f f' t → Q .normal f' w') : (emitW C p l t).wp P Q f w := by
  unfold emitW
  by_cases hx : C.fx = true
  · by_cases htx : p.text = true
    · rw [if_pos (by simp [hx, htx])]
      refine w_flex (hfl.1 hx).1 (hsf hx) ht1 ?_ ?_
      · rintro rfl f1 hk hk1
        refine w_call1 ht hq (by omega) hl1 (by omega) (hv.keep hk hl hl1) (hk1.trans h1) (hW true (fun _ => hx) x u) hp ho hb hsz ?_
        intro f' w' v' a b c d
        exact h f' w' v' a b c (hk.trans (d.mono (by omega)) (Nat.le_refl _))
      · rintro rfl f1 hk hk1
        refine w_call1 ht hq (by omega) hl1 (by omega) (hv.keep hk hl hl1) (hk1.trans h1) (hW false (by simp) x u) hp ho hb hsz ?_
        intro f' w' v' a b c d
        exact h f' w' v' a b c (hk.trans (d.mono (by omega)) (Nat.le_refl _))
    · have htx' : p.text = false := by simpa using htx
      rw [if_neg (by simp [htx'])]
      rw [prim_wr_plain htx' fl false] at hsz h
      exact w_call1 ht hq hl hl1 ht1 hv h1 (hW false (by simp) x u) hp ho hb hsz h
  · have hx' : C.fx = false := by simpa using hx
    have := hfl.2 hx'
    subst this
    rw [if_neg (by simp [hx'])]
    exact w_call1 ht hq hl hl1 ht1 hv h1 (hW false (by simp) x u) hp ho hb hsz h
/-- if version >= .. -/
theorem w_guard (ht : TyC P C) {g : Gd} {t : Nat} {ver : Int} {body : Ir} (hv : f C.sv = .int .i16 ver) (hs : C.sv < t) (ht1 : 1 < t)
    (hon : g.on ver = true → ∀ f', Keeps f f' t → f' 1 = f 1 → body.wp P Q f' w) (hoff : g.on ver = false → ∀ f', Keeps f f' t → f' 1 = f 1 → Q .normal f' w) : (gdI C g t body).wp P Q f w := by
  obtain ⟨lo, hi⟩ := g
  cases lo with
  | none =>
    exact hon rfl f (Keeps.refl _ _) rfl
  | some n =>
    have e3 : ∀ n, (C.sv = t + n) = False := by intro n; simp; omega
    have e4 : (C.sv = t) = False := by simp; omega
    have o3 : ∀ n, (1 = t + n) = False := by intro n; simp; omega
    have o4 : (1 = t) = False := by simp; omega
    have t0 : (t = 0) = False := by simp; omega
    cases hi with
    | none =>
      refine wp_seqI (wp_reg ?_)
      simp [hv]
      have k : Keeps f (upd (upd f t (.int .i16 ver)) (t + 1) (.bool (decide ((n : Int) ≤ ver)))) t := keeps_upd (keeps_upd (Keeps.refl _ _) (by omega)) (by omega)
      by_cases hc : (n : Int) ≤ ver
      · exact .inl ⟨by simp [hc], hon (by simp [Gd.on, hc]) _ k (by simp [o3, o4, t0])⟩
      · exact .inr ⟨by simp [hc], hoff (by simp [Gd.on, hc]) _ k (by simp [o3, o4, t0])⟩
    | some m =>
      refine wp_seqI (wp_reg ?_)
      by_cases hc : (n : Int) ≤ ver
      · simp [hv, hc, e3, e4]
        have k : ∀ a b c d e g, Keeps f (upd (upd (upd (upd (upd (upd f t a) (t + 1) b) (t + 2) c) (t + 3) d) (t + 4) e) (t + 5) g) t := fun a b c d e g => keeps_upd (keeps_upd (keeps_upd (keeps_upd (keeps_upd (keeps_upd (Keeps.refl _ _) (by omega)) (by omega)) (by omega)) (by omega)) (by omega)) (by omega)
        by_cases hd : ver ≤ (m : Int)
        · exact .inl ⟨by simp [hd], hon (by simp [Gd.on, hc, hd]) _ (k _ _ _ _ _ _) (by simp [o3, o4, t0])⟩
        · exact .inr ⟨by simp [hd], hoff (by simp [Gd.on, hc, hd]) _ (k _ _ _ _ _ _) (by simp [o3, o4, t0])⟩
      · simp [hv, hc, e3, e4]
        have k : ∀ a b c d e g, Keeps f (upd (upd (upd (upd (upd (upd f t a) (t + 1) b) (t + 2) c) (t + 3) d) (t + 4) e) (t + 5) g) t := fun a b c d e g => keeps_upd (keeps_upd (keeps_upd (keeps_upd (keeps_upd (keeps_upd (Keeps.refl _ _) (by omega)) (by omega)) (by omega)) (by omega)) (by omega)) (by omega)
        exact .inr ⟨by simp, hoff (by simp [Gd.on, hc]) _ (k _ _ _ _ _ _) (by simp [o3, o4, t0])⟩
theorem ArrAt.form {K : Nat → Prop} {sz : Nat} {v : Value} {ls : Option (List (List Value))} (h : ArrAt w K sz v ls) : ∃ a c, v = .slice a (ls.getD []).length c ∧ a.isNone = ls.isNone ∧ (ls.getD []).length ≤ 1099511627776 := by
  cases ls with
  | none => cases h; exact ⟨none, 0, rfl, rfl, by simp⟩
  | some ls => obtain ⟨b, o, c, rfl, _, hn, _⟩ := h; exact ⟨_, c, rfl, rfl, hn.2⟩
theorem w_lenR {nul : Option Nat} {fl : Bool} {sT l t n c sz : Nat} {a : Option Addr} {v : Value} {base : Nat} {s : List UInt8} (hs : sliSz P sT = some sz) (hl : l < t) (hl1 : l ≠ 1) (ht1 : 1 < t) (hv : f l = .slice a n c) (h1 : f 1 = v) (hffx : fl = true → C.fx = true)
    (hW : LenWC P C nul) (ho : OwnB C.E.tU8 w base v s) (hb : base ≤ w.heap.size) (hsz : s.length + (lenW nul fl n a.isNone).length ≤ 1099511627776)
    (h : ∀ f' w' v', f' 1 = v' → OwnB C.E.tU8 w' base v' (s ++ lenW nul fl n a.isNone) → Grew w v w' v' → Keeps f f' t → Q .normal f' w') : (Ir.reg (lenR C nul fl sT l t)).wp P Q f w := by
  have e3 : ∀ n, (l = t + n) = False := by intro n; simp; omega
  have e4 : (l = t) = False := by simp; omega
  obtain ⟨E, j, hu, _, _⟩ := sliSz_spec hs
  refine wp_reg ?_
  cases nul with
  | none =>
    simp [lenR, h1, hv, e3, e4, len_slice hu]
    refine (hW fl hffx n a.isNone w base v s ho hb hsz).mono ?_
    rintro v' w' ⟨ho', hg⟩
    exact h _ _ v' (by simp) ho' hg (keeps_one (keeps_upd (keeps_upd (keeps_upd (keeps_upd (Keeps.refl _ _) (by omega)) (by omega)) (by omega)) (by omega)))
  | some m =>
    simp [lenR, h1, hv, e3, e4, len_slice hu, bin_nil_slice hu]
    refine (hW fl hffx n a.isNone w base v s ho hb hsz).mono ?_
    rintro v' w' ⟨ho', hg⟩
    exact h _ _ v' (by simp) ho' hg (keeps_one (keeps_upd (keeps_upd (keeps_upd (keeps_upd (keeps_upd (keeps_upd (Keeps.refl _ _) (by omega)) (by omega)) (by omega)) (by omega)) (by omega)) (by omega)))
theorem w_len {nul : Option Nat} {fl : Bool} {sT l t n c sz : Nat} {a : Option Addr} {v : Value} {base : Nat} {s : List UInt8} (hs : sliSz P sT = some sz) (hl : l < t) (hl1 : l ≠ 1) (ht1 : 1 < t) (hv : f l = .slice a n c) (h1 : f 1 = v) (hfl : flagOk C f fl) (hsf : C.fx = true → C.sf < t)
    (hW : LenWC P C nul) (ho : OwnB C.E.tU8 w base v s) (hb : base ≤ w.heap.size) (hsz : s.length + (lenW nul fl n a.isNone).length ≤ 1099511627776)
    (h : ∀ f' w' v', f' 1 = v' → OwnB C.E.tU8 w' base v' (s ++ lenW nul fl n a.isNone) → Grew w v w' v' → Keeps f f' t → Q .normal f' w') : (lenI C nul sT l t).wp P Q f w := by
  unfold lenI
  by_cases hx : C.fx = true
  · rw [if_pos hx]
    refine w_flex (hfl.1 hx).1 (hsf hx) ht1 ?_ ?_
    · rintro rfl f1 hk hk1
      refine w_lenR hs (by omega) hl1 (by omega) ((hk l hl hl1).trans hv) (hk1.trans h1) (fun _ => hx) hW ho hb hsz ?_
      intro f' w' v' a b c d
      exact h f' w' v' a b c (hk.trans (d.mono (by omega)) (Nat.le_refl _))
    · rintro rfl f1 hk hk1
      refine w_lenR hs (by omega) hl1 (by omega) ((hk l hl hl1).trans hv) (hk1.trans h1) (by simp) hW ho hb hsz ?_
      intro f' w' v' a b c d
      exact h f' w' v' a b c (hk.trans (d.mono (by omega)) (Nat.le_refl _))
  · have hx' : C.fx = false := by simpa using hx
    have := hfl.2 hx'
    subst this
    rw [if_neg hx]
    exact w_lenR hs hl hl1 ht1 hv h1 (by simp) hW ho hb hsz h
/-- for i := range v. J i: what holds ahead of pass i, whatever stands at t and above. -/
theorem w_range {sT l t t' k n c sz : Nat} {a : Option Addr} {body : Ir} (hs : sliSz P sT = some sz) (hl : l < t) (ht1 : 1 < t) (htt : t + 4 ≤ t') (hn : n ≤ 1099511627776) (hv : f l = .slice a n c) (J : Nat → (Nat → Value) → World → Prop)
    (hJ : ∀ i f f' w, (∀ x, x < t → f' x = f x) → J i f w → J i f' w) (h0 : J 0 f w)
    (hb : ∀ i, i < n → ∀ f w, J i f w → f (t + 2) = .int .i64 i → f (t + 1) = .int .i64 n → body.wp P (fun e f' w' => e = .normal ∧ J (i + 1) f' w' ∧ f' (t + 2) = .int .i64 i ∧ f' (t + 1) = .int .i64 n) f w)
    (h : ∀ f' w', J n f' w' → Q .normal f' w') : (rangeI C sT l t t' k body).wp P Q f w := by
  obtain ⟨E, j, hu, _, _⟩ := sliSz_spec hs
  have e3 : ∀ n, (l = t + n) = False := by intro n; simp; omega
  have e4 : (l = t) = False := by simp; omega
  refine wp_seqI (wp_reg ?_)
  simp [hv, e3, e4, len_slice hu]
  show (Ir.loop _).wp P _ _ _
  refine ⟨fun f w => ∃ i : Nat, i ≤ n ∧ f (t + 2) = .int .i64 i ∧ f (t + 1) = .int .i64 n ∧ J i f w, fun f _ => match f (t + 2) with | .int _ i => ((n : Int) - i).toNat | _ => 0, ?_, ?_⟩
  · refine ⟨0, by omega, by simp, by simp, hJ _ _ _ _ ?_ h0⟩
    intro x hx
    have x3 : ∀ n, (x = t + n) = False := by intro n; simp; omega
    have x4 : (x = t) = False := by simp; omega
    simp [x3, x4]
  · rintro f w ⟨i, hi, h2, h3, hj⟩
    refine wp_seqI (wp_reg ?_)
    simp [h2, h3]
    by_cases hlt : i < n
    · refine .inl ⟨by simp; omega, ?_⟩
      show (Ir.seq _ _).wp P _ _ _
      refine wp_seqI ?_
      show body.wp P _ _ _
      refine Ir.wp_mono body ?_ (hb i hlt _ _ (hJ i _ _ _ ?_ hj) (by simpa using h2) (by simpa using h3))
      · rintro e f' w' ⟨rfl, hj', h2', h3'⟩
        show (Ir.reg _).wp P _ _ _
        refine wp_reg ?_
        have t3 : ∀ n, (t + 2 = t' + n) = False := by intro n; simp; omega
        have t4 : (t + 2 = t') = False := by simp; omega
        have t5 : (t + 1 = t') = False := by simp; omega
        have wr : IntKind.i64.wrap ((i : Int) + 1) = ((i + 1 : Nat) : Int) := by rw [i64_small (by omega) (by omega)]; rfl
        simp [h2', t4, wr]
        refine ⟨⟨i + 1, by omega, by simp, by simp [t5, h3'], hJ _ _ _ _ ?_ hj'⟩, ?_⟩
        · intro x hx
          have x3 : ∀ n, (x = t + n) = False := by intro n; simp; omega
          have x4 : (x = t') = False := by simp; omega
          simp [x3, x4]
        · first | omega | (simp only [h2]; omega)
      · intro x hx
        have x3 : ∀ n, (x = t + n) = False := by intro n; simp; omega
        simp [x3]
    · have : i = n := by omega
      subst this
      refine .inr ⟨by simp, ?_⟩
      show inBlockF k Q (.exit k) _ _
      rw [inBlockF_exit, if_pos rfl]
      refine h _ _ (hJ _ _ _ _ ?_ hj)
      intro x hx
      have x3 : ∀ n, (x = t + n) = False := by intro n; simp; omega
      simp [x3]
end
end Go.Kg

set_option linter.unusedSimpArgs false
set_option linter.unusedVariables false
namespace Go.Kg
open Go
section
variable {w w' : World} {K C : Nat → Prop} (he : Ext C w w') (hK : ∀ b, b < w.heap.size → K b → ¬ C b)
include he hK
theorem StrPtr.ext {v : Value} {o : Option (List UInt8)} (h : StrPtr w K v o) : StrPtr w' K v o := by
  cases o with
  | none => exact h
  | some l => obtain ⟨a, rfl, hk, hc⟩ := h; exact ⟨a, rfl, hk, he.cell hc (hK _ (World.block_lt_of_cell? w _ hc) hk)⟩
theorem BytesOpt.ext {v : Value} {o : Option (List UInt8)} (h : BytesOpt w K v o) : BytesOpt w' K v o := by
  cases o with
  | none => exact h
  | some l => exact ⟨h.1.ext he hK, h.2⟩
theorem Prim.rep1_ext {p : Prim} {v : Value} {x : p.T} (h : p.rep1 w K v x) : p.rep1 w' K v x := by
  cases p <;> first | exact h | exact StrPtr.ext he hK h | exact BytesAt.ext h he hK | exact BytesOpt.ext he hK h
theorem TagsAt.ext {v : Value} {l : TagL} (h : TagsAt w K v l) : TagsAt w' K v l := by
  rcases h with h | ⟨b, es, clock, rfl, hk, hb, hs, hn, hl, hx⟩
  · exact .inl h
  · refine .inr ⟨b, es, clock, rfl, hk, he.old hb (hK _ (lt_of_heap hb) hk), hs, hn, hl, fun i e x h1 h2 => ?_⟩
    obtain ⟨a1, a2, a3, a4⟩ := hx i e x h1 h2
    exact ⟨a1, a2, a3, a4.ext he hK⟩
theorem CellsAt.ext {b a : Nat} {cs : List Value} (h : CellsAt w b a cs) (hk : K b) : CellsAt w' b a cs := fun j u hj => he.cell (h j u hj) (hK _ (World.block_lt_of_cell? w _ (h j u hj)) hk)
theorem ArrAt.ext {sz : Nat} {v : Value} {ls : Option (List (List Value))} (h : ArrAt w K sz v ls) : ArrAt w' K sz v ls := by
  cases ls with
  | none => exact h
  | some ls => obtain ⟨b, o, c, rfl, hk, hn, hx⟩ := h; exact ⟨b, o, c, rfl, hk, hn, fun i cs hi => ⟨(hx i cs hi).1, CellsAt.ext he hK (hx i cs hi).2 hk⟩⟩
theorem Sch.Rep_ext : ∀ (S : Sch) {cs : List Value} {x : S.T}, S.Rep w K cs x → S.Rep w' K cs x := by
  intro S
  induction S with
  | fin => intro cs x h; trivial
  | tags k o => intro cs x ⟨v, h1, h2⟩; exact ⟨v, h1, h2.ext he hK⟩
  | prim g k o p en d rest ih => intro cs x ⟨⟨v, h1, h2⟩, h3⟩; exact ⟨⟨v, h1, Prim.rep1_ext he hK h2⟩, ih h3⟩
  | arrP g k o sT nul p rest ih =>
    intro cs x ⟨⟨v, ls, h1, h2, h3, h4, h5⟩, h6⟩
    refine ⟨⟨v, ls, h1, h2.ext he hK, ⟨h3.1, h3.2.ext he⟩, h4, fun i es y hi hy => ?_⟩, ih h6⟩
    obtain ⟨u, a1, a2⟩ := h5 i es y hi hy
    exact ⟨u, a1, Prim.rep1_ext he hK a2⟩
  | arrS g k o sT nul T PT sz df e rest ihe ih =>
    intro cs x ⟨⟨v, ls, h1, h2, h3, h4, h5⟩, h6⟩
    exact ⟨⟨v, ls, h1, h2.ext he hK, ⟨h3.1, h3.2.ext he⟩, h4, fun i es y hi hy => ihe (h5 i es y hi hy)⟩, ih h6⟩
  | sub g k o T PT sz df e rest ihe ih => intro cs x ⟨h1, h2⟩; exact ⟨ihe h1, ih h2⟩
  | opt g k o T PT PP sz df e rest ihe ih =>
    intro cs x ⟨⟨v, h1, h2, h3⟩, h4⟩
    refine ⟨⟨v, h1, h2, fun y hy => ?_⟩, ih h4⟩
    obtain ⟨b, c, es, a1, a2, a3, a4, a5, a6⟩ := h3 y hy
    exact ⟨b, c, es, a1, a2, Nat.lt_of_lt_of_le a3 he.size, a4, CellsAt.ext he hK a5 a2, ihe a6⟩
  | cus c => intro cs x h; exact c.rep_ext he hK h
end
theorem seqL_cons {P : Program} {Q : Post} {f : Nat → Value} {w : World} {x : Ir} {r : List Ir} (h : x.wp P (thenF ((seqL r).wp P Q) Q) f w) : (seqL (x :: r)).wp P Q f w := by
  cases r with
  | nil =>
    show x.wp P Q f w
    refine Ir.wp_mono x ?_ h
    intro e f w hq
    cases e <;> exact hq
  | cons y r => exact h
section
variable {P : Program} {C : Cfg}
theorem genW_mono : ∀ (S : Sch) (T PT pv : Nat) (c : Ct), c.l ≤ (S.genW C T PT pv c).2.l ∧ c.t ≤ (S.genW C T PT pv c).2.t := by
  intro S
  induction S with
  | fin => intro T PT pv c; exact ⟨Nat.le_refl _, Nat.le_refl _⟩
  | tags k o => intro T PT pv c; exact ⟨Nat.le_refl _, by simp [Sch.genW]⟩
  | prim g k o p en d rest ih =>
    intro T PT pv c
    simp only [Sch.genW]
    split
    · have := ih T PT pv ⟨c.l + 1, c.t + gdN g + 4 + emitN C p, c.k⟩
      constructor
      · exact Nat.le_trans (by simp) this.1
      · exact Nat.le_trans (by simp; omega) this.2
    · have := ih T PT pv ⟨c.l + 2, c.t + gdN g + 5 + emitN C p, c.k⟩
      constructor
      · exact Nat.le_trans (by simp) this.1
      · exact Nat.le_trans (by simp; omega) this.2
  | arrP g k o sT nul p rest ih =>
    intro T PT pv c
    simp only [Sch.genW]
    have := ih T PT pv ⟨c.l + 3, c.t + gdN g + 4 + lenN C nul + 9 + emitN C p + 1, c.k + 2⟩
    constructor
    · exact Nat.le_trans (by simp) this.1
    · exact Nat.le_trans (by simp; omega) this.2
  | arrS g k o sT nul T' PT' sz df e rest ihe ih =>
    intro T PT pv c
    simp only [Sch.genW]
    have h1 := ihe T' PT' (c.l + 2) ⟨c.l + 3, c.t + gdN g + 4 + lenN C nul + 8, c.k + 2⟩
    generalize e.genW C T' PT' (c.l + 2) ⟨c.l + 3, c.t + gdN g + 4 + lenN C nul + 8, c.k + 2⟩ = z at *
    obtain ⟨eb, c1⟩ := z
    have := ih T PT pv ⟨c1.l, c1.t + 1, c1.k⟩
    simp only at h1 this ⊢
    omega
  | sub g k o T' PT' sz df e rest ihe ih =>
    intro T PT pv c
    simp only [Sch.genW]
    have h1 := ihe T' PT' c.l ⟨c.l + 1, c.t + gdN g + 3, c.k⟩
    generalize e.genW C T' PT' c.l ⟨c.l + 1, c.t + gdN g + 3, c.k⟩ = z at *
    obtain ⟨eb, c1⟩ := z
    have := ih T PT pv c1
    simp only at h1 this ⊢
    omega
  | opt g k o T' PT' PP sz df e rest ihe ih =>
    intro T PT pv c
    simp only [Sch.genW]
    have h1 := ihe T' PT' c.l ⟨c.l + 1, c.t + gdN g + 12, c.k⟩
    generalize e.genW C T' PT' c.l ⟨c.l + 1, c.t + gdN g + 12, c.k⟩ = z at *
    obtain ⟨eb, c1⟩ := z
    have := ih T PT pv c1
    simp only at h1 this ⊢
    omega
  | cus u => intro T PT pv c; exact u.mono_w C T PT pv c
theorem w_tags {Q : Post} {f : Nat → Value} {w : World} (ht : TyC P C) {ok : TagL → Prop} (hT : TagsC P C.E ok) {T PT pv k o t b a base : Nat} {cs : List Value} {v u : Value} {s : List UInt8} {l : TagL} {fl : Bool} (hx : C.fx = true) (hfl : flagOk C f fl) (hsf : C.sf < t) (ht1 : 1 < t) (hpt : pv < t) (hp1 : pv ≠ 1)
    (hpv : f pv = .pointer (some ⟨b, a, none⟩)) (hF : fldOff P T k = some o) (hb : b < base) (hc : CellsAt w b a cs) (hu : cs[o]? = some u) (hl : TagsAt w (· < base) u l) (hok : ok l) (h1 : f 1 = v) (ho : OwnB C.E.tU8 w base v s) (hbs : base ≤ w.heap.size)
    (hsz : s.length + (if fl then uvOut (l.length % 4294967296) ++ tagsOut l else []).length ≤ 1099511627776)
    (h : ∀ f' w' v', f' 1 = v' → OwnB C.E.tU8 w' base v' (s ++ (if fl then uvOut (l.length % 4294967296) ++ tagsOut l else [])) → Grew w v w' v' → Keeps f f' t → Q .normal f' w') : (tagsW C T PT pv k t).wp P Q f w := by
  have hca := hc o u hu
  refine w_flex (hfl.1 hx).1 hsf ht1 ?_ ?_
  · rintro rfl f1 hk hk1
    have hpv1 : f1 pv = .pointer (some ⟨b, a, none⟩) := (hk pv hpt hp1).trans hpv
    have hv1 : f1 1 = v := hk1.trans h1
    have hlen : l.length < 4294967296 := by
      rcases hl with ⟨_, rfl⟩ | ⟨_, _, _, _, _, _, _, _, h, _⟩
      · simp
      · exact h.1
    have hm : l.length % 4294967296 = l.length := Nat.mod_eq_of_lt hlen
    simp only [if_true, List.length_append] at hsz
    refine wp_seqI (wp_reg ?_)
    have ew : IntKind.u32.wrap (l.length : Int) = l.length := u32_id _ hlen
    have e3 : ∀ n, (pv = t + n) = False := by intro n; simp; omega
    have e4 : ∀ n, (1 = t + n) = False := by intro n; simp; omega
    have e5 : ∀ m n, (pv = t + m + n) = False := by intro m n; simp; omega
    simp [addrR, hpv1, hF, Addr.add_mk, e3, e4, hv1]
    refine (hT.len w _ _ _ _ _ hca hl).mono ?_
    rintro _ w1 ⟨rfl, rfl⟩
    simp [ht.iInt, ht.iU32, ew, bin?]
    refine (hT.uv l.length hlen w1 base v s ho hbs (by rw [hm] at hsz; omega)).mono ?_
    rintro v2 w2 ⟨ho2, hg2⟩
    have hsz2 := hg2.size
    show (Ir.reg _).wp P _ _ _
    refine wp_reg ?_
    simp [addrR, hpv1, hF, Addr.add_mk, e3, e4, e5, hp1]
    have hl2 : TagsAt w2 (· < base) u l := hl.ext hg2.ext (fun b _ hb' ho' => by have := (Own.below ho ho').1; omega)
    refine (hT.each w2 base v2 _ _ _ _ _ hok (fun h => by have := (Own.below ho2 h).1; omega) (hg2.cell hca ho hb) hl2 ho2 (by omega) (by rw [hm] at hsz; simp; omega)).mono ?_
    rintro v3 w3 ⟨ho3, hg3⟩
    refine h _ _ v3 (by simp) ?_ (hg2.trans hg3) ?_
    · simp only [if_true, hm]
      rw [← List.append_assoc]; exact ho3
    · refine hk.trans (t' := t) ?_ (Nat.le_refl _)
      refine keeps_one ?_
      intro x hx h1
      have x3 : ∀ n, (x = t + n) = False := by intro n; simp; omega
      have x5 : ∀ m n, (x = t + m + n) = False := by intro m n; simp; omega
      simp [x3, x5, h1]
  · rintro rfl f1 hk hk1
    show Q .normal f1 w
    exact h f1 w v (hk1.trans h1) (by simpa using ho) (Grew.refl _ _) hk
end
end Go.Kg

set_option linter.unusedSimpArgs false
set_option linter.unusedVariables false
namespace Go.Kg
open Go
theorem flatMap_take {α : Type} (g : α → List UInt8) (l : List α) (i : Nat) (x : α) (h : l[i]? = some x) : (l.take (i + 1)).flatMap g = (l.take i).flatMap g ++ g x := by
  rw [List.take_add_one, h]; simp
theorem flatMap_take_le {α : Type} (g : α → List UInt8) (l : List α) (i : Nat) : ((l.take i).flatMap g).length ≤ (l.flatMap g).length := by
  have : l.flatMap g = (l.take i).flatMap g ++ (l.drop i).flatMap g := by rw [← List.flatMap_append, List.take_append_drop]
  rw [this, List.length_append]; omega
/-- What a field of a list is loaded as: one cell. -/
theorem loc_slice {w : World} {f : Nat → Value} {l : Nat} {u : Value} (h : LocVal w f .i8 l u) : f l = u := by simpa [LocVal] using h
theorem rep1_one {w : World} {K : Nat → Prop} {p : Prim} {u : Value} {x : p.T} (h : p.rep1 w K u x) : if p = .uuid then ∃ c : Array Value, u = .agg c ∧ c.size = 16 ∧ allOne c.toList = true else u.oneCell' = true := by
  cases p with
  | uuid => exact ⟨_, h.1, by rw [List.size_toArray]; exact (cellsOf_length (s := x)).trans h.2, by simpa using allOne_cells _⟩
  | bool => have h' : u = .bool x := h; subst h'; simp [Value.oneCell']
  | i8 => have h' : u = .int .i8 x := h; subst h'; simp [Value.oneCell']
  | i16 => have h' : u = .int .i16 x := h; subst h'; simp [Value.oneCell']
  | u16 => obtain ⟨m, _, _, rfl⟩ := h; simp [Value.oneCell']
  | i32 => have h' : u = .int .i32 x := h; subst h'; simp [Value.oneCell']
  | i64 => have h' : u = .int .i64 x := h; subst h'; simp [Value.oneCell']
  | str => have h' : u = strV x := h; subst h'; simp [Value.oneCell', strV]
  | nstr =>
    cases x with
    | none => have h' : u = .pointer none := h; subst h'; simp [Value.oneCell']
    | some l => obtain ⟨a, rfl, _⟩ := h; simp [Value.oneCell']
  | bytes =>
    obtain ⟨a, c, rfl, _⟩ := BytesAt.len h; simp [Value.oneCell']
  | nbytes =>
    cases x with
    | none => have h' : u = .slice none 0 0 := h; subst h'; simp [Value.oneCell']
    | some l => obtain ⟨a, c, rfl, _⟩ := BytesAt.len h.1; simp [Value.oneCell']
theorem seg_one {cs : List Value} {o : Nat} {v : Value} (h : cs[o]? = some v) (h1 : v.oneCell' = true) : seg cs o v.cells.toList := by
  have : v.cells = #[v] := by cases v <;> simp_all [Value.oneCell', Value.cells]
  intro j u hj
  rw [this] at hj
  cases j with
  | zero => simp at hj; subst hj; simpa using h
  | succ j => simp at hj
section
variable {P : Program} {C : Cfg}
/-- What the frame holds while a struct is written. -/
theorem FrW.keep {f f' : Nat → Value} {pv b a n : Nat} {ver : Int} {fl : Bool} (h : FrW C f pv b a ver fl n) {t : Nat} (hk : Keeps f f' t) (ht : n ≤ t) : FrW C f' pv b a ver fl n :=
  ⟨(hk _ (by have := h.ptrN; omega) h.ptrN.2).trans h.ptr, h.ptrN, (hk _ (by have := h.svN; omega) h.svN.2).trans h.svv, h.svN,
   ⟨fun hx => ⟨(hk _ (by have := h.sfN hx; omega) (h.flg.1 hx).2).trans (h.flg.1 hx).1, (h.flg.1 hx).2⟩, h.flg.2⟩, h.sfN, h.one⟩
theorem FrW.up {f : Nat → Value} {pv b a n m : Nat} {ver : Int} {fl : Bool} (h : FrW C f pv b a ver fl n) (hm : n ≤ m) : FrW C f pv b a ver fl m :=
  ⟨h.ptr, ⟨by have := h.ptrN; omega, h.ptrN.2⟩, h.svv, ⟨by have := h.svN; omega, h.svN.2⟩, h.flg, fun hx => by have := h.sfN hx; omega, by have := h.one; omega⟩
/-- Only slot 1, the locals from n up to m, and the temporaries from t on have turned. -/
theorem KeepR.keeps {f f' : Nat → Value} {n m t : Nat} (h : KeepR f f' n m t) : Keeps f f' n := fun x hx h1 => h x h1 (.inl hx)
theorem KeepR.of {f f' : Nat → Value} {n m t : Nat} (h : Keeps f f' t) (hn : n ≤ t) : KeepR f f' n m t := fun x h1 hx => h x (by omega) h1
theorem KeepR.refl (f : Nat → Value) (n m t : Nat) : KeepR f f n m t := fun _ _ _ => rfl
theorem KeepR.trans {f g h : Nat → Value} {n m t n' m' t' : Nat} (a : KeepR f g n m t) (b : KeepR g h n' m' t') (hn : n ≤ n') (hm : m ≤ m') (ht : t ≤ t') : KeepR f h n m' t :=
  fun x h1 hx => (b x h1 (by omega)).trans (a x h1 (by omega))
theorem KeepR.mono {f g : Nat → Value} {n m t m' : Nat} (a : KeepR f g n m t) (hm : m ≤ m') : KeepR f g n m' t := fun x h1 hx => a x h1 (by omega)
/-- from (f, w) to (f', w'): out was written -/
theorem Wrote.refl {f : Nat → Value} {w : World} {base : Nat} {s : List UInt8} (h : Dst C f w base s) (n m t : Nat) : Wrote C f w base s [] n m t f w := ⟨by simpa using h, Grew.refl _ _, KeepR.refl _ _ _ _⟩
theorem Wrote.trans {f g h : Nat → Value} {w1 w2 w3 : World} {base n m t n' m' t' : Nat} {s a b : List UInt8} (x : Wrote C f w1 base s a n m t g w2) (y : Wrote C g w2 base (s ++ a) b n' m' t' h w3) (hn : n ≤ n') (hm : m ≤ m') (ht : t ≤ t') : Wrote C f w1 base s (a ++ b) n m' t h w3 :=
  ⟨by have := y.dst; rwa [List.append_assoc] at this, x.grew.trans y.grew, x.keep.trans y.keep hn hm ht⟩
theorem Wrote.mk' {f f' : Nat → Value} {w w' : World} {base n m t : Nat} {s out : List UInt8} {v v' : Value} (hb : base ≤ w.heap.size) (h1 : f 1 = v) (h1' : f' 1 = v') (ho : OwnB C.E.tU8 w' base v' (s ++ out)) (hg : Grew w v w' v') (hk : KeepR f f' n m t) : Wrote C f w base s out n m t f' w' := by
  subst h1; subst h1'
  exact ⟨⟨ho, Nat.le_trans hb hg.size⟩, hg, hk⟩
theorem Wrote.own {f g : Nat → Value} {w w' : World} {base n m t : Nat} {s a : List UInt8} (hd : Dst C f w base s) (x : Wrote C f w base s a n m t g w') : ∀ b, b < w.heap.size → b < base → ¬ own1 (f 1) b :=
  fun b _ hb ho => by have := (Own.below hd.1 ho).1; omega
def SoundW (P : Program) (C : Cfg) (ok : TagL → Prop) (S : Sch) : Prop := ∀ (T PT pv : Nat) (c : Ct) (Q : Post) (f : Nat → Value) (w : World) (b a : Nat) (cs : List Value) (x : S.T) (ver : Int) (fl : Bool) (base : Nat) (s : List UInt8),
  S.tyW P C T = true → S.NeedW P C ok → FrW C f pv b a ver fl c.l → (S.genW C T PT pv c).2.l ≤ c.t → b < base → CellsAt w b a cs → S.Rep w (· < base) cs x → S.TagsOk ok x → Dst C f w base s → s.length + (S.wr ver fl x).length ≤ 1099511627776 →
  (∀ f' w', Wrote C f w base s (S.wr ver fl x) c.l (S.genW C T PT pv c).2.l c.t f' w' → Q .normal f' w') → (seqL (S.genW C T PT pv c).1).wp P Q f w
variable {ok : TagL → Prop}
theorem soundW_fin : SoundW P C ok .fin := by
  intro T PT pv c Q f w b a cs x ver fl base s _ _ hf _ _ _ _ _ hd _ h
  exact h f w (Wrote.refl hd _ _ _)
theorem soundW_tags (ht : TyC P C) (k o : Nat) : SoundW P C ok (.tags k o) := by
  intro T PT pv c Q f w b a cs x ver fl base s hty hN hf hc hb hcs hr hok hd hsz h
  simp only [Sch.tyW, Bool.and_eq_true, beq_iff_eq] at hty
  obtain ⟨u, hu, hl⟩ := hr
  have hlt : c.l ≤ c.t := hc
  refine w_tags ht hN hty.1 hf.flg (by have := hf.sfN hty.1; omega) (by have := hf.one; omega) (by have := hf.ptrN; omega) hf.ptrN.2 hf.ptr hty.2 hb hcs hu hl hok rfl hd.1 hd.2 hsz ?_
  intro f' w' v' h1 ho hg hk
  exact h f' w' (Wrote.mk' hd.2 rfl h1 ho hg (KeepR.of hk hlt))
theorem soundW_prim (ht : TyC P C) (g : Gd) (k o : Nat) (p : Prim) (en : Nat) (d : Int) (rest : Sch) (ih : SoundW P C ok rest) : SoundW P C ok (.prim g k o p en d rest) := by
  intro T PT pv c Q f w b a cs x ver fl base s hty hN hf hc hb hcs hr hok hd hsz h
  obtain ⟨x, xr⟩ := x
  obtain ⟨⟨u, hu, hrep⟩, hrr⟩ := hr
  simp only [Sch.tyW, Bool.and_eq_true, beq_iff_eq] at hty
  obtain ⟨⟨⟨hF, hk⟩, hen⟩, htr⟩ := hty
  have hq : p = .uuid → isAgg16 (kindOf P C.E.tUu) = true := by
    rintro rfl
    have he0 : en = 0 := by simpa using hen
    subst he0
    simpa [Prim.kOk, Prim.ty] using hk
  obtain ⟨hNp, hNr⟩ := hN
  have h1c := hf.one
  -- what comes behind
  have behind : ∀ (c' : Ct) (f1 : Nat → Value) (w1 : World), c.l ≤ c'.l → c.t ≤ c'.t → (rest.genW C T PT pv c').2.l ≤ c'.t → (∀ f' w', Wrote C f w base s (Sch.wr ver fl (.prim g k o p en d rest) (x, xr)) c.l (rest.genW C T PT pv c').2.l c.t f' w' → Q .normal f' w') → Wrote C f w base s (if g.on ver then p.wr fl x else []) c.l c'.l c.t f1 w1 → (seqL (rest.genW C T PT pv c').1).wp P Q f1 w1 := by
    intro c' f1 w1 hl htt hc' h hw
    have hgrew := hw.grew
    refine ih T PT pv c' Q f1 w1 b a cs xr ver fl base (s ++ (if g.on ver then p.wr fl x else [])) htr hNr ((hf.keep hw.keep.keeps (Nat.le_refl _)).up hl) hc' hb ?_ ?_ hok hw.dst ?_ ?_
    · exact CellsAt.ext (K := (· < base)) hgrew.ext (hw.own hd) hcs hb
    · exact Sch.Rep_ext hgrew.ext (hw.own hd) rest hrr
    · simp only [Sch.wr, List.length_append] at hsz; simp only [List.length_append]; omega
    · intro f2 w2 hw2
      exact h f2 w2 (hw.trans hw2 hl (genW_mono (C := C) rest T PT pv c').1 htt)
  have hszp : g.on ver = true → s.length + (p.wr fl x).length ≤ 1099511627776 := by
    intro hon; simp only [Sch.wr, hon, if_true, List.length_append] at hsz; omega
  by_cases he : en = 0
  · subst he
    simp only [Sch.genW, if_true] at hc ⊢
    simp only [if_true] at hk
    have hm := (genW_mono (C := C) rest T PT pv ⟨c.l + 1, c.t + gdN g + 4 + emitN C p, c.k⟩).1
    simp only at hm
    refine seqL_cons ?_
    refine w_guard ht hf.svv (by have := hf.svN; omega) (by omega) ?_ ?_
    · intro hon f1 hk1 h11
      have hf1 := hf.keep hk1 (by omega)
      refine seqL_cons ?_
      refine w_load ht hq hf1.ptr hF hk hcs hu (rep1_one hrep) (by omega) (by omega) ?_
      intro f2 w2 hv2 he2 hk2'
      have hk2 : Keeps f1 f2 c.l := fun x hx _ => hk2' x (by omega) (by omega)
      have h21 : f2 1 = f1 1 := hk2' 1 (by omega) (by omega)
      have hf2 := hf1.keep hk2 (Nat.le_refl _)
      have hd2 : OwnB C.E.tU8 w2 base (f 1) s := Own.ext hd.1 he2 (fun _ _ h => h)
      show (emitW C p c.l (c.t + gdN g + 4)).wp P _ f2 w2
      refine w_emit ht hq (x := x) (fl := fl) (by omega) (by omega) (by omega) hv2 (h21.trans h11) hf2.flg (fun hx => by have := hf2.sfN hx; omega) hNp
        (Prim.rep1_ext he2 (fun _ _ _ h => h) hrep) hd2 (Nat.le_trans hd.2 he2.size) (hszp hon) ?_
      intro f3 w3 v3 h31 ho3 hg3 hk3
      refine behind ⟨c.l + 1, c.t + gdN g + 4 + emitN C p, c.k⟩ f3 w3 (by simp) (by simp; omega) (by simp; omega) h ?_
      rw [hon]
      exact Wrote.mk' hd.2 rfl h31 ho3 (Grew.pre he2 hg3) (fun x hx1 hx => ((hk3 x (by simp only at hx; omega) hx1).trans (hk2' x (by omega) (by simp only at hx; omega))).trans (hk1 x (by omega) hx1))
    · intro hoff f1 hk1 h11
      refine behind ⟨c.l + 1, c.t + gdN g + 4 + emitN C p, c.k⟩ f1 w (by simp) (by simp; omega) (by simp; omega) h ?_
      rw [hoff]
      exact ⟨by simp only [List.append_nil, if_false, Bool.false_eq_true]; exact ⟨by rw [h11]; exact hd.1, hd.2⟩, by rw [h11]; exact Grew.refl _ _, KeepR.of hk1 (by omega)⟩
  · have hpu : p ≠ .uuid := by
      simp only [Bool.or_eq_true, beq_iff_eq, bne_iff_ne] at hen
      rcases hen with h | h
      · exact absurd h he
      · exact h
    simp only [Sch.genW, if_neg he] at hc h ⊢
    simp only [if_neg he] at hk
    have hm := (genW_mono (C := C) rest T PT pv ⟨c.l + 2, c.t + gdN g + 5 + emitN C p, c.k⟩).1
    simp only at hm
    refine seqL_cons ?_
    refine w_guard ht hf.svv (by have := hf.svN; omega) (by omega) ?_ ?_
    · intro hon f1 hk1 h11
      have hf1 := hf.keep hk1 (by omega)
      refine seqL_cons ?_
      refine w_load ht hq hf1.ptr hF hk hcs hu (rep1_one hrep) (by omega) (by omega) ?_
      intro f2 w2 hv2 he2 hk2'
      have hk2 : Keeps f1 f2 c.l := fun x hx _ => hk2' x (by omega) (by omega)
      have h21 : f2 1 = f1 1 := hk2' 1 (by omega) (by omega)
      have hf2 := hf1.keep hk2 (Nat.le_refl _)
      have hd2 : OwnB C.E.tU8 w2 base (f 1) s := Own.ext hd.1 he2 (fun _ _ h => h)
      simp only [LocVal, if_neg hpu] at hv2
      refine seqL_cons ?_
      show (Ir.reg _).wp P _ f2 w2
      refine wp_reg ?_
      simp [hv2]
      show (emitW C p (c.l + 1) (c.t + gdN g + 5)).wp P _ _ w2
      refine w_emit ht hq (x := x) (fl := fl) (u := u) (v := f 1) (by omega) (by omega) (by omega) ?_ ?_ ?_ (fun hx => by have := hf2.sfN hx; omega) hNp
        (Prim.rep1_ext he2 (fun _ _ _ h => h) hrep) hd2 (Nat.le_trans hd.2 he2.size) (hszp hon) ?_
      · simp [LocVal, hpu]
      · rw [upd_apply, if_neg (by omega), upd_apply, if_neg (by omega)]; exact h21.trans h11
      · exact (hf2.keep (keeps_upd (keeps_upd (Keeps.refl _ c.l) (by omega)) (by omega)) (Nat.le_refl _)).flg
      · intro f3 w3 v3 h31 ho3 hg3 hk3
        refine behind ⟨c.l + 2, c.t + gdN g + 5 + emitN C p, c.k⟩ f3 w3 (by simp) (by simp; omega) (by simp; omega) h ?_
        rw [hon]
        refine Wrote.mk' hd.2 rfl h31 ho3 (Grew.pre he2 hg3) (fun x hx1 hx => ?_)
        simp only at hx
        rw [hk3 x (by omega) hx1, upd_apply, if_neg (by omega), upd_apply, if_neg (by omega), hk2' x (by omega) (by omega)]
        exact hk1 x (by omega) hx1
    · intro hoff f1 hk1 h11
      refine behind ⟨c.l + 2, c.t + gdN g + 5 + emitN C p, c.k⟩ f1 w (by simp) (by simp; omega) (by simp; omega) h ?_
      rw [hoff]
      exact ⟨by simp only [List.append_nil, if_false, Bool.false_eq_true]; exact ⟨by rw [h11]; exact hd.1, hd.2⟩, by rw [h11]; exact Grew.refl _ _, KeepR.of hk1 (by omega)⟩
theorem kOk_scl {P : Program} {T : Nat} (h : isScl (kindOf P T) = true) : Prim.kOk P T .i8 = true := by
  simp [Prim.kOk, h]
/-- Both kinds of lists: what comes ahead of the loop, and the loop over a list of so many elements. -/
theorem w_list (ht : TyC P C) {T PT pv k o sT l m t t1 t' kk sz b a base : Nat} {nul : Option Nat} {cs : List Value} {v : Value} {ls : Option (List (List Value))} {Q : Post} {f : Nat → Value} {w : World} {ver : Int} {fl : Bool} {s : List UInt8} {body : Ir}
    {α : Type} (el : List α) (wrE : α → List UInt8) (hF : fldOff P T k = some o) (hk : isScl (kindOf P sT) = true) (hsl : sliSz P sT = some sz) (hW : LenWC P C nul) (hf : FrW C f pv b a ver fl l) (hlt : l + 1 ≤ t) (hlm : l + 1 ≤ m) (h1l : 1 < l) (ht1 : t1 = t + 4 + lenN C nul) (htt : t1 + 4 ≤ t')
    (hb : b < base) (hcs : CellsAt w b a cs) (hu : cs[o]? = some v) (ha : ArrAt w (· < base) sz v ls) (hn : (ls.getD []).length = el.length) (hd : Dst C f w base s)
    (hsz : s.length + (lenW nul fl el.length ls.isNone ++ el.flatMap wrE).length ≤ 1099511627776)
    (hbody : ∀ (i : Nat) (y : α) (s' : List UInt8) (f' : Nat → Value) (w' : World), el[i]? = some y → FrW C f' pv b a ver fl l → f' l = v → f' (t1 + 2) = .int .i64 i → f' (t1 + 1) = .int .i64 el.length → Dst C f' w' base s' → s'.length + (wrE y).length ≤ 1099511627776 →
      Grew w (f 1) w' (f' 1) →
      body.wp P (fun e f'' w'' => e = .normal ∧ Wrote C f' w' base s' (wrE y) l m t f'' w'' ∧ f'' l = v ∧ f'' (t1 + 2) = .int .i64 i ∧ f'' (t1 + 1) = .int .i64 el.length) f' w')
    (h : ∀ f' w', Wrote C f w base s (lenW nul fl el.length ls.isNone ++ el.flatMap wrE) l m t f' w' → Q .normal f' w') :
    (seqL [loadI C T PT pv k sT l t .i8, lenI C nul sT l (t + 4), rangeI C sT l t1 t' kk body]).wp P Q f w := by
  obtain ⟨ad, cp, rfl, hnone, hmax⟩ := ha.form
  rw [hn] at *
  refine seqL_cons ?_
  refine w_load ht (fun h => by cases h) hf.ptr hF (kOk_scl hk) hcs (seg_one hu rfl) (by simp [Value.oneCell']) (by omega) (by omega) ?_
  intro f2 w2 hv2 he2 hk2'
  have hk2 : Keeps f f2 l := fun x hx _ => hk2' x (by omega) (by omega)
  have h21 : f2 1 = f 1 := hk2' 1 (by omega) (by omega)
  have hv2' := loc_slice hv2
  have hf2 := hf.keep hk2 (Nat.le_refl _)
  have hd2 : OwnB C.E.tU8 w2 base (f 1) s := Own.ext hd.1 he2 (fun _ _ h => h)
  refine seqL_cons ?_
  refine w_len (v := f 1) hsl (by omega) (by omega) (by omega) hv2' h21 hf2.flg (fun hx => by have := hf2.sfN hx; omega) hW hd2 (Nat.le_trans hd.2 he2.size) (fl := fl) ?_ ?_
  · rw [hnone]; simp only [List.length_append] at hsz; omega
  intro f3 w3 v3 h31 ho3 hg3 hk3
  rw [hnone] at ho3
  have hf3 := hf2.keep (hk3.mono (t' := l) (by omega)) (Nat.le_refl _)
  have hv3 : f3 l = .slice ad el.length cp := (hk3 l (by omega) (by omega)).trans hv2'
  have hw3 : Wrote C f w base s (lenW nul fl el.length ls.isNone) l m t f3 w3 := Wrote.mk' hd.2 rfl h31 ho3 (Grew.pre he2 hg3) (fun x hx1 hx => (hk3 x (by omega) hx1).trans (hk2' x (by omega) (by omega)))
  show (rangeI C sT l t1 t' kk body).wp P Q f3 w3
  refine w_range hsl (by omega) (by omega) htt hmax hv3
    (fun i f' w' => Wrote C f w base s (lenW nul fl el.length ls.isNone ++ (el.take i).flatMap wrE) l m t f' w' ∧ f' l = .slice ad el.length cp) ?_ ?_ ?_ ?_
  · rintro i f1 f1' w' hx ⟨hw, hl⟩
    refine ⟨⟨?_, ?_, ?_⟩, (hx l (by omega)).trans hl⟩
    · have := hw.dst; unfold Dst at this ⊢; rwa [hx 1 (by omega)]
    · have := hw.grew; rwa [hx 1 (by omega)]
    · intro x hx1 hxl; rw [hx x (by omega)]; exact hw.keep x hx1 hxl
  · simpa using ⟨hw3, hv3⟩
  · rintro i hi f' w' ⟨hw, hl⟩ h2 h1
    obtain ⟨y, hy⟩ : ∃ y, el[i]? = some y := ⟨_, List.getElem?_eq_getElem hi⟩
    have hfm := flatMap_take wrE el i y hy
    have hle := flatMap_take_le wrE el (i + 1)
    rw [hfm] at hle
    refine Ir.wp_mono body ?_ (hbody i y (s ++ (lenW nul fl el.length ls.isNone ++ (el.take i).flatMap wrE)) f' w' hy (hf.keep hw.keep.keeps (Nat.le_refl _)) hl h2 h1 hw.dst ?_ hw.grew)
    · rintro e f'' w'' ⟨rfl, hw2, hl2, h22, h12⟩
      refine ⟨rfl, ⟨?_, hl2⟩, h22, h12⟩
      have := hw.trans hw2 (Nat.le_refl _) (Nat.le_refl _) (Nat.le_refl _)
      rw [hfm]
      rwa [List.append_assoc] at this
    · simp only [List.length_append] at hsz hle ⊢; omega
  · rintro f' w' ⟨hw, _⟩
    rw [List.take_length] at hw
    exact h f' w' hw
/-- v := v[i], a thing without fields -/
theorem w_elemP (ht : TyC P C) {sT ty l2 t s1 s2 n i c b o sz : Nat} {p : Prim} (hq : p = .uuid → isAgg16 (kindOf P C.E.tUu) = true) {Q : Post} {f : Nat → Value} {w : World} {es : List Value} {u : Value} (hsl : sliSz P sT = some sz) (hk : p.kOk P ty = true) (h1 : f s1 = .slice (some ⟨b, o, none⟩) n c) (h2 : f s2 = .int .i64 i) (hi : i < n)
    (hs1 : s1 < t) (hs2 : s2 < t) (hl2 : l2 < t) (hc : CellsAt w b (o + i * sz) es) (he : es = u.cells.toList) (hu : if p = .uuid then ∃ c : Array Value, u = .agg c ∧ c.size = 16 ∧ allOne c.toList = true else u.oneCell' = true)
    (h : ∀ f' w', LocVal w' f' p l2 u → Ext none1 w w' → (∀ x, x < t → x ≠ l2 → f' x = f x) → Q .normal f' w') :
    (Ir.reg ([⟨none, some t, .move (.tmp s1), sT⟩, ⟨none, some (t + 1), .move (.tmp s2), C.E.tInt⟩, ⟨none, some (t + 2), .indexAddr sT (.tmp t) (.tmp (t + 1)), C.E.tNil⟩, ⟨none, some (t + 3), .load ty (.tmp (t + 2)), ty⟩] ++ putL C p ty l2 (t + 3))).wp P Q f w := by
  subst he
  have e3 : ∀ n, (t + n = l2) = False := by intro n; simp; omega
  have e2 : ∀ n, (s2 = t + n) = False := by intro n; simp; omega
  have e4 : (s2 = t) = False := by simp; omega
  have keep : ∀ a b c d e, ∀ x, x < t → x ≠ l2 → upd (upd (upd (upd (upd f t a) (t + 1) b) (t + 2) c) (t + 3) d) l2 e x = f x := by
    intro a b c d e x hx hx2
    have x3 : ∀ n, (x = t + n) = False := by intro n; simp; omega
    have x4 : (x = t) = False := by simp; omega
    simp [x3, x4, hx2]
  by_cases hp : p = .uuid
  · subst hp
    simp only [if_true] at hu
    obtain ⟨cc, rfl, hc16, hone⟩ := hu
    have hk' : kindOf P ty = .agg 16 := by
      simp only [Prim.kOk, if_true] at hk
      revert hk; cases kindOf P ty <;> simp [isAgg16]
      intro h'; split at h' <;> simp_all
    have hl' := cellsFrom_seg (o := 0) hc (u := cc) (fun j v hj => by simpa [Value.cells] using hj)
    rw [hc16] at hl'
    simp only [Nat.add_zero] at hl'
    refine wp_reg ?_
    have hz : zeroOf P C.E.tUu = some (.agg z16) := (ht.uu (hq rfl)).zUu
    simp [putL, h1, h2, e2, e4, idx?, hsl, hi, Addr.add_mk, ld_agg hk', hl', hz, Value.cells, e3, store_agg (ht.uu (hq rfl)).kUu, hc16, hone, putK_blk alloc_new, z16_size]
    refine h _ _ ?_ ?_ ?_
    · simp only [LocVal, if_true]
      refine ⟨w.heap.size, cc, C.E.tUu, (0, 0), by simp, ?_, rfl, hc16⟩
      have hov : over z16 0 cc.toList = cc := by
        have hd : z16.toList.drop (0 + cc.toList.length) = [] := List.drop_eq_nil_of_le (by simp [z16_size, hc16])
        simp only [over, hd]; simp
      rw [hov]
      exact setBlk_same alloc_new
    · exact ((Ext.refl none1 w).alloc _).setBlk (.inl (Nat.le_refl _)) _
    · exact keep _ _ _ _ _
  · simp only [if_neg hp] at hu
    have hk' : kindOf P ty = .scl := by simp only [Prim.kOk, if_neg hp] at hk; exact isScl_spec hk
    have huc : u.cells = #[u] := by cases u <;> simp_all [Value.oneCell', Value.cells]
    have hl' : w.cell? ⟨b, o + i * sz, none⟩ = some u := by have := hc 0 u (by simp [huc]); simpa using this
    refine wp_reg ?_
    simp [putL, hp, h1, h2, e2, e4, idx?, hsl, hi, Addr.add_mk, ld_scl hk', hl']
    refine h _ _ ?_ (Ext.refl _ _) (keep _ _ _ _ _)
    · simp [LocVal, hp]
theorem soundW_arrP (ht : TyC P C) (g : Gd) (k o sT : Nat) (nul : Option Nat) (p : Prim) (rest : Sch) (ih : SoundW P C ok rest) : SoundW P C ok (.arrP g k o sT nul p rest) := by
  intro T PT pv c Q f w b a cs x ver fl base s hty hN hf hc hb hcs hr hok hd hsz h
  obtain ⟨x, xr⟩ := x
  obtain ⟨⟨u, ls, hu, harr, ⟨hsome, _⟩, hlen, hel⟩, hrr⟩ := hr
  have hokr : rest.TagsOk ok xr := hok
  simp only [Sch.tyW, Bool.and_eq_true, beq_iff_eq] at hty
  obtain ⟨⟨⟨⟨hF, hk⟩, hsl⟩, hkp⟩, htr⟩ := hty
  obtain ⟨hNp, hNl, hNr⟩ := hN
  have h1c := hf.one
  have hnil : ls.isNone = x.isNone := by cases ls <;> cases x <;> simp_all
  simp only [Sch.genW] at hc h ⊢
  generalize ht1 : c.t + gdN g + 4 + lenN C nul = t1 at hc h ⊢
  generalize ht2 : t1 + 9 + emitN C p = t2 at hc h ⊢
  have hm := (genW_mono (C := C) rest T PT pv ⟨c.l + 3, t2 + 1, c.k + 2⟩).1
  simp only at hm
  have behind : ∀ (f1 : Nat → Value) (w1 : World), Wrote C f w base s (if g.on ver then lenW nul fl (x.getD []).length x.isNone ++ (x.getD []).flatMap (p.wr fl) else []) c.l (c.l + 3) c.t f1 w1 →
      (seqL (rest.genW C T PT pv ⟨c.l + 3, t2 + 1, c.k + 2⟩).1).wp P Q f1 w1 := by
    intro f1 w1 hw
    have hgrew := hw.grew
    refine ih T PT pv _ Q f1 w1 b a cs xr ver fl base _ htr hNr ((hf.keep hw.keep.keeps (Nat.le_refl _)).up (by simp)) (by simp only; omega) hb ?_ ?_ hokr hw.dst ?_ ?_
    · exact CellsAt.ext (K := (· < base)) hgrew.ext (hw.own hd) hcs hb
    · exact Sch.Rep_ext hgrew.ext (hw.own hd) rest hrr
    · simp only [Sch.wr, List.length_append] at hsz; simp only [List.length_append]; omega
    · intro f2 w2 hw2
      exact h f2 w2 (hw.trans hw2 (by simp) hm (by simp only; omega))
  refine seqL_cons ?_
  refine w_guard ht hf.svv (by have := hf.svN; omega) (by omega) ?_ ?_
  · intro hon f1 hk1 h11
    have hf1 := hf.keep hk1 (by omega)
    have hd1 : Dst C f1 w base s := by unfold Dst at hd ⊢; rwa [h11]
    refine w_list ht (x.getD []) (p.wr fl) hF hk hsl hNl hf1 (m := c.l + 3) (by omega) (by omega) (by omega) ht1.symm (by omega) hb hcs hu harr hlen hd1 (fl := fl) ?_ ?_ ?_
    · rw [hnil]; simp only [Sch.wr, hon, if_true, List.length_append] at hsz; simp only [List.length_append]; omega
    · intro i y s' f' w' hy hf' hl' h2' h1' hd' hsz' hg0
      obtain ⟨es, hes⟩ : ∃ es, (ls.getD [])[i]? = some es := by
        have : i < (ls.getD []).length := by rw [hlen]; exact (List.getElem?_eq_some_iff.1 hy).1
        exact ⟨_, List.getElem?_eq_getElem this⟩
      obtain ⟨ue, rfl, hrep⟩ := hel i es y hes hy
      have hK : ∀ b, b < w.heap.size → b < base → ¬ own1 (f1 1) b := fun b _ hb ho => by have := (Own.below hd1.1 ho).1; omega
      have harr' := harr.ext (K := (· < base)) hg0.ext hK
      have hrep' := Prim.rep1_ext (K := (· < base)) hg0.ext hK hrep
      cases ls with
      | none => simp at hes
      | some ls =>
        obtain ⟨bb, oo, cc, rfl, hbb, hmax, hcells⟩ := harr'
        have hce := hcells i _ hes
        refine seqL_cons ?_
        refine wp_reg ?_
        simp [idxI, h2']
        refine seqL_cons ?_
        have hln : (ls : List (List Value)).length = (x.getD []).length := hlen
        refine w_elemP ht (kOk_uu hkp) (s1 := c.l) (s2 := c.l + 1) (i := i) hsl hkp (n := ls.length) (c := cc) (b := bb) (o := oo) ?_ ?_ ?_ (by omega) (by omega) (by omega) hce.2 rfl (rep1_one hrep) ?_
        · rw [upd_apply, if_neg (by omega), upd_apply, if_neg (by omega)]; exact hl'
        · simp
        · rw [hln]; exact (List.getElem?_eq_some_iff.1 hy).1
        intro f3 w3 hv3 he3 hk3
        have keep3 : Keeps f' f3 c.l := by
          intro z hz hz1
          rw [hk3 z (by omega) (by omega), upd_apply, if_neg (by omega), upd_apply, if_neg (by omega)]
        have hf3 := hf'.keep keep3 (Nat.le_refl _)
        have h31 : f3 1 = f' 1 := by rw [hk3 1 (by omega) (by omega), upd_apply, if_neg (by omega), upd_apply, if_neg (by omega)]
        show (emitW C p (c.l + 2) (t1 + 9)).wp P _ f3 w3
        refine w_emit ht (kOk_uu hkp) (x := y) (fl := fl) (v := f' 1) (by omega) (by omega) (by omega) hv3 h31 hf3.flg (fun hx => by have := hf3.sfN hx; omega) hNp
          (Prim.rep1_ext he3 (fun _ _ _ h => h) hrep') (Own.ext hd'.1 he3 (fun _ _ h => h)) (Nat.le_trans hd'.2 he3.size) hsz' ?_
        intro f4 w4 v4 h41 ho4 hg4 hk4
        refine ⟨rfl, Wrote.mk' hd'.2 rfl h41 ho4 (Grew.pre he3 hg4) (fun z hz1 hz => ?_), ?_, ?_, ?_⟩
        · rw [hk4 z (by omega) hz1, hk3 z (by omega) (by omega), upd_apply, if_neg (by omega), upd_apply, if_neg (by omega)]
        · rw [hk4 c.l (by omega) (by omega), hk3 c.l (by omega) (by omega), upd_apply, if_neg (by omega), upd_apply, if_neg (by omega)]; exact hl'
        · rw [hk4 _ (by omega) (by omega), hk3 _ (by omega) (by omega), upd_apply, if_neg (by omega), upd_apply, if_neg (by omega)]; exact h2'
        · rw [hk4 _ (by omega) (by omega), hk3 _ (by omega) (by omega), upd_apply, if_neg (by omega), upd_apply, if_neg (by omega)]; exact h1'
    · intro f2 w2 hw2
      refine behind f2 w2 ?_
      rw [hon, ← hnil]
      exact ⟨hw2.dst, by have := hw2.grew; rwa [h11] at this, (KeepR.of (m := 0) hk1 (by omega)).trans hw2.keep (Nat.le_refl _) (by omega) (by omega)⟩
  · intro hoff f1 hk1 h11
    refine behind f1 w ?_
    rw [hoff]
    exact ⟨by simp only [List.append_nil, if_false, Bool.false_eq_true]; exact ⟨by rw [h11]; exact hd.1, hd.2⟩, by rw [h11]; exact Grew.refl _ _, KeepR.of hk1 (by omega)⟩
theorem soundW_arrS (ht : TyC P C) (g : Gd) (k o sT : Nat) (nul : Option Nat) (T' PT' sz df : Nat) (e rest : Sch) (ihe : SoundW P C ok e) (ih : SoundW P C ok rest) : SoundW P C ok (.arrS g k o sT nul T' PT' sz df e rest) := by
  intro T PT pv c Q f w b a cs x ver fl base s hty hN hf hc hb hcs hr hok hd hsz h
  obtain ⟨x, xr⟩ := x
  obtain ⟨⟨u, ls, hu, harr, ⟨hsome, _⟩, hlen, hel⟩, hrr⟩ := hr
  obtain ⟨hoke, hokr⟩ : (∀ (i : Nat) y, (x.getD [])[i]? = some y → e.TagsOk ok y) ∧ rest.TagsOk ok xr := hok
  simp only [Sch.tyW, Bool.and_eq_true, beq_iff_eq] at hty
  obtain ⟨⟨⟨⟨hF, hk⟩, hsl⟩, hte⟩, htr⟩ := hty
  obtain ⟨hNl, hNe, hNr⟩ := hN
  have h1c := hf.one
  have hnil : ls.isNone = x.isNone := by cases ls <;> cases x <;> simp_all
  simp only [Sch.genW] at hc h ⊢
  generalize ht1 : c.t + gdN g + 4 + lenN C nul = t1 at hc h ⊢
  have hme := genW_mono (C := C) e T' PT' (c.l + 2) ⟨c.l + 3, t1 + 8, c.k + 2⟩
  have hse : ∀ Q f w b a cs x ver fl base s, _ := fun Q f w b a cs x ver fl base s => ihe T' PT' (c.l + 2) ⟨c.l + 3, t1 + 8, c.k + 2⟩ Q f w b a cs x ver fl base s
  generalize hz : e.genW C T' PT' (c.l + 2) ⟨c.l + 3, t1 + 8, c.k + 2⟩ = z at hc h hme hse ⊢
  obtain ⟨eb, c1⟩ := z
  simp only at hc h hme hse ⊢
  have hm := (genW_mono (C := C) rest T PT pv ⟨c1.l, c1.t + 1, c1.k⟩).1
  simp only at hm
  have behind : ∀ (f1 : Nat → Value) (w1 : World), Wrote C f w base s (if g.on ver then lenW nul fl (x.getD []).length x.isNone ++ (x.getD []).flatMap (e.wr ver fl) else []) c.l c1.l c.t f1 w1 →
      (seqL (rest.genW C T PT pv ⟨c1.l, c1.t + 1, c1.k⟩).1).wp P Q f1 w1 := by
    intro f1 w1 hw
    have hgrew := hw.grew
    refine ih T PT pv _ Q f1 w1 b a cs xr ver fl base _ htr hNr ((hf.keep hw.keep.keeps (Nat.le_refl _)).up (by simp only; omega)) (by simp only; omega) hb ?_ ?_ hokr hw.dst ?_ ?_
    · exact CellsAt.ext (K := (· < base)) hgrew.ext (hw.own hd) hcs hb
    · exact Sch.Rep_ext hgrew.ext (hw.own hd) rest hrr
    · simp only [Sch.wr, List.length_append] at hsz; simp only [List.length_append]; omega
    · intro f2 w2 hw2
      exact h f2 w2 (hw.trans hw2 (by simp only; omega) hm (by simp only; omega))
  refine seqL_cons ?_
  refine w_guard ht hf.svv (by have := hf.svN; omega) (by omega) ?_ ?_
  · intro hon f1 hk1 h11
    have hf1 := hf.keep hk1 (by omega)
    have hd1 : Dst C f1 w base s := by unfold Dst at hd ⊢; rwa [h11]
    refine w_list ht (x.getD []) (e.wr ver fl) hF hk hsl hNl hf1 (m := c1.l) (by omega) (by omega) (by omega) ht1.symm (by omega) hb hcs hu harr hlen hd1 (fl := fl) ?_ ?_ ?_
    · rw [hnil]; simp only [Sch.wr, hon, if_true, List.length_append] at hsz; simp only [List.length_append]; omega
    · intro i y s' f' w' hy hf' hl' h2' h1' hd' hsz' hg0
      obtain ⟨es, hes⟩ : ∃ es, (ls.getD [])[i]? = some es := by
        have : i < (ls.getD []).length := by rw [hlen]; exact (List.getElem?_eq_some_iff.1 hy).1
        exact ⟨_, List.getElem?_eq_getElem this⟩
      have hrep := hel i es y hes hy
      have hK : ∀ b, b < w.heap.size → b < base → ¬ own1 (f1 1) b := fun b _ hb ho => by have := (Own.below hd1.1 ho).1; omega
      have harr' := harr.ext (K := (· < base)) hg0.ext hK
      have hrep' := Sch.Rep_ext (K := (· < base)) hg0.ext hK e hrep
      cases ls with
      | none => simp at hes
      | some ls =>
        obtain ⟨bb, oo, cc, rfl, hbb, hmax, hcells⟩ := harr'
        have hce := hcells i _ hes
        refine seqL_cons ?_
        refine wp_reg ?_
        simp [idxI, h2']
        refine seqL_cons ?_
        refine wp_reg ?_
        have hi : i < ls.length := by have := (List.getElem?_eq_some_iff.1 hes).1; simpa using this
        have e1 : ∀ n, (c.l = t1 + n) = False := by intro n; simp; omega
        have e2 : ∀ n, (c.l + 1 = t1 + n) = False := by intro n; simp; omega
        simp [e1, e2, hl', idx?, hsl, hi, Addr.add_mk]
        have up : ∀ z, z < t1 + 4 → z ≠ c.l + 1 → z ≠ c.l + 2 → ∀ v1 v2 v3 v4 v5 v6, upd (upd (upd (upd (upd (upd f' (t1 + 4) v1) (c.l + 1) v2) (t1 + 5) v3) (t1 + 6) v4) (t1 + 7) v5) (c.l + 2) v6 z = f' z := by
          intro z hz hz1 hz2 v1 v2 v3 v4 v5 v6
          have a3 : ∀ n, 4 ≤ n → (z = t1 + n) = False := by intro n hn; simp; omega
          simp [a3, hz1, hz2]
        refine hse _ _ w' bb (oo + i * sz) es y ver fl base s' hte hNe ?_ (by omega) hbb hce.2 hrep' (hoke i y hy) ?_ hsz' ?_
        · refine ⟨by simp, ⟨by omega, by omega⟩, ?_, ⟨by have := hf'.svN; omega, hf'.svN.2⟩, ⟨fun hx => ⟨?_, (hf'.flg.1 hx).2⟩, hf'.flg.2⟩, fun hx => by have := hf'.sfN hx; omega, by omega⟩
          · rw [up _ (by have := hf'.svN; omega) (by have := hf'.svN; omega) (by have := hf'.svN; omega)]; exact hf'.svv
          · rw [up _ (by have := hf'.sfN hx; omega) (by have := hf'.sfN hx; omega) (by have := hf'.sfN hx; omega)]; exact (hf'.flg.1 hx).1
        · unfold Dst at hd' ⊢
          rwa [up 1 (by omega) (by omega) (by omega)]
        · intro f4 w4 hw4
          have kp : ∀ z, z ≠ 1 → z ≠ c.l + 1 → z ≠ c.l + 2 → (z < c.l + 3 ∨ (c1.l ≤ z ∧ z < t1 + 4)) → f4 z = f' z := by
            intro z hz0 hz1 hz2 hz
            rw [hw4.keep z hz0 (by omega)]
            exact up z (by omega) hz1 hz2 _ _ _ _ _ _
          refine ⟨rfl, ⟨hw4.dst, ?_, ?_⟩, ?_, ?_, ?_⟩
          · have := hw4.grew
            rwa [up 1 (by omega) (by omega) (by omega)] at this
          · intro z hz1 hz
            exact kp z hz1 (by omega) (by omega) (by omega)
          · rw [kp c.l (by omega) (by omega) (by omega) (by omega)]; exact hl'
          · rw [kp _ (by omega) (by omega) (by omega) (by omega)]; exact h2'
          · rw [kp _ (by omega) (by omega) (by omega) (by omega)]; exact h1'
    · intro f2 w2 hw2
      refine behind f2 w2 ?_
      rw [hon, ← hnil]
      exact ⟨hw2.dst, by have := hw2.grew; rwa [h11] at this, (KeepR.of (m := 0) hk1 (by omega)).trans hw2.keep (Nat.le_refl _) (by omega) (by omega)⟩
  · intro hoff f1 hk1 h11
    refine behind f1 w ?_
    rw [hoff]
    exact ⟨by simp only [List.append_nil, if_false, Bool.false_eq_true]; exact ⟨by rw [h11]; exact hd.1, hd.2⟩, by rw [h11]; exact Grew.refl _ _, KeepR.of hk1 (by omega)⟩
theorem CellsAt.seg {w : World} {b a : Nat} {cs : List Value} (h : CellsAt w b a cs) (o sz : Nat) : CellsAt w b (a + o) ((cs.drop o).take sz) := by
  intro j u hj
  rw [List.getElem?_take] at hj
  split at hj
  · rw [List.getElem?_drop] at hj
    rw [← h _ _ hj]; congr 2; omega
  · cases hj
theorem soundW_sub (ht : TyC P C) (g : Gd) (k o T' PT' sz df : Nat) (e rest : Sch) (ihe : SoundW P C ok e) (ih : SoundW P C ok rest) : SoundW P C ok (.sub g k o T' PT' sz df e rest) := by
  intro T PT pv c Q f w b a cs x ver fl base s hty hN hf hc hb hcs hr hok hd hsz h
  obtain ⟨x, xr⟩ := x
  obtain ⟨hre, hrr⟩ := hr
  obtain ⟨hoke, hokr⟩ : e.TagsOk ok x ∧ rest.TagsOk ok xr := hok
  simp only [Sch.tyW, Bool.and_eq_true, beq_iff_eq] at hty
  obtain ⟨⟨hF, hte⟩, htr⟩ := hty
  obtain ⟨hNe, hNr⟩ := hN
  have h1c := hf.one
  simp only [Sch.genW] at hc h ⊢
  generalize ht1 : c.t + gdN g = t1 at hc h ⊢
  have hme := genW_mono (C := C) e T' PT' c.l ⟨c.l + 1, t1 + 3, c.k⟩
  have hse : ∀ Q f w b a cs x ver fl base s, _ := fun Q f w b a cs x ver fl base s => ihe T' PT' c.l ⟨c.l + 1, t1 + 3, c.k⟩ Q f w b a cs x ver fl base s
  generalize hz : e.genW C T' PT' c.l ⟨c.l + 1, t1 + 3, c.k⟩ = z at hc h hme hse ⊢
  obtain ⟨eb, c1⟩ := z
  simp only at hc h hme hse ⊢
  have hm := (genW_mono (C := C) rest T PT pv c1).1
  have behind : ∀ (f1 : Nat → Value) (w1 : World), Wrote C f w base s (if g.on ver then e.wr ver fl x else []) c.l c1.l c.t f1 w1 →
      (seqL (rest.genW C T PT pv c1).1).wp P Q f1 w1 := by
    intro f1 w1 hw
    have hgrew := hw.grew
    refine ih T PT pv _ Q f1 w1 b a cs xr ver fl base _ htr hNr ((hf.keep hw.keep.keeps (Nat.le_refl _)).up (by omega)) (by omega) hb ?_ ?_ hokr hw.dst ?_ ?_
    · exact CellsAt.ext (K := (· < base)) hgrew.ext (hw.own hd) hcs hb
    · exact Sch.Rep_ext hgrew.ext (hw.own hd) rest hrr
    · simp only [Sch.wr, List.length_append] at hsz; simp only [List.length_append]; omega
    · intro f2 w2 hw2
      exact h f2 w2 (hw.trans hw2 (by omega) hm (by omega))
  refine seqL_cons ?_
  refine w_guard ht hf.svv (by have := hf.svN; omega) (by omega) ?_ ?_
  · intro hon f1 hk1 h11
    have hf1 := hf.keep hk1 (by omega)
    have hpt := hf1.ptrN
    refine seqL_cons ?_
    refine wp_reg ?_
    simp [addrR, hf1.ptr, hF, Addr.add_mk]
    have up : ∀ z, z < t1 → z ≠ c.l → ∀ v1 v2 v3 v4, upd (upd (upd (upd f1 t1 v1) (t1 + 1) v2) (t1 + 2) v3) c.l v4 z = f1 z := by
      intro z hz hz1 v1 v2 v3 v4
      have a3 : ∀ n, (z = t1 + n) = False := by intro n; simp; omega
      have a4 : (z = t1) = False := by simp; omega
      simp [a3, a4, hz1]
    refine hse _ _ w b (a + o) ((cs.drop o).take sz) x ver fl base s hte hNe ?_ (by omega) hb (hcs.seg o sz) hre hoke ?_ ?_ ?_
    · refine ⟨by simp, ⟨by omega, by omega⟩, ?_, ⟨by have := hf1.svN; omega, hf1.svN.2⟩, ⟨fun hx => ⟨?_, (hf1.flg.1 hx).2⟩, hf1.flg.2⟩, fun hx => by have := hf1.sfN hx; omega, by omega⟩
      · rw [up _ (by have := hf1.svN; omega) (by have := hf1.svN; omega)]; exact hf1.svv
      · rw [up _ (by have := hf1.sfN hx; omega) (by have := hf1.sfN hx; omega)]; exact (hf1.flg.1 hx).1
    · unfold Dst at hd ⊢
      rw [up 1 (by omega) (by omega), h11]; exact hd
    · simp only [Sch.wr, hon, if_true, List.length_append] at hsz; omega
    · intro f4 w4 hw4
      refine behind f4 w4 ?_
      rw [hon]
      simp only [if_true]
      refine ⟨hw4.dst, ?_, ?_⟩
      · have := hw4.grew
        rwa [up 1 (by omega) (by omega), h11] at this
      · intro z hz1 hz
        rw [hw4.keep z hz1 (by omega), up z (by omega) (by omega)]
        exact hk1 z (by omega) hz1
  · intro hoff f1 hk1 h11
    refine behind f1 w ?_
    rw [hoff]
    exact ⟨by simp only [List.append_nil, if_false, Bool.false_eq_true]; exact ⟨by rw [h11]; exact hd.1, hd.2⟩, by rw [h11]; exact Grew.refl _ _, KeepR.of hk1 (by omega)⟩
/-- dst = append(dst, n) -/
theorem w_app1 {Q : Post} {f : Nat → Value} {w : World} (hS : SliI P C.E.tBs C.E.tU8 1 1 (.int .u8 0)) {n t base : Nat} {s : List UInt8} (hn : n = 255 ∨ n = 1) (ht1 : 1 < t) (hd : Dst C f w base s) (hsz : s.length + 1 ≤ 1099511627776)
    (h : ∀ f' w', Dst C f' w' base (s ++ [UInt8.ofNat n]) → Grew w (f 1) w' (f' 1) → Keeps f f' t → Q .normal f' w') : (app1I C n t).wp P Q f w := by
  obtain ⟨ho, hb⟩ := hd
  have kk : ∀ v1 v2 v3 v4, Keeps f (upd (upd (upd (upd f t v1) (t + 1) v2) (t + 2) v3) 1 v4) t := fun v1 v2 v3 v4 => keeps_one (keeps_upd (keeps_upd (keeps_upd (Keeps.refl _ _) (by omega)) (by omega)) (by omega))
  have e1 : ∀ n, (1 = t + n) = False := by intro n; simp; omega
  have e1' : (1 = t) = False := by simp; omega
  rcases hn with rfl | rfl
  · refine wp_reg ?_
    simp [e1, e1', st_bsl hS, denseFrom, allSz, flat, Value.cells]
    refine st_app_lit hS (by simp) ho hb [255] (by simp [flat, cellsOf, Value.cells]) (by simp) (by simpa using hsz) ?_
    intro v' w' h1 h2
    refine h _ w' ⟨by simpa using h1, Nat.le_trans hb h2.size⟩ (by simpa using h2) (by simpa using kk _ _ _ _)
  · refine wp_reg ?_
    simp [e1, e1', st_bsl hS, denseFrom, allSz, flat, Value.cells]
    refine st_app_lit hS (by simp) ho hb [1] (by simp [flat, cellsOf, Value.cells]) (by simp) (by simpa using hsz) ?_
    intro v' w' h1 h2
    refine h _ w' ⟨by simpa using h1, Nat.le_trans hb h2.size⟩ (by simpa using h2) (by simpa using kk _ _ _ _)
theorem soundW_opt (ht : TyC P C) (g : Gd) (k o T' PT' PP sz df : Nat) (e rest : Sch) (ihe : SoundW P C ok e) (ih : SoundW P C ok rest) : SoundW P C ok (.opt g k o T' PT' PP sz df e rest) := by
  intro T PT pv c Q f w b a cs x ver fl base s hty hN hf hc hb hcs hr hok hd hsz h
  obtain ⟨x, xr⟩ := x
  obtain ⟨⟨u, hu, hnone, hsome⟩, hrr⟩ := hr
  obtain ⟨hoke, hokr⟩ : (∀ y, x = some y → e.TagsOk ok y) ∧ rest.TagsOk ok xr := hok
  simp only [Sch.tyW, Bool.and_eq_true, beq_iff_eq] at hty
  obtain ⟨⟨⟨⟨hF, hk⟩, hptr⟩, hte⟩, htr⟩ := hty
  obtain ⟨EP, hptr⟩ := isPtrT_spec hptr
  obtain ⟨hS, hNe, hNr⟩ := hN
  have h1c := hf.one
  simp only [Sch.genW] at hc h ⊢
  generalize ht1 : c.t + gdN g = t1 at hc h ⊢
  have hme := genW_mono (C := C) e T' PT' c.l ⟨c.l + 1, t1 + 12, c.k⟩
  have hse : ∀ Q f w b a cs x ver fl base s, _ := fun Q f w b a cs x ver fl base s => ihe T' PT' c.l ⟨c.l + 1, t1 + 12, c.k⟩ Q f w b a cs x ver fl base s
  generalize hz : e.genW C T' PT' c.l ⟨c.l + 1, t1 + 12, c.k⟩ = z at hc h hme hse ⊢
  obtain ⟨eb, c1⟩ := z
  simp only at hc h hme hse ⊢
  have hm := (genW_mono (C := C) rest T PT pv c1).1
  have behind : ∀ (f1 : Nat → Value) (w1 : World), Wrote C f w base s (if g.on ver then optW (e.wr ver fl) x else []) c.l c1.l c.t f1 w1 →
      (seqL (rest.genW C T PT pv c1).1).wp P Q f1 w1 := by
    intro f1 w1 hw
    have hgrew := hw.grew
    refine ih T PT pv _ Q f1 w1 b a cs xr ver fl base _ htr hNr ((hf.keep hw.keep.keeps (Nat.le_refl _)).up (by omega)) (by omega) hb ?_ ?_ hokr hw.dst ?_ ?_
    · exact CellsAt.ext (K := (· < base)) hgrew.ext (hw.own hd) hcs hb
    · exact Sch.Rep_ext hgrew.ext (hw.own hd) rest hrr
    · simp only [Sch.wr, List.length_append] at hsz; simp only [List.length_append]; omega
    · intro f2 w2 hw2
      exact h f2 w2 (hw.trans hw2 (by omega) hm (by omega))
  refine seqL_cons ?_
  refine w_guard ht hf.svv (by have := hf.svN; omega) (by omega) ?_ ?_
  · intro hon f1 hk1 h11
    have hf1 := hf.keep hk1 (by omega)
    have hpt := hf1.ptrN
    have hone : u.oneCell' = true := by
      cases x with
      | none => rw [hnone rfl]; rfl
      | some y => obtain ⟨b', c', es, rfl, _⟩ := hsome y rfl; rfl
    refine seqL_cons ?_
    refine w_load ht (fun h => by cases h) hf1.ptr hF (kOk_scl hk) hcs (seg_one hu hone) (by simp [hone]) (by omega) (by omega) ?_
    intro f2 w2 hv2 he2 hk2
    have hl2 : f2 c.l = u := loc_slice hv2
    have h21 : f2 1 = f 1 := (hk2 1 (by omega) (by omega)).trans h11
    have k2 : ∀ z, z < t1 → z ≠ c.l → f2 z = f1 z := fun z hz hz1 => hk2 z hz hz1
    have hd2 : Dst C f2 w2 base s := by
      unfold Dst at hd ⊢; rw [h21]
      exact ⟨Own.ext hd.1 he2 (fun _ _ h => h), Nat.le_trans hd.2 he2.size⟩
    show (Ir.seq _ _).wp P _ f2 w2
    refine wp_seqI (wp_reg ?_)
    have hsz1 : s.length + (optW (e.wr ver fl) x).length ≤ 1099511627776 := by simp only [Sch.wr, hon, if_true, List.length_append] at hsz; omega
    have up : ∀ z, z < t1 → z ≠ c.l → ∀ v1 v2, upd (upd f2 (t1 + 4) v1) (t1 + 5) v2 z = f1 z := by
      intro z hz hz1 v1 v2
      have a3 : ∀ n, (z = t1 + n) = False := by intro n; simp; omega
      simp [a3]
      exact k2 z hz hz1
    have upl : ∀ v1 v2, upd (upd f2 (t1 + 4) v1) (t1 + 5) v2 c.l = u := by
      intro v1 v2
      have a3 : ∀ n, (c.l = t1 + n) = False := by intro n; simp; omega
      simp [a3, hl2]
    have up1 : ∀ v1 v2, upd (upd f2 (t1 + 4) v1) (t1 + 5) v2 1 = f 1 := fun v1 v2 => (up 1 (by omega) (by omega) v1 v2).trans h11
    have hgr : Grew w (f 1) w2 (f 1) := (Grew.refl w (f 1)).post he2
    cases x with
    | none =>
      have hu0 := hnone rfl
      subst hu0
      simp [hl2, bin_nil_ptr hptr]
      refine .inl ⟨by simp, ?_⟩
      refine w_app1 hS (.inl rfl) (by omega) (by unfold Dst at hd2 ⊢; rw [up1, ← h21]; exact hd2) (by simpa [optW] using hsz1) ?_
      intro f3 w3 hd3 hg3 hk3
      refine behind f3 w3 ?_
      rw [hon]
      simp only [if_true]
      refine ⟨hd3, ?_, ?_⟩
      · rw [up1] at hg3; exact hgr.trans hg3
      · intro z hz1 hz
        rw [hk3 z (by omega) hz1, up z (by omega) (by omega)]
        exact hk1 z (by omega) hz1
    | some y =>
      obtain ⟨b', c', es, rfl, hb', hblt, hes, hces, hre⟩ := hsome y rfl
      simp [hl2, bin_nil_ptr hptr]
      refine .inr ⟨by simp, ?_⟩
      refine seqL_cons ?_
      refine w_app1 hS (.inr rfl) (by omega) (by unfold Dst at hd2 ⊢; rw [up1, ← h21]; exact hd2) (by simp only [optW, List.length_cons] at hsz1; omega) ?_
      intro f3 w3 hd3 hg3 hk3
      rw [up1] at hg3
      have hgr3 := hgr.trans hg3
      have hK : ∀ k, k < w.heap.size → k < base → ¬ own1 (f 1) k := fun k _ hk ho => by have := (Own.below hd.1 ho).1; omega
      refine hse _ _ w3 b' c' es y ver fl base (s ++ [UInt8.ofNat 1]) hte hNe ?_ (by omega) hb' (CellsAt.ext (K := (· < base)) hgr3.ext hK hces hb') (Sch.Rep_ext hgr3.ext hK e hre) (hoke y rfl) hd3 ?_ ?_
      · have k3 : ∀ z, z < c.l → z ≠ 1 → f3 z = f1 z := fun z hz hz1 => (hk3 z (by omega) hz1).trans (up z (by omega) (by omega) _ _)
        refine ⟨(hk3 c.l (by omega) (by omega)).trans (upl _ _), ⟨by omega, by omega⟩, ?_, ⟨by have := hf1.svN; omega, hf1.svN.2⟩, ⟨fun hx => ⟨?_, (hf1.flg.1 hx).2⟩, hf1.flg.2⟩, fun hx => by have := hf1.sfN hx; omega, by omega⟩
        · exact (k3 _ (by have := hf1.svN; omega) hf1.svN.2).trans hf1.svv
        · exact (k3 _ (by have := hf1.sfN hx; omega) (hf1.flg.1 hx).2).trans (hf1.flg.1 hx).1
      · simp only [optW, List.length_cons] at hsz1; simp only [List.length_append, List.length_cons, List.length_nil]; omega
      · intro f4 w4 hw4
        refine behind f4 w4 ?_
        rw [hon]
        simp only [if_true]
        refine ⟨?_, hgr3.trans hw4.grew, ?_⟩
        · have := hw4.dst
          rw [List.append_assoc] at this
          exact this
        · intro z hz1 hz
          rw [hw4.keep z hz1 (by omega), hk3 z (by omega) hz1, up z (by omega) (by omega)]
          exact hk1 z (by omega) hz1
  · intro hoff f1 hk1 h11
    refine behind f1 w ?_
    rw [hoff]
    exact ⟨by simp only [List.append_nil, if_false, Bool.false_eq_true]; exact ⟨by rw [h11]; exact hd.1, hd.2⟩, by rw [h11]; exact Grew.refl _ _, KeepR.of hk1 (by omega)⟩
theorem soundW (ht : TyC P C) : ∀ S : Sch, SoundW P C ok S := by
  intro S
  induction S with
  | fin => exact soundW_fin
  | tags k o => exact soundW_tags ht k o
  | prim g k o p en d rest ih => exact soundW_prim ht g k o p en d rest ih
  | arrP g k o sT nul p rest ih => exact soundW_arrP ht g k o sT nul p rest ih
  | arrS g k o sT nul T PT sz df e rest ihe ih => exact soundW_arrS ht g k o sT nul T PT sz df e rest ihe ih
  | sub g k o T PT sz df e rest ihe ih => exact soundW_sub ht g k o T PT sz df e rest ihe ih
  | opt g k o T PT PP sz df e rest ihe ih => exact soundW_opt ht g k o T PT PP sz df e rest ihe ih
  | cus c => intro T PT pv ct Q f w b a cs x ver fl base s h1 h2 h3 h4 h5 h6 h7 h8 h9 h10 h11; exact h2 T PT pv ct Q f w b a cs x ver fl base s h1 h3 h4 h5 h6 h7 h8 h9 h10 h11
end
end Go.Kg

set_option linter.unusedSimpArgs false
set_option linter.unusedVariables false
namespace Go.Kg
open Go
theorem seqL_append {P : Program} {Q : Post} : ∀ {A B : List Ir} {f : Nat → Value} {w : World}, (seqL A).wp P (thenF ((seqL B).wp P Q) Q) f w → (seqL (A ++ B)).wp P Q f w := by
  intro A
  induction A with
  | nil => intro B f w h; exact h
  | cons x r ih =>
    intro B f w h
    rw [List.cons_append]
    refine seqL_cons ?_
    cases r with
    | nil => exact h
    | cons y r =>
      have h' : x.wp P (thenF ((seqL (y :: r)).wp P (thenF ((seqL B).wp P Q) Q)) (thenF ((seqL B).wp P Q) Q)) f w := h
      refine Ir.wp_mono x ?_ h'
      intro e f w hq
      cases e <;> first | exact ih hq | exact hq
/-- The flag at a version. -/
def flagAt (C : Cfg) (flex : Nat) (ver : Int) : Bool := C.fx && decide ((flex : Int) ≤ ver)
structure MsgOk (P : Program) (C : Cfg) (ok : TagL → Prop) (T PT flex : Nat) (S : Sch) (nl : Nat) : Prop where
  ty : TyC P C
  cfg : C.sv = 5 ∧ C.sf = 6
  tyW : S.tyW P C T = true
  f0 : fldOff P T 0 = some 0
  need : S.NeedW P C ok
  nl : (S.genW C T PT 0 (ct0 C nl)).2.l ≤ nl
theorem appendTo {P : Program} {C : Cfg} {T PT flex nl nt g : Nat} {S : Sch} {ok : TagL → Prop} (hm : MsgOk P C ok T PT flex S nl) (hnt : 2 ≤ nt) (hI : FnIs P g nt [.t 4] (msgW C T PT flex S nl)) {w : World} {b a base : Nat} {cs : List Value} {x : S.T} {ver : Int} {v : Value} {s : List UInt8}
    (hcs : CellsAt w b a cs) (hver : cs[0]? = some (.int .i16 ver)) (hrep : S.Rep w (· < base) cs x) (hok : S.TagsOk ok x) (hb : b < base) (ho : OwnB C.E.tU8 w base v s) (hbase : base ≤ w.heap.size) (hsz : s.length + (S.wr ver (flagAt C flex ver) x).length ≤ 1099511627776) :
    Ret P g #[.pointer (some ⟨b, a, none⟩), v] w fun v' w' => OwnB C.E.tU8 w' base v' (s ++ S.wr ver (flagAt C flex ver) x) ∧ Grew w v w' v' := by
  obtain ⟨ht, ⟨hc5, hc6⟩, hty, h0, hN, hnl⟩ := hm
  have hl7 := (genW_mono (C := C) S T PT 0 (ct0 C nl)).1
  have q6 : 6 ≤ (ct0 C nl).l := by simp only [ct0]; split <;> omega
  have q7 : C.fx = true → 7 ≤ (ct0 C nl).l := by intro h; simp [ct0, h]
  have qt : nl + 5 ≤ (ct0 C nl).t := by simp only [ct0]; split <;> omega
  have hnl6 : 6 ≤ nl := by omega
  refine hI.ret (args := [_, _]) hnt ?_
  have cv := hcs 0 _ hver
  simp only [Nat.add_zero] at cv
  have n1 : ∀ k, (1 = nl + k) = False := by intro k; simp; omega
  have n0 : ∀ k, (0 = nl + k) = False := by intro k; simp; omega
  have n5 : ∀ k, (5 = nl + k) = False := by intro k; simp; omega
  have n1' : (1 = nl) = False := by simp; omega
  have n0' : (0 = nl) = False := by simp; omega
  have n5' : (5 = nl) = False := by simp; omega
  have nz : (nl = 0) = False := by simp; omega
  -- behind the head
  have behind : ∀ (f : Nat → Value), f 0 = .pointer (some ⟨b, a, none⟩) → f 1 = v → f 5 = .int .i16 ver → (C.fx = true → f 6 = .bool (flagAt C flex ver)) →
      (seqL ((S.genW C T PT 0 (ct0 C nl)).1 ++ [.reg [⟨none, some (S.genW C T PT 0 (ct0 C nl)).2.t, .move (.tmp 1), C.E.tBs⟩,
        ⟨none, some 4, .assign (.tmp (S.genW C T PT 0 (ct0 C nl)).2.t), C.E.tBs⟩], .ret])).wp P
        (retPost P [.t 4] fun v' w' => OwnB C.E.tU8 w' base v' (s ++ S.wr ver (flagAt C flex ver) x) ∧ Grew w v w' v') f w := by
    intro f f0 f1 f5 f6
    refine seqL_append ?_
    refine soundW ht S T PT 0 (ct0 C nl) _ f w b a cs x ver (flagAt C flex ver) base s hty hN ?_ ?_ hb hcs hrep hok ⟨by rw [f1]; exact ho, hbase⟩ hsz ?_
    · exact ⟨f0, ⟨by omega, by omega⟩, by rw [hc5]; exact f5, ⟨by omega, by omega⟩, ⟨fun hx => ⟨by rw [hc6]; exact f6 hx, by omega⟩, fun hx => by simp [flagAt, hx]⟩, fun hx => by have := q7 hx; omega, by omega⟩
    · omega
    · intro f' w' hw
      have hd := hw.dst.1
      have hg := hw.grew
      rw [f1] at hg
      refine seqL_cons (wp_reg ?_)
      simp
      show retPost P _ _ .ret _ _
      simp
      exact ⟨hd, hg⟩
  have key : ∀ (fl : List Ir), (if C.fx then [Ir.reg [⟨none, some (nl + 5), .move (.tmp 5), C.E.tI16⟩, ⟨none, some (nl + 6), .binOp .geq C.E.tI16 (.tmp (nl + 5)) (.const (.int .i16 flex)) C.E.tI16, C.E.tB⟩, ⟨none, some 6, .assign (.tmp (nl + 6)), C.E.tB⟩],
      .reg [⟨none, some (nl + 7), .move (.tmp 6), C.E.tB⟩]] else []) = fl →
      (seqL ([.reg [⟨none, some 4, .assign (.const (.slice none 0 0)), C.E.tBs⟩],
    .reg (addrR C T PT 0 0 nl ++ [⟨none, some (nl + 3), .load C.E.tI16 (.tmp (nl + 2)), C.E.tI16⟩, ⟨none, some 5, .assign (.tmp (nl + 3)), C.E.tI16⟩]),
    .reg [⟨none, some (nl + 4), .move (.tmp 5), C.E.tI16⟩]] ++ fl ++ ((S.genW C T PT 0 (ct0 C nl)).1 ++ [.reg [⟨none, some (S.genW C T PT 0 (ct0 C nl)).2.t, .move (.tmp 1), C.E.tBs⟩,
        ⟨none, some 4, .assign (.tmp (S.genW C T PT 0 (ct0 C nl)).2.t), C.E.tBs⟩], .ret]))).wp P
        (retPost P [.t 4] fun v' w' => OwnB C.E.tU8 w' base v' (s ++ S.wr ver (flagAt C flex ver) x) ∧ Grew w v w' v') (frame0 [.pointer (some ⟨b, a, none⟩), v]) w := by
    intro fl hfl
    rw [List.append_assoc]
    simp only [List.cons_append, List.nil_append]
    refine seqL_cons (wp_reg ?_)
    simp
    refine seqL_cons (wp_reg ?_)
    simp [addrR, h0, Addr.add_mk, ld_scl ht.kI16, cv, n0, n0']
    refine seqL_cons (wp_reg ?_)
    simp
    refine seqL_append ?_
    by_cases hx : C.fx = true
    · rw [if_pos hx] at hfl
      subst hfl
      refine seqL_cons (wp_reg ?_)
      simp [n5, n5']
      show (Ir.reg _).wp P _ _ _
      refine wp_reg ?_
      simp
      refine behind _ ?_ ?_ ?_ ?_
      · simp [n0, n0']
      · simp [n1, n1', nz]
      · simp [n5, n5']
      · intro _; simp [flagAt, hx]
    · rw [if_neg hx] at hfl
      subst hfl
      refine behind _ ?_ ?_ ?_ ?_
      · simp [n0, n0']
      · simp [n1, n1', nz]
      · simp [n5, n5']
      · intro h; exact absurd h hx
  have := key _ rfl
  rw [← List.append_assoc] at this
  exact this
end Go.Kg

set_option linter.unusedSimpArgs false
set_option linter.unusedVariables false
namespace Go.Kg
open Go
/-- the default of a number, as a value -/
def Prim.dval : Prim → Int → Option Value
  | .bool, d => if d = 0 then none else some (.bool true)
  | .i8, d => if d = 0 then none else some (.int .i8 d)
  | .i16, d => if d = 0 then none else some (.int .i16 d)
  | .u16, d => if d = 0 then none else some (.int .u16 d)
  | .i32, d => if d = 0 then none else some (.int .i32 d)
  | .i64, d => if d = 0 then none else some (.int .i64 d)
  | _, _ => none
def Sch.dst (C : Cfg) : Sch → List DSt
  | .fin => []
  | .tags _ _ => []
  | .prim _ k o p en d rest => (match p.dval d with | some v => [⟨k, o, if en = 0 then p.ty C.E else en, v⟩] | none => []) ++ rest.dst C
  | .arrP _ _ _ _ _ _ rest => rest.dst C
  | .arrS _ _ _ _ _ _ _ _ _ _ rest => rest.dst C
  | .sub _ _ _ _ _ _ _ _ rest => rest.dst C
  | .opt _ _ _ _ _ _ _ _ _ rest => rest.dst C
  | .cus c => (c.dit C).filterMap DI.st?
def genD (C : Cfg) (T PT : Nat) : List DSt → Nat → List Ir
  | [], _ => []
  | x :: l, t => .reg (addrR C T PT 0 x.k t ++ [⟨none, none, .store x.ty (.tmp (t + 2)) (.const x.v), C.E.tNil⟩]) :: genD C T PT l (t + 3)
def setD (a : Nat) : List DSt → Array Value → Array Value
  | [], c => c
  | x :: l, c => setD a l (c.setIfInBounds (a + x.o) x.v)
theorem setD_size (a : Nat) : ∀ (l : List DSt) (c : Array Value), (setD a l c).size = c.size
  | [], c => rfl
  | x :: l, c => by rw [setD, setD_size a l]; simp
def defOk (P : Program) (T n : Nat) : List DSt → Bool
  | [] => true
  | x :: l => fldOff P T x.k == some x.o && isScl (kindOf P x.ty) && decide (x.o < n) && defOk P T n l
theorem default_sound {P : Program} {C : Cfg} {T PT n : Nat} : ∀ (l : List DSt) (t : Nat) {f : Nat → Value} {w : World} {b a : Nat} {c : Array Value} {e : TypeId} {R : Value → World → Prop}, (∀ x ∈ l, x.v.oneCell' = true) → defOk P T n l = true → 0 < t →
    f 0 = .pointer (some ⟨b, a, none⟩) → w.heap[b]? = some (.cells c e (0, 0)) → a + n ≤ c.size → R (.tuple #[]) (w.setBlk b (.cells (setD a l c) e (0, 0))) → (seqL (genD C T PT l t)).wp P (retPost P [] R) f w := by
  intro l
  induction l with
  | nil =>
    intro t f w b a c e R _ _ _ h0 hb hn hR
    show retPost P [] R .normal f w
    have : w.setBlk b (.cells c e (0, 0)) = w := by
      simp only [World.setBlk]
      have : w.heap.setIfInBounds b (.cells c e (0, 0)) = w.heap := by
        apply Array.ext_getElem?
        intro k
        rw [Array.getElem?_setIfInBounds]
        split
        · rename_i h; subst h
          rw [hb, if_pos (lt_of_heap hb)]
        · rfl
      rw [this]
    simp only [setD, this] at hR
    simpa using hR
  | cons x l ih =>
    intro t f w b a c e R h1 hok ht h0 hb hn hR
    simp only [defOk, Bool.and_eq_true, beq_iff_eq, decide_eq_true_eq] at hok
    obtain ⟨⟨⟨hF, hk⟩, hlt⟩, hokl⟩ := hok
    refine seqL_cons (wp_reg ?_)
    have ho := h1 x List.mem_cons_self
    have z1 : (0 = t) = False := by simp; omega
    have z2 : ∀ k, (0 = t + k) = False := by intro k; simp; omega
    simp [addrR, h0, hF, Addr.add_mk, store_scl (isScl_spec hk), ho, put1K_blk hb]
    refine ⟨by omega, ?_⟩
    refine ih (t + 3) (fun y hy => h1 y (List.mem_cons_of_mem _ hy)) hokl (by omega) ?_ (setBlk_same hb) (by simpa using hn) ?_
    · simp [z1, z2, h0]
    · rw [setBlk_setBlk]; exact hR
theorem dst_one (C : Cfg) : ∀ (S : Sch), ∀ x ∈ S.dst C, x.v.oneCell' = true := by
  intro S
  induction S with
  | fin => intro x hx; cases hx
  | tags k o => intro x hx; cases hx
  | prim g k o p en d rest ih =>
    intro x hx
    simp only [Sch.dst, List.mem_append] at hx
    rcases hx with hx | hx
    · split at hx
      · rename_i v hv
        simp at hx; subst hx
        cases p <;> simp only [Prim.dval] at hv <;> first | (split at hv <;> cases hv <;> rfl) | cases hv
      · cases hx
    · exact ih x hx
  | arrP g k o sT nul p rest ih => intro x hx; exact ih x hx
  | arrS g k o sT nul T PT sz df e rest ihe ih => intro x hx; exact ih x hx
  | sub g k o T PT sz df e rest ihe ih => intro x hx; exact ih x hx
  | opt g k o T PT PP sz df e rest ihe ih => intro x hx; exact ih x hx
  | cus c => exact c.one C
def Sch.dit (C : Cfg) : Sch → List DI
  | .fin => []
  | .tags _ _ => []
  | .prim _ k o p en d rest => (match p.dval d with | some v => [.st ⟨k, o, if en = 0 then p.ty C.E else en, v⟩] | none => []) ++ rest.dit C
  | .arrP _ _ _ _ _ _ rest => rest.dit C
  | .arrS _ _ _ _ _ _ _ _ _ _ rest => rest.dit C
  | .sub _ k _ _ PT _ _ _ rest => .ad k PT :: rest.dit C
  | .opt _ k _ _ _ PP _ _ _ rest => .ad k PP :: rest.dit C
  | .cus c => c.dit C
theorem dst_dit (C : Cfg) : ∀ S : Sch, S.dst C = (S.dit C).filterMap DI.st? := by
  intro S
  induction S with
  | fin => rfl
  | tags k o => rfl
  | prim g k o p en d rest ih =>
    simp only [Sch.dst, Sch.dit, ih, List.filterMap_append]
    cases p.dval d <;> rfl
  | arrP g k o sT nul p rest ih => exact ih
  | arrS g k o sT nul T PT sz df e rest ihe ih => exact ih
  | sub g k o T PT sz df e rest ihe ih => simp only [Sch.dst, Sch.dit, ih, List.filterMap_cons, DI.st?]
  | opt g k o T PT PP sz df e rest ihe ih => simp only [Sch.dst, Sch.dit, ih, List.filterMap_cons, DI.st?]
  | cus c => rfl
def nAd : List DI → Nat
  | [] => 0
  | .st _ :: l => nAd l
  | .ad _ _ :: l => nAd l + 1
def genDI (C : Cfg) (T PT : Nat) : List DI → Nat → Nat → List Ir
  | [], _, _ => []
  | .st x :: r, l, t => .reg (addrR C T PT 0 x.k t ++ [⟨none, none, .store x.ty (.tmp (t + 2)) (.const x.v), C.E.tNil⟩]) :: genDI C T PT r l (t + 3)
  | .ad k ty :: r, l, t => seqL [.reg (addrR C T PT 0 k t ++ [⟨none, some l, .assign (.tmp (t + 2)), ty⟩]), .reg [⟨none, some (t + 3), .move (.tmp l), ty⟩]] :: genDI C T PT r (l + 1) (t + 4)
def Sch.genDf (C : Cfg) (T PT : Nat) (S : Sch) : Ir := seqL (genDI C T PT (S.dit C) 2 (2 + nAd (S.dit C)))
def defOkI (P : Program) (T n : Nat) : List DI → Bool
  | [] => true
  | .st x :: l => fldOff P T x.k == some x.o && isScl (kindOf P x.ty) && decide (x.o < n) && defOkI P T n l
  | .ad k _ :: l => (fldOff P T k).isSome && defOkI P T n l
theorem default_soundI {P : Program} {C : Cfg} {T PT n : Nat} : ∀ (d : List DI) (l t : Nat) {f : Nat → Value} {w : World} {b a : Nat} {c : Array Value} {e : TypeId} {R : Value → World → Prop}, (∀ x ∈ d.filterMap DI.st?, x.v.oneCell' = true) → defOkI P T n d = true → 0 < l → l + nAd d ≤ t →
    f 0 = .pointer (some ⟨b, a, none⟩) → w.heap[b]? = some (.cells c e (0, 0)) → a + n ≤ c.size → R (.tuple #[]) (w.setBlk b (.cells (setD a (d.filterMap DI.st?) c) e (0, 0))) → (seqL (genDI C T PT d l t)).wp P (retPost P [] R) f w := by
  intro d
  induction d with
  | nil =>
    intro l t f w b a c e R h1 _ _ _ h0 hb hn hR
    exact default_sound (C := C) (T := T) (PT := PT) (n := n) [] 1 (by simp) rfl (by omega) h0 hb hn hR
  | cons x d ih =>
    intro l t f w b a c e R h1 hok hl ht h0 hb hn hR
    cases x with
    | st x =>
      simp only [defOkI, Bool.and_eq_true, beq_iff_eq, decide_eq_true_eq] at hok
      obtain ⟨⟨⟨hF, hk⟩, hlt⟩, hokl⟩ := hok
      simp only [nAd] at ht
      refine seqL_cons (wp_reg ?_)
      have ho := h1 x (by simp [DI.st?])
      have z1 : (0 = t) = False := by simp; omega
      have z2 : ∀ k, (0 = t + k) = False := by intro k; simp; omega
      simp [addrR, h0, hF, Addr.add_mk, store_scl (isScl_spec hk), ho, put1K_blk hb]
      refine ⟨by omega, ?_⟩
      refine ih l (t + 3) (fun y hy => h1 y (by simp only [List.filterMap_cons, DI.st?, List.mem_cons]; exact .inr hy)) hokl hl (by omega) ?_ (setBlk_same hb) (by simpa using hn) ?_
      · simp [z1, z2, h0]
      · rw [setBlk_setBlk]
        simpa [DI.st?, setD] using hR
    | ad k ty =>
      simp only [defOkI, Bool.and_eq_true] at hok
      obtain ⟨hF, hokl⟩ := hok
      obtain ⟨o, hF⟩ := Option.isSome_iff_exists.1 hF
      simp only [nAd] at ht
      have z1 : (0 = t) = False := by simp; omega
      have z2 : ∀ k, (0 = t + k) = False := by intro k; simp; omega
      have z3 : (0 = l) = False := by simp; omega
      refine seqL_cons ?_
      refine seqL_cons (wp_reg ?_)
      simp [addrR, h0, hF, Addr.add_mk]
      show (Ir.reg _).wp P _ _ w
      refine wp_reg ?_
      simp
      refine ih (l + 1) (t + 4) (fun y hy => h1 y (by simpa [DI.st?] using hy)) hokl (by omega) (by omega) ?_ hb hn ?_
      · simp [z1, z2, z3, h0]
      · exact hR
theorem defaultCI {P : Program} {C : Cfg} {T PT n g nt : Nat} {S : Sch} (hnt : 1 ≤ nt) (hI : FnIs P g nt [] (S.genDf C T PT)) (hok : defOkI P T n (S.dit C) = true)
    {w : World} {b a : Nat} {c : Array Value} {e : TypeId} (hb : w.heap[b]? = some (.cells c e (0, 0))) (hn : a + n ≤ c.size) :
    Ret P g #[.pointer (some ⟨b, a, none⟩)] w fun _ w' => w' = w.setBlk b (.cells (setD a (S.dst C) c) e (0, 0)) := by
  refine hI.ret (args := [_]) hnt ?_
  rw [dst_dit]
  exact default_soundI (S.dit C) 2 _ (by rw [← dst_dit]; exact dst_one C S) hok (by omega) (Nat.le_refl _) rfl hb hn rfl
end Go.Kg

set_option linter.unusedSimpArgs false
set_option linter.unusedVariables false
namespace Go.Kg
open Go
/-- What a new thing says. -/
def Prim.dfl : (p : Prim) → Int → p.T
  | .bool, d => (show Bool from decide (d ≠ 0))
  | .i8, d => (show Int from d)
  | .i16, d => (show Int from d)
  | .u16, d => (show Int from d)
  | .i32, d => (show Int from d)
  | .i64, d => (show Int from d)
  | .uuid, _ => (show List UInt8 from List.replicate 16 0)
  | .str, _ => (show List UInt8 from [])
  | .bytes, _ => (show List UInt8 from [])
  | .nstr, _ => (show Option (List UInt8) from none)
  | .nbytes, _ => (show Option (List UInt8) from none)
def Sch.dfl : (S : Sch) → S.T
  | .fin => ()
  | .tags _ _ => []
  | .prim _ _ _ p _ d rest => (p.dfl d, rest.dfl)
  | .arrP _ _ _ _ _ _ rest => (none, rest.dfl)
  | .arrS _ _ _ _ _ _ _ _ _ _ rest => (none, rest.dfl)
  | .sub _ _ _ _ _ _ _ e rest => (e.dfl, rest.dfl)
  | .opt _ _ _ _ _ _ _ _ _ rest => (none, rest.dfl)
  | .cus c => c.dfl
def isInt (k : IntKind) (d : Int) : Option Value → Bool
  | some (.int k' n) => (k == k') && (n == d)
  | _ => false
def isNilSli : Option Value → Bool
  | some (.slice none 0 0) => true
  | _ => false
def isNilMap : Option Value → Bool
  | some (.map none) => true
  | _ => false
def isNilPtr : Option Value → Bool
  | some (.pointer none) => true
  | _ => false
def isBoolV (b : Bool) : Option Value → Bool
  | some (.bool c) => b == c
  | _ => false
def isEmpStr : Option Value → Bool
  | some (.string s) => s.data.toList.isEmpty
  | _ => false
def zeros16 (cs : List Value) (o : Nat) : Nat → Bool
  | 0 => true
  | k + 1 => isInt .u8 0 cs[o + k]? && zeros16 cs o k
def Prim.chkD (cs : List Value) (o : Nat) : Prim → Int → Bool
  | .bool, d => isBoolV (decide (d ≠ 0)) cs[o]?
  | .i8, d => isInt .i8 d cs[o]?
  | .i16, d => isInt .i16 d cs[o]?
  | .u16, d => isInt .u16 d cs[o]? && decide (0 ≤ d) && decide (d < 65536)
  | .i32, d => isInt .i32 d cs[o]?
  | .i64, d => isInt .i64 d cs[o]?
  | .uuid, _ => zeros16 cs o 16
  | .str, _ => isEmpStr cs[o]?
  | .bytes, _ => isNilSli cs[o]?
  | .nstr, _ => isNilPtr cs[o]?
  | .nbytes, _ => isNilSli cs[o]?
def Sch.chkD (cs : List Value) : Sch → Bool
  | .fin => true
  | .tags _ o => isNilMap cs[o]?
  | .prim _ _ o p _ d rest => p.chkD cs o d && rest.chkD cs
  | .arrP _ _ o _ _ _ rest => isNilSli cs[o]? && rest.chkD cs
  | .arrS _ _ o _ _ _ _ _ _ _ rest => isNilSli cs[o]? && rest.chkD cs
  | .sub _ _ o _ _ sz _ e rest => e.chkD ((cs.drop o).take sz) && rest.chkD cs
  | .opt _ _ o _ _ _ _ _ _ rest => isNilPtr cs[o]? && rest.chkD cs
  | .cus c => c.chkD cs
theorem isInt_spec {k : IntKind} {d : Int} {v : Option Value} (h : isInt k d v = true) : v = some (.int k d) := by
  unfold isInt at h
  split at h
  · simp only [Bool.and_eq_true, beq_iff_eq] at h; obtain ⟨rfl, rfl⟩ := h; rfl
  · cases h
theorem isNilSli_spec {v : Option Value} (h : isNilSli v = true) : v = some (.slice none 0 0) := by
  unfold isNilSli at h; split at h
  · rfl
  · cases h
theorem isNilMap_spec {v : Option Value} (h : isNilMap v = true) : v = some (.map none) := by
  unfold isNilMap at h; split at h
  · rfl
  · cases h
theorem isNilPtr_spec {v : Option Value} (h : isNilPtr v = true) : v = some (.pointer none) := by
  unfold isNilPtr at h; split at h
  · rfl
  · cases h
theorem isBoolV_spec {b : Bool} {v : Option Value} (h : isBoolV b v = true) : v = some (.bool b) := by
  unfold isBoolV at h; split at h
  · rw [beq_iff_eq.1 h]
  · cases h
theorem isEmpStr_spec {v : Option Value} (h : isEmpStr v = true) : v = some (strV []) := by
  unfold isEmpStr at h
  split at h
  · rename_i s
    obtain ⟨d⟩ := s
    have : d.toList = [] := by simpa using h
    have : d = #[] := by rw [← Array.toArray_toList (xs := d), this]
    subst this; rfl
  · cases h
theorem zeros16_spec {cs : List Value} {o : Nat} : ∀ {n : Nat}, zeros16 cs o n = true → ∀ j, j < n → cs[o + j]? = some (.int .u8 0)
  | 0, _, j, hj => by omega
  | n + 1, h, j, hj => by
    simp only [zeros16, Bool.and_eq_true] at h
    by_cases e : j = n
    · subst e; exact isInt_spec h.1
    · exact zeros16_spec h.2 j (by omega)
theorem seg_val {cs : List Value} {o : Nat} {v : Value} (h : cs[o]? = some v) (h1 : v.oneCell' = true) : seg cs o v.cells.toList := seg_one h h1
theorem Prim.repD {w : World} {K : Nat → Prop} {cs : List Value} {o : Nat} (p : Prim) (d : Int) (h : p.chkD cs o d = true) : ∃ v, seg cs o v.cells.toList ∧ p.rep1 w K v (p.dfl d) := by
  cases p with
  | bool => exact ⟨_, seg_val (isBoolV_spec h) rfl, rfl⟩
  | i8 => exact ⟨_, seg_val (isInt_spec h) rfl, rfl⟩
  | i16 => exact ⟨_, seg_val (isInt_spec h) rfl, rfl⟩
  | u16 =>
    simp only [Prim.chkD, Bool.and_eq_true, decide_eq_true_eq] at h
    refine ⟨_, seg_val (isInt_spec h.1.1) rfl, d.toNat, ?_, by omega, ?_⟩
    · show d = _; omega
    · have : ((d.toNat : Nat) : Int) = d := by omega
      rw [this]
  | i32 => exact ⟨_, seg_val (isInt_spec h) rfl, rfl⟩
  | i64 => exact ⟨_, seg_val (isInt_spec h) rfl, rfl⟩
  | str => exact ⟨_, seg_val (isEmpStr_spec h) rfl, rfl⟩
  | nstr => exact ⟨_, seg_val (isNilPtr_spec h) rfl, rfl⟩
  | bytes => exact ⟨_, seg_val (isNilSli_spec h) rfl, .inl ⟨⟨_, rfl⟩, rfl⟩⟩
  | nbytes => exact ⟨_, seg_val (isNilSli_spec h) rfl, rfl⟩
  | uuid =>
    refine ⟨.agg (cellsOf (List.replicate 16 0)).toArray, ?_, rfl, by simp [Prim.dfl]⟩
    intro j u hj
    have hj' : j < 16 := by
      have := (List.getElem?_eq_some_iff.1 hj).1
      simpa [Value.cells] using this
    rw [zeros16_spec h j hj']
    have : (cellsOf (List.replicate 16 0))[j]? = some (.int .u8 0) := by
      simp only [cellsOf, List.getElem?_map, List.getElem?_replicate, if_pos hj', Option.map_some]
      rfl
    rw [← this]
    simpa [Value.cells] using hj
theorem Sch.repD {w : World} {K : Nat → Prop} {cs : List Value} : ∀ S : Sch, S.chkD cs = true → S.Rep w K cs S.dfl := by
  intro S
  induction S generalizing cs with
  | fin => intro _; trivial
  | tags k o => intro h; exact ⟨_, isNilMap_spec h, .inl ⟨rfl, rfl⟩⟩
  | prim g k o p en d rest ih =>
    intro h
    simp only [Sch.chkD, Bool.and_eq_true] at h
    exact ⟨p.repD d h.1, ih h.2⟩
  | arrP g k o sT nul p rest ih =>
    intro h
    simp only [Sch.chkD, Bool.and_eq_true] at h
    exact ⟨⟨_, none, isNilSli_spec h.1, rfl, ⟨rfl, InHeap.nil _⟩, rfl, by simp⟩, ih h.2⟩
  | arrS g k o sT nul T PT sz df e rest ihe ih =>
    intro h
    simp only [Sch.chkD, Bool.and_eq_true] at h
    exact ⟨⟨_, none, isNilSli_spec h.1, rfl, ⟨rfl, InHeap.nil _⟩, rfl, by simp⟩, ih h.2⟩
  | sub g k o T PT sz df e rest ihe ih =>
    intro h
    simp only [Sch.chkD, Bool.and_eq_true] at h
    exact ⟨ihe h.1, ih h.2⟩
  | opt g k o T PT PP sz df e rest ihe ih =>
    intro h
    simp only [Sch.chkD, Bool.and_eq_true] at h
    exact ⟨⟨_, isNilPtr_spec h.1, fun _ => rfl, fun x hx => by cases hx⟩, ih h.2⟩
  | cus c => intro h; exact c.rep_dfl h
theorem Sch.tagsD : ∀ S : Sch, S.TagsOk (· = []) S.dfl := by
  intro S
  induction S with
  | fin => trivial
  | tags k o => rfl
  | prim g k o p en d rest ih => exact ih
  | arrP g k o sT nul p rest ih => exact ih
  | arrS g k o sT nul T PT sz df e rest ihe ih => exact ⟨by simp [Sch.dfl], ih⟩
  | sub g k o T PT sz df e rest ihe ih => exact ⟨ihe, ih⟩
  | opt g k o T PT PP sz df e rest ihe ih => exact ⟨fun x hx => (by cases hx), ih⟩
  | cus c => exact c.tags_dfl
end Go.Kg

set_option linter.unusedSimpArgs false
set_option linter.unusedVariables false
namespace Go.Kg
open Go
def rdCNBytes (rs : RS) : Option (List UInt8) × RS := if ((rdUv rs).1 : Int) - 1 < 0 then (none, (rdUv rs).2) else optOf (rdSpan ((rdUv rs).1 - 1) (rdUv rs).2)
def Prim.rd : (p : Prim) → Bool → RS → p.T × RS
  | .bool, _, rs => (boolOf (rdFixed 1 rs).1, (rdFixed 1 rs).2)
  | .i8, _, rs => (IntKind.i8.wrap (rdFixed 1 rs).1, (rdFixed 1 rs).2)
  | .i16, _, rs => (IntKind.i16.wrap (rdFixed 2 rs).1, (rdFixed 2 rs).2)
  | .u16, _, rs => (((rdFixed 2 rs).1 : Int), (rdFixed 2 rs).2)
  | .i32, _, rs => (IntKind.i32.wrap (rdFixed 4 rs).1, (rdFixed 4 rs).2)
  | .i64, _, rs => (IntKind.i64.wrap (rdFixed 8 rs).1, (rdFixed 8 rs).2)
  | .uuid, _, rs => rdUuid rs
  | .str, fl, rs => if fl then rdCStr rs else rdStr rs
  | .nstr, fl, rs => if fl then rdCNStr rs else rdNStr rs
  | .bytes, fl, rs => if fl then rdCBytes rs else rdBytes rs
  | .nbytes, fl, rs => if fl then rdCNBytes rs else rdNBytes rs
/-- a tag is set: in the place of the one of its number, or behind all -/
def setTag (k : Nat) (v : List UInt8) : TagL → TagL
  | [] => [(k, v)]
  | x :: l => if x.1 = k then (k, v) :: l else x :: setTag k v l
def rdTag (l : TagL) (rs : RS) : TagL × RS :=
  let a := rdUv rs
  let b := rdUv a.2
  let c := rdSpan b.1 b.2
  (setTag a.1 c.1 l, c.2)
def rdTagN : Nat → TagL → RS → TagL × RS
  | 0, l, rs => (l, rs)
  | n + 1, l, rs => rdTagN n (rdTag l rs).1 (rdTag l rs).2
def rdTags (rs : RS) : TagL × RS := rdTagN (rdUv rs).1 [] (rdUv rs).2
def rdN {α : Type} (f : RS → Option (α × RS)) : Nat → RS → Option (List α × RS)
  | 0, rs => some ([], rs)
  | n + 1, rs => match f rs with
    | none => none
    | some (x, rs1) => match rdN f n rs1 with
      | none => none
      | some (l, rs2) => some (x :: l, rs2)
/-- a list's length; what a list is that has none -/
def lenRd (fl : Bool) (rs : RS) : Int × RS := if fl then rdCLen rs else rdLen rs
def emptyOf {α : Type} (nul : Option Nat) (ver l : Int) : Option (List α) := match nul with
  | none => none
  | some m => if ver < (m : Int) ∨ l = 0 then some [] else none
def arrRd {α : Type} (nul : Option Nat) (ver : Int) (fl : Bool) (f : RS → Option (α × RS)) (rs : RS) : Option (Option (List α) × RS) :=
  if (lenRd fl rs).2.bad then none
  else if 0 < (lenRd fl rs).1 then match rdN f (lenRd fl rs).1.toNat (lenRd fl rs).2 with
    | none => none
    | some (l, rs2) => some (some l, rs2)
  else some (emptyOf nul ver (lenRd fl rs).1, (lenRd fl rs).2)
/-- present := b.Int8(); present != -1 && b.Ok() -/
def optRd {α : Type} (f : RS → Option (α × RS)) (rs : RS) : Option (Option α × RS) :=
  if Prim.rd .i8 false rs |>.2.bad then some (none, (Prim.rd .i8 false rs).2)
  else if (show Int from (Prim.rd .i8 false rs).1) = -1 then some (none, (Prim.rd .i8 false rs).2)
  else (f (Prim.rd .i8 false rs).2).map fun x => (some x.1, x.2)
/-- none: the early return behind a list's length. -/
def Sch.rd (ver : Int) (fl : Bool) : (S : Sch) → RS → Option (S.T × RS)
  | .fin, rs => some ((), rs)
  | .tags _ _, rs => some (if fl then rdTags rs else ([], rs))
  | .prim g _ _ p _ d rest, rs =>
    if g.on ver then (rest.rd ver fl (p.rd fl rs).2).map fun y => (((p.rd fl rs).1, y.1), y.2)
    else (rest.rd ver fl rs).map fun y => ((p.dfl d, y.1), y.2)
  | .arrP g _ _ _ nul p rest, rs =>
    if g.on ver then match arrRd nul ver fl (fun rs => some (p.rd fl rs)) rs with
      | none => none
      | some (a, rs1) => (rest.rd ver fl rs1).map fun y => ((a, y.1), y.2)
    else (rest.rd ver fl rs).map fun y => ((none, y.1), y.2)
  | .arrS g _ _ _ nul _ _ _ _ e rest, rs =>
    if g.on ver then match arrRd nul ver fl (e.rd ver fl) rs with
      | none => none
      | some (a, rs1) => (rest.rd ver fl rs1).map fun y => ((a, y.1), y.2)
    else (rest.rd ver fl rs).map fun y => ((none, y.1), y.2)
  | .sub g _ _ _ _ _ _ e rest, rs =>
    if g.on ver then match e.rd ver fl rs with
      | none => none
      | some (a, rs1) => (rest.rd ver fl rs1).map fun y => ((a, y.1), y.2)
    else (rest.rd ver fl rs).map fun y => ((e.dfl, y.1), y.2)
  | .opt g _ _ _ _ _ _ _ e rest, rs =>
    if g.on ver then match optRd (e.rd ver fl) rs with
      | none => none
      | some (a, rs1) => (rest.rd ver fl rs1).map fun y => ((a, y.1), y.2)
    else (rest.rd ver fl rs).map fun y => ((none, y.1), y.2)
  | .cus c, rs => c.rd ver fl rs
section
variable {w : World} {K K' : Nat → Prop} (hK : ∀ b, K b → K' b)
include hK
theorem StrPtr.mono {v : Value} {o : Option (List UInt8)} (h : StrPtr w K v o) : StrPtr w K' v o := by
  cases o with
  | none => exact h
  | some l => obtain ⟨a, rfl, hk, hc⟩ := h; exact ⟨a, rfl, hK _ hk, hc⟩
theorem BytesOpt.mono {v : Value} {o : Option (List UInt8)} (h : BytesOpt w K v o) : BytesOpt w K' v o := by
  cases o with
  | none => exact h
  | some l => exact ⟨h.1.mono (fun b _ => hK b), h.2⟩
theorem Prim.rep1_mono {p : Prim} {v : Value} {x : p.T} (h : p.rep1 w K v x) : p.rep1 w K' v x := by
  cases p <;> first | exact h | exact StrPtr.mono hK h | exact BytesAt.mono h (fun b _ => hK b) | exact BytesOpt.mono hK h
theorem TagsAt.mono {v : Value} {l : TagL} (h : TagsAt w K v l) : TagsAt w K' v l := by
  rcases h with h | ⟨b, es, clock, rfl, hk, hb, hs, hn, hl, hx⟩
  · exact .inl h
  · refine .inr ⟨b, es, clock, rfl, hK _ hk, hb, hs, hn, hl, fun i e x h1 h2 => ?_⟩
    obtain ⟨a1, a2, a3, a4⟩ := hx i e x h1 h2
    exact ⟨a1, a2, a3, a4.mono (fun b _ => hK b)⟩
theorem ArrAt.mono' {sz : Nat} {v : Value} {ls : Option (List (List Value))} (h : ArrAt w K sz v ls) : ArrAt w K' sz v ls := by
  cases ls with
  | none => exact h
  | some ls => obtain ⟨b, o, c, rfl, hk, hn, hx⟩ := h; exact ⟨b, o, c, rfl, hK b hk, hn, hx⟩
theorem Sch.Rep_mono : ∀ (S : Sch) {cs : List Value} {x : S.T}, S.Rep w K cs x → S.Rep w K' cs x := by
  intro S
  induction S with
  | fin => intro cs x h; trivial
  | tags k o => intro cs x ⟨v, h1, h2⟩; exact ⟨v, h1, TagsAt.mono hK h2⟩
  | prim g k o p en d rest ih => intro cs x ⟨⟨v, h1, h2⟩, h3⟩; exact ⟨⟨v, h1, Prim.rep1_mono hK h2⟩, ih h3⟩
  | arrP g k o sT nul p rest ih =>
    intro cs x ⟨⟨v, ls, h1, h2, h3, h4, h5⟩, h6⟩
    refine ⟨⟨v, ls, h1, ArrAt.mono' hK h2, h3, h4, fun i es y hi hy => ?_⟩, ih h6⟩
    obtain ⟨u, a1, a2⟩ := h5 i es y hi hy
    exact ⟨u, a1, Prim.rep1_mono hK a2⟩
  | arrS g k o sT nul T PT sz df e rest ihe ih =>
    intro cs x ⟨⟨v, ls, h1, h2, h3, h4, h5⟩, h6⟩
    exact ⟨⟨v, ls, h1, ArrAt.mono' hK h2, h3, h4, fun i es y hi hy => ihe (h5 i es y hi hy)⟩, ih h6⟩
  | sub g k o T PT sz df e rest ihe ih => intro cs x ⟨h1, h2⟩; exact ⟨ihe h1, ih h2⟩
  | opt g k o T PT PP sz df e rest ihe ih =>
    intro cs x ⟨⟨v, h1, h2, h3⟩, h4⟩
    refine ⟨⟨v, h1, h2, fun y hy => ?_⟩, ih h4⟩
    obtain ⟨b, c, es, a1, a2, a3, a4, a5, a6⟩ := h3 y hy
    exact ⟨b, c, es, a1, hK _ a2, a3, a4, a5, ihe a6⟩
  | cus c => intro cs x h; exact c.rep_mono hK h
end
end Go.Kg

set_option linter.unusedSimpArgs false
set_option linter.unusedVariables false
set_option linter.unusedSectionVars false
namespace Go.Kg
open Go
theorem be_go : ∀ (k n m : Nat), (bigE k n).foldl (fun n b => n * 256 + b.toNat) m = m * 256 ^ k + n % 256 ^ k := by
  intro k
  induction k with
  | zero => intro n m; simp [bigE, Nat.mod_one]
  | succ k ih =>
    intro n m
    simp only [bigE, List.foldl_cons]
    rw [ih]
    have h1 : (UInt8.ofNat (n / 256 ^ k)).toNat = n / 256 ^ k % 256 := by simp
    rw [h1, Nat.pow_succ, Nat.mod_mul]
    rw [Nat.add_mul, Nat.mul_assoc, Nat.mul_comm 256 (256 ^ k), Nat.mul_comm (n / 256 ^ k % 256)]
    omega
theorem be_bigE (k n : Nat) : be (bigE k n) = n % 256 ^ k := by
  rw [be, be_go]; simp
theorem rdFixed_bigE (k n : Nat) (r : List UInt8) (bad nn : Bool) : rdFixed k ⟨bigE k n ++ r, bad, nn⟩ = (n % 256 ^ k, ⟨r, bad, true⟩) := by
  have h1 : ¬ (bigE k n ++ r).length < k := by simp
  have h2 : (bigE k n ++ r).take k = bigE k n := by rw [List.take_left' bigE_length]
  have h3 : (bigE k n ++ r).drop k = r := by rw [List.drop_left' bigE_length]
  simp only [rdFixed, if_neg h1, h2, h3, be_bigE]
theorem uvE_rd : ∀ (k n : Nat) (r : List UInt8), n < 128 ^ k * 16 → uvGo k (uvE k n ++ r) = some (n, r) := by
  intro k
  induction k with
  | zero =>
    intro n r h
    have h' : n < 16 := by simpa using h
    have h1 : (UInt8.ofNat n).toNat = n := by simp; omega
    simp only [uvE, List.cons_append, List.nil_append, uvGo, h1]
    rw [if_pos (by omega)]
  | succ k ih =>
    intro n r h
    by_cases hn : n < 128
    · have h1 : (UInt8.ofNat n).toNat = n := by simp; omega
      simp only [uvE, if_pos hn, List.cons_append, List.nil_append, uvGo, h1]
    · have h1 : (UInt8.ofNat (n % 128 + 128)).toNat = n % 128 + 128 := by simp; omega
      simp only [uvE, if_neg hn, List.cons_append, uvGo, h1]
      rw [if_neg (by omega), ih (n / 128) r (by rw [Nat.pow_succ] at h; omega)]
      simp only [Option.map_some]
      congr 2
      omega
theorem rdUv_out {n : Nat} (h : n < 4294967296) (r : List UInt8) (bad nn : Bool) : rdUv ⟨uvOut n ++ r, bad, nn⟩ = (n, ⟨r, bad, true⟩) := by
  simp only [rdUv, uv, uvOut, uvE_rd 4 n r (by simpa using h)]
theorem uvE_le : ∀ {k : Nat} {s r : List UInt8} {n : Nat}, uvGo k s = some (n, r) → (uvE k n).length + r.length ≤ s.length := by
  intro k
  induction k with
  | zero =>
    intro s r n h
    cases s with
    | nil => cases h
    | cons b s => simp only [uvGo] at h; split at h
                  · cases h; simp [uvE]; omega
                  · cases h
  | succ k ih =>
    intro s r n h
    cases s with
    | nil => cases h
    | cons b s =>
      simp only [uvGo] at h
      split at h
      · rename_i hb
        cases h
        simp only [uvE, if_pos hb, List.length_cons, List.length_nil]; omega
      · rename_i hb
        obtain ⟨⟨m, r'⟩, hm, he⟩ := Option.map_eq_some_iff.1 h
        cases he
        have := ih hm
        simp only [uvE]
        split
        · simp; omega
        · have e : (b.toNat % 128 + 128 * m) / 128 = m := by omega
          rw [e]
          simp; omega
theorem uvE_mono : ∀ {k n m : Nat}, n ≤ m → (uvE k n).length ≤ (uvE k m).length := by
  intro k
  induction k with
  | zero => intro n m h; simp [uvE]
  | succ k ih =>
    intro n m h
    simp only [uvE]
    split
    · split <;> simp
    · rename_i h1
      rw [if_neg (by omega)]
      simp
      exact ih (by omega)
theorem uvE_pos {k n : Nat} : 1 ≤ (uvE k n).length := by cases k <;> simp only [uvE] <;> first | (split <;> simp) | simp
theorem uv_ext : ∀ {k : Nat} {s r z : List UInt8} {n : Nat}, uvGo k s = some (n, r) → uvGo k (s ++ z) = some (n, r ++ z) := by
  intro k
  induction k with
  | zero =>
    intro s r z n h
    cases s with
    | nil => cases h
    | cons b s => simp only [uvGo, List.cons_append] at h ⊢; split at h
                  · cases h; rename_i hb; simp [hb]
                  · cases h
  | succ k ih =>
    intro s r z n h
    cases s with
    | nil => cases h
    | cons b s =>
      simp only [uvGo, List.cons_append] at h ⊢
      split at h
      · rename_i hb; cases h; simp [hb]
      · rename_i hb
        obtain ⟨⟨m, r'⟩, hm, he⟩ := Option.map_eq_some_iff.1 h
        cases he
        rw [if_neg hb, ih hm]
        rfl
structure Good {α : Type} (g : RS → α × RS) : Prop where
  ext : ∀ p z nn, (g ⟨p, false, nn⟩).2.bad = false → g ⟨p ++ z, false, nn⟩ = ((g ⟨p, false, nn⟩).1, ⟨(g ⟨p, false, nn⟩).2.src ++ z, false, (g ⟨p, false, nn⟩).2.nn⟩)
  bad : ∀ rs, rs.bad = true → (g rs).2.bad = true
theorem Good.pure {α : Type} (x : Bool → α) : Good (fun rs => (x rs.nn, rs)) := ⟨fun p z nn _ => rfl, fun rs h => h⟩
theorem Good.bind {α β : Type} {g : RS → α × RS} {h : α → RS → β × RS} (hg : Good g) (hh : ∀ a, Good (h a)) : Good (fun rs => h (g rs).1 (g rs).2) := by
  refine ⟨fun p z nn hb => ?_, fun rs hb => (hh _).bad _ (hg.bad rs hb)⟩
  have h1 : (g ⟨p, false, nn⟩).2.bad = false := by
    cases e : (g ⟨p, false, nn⟩).2.bad
    · rfl
    · have h3 := (hh (g ⟨p, false, nn⟩).1).bad _ e
      have h4 : (h (g ⟨p, false, nn⟩).1 (g ⟨p, false, nn⟩).2).2.bad = false := hb
      rw [h3] at h4; cases h4
  have e := hg.ext p z nn h1
  have hb' : (h (g ⟨p, false, nn⟩).1 (g ⟨p, false, nn⟩).2).2.bad = false := hb
  show h (g ⟨p ++ z, false, nn⟩).1 (g ⟨p ++ z, false, nn⟩).2 = ((h (g ⟨p, false, nn⟩).1 (g ⟨p, false, nn⟩).2).1, ⟨(h (g ⟨p, false, nn⟩).1 (g ⟨p, false, nn⟩).2).2.src ++ z, false, (h (g ⟨p, false, nn⟩).1 (g ⟨p, false, nn⟩).2).2.nn⟩)
  rw [e]
  clear e hb
  generalize g ⟨p, false, nn⟩ = y at *
  obtain ⟨a, q, bd, m⟩ := y
  simp only at h1 hb' ⊢
  subst h1
  exact (hh a).ext q z m hb'
theorem Good.map {α β : Type} {g : RS → α × RS} (hg : Good g) (f : α → Bool → β) : Good (fun rs => (f (g rs).1 (g rs).2.nn, (g rs).2)) :=
  hg.bind (h := fun a rs => (f a rs.nn, rs)) (fun a => Good.pure (f a))
theorem Good.fail {α : Type} (x : α) : Good (fun _ => (x, .fail)) := ⟨fun p z nn h => (by cases h), fun rs _ => rfl⟩
theorem good_fixed (k : Nat) : Good (rdFixed k) := by
  refine ⟨fun p z nn h => ?_, fun rs h => ?_⟩
  · unfold rdFixed at h ⊢
    by_cases hl : p.length < k
    · simp only [if_pos hl] at h; cases h
    · have : ¬ (p ++ z).length < k := by simp; omega
      simp only [if_neg hl, if_neg this]
      rw [List.take_append_of_le_length (by omega), List.drop_append_of_le_length (by omega)]
  · unfold rdFixed; split
    · rfl
    · exact h
theorem good_uv : Good rdUv := by
  refine ⟨fun p z nn h => ?_, fun rs h => ?_⟩
  · unfold rdUv at h ⊢
    cases hu : uv p with
    | none => rw [hu] at h; cases h
    | some x =>
      obtain ⟨n, r⟩ := x
      have := uv_ext (z := z) hu
      simp only [uv] at hu ⊢
      simp only [this, hu]
  · unfold rdUv; split
    · exact h
    · rfl
theorem good_span (l : Int) : Good (rdSpan l) := by
  refine ⟨fun p z nn h => ?_, fun rs h => ?_⟩
  · unfold rdSpan at h ⊢
    by_cases hl : (p.length : Int) < l ∨ l < 0
    · simp only [if_pos hl] at h; cases h
    · have : ¬ (((p ++ z).length : Int) < l ∨ l < 0) := by simp; omega
      simp only [if_neg hl, if_neg this]
      rw [List.take_append_of_le_length (by omega), List.drop_append_of_le_length (by omega)]
  · unfold rdSpan; split
    · rfl
    · exact h
theorem good_cap (n : Int) : Good (capLen n) := by
  refine ⟨fun p z nn h => ?_, fun rs h => ?_⟩
  · unfold capLen at h ⊢
    by_cases hl : (p.length : Int) < n
    · simp only [if_pos hl] at h; cases h
    · have : ¬ ((p ++ z).length : Int) < n := by simp; omega
      simp only [if_neg hl, if_neg this]
  · unfold capLen; split
    · rfl
    · exact h
theorem Good.congr {α : Type} {f g : RS → α × RS} (h : Good f) (e : ∀ rs, g rs = f rs) : Good g := (funext e : g = f) ▸ h
theorem good_lenRd (fl : Bool) : Good (lenRd fl) := by
  cases fl
  · exact (good_fixed 4).bind (h := fun (a : Nat) rs => capLen (i32 a) rs) (fun a => good_cap _)
  · exact good_uv.bind (h := fun (a : Nat) rs => capLen (IntKind.i32.wrap (i32 a - 1)) rs) (fun a => good_cap _)
theorem good_opt {g : RS → List UInt8 × RS} (h : Good g) : Good (fun rs => optOf (g rs)) := h.map (fun a nn => if nn then some a else none)
theorem good_prim (p : Prim) (fl : Bool) : Good (p.rd fl) := by
  cases p with
  | bool => exact (good_fixed 1).map (fun a _ => boolOf a)
  | i8 => exact (good_fixed 1).map (fun a _ => IntKind.i8.wrap a)
  | i16 => exact (good_fixed 2).map (fun a _ => IntKind.i16.wrap a)
  | u16 => exact (good_fixed 2).map (fun a _ => (a : Int))
  | i32 => exact (good_fixed 4).map (fun a _ => IntKind.i32.wrap a)
  | i64 => exact (good_fixed 8).map (fun a _ => IntKind.i64.wrap a)
  | uuid => exact (good_span 16).map (fun a _ => if a.length = 16 then a else List.replicate 16 0)
  | str =>
    cases fl
    · exact (good_fixed 2).bind (h := fun (a : Nat) rs => rdSpan (i16 a) rs) (fun a => good_span _)
    · exact good_uv.bind (h := fun (a : Nat) rs => rdSpan ((a : Int) - 1) rs) (fun a => good_span _)
  | nstr =>
    cases fl
    · refine (good_fixed 2).bind (h := fun (a : Nat) rs => if i16 a < 0 then (none, rs) else (some (rdSpan (i16 a) rs).1, (rdSpan (i16 a) rs).2)) (fun a => ?_)
      by_cases h : i16 a < 0
      · simp only [if_pos h]; exact Good.pure (fun _ => none)
      · simp only [if_neg h]; exact (good_span _).map (fun a _ => some a)
    · refine good_uv.bind (h := fun (a : Nat) rs => if (a : Int) - 1 < 0 then (none, rs) else (some (rdSpan ((a : Int) - 1) rs).1, (rdSpan ((a : Int) - 1) rs).2)) (fun a => ?_)
      by_cases h : (a : Int) - 1 < 0
      · simp only [if_pos h]; exact Good.pure (fun _ => none)
      · simp only [if_neg h]; exact (good_span _).map (fun a _ => some a)
  | bytes =>
    cases fl
    · refine (good_fixed 4).bind (h := fun (a : Nat) rs => if i32 a = -1 then ([], rs) else rdSpan (i32 a) rs) (fun a => ?_)
      by_cases h : i32 a = -1
      · simp only [if_pos h]; exact Good.pure (fun _ => [])
      · simp only [if_neg h]; exact good_span _
    · refine good_uv.bind (h := fun (a : Nat) rs => if a = 0 then ([], rs) else rdSpan ((a : Int) - 1) rs) (fun a => ?_)
      by_cases h : a = 0
      · simp only [if_pos h]; exact Good.pure (fun _ => [])
      · simp only [if_neg h]; exact good_span _
  | nbytes =>
    cases fl
    · refine (good_fixed 4).bind (h := fun (a : Nat) rs => if i32 a < 0 then (none, rs) else optOf (rdSpan (i32 a) rs)) (fun a => ?_)
      by_cases h : i32 a < 0
      · simp only [if_pos h]; exact Good.pure (fun _ => none)
      · simp only [if_neg h]; exact good_opt (good_span _)
    · refine good_uv.bind (h := fun (a : Nat) rs => if (a : Int) - 1 < 0 then (none, rs) else optOf (rdSpan ((a : Int) - 1) rs)) (fun a => ?_)
      by_cases h : (a : Int) - 1 < 0
      · simp only [if_pos h]; exact Good.pure (fun _ => none)
      · simp only [if_neg h]; exact good_opt (good_span _)
theorem good_tag (l : TagL) : Good (rdTag l) :=
  good_uv.bind (h := fun (a : Nat) rs => (setTag a (rdSpan (rdUv rs).1 (rdUv rs).2).1 l, (rdSpan (rdUv rs).1 (rdUv rs).2).2)) (fun a =>
    (good_uv.bind (h := fun (b : Nat) rs => rdSpan (b : Int) rs) (fun b => good_span _)).map (fun v _ => setTag a v l))
theorem good_tagN : ∀ (n : Nat) (l : TagL), Good (rdTagN n l)
  | 0, l => Good.pure (fun _ => l)
  | n + 1, l => (good_tag l).bind (h := fun a rs => rdTagN n a rs) (fun a => good_tagN n a)
theorem good_tags : Good rdTags := good_uv.bind (h := fun (n : Nat) rs => rdTagN n [] rs) (fun n => good_tagN n [])
/-- the same of readers that may end early -/
theorem Good.toO {α : Type} {g : RS → α × RS} (h : Good g) : GoodO (fun rs => some (g rs)) := by
  refine ⟨fun p z nn y rs e hb => ?_, fun rs y rs' e hb => ?_⟩
  · simp only [Option.some.injEq] at e ⊢
    rw [h.ext p z nn (by rw [e]; exact hb), e]
  · simp only [Option.some.injEq] at e
    have := h.bad rs hb
    rwa [e] at this
theorem GoodO.bind {α β : Type} {g : RS → Option (α × RS)} {h : α → RS → Option (β × RS)} (hg : GoodO g) (hh : ∀ a, GoodO (h a)) : GoodO (fun rs => (g rs).bind fun x => h x.1 x.2) := by
  refine ⟨fun p z nn y rs e hb => ?_, fun rs y rs' e hb => ?_⟩
  · obtain ⟨⟨a, r1⟩, e1, e2⟩ := Option.bind_eq_some_iff.1 e
    have h1 : r1.bad = false := by
      cases hx : r1.bad
      · rfl
      · have := (hh a).bad r1 y rs e2 hx
        rw [this] at hb; cases hb
    have e1' := hg.ext p z nn a r1 e1 h1
    rw [e1']
    obtain ⟨s1, b1, n1⟩ := r1
    simp only at h1
    subst h1
    exact (hh a).ext s1 z n1 y rs e2 hb
  · obtain ⟨⟨a, r1⟩, e1, e2⟩ := Option.bind_eq_some_iff.1 e
    exact (hh a).bad r1 y rs' e2 (hg.bad rs a r1 e1 hb)
theorem GoodO.congr {α : Type} {f g : RS → Option (α × RS)} (h : GoodO f) (e : ∀ rs, g rs = f rs) : GoodO g := (funext e : g = f) ▸ h
theorem GoodO.pure {α : Type} (x : α) : GoodO (fun rs => some (x, rs)) := (Good.pure (fun _ => x)).toO
theorem good_N {α : Type} {f : RS → Option (α × RS)} (hf : GoodO f) : ∀ n, GoodO (rdN f n)
  | 0 => GoodO.pure _
  | n + 1 => by
    refine (hf.bind (h := fun x rs => (rdN f n rs).bind fun y => some (x :: y.1, y.2)) (fun x => (good_N hf n).bind (h := fun l rs => some (x :: l, rs)) (fun l => GoodO.pure _))).congr (fun rs => ?_)
    simp only [rdN]
    cases f rs with
    | none => rfl
    | some a =>
      obtain ⟨x, r1⟩ := a
      simp only [Option.bind_some]
      cases rdN f n r1 with
      | none => rfl
      | some b => rfl
theorem good_arr {α : Type} {nul : Option Nat} {ver : Int} {fl : Bool} {f : RS → Option (α × RS)} (hf : GoodO f) : GoodO (arrRd nul ver fl f) := by
  have h1 : GoodO (fun rs => if (lenRd fl rs).2.bad then (none : Option (Int × RS)) else some (lenRd fl rs)) := by
    refine ⟨fun p z nn y rs e hb => ?_, fun rs y rs' e hb => ?_⟩
    · split at e
      · cases e
      · rename_i hn
        have e' : lenRd fl ⟨p, false, nn⟩ = (y, rs) := Option.some.inj e
        have := (good_lenRd fl).ext p z nn (by rw [e']; exact hb)
        rw [this, e']
        simp
    · split at e
      · cases e
      · rename_i hn
        exact absurd ((good_lenRd fl).bad rs hb) hn
  refine (h1.bind (h := fun l rs => if 0 < l then (rdN f l.toNat rs).bind (fun x => some (some x.1, x.2)) else some (emptyOf nul ver l, rs)) (fun l => ?_)).congr (fun rs => ?_)
  · by_cases hl : 0 < l
    · simp only [if_pos hl]; exact (good_N hf _).bind (h := fun x rs => some (some x, rs)) (fun x => GoodO.pure _)
    · simp only [if_neg hl]; exact GoodO.pure _
  · simp only [arrRd]
    split
    · rfl
    · simp only [Option.bind_some]
      split
      · cases rdN f (lenRd fl rs).1.toNat (lenRd fl rs).2 with
        | none => rfl
        | some b => rfl
      · rfl
theorem RS.eta (r : RS) (h : r.bad = false) : r = ⟨r.src, false, r.nn⟩ := by
  cases r
  simp only at h
  subst h
  rfl
theorem good_optRd {α : Type} {f : RS → Option (α × RS)} (hf : GoodO f) : GoodO (optRd f) := by
  have h8 := good_prim .i8 false
  refine ⟨fun p z nn y rs e hb => ?_, fun rs y rs' e hb => ?_⟩
  · unfold optRd at e ⊢
    cases h1 : (Prim.rd .i8 false ⟨p, false, nn⟩).2.bad
    · have e8 := h8.ext p z nn h1
      rw [h1] at e
      simp only [Bool.false_eq_true, if_false] at e
      rw [e8]
      simp only [Bool.false_eq_true, if_false]
      split at e
      · rename_i h2
        rw [if_pos h2]
        simp only [Option.some.injEq, Prod.mk.injEq] at e
        obtain ⟨rfl, rfl⟩ := e
        rfl
      · rename_i h2
        rw [if_neg h2]
        obtain ⟨⟨a, r1⟩, e1, e2⟩ := Option.map_eq_some_iff.1 e
        simp only [Prod.mk.injEq] at e2
        obtain ⟨rfl, rfl⟩ := e2
        have e3 := RS.eta _ h1
        rw [e3] at e1
        rw [hf.ext _ z _ a r1 e1 hb]
        rfl
    · rw [h1] at e
      simp only [if_true, Option.some.injEq, Prod.mk.injEq] at e
      obtain ⟨_, rfl⟩ := e
      rw [h1] at hb; cases hb
  · have h1 := h8.bad rs hb
    unfold optRd at e
    rw [h1] at e
    simp only [if_true, Option.some.injEq, Prod.mk.injEq] at e
    obtain ⟨_, rfl⟩ := e
    exact h1
theorem good_sch (ver : Int) (fl : Bool) : ∀ S : Sch, GoodO (S.rd ver fl) := by
  intro S
  induction S with
  | fin => exact GoodO.pure _
  | tags k o =>
    cases fl
    · exact GoodO.pure _
    · exact good_tags.toO
  | prim g k o p en d rest ih =>
    by_cases h : g.on ver = true
    · refine ((good_prim p fl).toO.bind (h := fun x rs => (rest.rd ver fl rs).bind fun y => some ((x, y.1), y.2)) (fun x => ih.bind (h := fun y rs => some ((x, y), rs)) (fun y => GoodO.pure _))).congr (fun rs => ?_)
      simp only [Sch.rd, if_pos h, Option.bind_some]
      cases rest.rd ver fl (p.rd fl rs).2 <;> rfl
    · refine (ih.bind (h := fun y rs => some ((p.dfl d, y), rs)) (fun y => GoodO.pure _)).congr (fun rs => ?_)
      simp only [Sch.rd, if_neg h]
      cases rest.rd ver fl rs <;> rfl
  | arrP g k o sT nul p rest ih =>
    by_cases h : g.on ver = true
    · refine ((good_arr (nul := nul) (ver := ver) (fl := fl) (good_prim p fl).toO).bind (h := fun x rs => (rest.rd ver fl rs).bind fun y => some ((x, y.1), y.2)) (fun x => ih.bind (h := fun y rs => some ((x, y), rs)) (fun y => GoodO.pure _))).congr (fun rs => ?_)
      simp only [Sch.rd, if_pos h]
      cases arrRd nul ver fl (fun rs => some (p.rd fl rs)) rs with
      | none => rfl
      | some a => simp only [Option.bind_some]; cases rest.rd ver fl a.2 <;> rfl
    · refine (ih.bind (h := fun y rs => some ((none, y), rs)) (fun y => GoodO.pure _)).congr (fun rs => ?_)
      simp only [Sch.rd, if_neg h]
      cases rest.rd ver fl rs <;> rfl
  | arrS g k o sT nul T PT sz df e rest ihe ih =>
    by_cases h : g.on ver = true
    · refine ((good_arr (nul := nul) (ver := ver) (fl := fl) ihe).bind (h := fun x rs => (rest.rd ver fl rs).bind fun y => some ((x, y.1), y.2)) (fun x => ih.bind (h := fun y rs => some ((x, y), rs)) (fun y => GoodO.pure _))).congr (fun rs => ?_)
      simp only [Sch.rd, if_pos h]
      cases arrRd nul ver fl (e.rd ver fl) rs with
      | none => rfl
      | some a => simp only [Option.bind_some]; cases rest.rd ver fl a.2 <;> rfl
    · refine (ih.bind (h := fun y rs => some ((none, y), rs)) (fun y => GoodO.pure _)).congr (fun rs => ?_)
      simp only [Sch.rd, if_neg h]
      cases rest.rd ver fl rs <;> rfl
  | sub g k o T PT sz df e rest ihe ih =>
    by_cases h : g.on ver = true
    · refine (ihe.bind (h := fun x rs => (rest.rd ver fl rs).bind fun y => some ((x, y.1), y.2)) (fun x => ih.bind (h := fun y rs => some ((x, y), rs)) (fun y => GoodO.pure _))).congr (fun rs => ?_)
      simp only [Sch.rd, if_pos h]
      cases e.rd ver fl rs with
      | none => rfl
      | some a => simp only [Option.bind_some]; cases rest.rd ver fl a.2 <;> rfl
    · refine (ih.bind (h := fun y rs => some ((e.dfl, y), rs)) (fun y => GoodO.pure _)).congr (fun rs => ?_)
      simp only [Sch.rd, if_neg h]
      cases rest.rd ver fl rs <;> rfl
  | opt g k o T PT PP sz df e rest ihe ih =>
    by_cases h : g.on ver = true
    · refine ((good_optRd ihe).bind (h := fun x rs => (rest.rd ver fl rs).bind fun y => some ((x, y.1), y.2)) (fun x => ih.bind (h := fun y rs => some ((x, y), rs)) (fun y => GoodO.pure _))).congr (fun rs => ?_)
      simp only [Sch.rd, if_pos h]
      cases optRd (e.rd ver fl) rs with
      | none => rfl
      | some a => simp only [Option.bind_some]; cases rest.rd ver fl a.2 <;> rfl
    · refine (ih.bind (h := fun y rs => some ((none, y), rs)) (fun y => GoodO.pure _)).congr (fun rs => ?_)
      simp only [Sch.rd, if_neg h]
      cases rest.rd ver fl rs <;> rfl
  | cus c => exact c.good ver fl
end Go.Kg

set_option linter.unusedSimpArgs false
set_option linter.unusedVariables false
set_option linter.unusedSectionVars false
namespace Go.Kg
open Go
/-- what a thing may be, to be written and read -/
def Prim.wf : (p : Prim) → p.T → Prop
  | .bool, _ => True
  | .i8, n => -128 ≤ (show Int from n) ∧ (show Int from n) < 128
  | .i16, n => -32768 ≤ (show Int from n) ∧ (show Int from n) < 32768
  | .u16, n => 0 ≤ (show Int from n) ∧ (show Int from n) < 65536
  | .i32, n => -2147483648 ≤ (show Int from n) ∧ (show Int from n) < 2147483648
  | .i64, n => -9223372036854775808 ≤ (show Int from n) ∧ (show Int from n) < 9223372036854775808
  | .uuid, l => (show List UInt8 from l).length = 16
  | .str, l => (show List UInt8 from l).length ≤ 32767
  | .bytes, l => (show List UInt8 from l).length ≤ 32767
  | .nstr, o => ((show Option (List UInt8) from o).getD []).length ≤ 32767
  | .nbytes, o => ((show Option (List UInt8) from o).getD []).length ≤ 32767
theorem rdNum (k : Nat) (n : Int) (r : List UInt8) (bad nn : Bool) : rdFixed k ⟨num k n ++ r, bad, nn⟩ = ((n % (256 ^ k : Nat)).toNat, ⟨r, bad, true⟩) := by
  rw [num, rdFixed_bigE]
  have h0 : (0 : Int) < (256 ^ k : Nat) := by
    have : 0 < 256 ^ k := Nat.pow_pos (by omega)
    omega
  have h1 := Int.emod_lt_of_pos n h0
  have h2 := Int.emod_nonneg n (Int.ne_of_gt h0)
  rw [Nat.mod_eq_of_lt (by omega)]
theorem span_all {l r : List UInt8} {bad nn : Bool} {n : Int} (h : n = l.length) : rdSpan n ⟨l ++ r, bad, nn⟩ = (l, ⟨r, bad, nn⟩) := by
  subst h
  have : ¬ (((l ++ r).length : Int) < l.length ∨ (l.length : Int) < 0) := by simp; omega
  simp only [rdSpan, if_neg this]
  simp
theorem i16_len {n : Nat} (h : n ≤ 32767) : i16 (n % 65536 % 256 ^ 2) = n := by simp [i16, IntKind.wrap, IntKind.signed, IntKind.bits]; omega
theorem i32_len {n : Nat} (h : n ≤ 40000) : i32 (n % 4294967296 % 256 ^ 4) = n := by simp [i32, IntKind.wrap, IntKind.signed, IntKind.bits]; omega
theorem u_len {n : Nat} (h : n ≤ 40000) : (n + 1) % 4294967296 = n + 1 := by omega
theorem rd_i8 (x : Int) (h : -128 ≤ x ∧ x < 128) (r : List UInt8) (nn : Bool) : (IntKind.i8.wrap (rdFixed 1 ⟨[bval x] ++ r, false, nn⟩).1, (rdFixed 1 ⟨[bval x] ++ r, false, nn⟩).2) = (x, (⟨r, false, true⟩ : RS)) := by
  have e := rdNum 1 x r false nn
  have e2 : num 1 x = [bval x] := by simp [num, bigE, bval]
  rw [e2] at e
  rw [e]
  have : IntKind.i8.wrap ((x % ((256 ^ 1 : Nat) : Int)).toNat : Int) = x := by simp [IntKind.wrap, IntKind.signed, IntKind.bits]; omega
  simp only [this]
theorem rd_i16 (x : Int) (h : -32768 ≤ x ∧ x < 32768) (r : List UInt8) (nn : Bool) : (IntKind.i16.wrap (rdFixed 2 ⟨num 2 x ++ r, false, nn⟩).1, (rdFixed 2 ⟨num 2 x ++ r, false, nn⟩).2) = (x, (⟨r, false, true⟩ : RS)) := by
  rw [rdNum 2 x r false nn]
  have : IntKind.i16.wrap ((x % ((256 ^ 2 : Nat) : Int)).toNat : Int) = x := by simp [IntKind.wrap, IntKind.signed, IntKind.bits]; omega
  simp only [this]
theorem rd_u16 (x : Int) (h : 0 ≤ x ∧ x < 65536) (r : List UInt8) (nn : Bool) : (((rdFixed 2 ⟨num 2 x ++ r, false, nn⟩).1 : Int), (rdFixed 2 ⟨num 2 x ++ r, false, nn⟩).2) = (x, (⟨r, false, true⟩ : RS)) := by
  rw [rdNum 2 x r false nn]
  have : ((x % ((256 ^ 2 : Nat) : Int)).toNat : Int) = x := by simp; omega
  simp only [this]
theorem rd_i32 (x : Int) (h : -2147483648 ≤ x ∧ x < 2147483648) (r : List UInt8) (nn : Bool) : (IntKind.i32.wrap (rdFixed 4 ⟨num 4 x ++ r, false, nn⟩).1, (rdFixed 4 ⟨num 4 x ++ r, false, nn⟩).2) = (x, (⟨r, false, true⟩ : RS)) := by
  rw [rdNum 4 x r false nn]
  have : IntKind.i32.wrap ((x % ((256 ^ 4 : Nat) : Int)).toNat : Int) = x := by simp [IntKind.wrap, IntKind.signed, IntKind.bits]; omega
  simp only [this]
theorem rd_i64 (x : Int) (h : -9223372036854775808 ≤ x ∧ x < 9223372036854775808) (r : List UInt8) (nn : Bool) : (IntKind.i64.wrap (rdFixed 8 ⟨num 8 x ++ r, false, nn⟩).1, (rdFixed 8 ⟨num 8 x ++ r, false, nn⟩).2) = (x, (⟨r, false, true⟩ : RS)) := by
  rw [rdNum 8 x r false nn]
  have : IntKind.i64.wrap ((x % ((256 ^ 8 : Nat) : Int)).toNat : Int) = x := by simp [IntKind.wrap, IntKind.signed, IntKind.bits]; omega
  simp only [this]
theorem rd_bool (b : Bool) (r : List UInt8) (nn : Bool) : (boolOf (rdFixed 1 ⟨[if b then 1 else 0] ++ r, false, nn⟩).1, (rdFixed 1 ⟨[if b then 1 else 0] ++ r, false, nn⟩).2) = (b, (⟨r, false, true⟩ : RS)) := by
  have e := rdFixed_bigE 1 (if b then 1 else 0) r false nn
  have e2 : bigE 1 (if b then 1 else 0) = [if b then 1 else 0] := by cases b <;> rfl
  rw [e2] at e
  rw [e]
  cases b <;> rfl
theorem rd_uuid (l : List UInt8) (h : l.length = 16) (r : List UInt8) (nn : Bool) : rdUuid ⟨l ++ r, false, nn⟩ = (l, ⟨r, false, nn⟩) := by
  have e := span_all (l := l) (r := r) (bad := false) (nn := nn) (n := 16) (by rw [h]; rfl)
  simp only [rdUuid, e, if_pos h]
theorem rd_str (l : List UInt8) (h : l.length ≤ 32767) (r : List UInt8) (nn : Bool) : rdStr ⟨wStr l ++ r, false, nn⟩ = (l, ⟨r, false, true⟩) := by
  simp only [rdStr, wStr, List.append_assoc, rdFixed_bigE]
  exact span_all (i16_len h)
theorem rd_cstr (l : List UInt8) (h : l.length ≤ 32767) (r : List UInt8) (nn : Bool) : rdCStr ⟨wCStr l ++ r, false, nn⟩ = (l, ⟨r, false, true⟩) := by
  simp only [rdCStr, wCStr, List.append_assoc, u_len (n := l.length) (by omega)]
  rw [rdUv_out (by omega)]
  exact span_all (by simp)
theorem rd_nstr (o : Option (List UInt8)) (h : (o.getD []).length ≤ 32767) (r : List UInt8) (nn : Bool) : rdNStr ⟨wNStr o ++ r, false, nn⟩ = (o, ⟨r, false, true⟩) := by
  cases o with
  | none =>
    simp only [rdNStr, wNStr, rdFixed_bigE]
    rfl
  | some l =>
    have h' : l.length ≤ 32767 := h
    have e := rd_str l h' r nn
    simp only [rdNStr, wNStr, e]
    simp only [wStr, List.append_assoc, rdFixed_bigE, i16_len h']
    rw [if_neg (by omega)]
theorem rd_cnstr (o : Option (List UInt8)) (h : (o.getD []).length ≤ 32767) (r : List UInt8) (nn : Bool) : rdCNStr ⟨wCNStr o ++ r, false, nn⟩ = (o, ⟨r, false, true⟩) := by
  cases o with
  | none =>
    have e := rdUv_out (n := 0) (by omega) r false nn
    simp only [rdCNStr, wCNStr, e]
    rfl
  | some l =>
    have h' : l.length ≤ 32767 := h
    have e := rd_cstr l h' r nn
    simp only [rdCNStr, wCNStr, e]
    simp only [wCStr, List.append_assoc, u_len (n := l.length) (by omega)]
    rw [rdUv_out (by omega)]
    simp only
    rw [if_neg (by omega)]
theorem rd_bytes (l : List UInt8) (h : l.length ≤ 32767) (r : List UInt8) (nn : Bool) : rdBytes ⟨wBytes l ++ r, false, nn⟩ = (l, ⟨r, false, true⟩) := by
  simp only [rdBytes, wBytes, List.append_assoc, rdFixed_bigE, i32_len (n := l.length) (by omega)]
  rw [if_neg (by omega)]
  exact span_all rfl
theorem rd_cbytes (l : List UInt8) (h : l.length ≤ 32767) (r : List UInt8) (nn : Bool) : rdCBytes ⟨wCBytes l ++ r, false, nn⟩ = (l, ⟨r, false, true⟩) := by
  simp only [rdCBytes, wCBytes, List.append_assoc, u_len (n := l.length) (by omega)]
  rw [rdUv_out (by omega)]
  simp only
  rw [if_neg (by omega)]
  exact span_all (by omega)
theorem rd_nbytes (o : Option (List UInt8)) (h : (o.getD []).length ≤ 32767) (r : List UInt8) (nn : Bool) : rdNBytes ⟨wNBytes o ++ r, false, nn⟩ = (o, ⟨r, false, true⟩) := by
  cases o with
  | none =>
    simp only [rdNBytes, wNBytes, rdFixed_bigE]
    rfl
  | some l =>
    have h' : l.length ≤ 32767 := h
    simp only [rdNBytes, wNBytes, wBytes, List.append_assoc, rdFixed_bigE, i32_len (n := l.length) (by omega)]
    rw [if_neg (by omega), span_all rfl]
    rfl
theorem rd_cnbytes (o : Option (List UInt8)) (h : (o.getD []).length ≤ 32767) (r : List UInt8) (nn : Bool) : rdCNBytes ⟨wCNBytes o ++ r, false, nn⟩ = (o, ⟨r, false, true⟩) := by
  cases o with
  | none =>
    have e := rdUv_out (n := 0) (by omega) r false nn
    simp only [rdCNBytes, wCNBytes, e]
    rfl
  | some l =>
    have h' : l.length ≤ 32767 := h
    simp only [rdCNBytes, wCNBytes, wCBytes, List.append_assoc, u_len (n := l.length) (by omega)]
    rw [rdUv_out (by omega)]
    simp only
    rw [if_neg (by omega), span_all (by omega)]
    rfl
theorem rd_prim (p : Prim) (fl : Bool) (x : p.T) (h : p.wf x) (r : List UInt8) (nn : Bool) : ∃ nn', p.rd fl ⟨p.wr fl x ++ r, false, nn⟩ = (x, ⟨r, false, nn'⟩) := by
  cases p with
  | bool => exact ⟨_, rd_bool x r nn⟩
  | i8 => exact ⟨_, rd_i8 x h r nn⟩
  | i16 => exact ⟨_, rd_i16 x h r nn⟩
  | u16 => exact ⟨_, rd_u16 x h r nn⟩
  | i32 => exact ⟨_, rd_i32 x h r nn⟩
  | i64 => exact ⟨_, rd_i64 x h r nn⟩
  | uuid => exact ⟨_, rd_uuid x h r nn⟩
  | str =>
    cases fl
    · exact ⟨_, rd_str x h r nn⟩
    · exact ⟨_, rd_cstr x h r nn⟩
  | nstr =>
    cases fl
    · exact ⟨_, rd_nstr x h r nn⟩
    · exact ⟨_, rd_cnstr x h r nn⟩
  | bytes =>
    cases fl
    · exact ⟨_, rd_bytes x h r nn⟩
    · exact ⟨_, rd_cbytes x h r nn⟩
  | nbytes =>
    cases fl
    · exact ⟨_, rd_nbytes x h r nn⟩
    · exact ⟨_, rd_cnbytes x h r nn⟩
end Go.Kg

set_option linter.unusedSimpArgs false
set_option linter.unusedVariables false
set_option linter.unusedSectionVars false
namespace Go.Kg
open Go
theorem insTag_len (x : Nat × List UInt8) : ∀ l : TagL, (insTag x l).length = l.length + 1
  | [] => rfl
  | y :: l => by simp only [insTag]; split <;> simp [insTag_len x l]
theorem sortTags_len : ∀ l : TagL, (sortTags l).length = l.length
  | [] => rfl
  | x :: l => by simp [sortTags, insTag_len, sortTags_len l]
theorem insTag_mem (x : Nat × List UInt8) : ∀ (l : TagL) (y), y ∈ insTag x l ↔ y = x ∨ y ∈ l
  | [], y => by simp [insTag]
  | z :: l, y => by
    simp only [insTag]
    split
    · simp
    · simp only [List.mem_cons, insTag_mem x l]
      constructor
      · rintro (h | h | h) <;> simp [h]
      · rintro (h | h | h) <;> simp [h]
theorem sortTags_mem : ∀ (l : TagL) (y), y ∈ sortTags l ↔ y ∈ l
  | [], y => by simp [sortTags]
  | x :: l, y => by simp [sortTags, insTag_mem, sortTags_mem l]
theorem insTag_nodup (x : Nat × List UInt8) : ∀ l : TagL, (∀ y ∈ l, y.1 ≠ x.1) → (l.map (·.1)).Nodup → ((insTag x l).map (·.1)).Nodup
  | [], _, _ => by simp [insTag]
  | z :: l, h1, h2 => by
    simp only [insTag]
    split
    · simp only [List.map_cons, List.nodup_cons]
      refine ⟨?_, by simpa using h2⟩
      intro hm
      obtain ⟨y, hy, he⟩ := List.mem_map.1 (show x.1 ∈ (z :: l).map (·.1) by simpa using hm)
      exact h1 y hy he
    · simp only [List.map_cons, List.nodup_cons] at h2 ⊢
      refine ⟨?_, insTag_nodup x l (fun y hy => h1 y (List.mem_cons_of_mem _ hy)) h2.2⟩
      intro hm
      obtain ⟨y, hy, he⟩ := List.mem_map.1 hm
      rcases (insTag_mem x l y).1 hy with rfl | hy
      · exact h1 z List.mem_cons_self he.symm
      · exact h2.1 (List.mem_map.2 ⟨y, hy, he⟩)
theorem sortTags_nodup : ∀ l : TagL, (l.map (·.1)).Nodup → ((sortTags l).map (·.1)).Nodup
  | [], _ => by simp [sortTags]
  | x :: l, h => by
    simp only [List.map_cons, List.nodup_cons] at h
    refine insTag_nodup x _ (fun y hy he => h.1 ?_) (sortTags_nodup l h.2)
    exact List.mem_map.2 ⟨y, (sortTags_mem l y).1 hy, he⟩
theorem insTag_sorted (x : Nat × List UInt8) : ∀ l : TagL, l.Pairwise (fun a b => a.1 ≤ b.1) → (insTag x l).Pairwise (fun a b => a.1 ≤ b.1)
  | [], _ => by simp [insTag]
  | z :: l, h => by
    simp only [insTag]
    split
    · rename_i hle
      rw [List.pairwise_cons]
      refine ⟨fun y hy => ?_, h⟩
      rcases List.mem_cons.1 hy with rfl | hy
      · exact hle
      · exact Nat.le_trans hle ((List.pairwise_cons.1 h).1 y hy)
    · rename_i hle
      rw [List.pairwise_cons] at h ⊢
      refine ⟨fun y hy => ?_, insTag_sorted x l h.2⟩
      rcases (insTag_mem x l y).1 hy with rfl | hy
      · omega
      · exact h.1 y hy
theorem sortTags_sorted : ∀ l : TagL, (sortTags l).Pairwise (fun a b => a.1 ≤ b.1)
  | [] => by simp [sortTags]
  | x :: l => insTag_sorted x _ (sortTags_sorted l)
theorem sortTags_of_sorted : ∀ l : TagL, l.Pairwise (fun a b => a.1 ≤ b.1) → sortTags l = l
  | [], _ => rfl
  | x :: l, h => by
    rw [List.pairwise_cons] at h
    rw [sortTags, sortTags_of_sorted l h.2]
    cases l with
    | nil => rfl
    | cons y l => simp only [insTag]; rw [if_pos (h.1 y List.mem_cons_self)]
theorem setTag_new (k : Nat) (v : List UInt8) : ∀ l : TagL, (∀ y ∈ l, y.1 ≠ k) → setTag k v l = l ++ [(k, v)]
  | [], _ => rfl
  | x :: l, h => by
    simp only [setTag]
    rw [if_neg (h x List.mem_cons_self), setTag_new k v l (fun y hy => h y (List.mem_cons_of_mem _ hy))]
    rfl
def tagW (x : Nat × List UInt8) : List UInt8 := uvOut x.1 ++ uvOut (x.2.length % 4294967296) ++ x.2
theorem rd_tag (x : Nat × List UInt8) (h : x.1 < 4294967296 ∧ x.2.length ≤ 32767) (l : TagL) (hl : ∀ y ∈ l, y.1 ≠ x.1) (r : List UInt8) (nn : Bool) : ∃ nn', rdTag l ⟨tagW x ++ r, false, nn⟩ = (l ++ [x], ⟨r, false, nn'⟩) := by
  obtain ⟨k, v⟩ := x
  refine ⟨true, ?_⟩
  have e : v.length % 4294967296 = v.length := Nat.mod_eq_of_lt (by have := h.2; simp only at this; omega)
  simp only [rdTag, tagW, List.append_assoc, e]
  rw [rdUv_out h.1]
  simp only
  rw [rdUv_out (by have := h.2; simp only at this; omega)]
  simp only
  rw [span_all rfl]
  simp only
  rw [setTag_new k v l hl]
theorem rd_tagN : ∀ (l acc : TagL) (r : List UInt8) (nn : Bool), (∀ x ∈ l, x.1 < 4294967296 ∧ x.2.length ≤ 32767) → ((acc ++ l).map (·.1)).Nodup → ∃ nn', rdTagN l.length acc ⟨l.flatMap tagW ++ r, false, nn⟩ = (acc ++ l, ⟨r, false, nn'⟩)
  | [], acc, r, nn, _, _ => ⟨nn, by simp [rdTagN]⟩
  | x :: l, acc, r, nn, h, hn => by
    have hnew : ∀ y ∈ acc, y.1 ≠ x.1 := by
      intro y hy he
      rw [List.map_append, List.nodup_append] at hn
      exact hn.2.2 _ (List.mem_map.2 ⟨y, hy, rfl⟩) _ (List.mem_map.2 ⟨x, List.mem_cons_self, rfl⟩) he
    obtain ⟨n1, e1⟩ := rd_tag x (h x List.mem_cons_self) acc hnew (l.flatMap tagW ++ r) nn
    obtain ⟨n2, e2⟩ := rd_tagN l (acc ++ [x]) r n1 (fun y hy => h y (List.mem_cons_of_mem _ hy)) (by simpa using hn)
    refine ⟨n2, ?_⟩
    simp only [List.flatMap_cons, List.append_assoc, List.length_cons, rdTagN]
    rw [e1]
    simp only
    rw [e2]
    simp
theorem rd_tags (l : TagL) (h : tagsOk l) (r : List UInt8) (nn : Bool) : ∃ nn', rdTags ⟨uvOut (l.length % 4294967296) ++ tagsOut l ++ r, false, nn⟩ = (sortTags l, ⟨r, false, nn'⟩) := by
  obtain ⟨h1, h2, h3⟩ := h
  have e : l.length % 4294967296 = (sortTags l).length := by rw [sortTags_len]; omega
  obtain ⟨n1, e1⟩ := rd_tagN (sortTags l) [] r true (fun x hx => h3 x ((sortTags_mem l x).1 hx)) (by simpa using sortTags_nodup l h2)
  refine ⟨n1, ?_⟩
  simp only [rdTags, e, List.append_assoc]
  rw [rdUv_out (by rw [sortTags_len]; omega)]
  have e2 : tagsOut l = (sortTags l).flatMap tagW := rfl
  rw [e2]
  simpa using e1
theorem tagsOk_sort {l : TagL} (h : tagsOk l) : tagsOk (sortTags l) := ⟨by rw [sortTags_len]; exact h.1, sortTags_nodup l h.2.1, fun x hx => h.2.2 x ((sortTags_mem l x).1 hx)⟩
theorem tagsOut_sort (l : TagL) : tagsOut (sortTags l) = tagsOut l := by simp only [tagsOut, sortTags_of_sorted _ (sortTags_sorted l)]
theorem rd_N {α : Type} {f : RS → Option (α × RS)} {g : α → List UInt8} {W T : α → Prop} (hf : ∀ x, W x → ∀ r nn, ∃ y nn', f ⟨g x ++ r, false, nn⟩ = some (y, ⟨r, false, nn'⟩) ∧ g y = g x ∧ T y) :
    ∀ (l : List α) (r : List UInt8) (nn : Bool), (∀ x ∈ l, W x) → ∃ ys nn', rdN f l.length ⟨l.flatMap g ++ r, false, nn⟩ = some (ys, ⟨r, false, nn'⟩) ∧ ys.length = l.length ∧ ys.flatMap g = l.flatMap g ∧ ∀ y ∈ ys, T y
  | [], r, nn, _ => ⟨[], nn, by simp [rdN], rfl, rfl, by simp⟩
  | x :: l, r, nn, h => by
    obtain ⟨y, n1, e1, e2, e3⟩ := hf x (h x List.mem_cons_self) (l.flatMap g ++ r) nn
    obtain ⟨ys, n2, a1, a2, a3, a4⟩ := rd_N hf l r n1 (fun x hx => h x (List.mem_cons_of_mem _ hx))
    refine ⟨y :: ys, n2, ?_, by simp [a2], by simp [e2, a3], ?_⟩
    · simp only [List.flatMap_cons, List.append_assoc, List.length_cons, rdN, e1, a1]
    · intro z hz
      rcases List.mem_cons.1 hz with rfl | hz
      · exact e3
      · exact a4 z hz
def arrWf {α : Type} (nul : Option Nat) (ver : Int) (a : Option (List α)) : Prop := (a.getD []).length ≤ 32767 ∧ ∀ m : Nat, nul = some m → ver < (m : Int) → a ≠ none
theorem flat_len {α : Type} {g : α → List UInt8} : ∀ l : List α, (∀ x ∈ l, 1 ≤ (g x).length) → l.length ≤ (l.flatMap g).length
  | [], _ => by simp
  | x :: l, h => by
    have := h x List.mem_cons_self
    have := flat_len l (fun y hy => h y (List.mem_cons_of_mem _ hy))
    simp only [List.length_cons, List.flatMap_cons, List.length_append]; omega
theorem lenRd_W {nul : Option Nat} {fl nil : Bool} {n : Nat} {r : List UInt8} {nn : Bool} (hn : n ≤ 32767) (hr : n ≤ r.length) : lenRd fl ⟨lenW nul fl n nil ++ r, false, nn⟩ = ((if nul.isSome = true ∧ nil = true then (-1 : Int) else (n : Int)), (⟨r, false, true⟩ : RS)) := by
  have cap : capLen (n : Int) ⟨r, false, true⟩ = ((n : Int), ⟨r, false, true⟩) := by
    simp only [capLen]; rw [if_neg (by omega)]
  have capm : capLen (-1) ⟨r, false, true⟩ = (-1, ⟨r, false, true⟩) := by
    simp only [capLen]; rw [if_neg (by omega)]
  have eL : rdLen ⟨wLen n ++ r, false, nn⟩ = ((n : Int), ⟨r, false, true⟩) := by
    simp only [rdLen, wLen]
    rw [rdFixed_bigE]
    simp only [i32_len (n := n) (by omega)]
    exact cap
  have eC : rdCLen ⟨wCLen n ++ r, false, nn⟩ = ((n : Int), ⟨r, false, true⟩) := by
    simp only [rdCLen, wCLen]
    rw [u_len (by omega), rdUv_out (by omega)]
    have : IntKind.i32.wrap (i32 (n + 1) - 1) = n := by simp [i32, IntKind.wrap, IntKind.signed, IntKind.bits]; omega
    simp only [this]
    exact cap
  cases nul with
  | none => cases fl <;> simp only [lenRd, lenW, Bool.false_eq_true, if_false, if_true, Option.isSome_none, false_and] <;> assumption
  | some m =>
    cases nil
    · cases fl <;> simp only [lenRd, lenW, wNLen, wCNLen, Bool.false_eq_true, if_false, if_true, and_false] <;> assumption
    · cases fl
      · simp only [lenRd, lenW, wNLen, Bool.false_eq_true, if_false, if_true, Option.isSome_some, and_self, rdLen]
        rw [rdFixed_bigE]
        exact capm
      · simp only [lenRd, lenW, wCNLen, if_true, Option.isSome_some, and_self, rdCLen]
        rw [rdUv_out (by omega)]
        exact capm
theorem rd_arr {α : Type} {f : RS → Option (α × RS)} {g : α → List UInt8} {W T : α → Prop} (hf : ∀ x, W x → ∀ r nn, ∃ y nn', f ⟨g x ++ r, false, nn⟩ = some (y, ⟨r, false, nn'⟩) ∧ g y = g x ∧ T y) (hp : ∀ x, W x → 1 ≤ (g x).length)
    {nul : Option Nat} {ver : Int} {fl : Bool} (a : Option (List α)) (ha : arrWf nul ver a) (hW : ∀ x ∈ a.getD [], W x) (r : List UInt8) (nn : Bool) :
    ∃ b nn', arrRd nul ver fl f ⟨lenW nul fl (a.getD []).length a.isNone ++ (a.getD []).flatMap g ++ r, false, nn⟩ = some (b, ⟨r, false, nn'⟩) ∧
      lenW nul fl (b.getD []).length b.isNone ++ (b.getD []).flatMap g = lenW nul fl (a.getD []).length a.isNone ++ (a.getD []).flatMap g ∧ ∀ y ∈ b.getD [], T y := by
  have hfl := flat_len (g := g) (a.getD []) (fun x hx => hp x (hW x hx))
  have e0 := lenRd_W (nul := nul) (fl := fl) (nil := a.isNone) (r := (a.getD []).flatMap g ++ r) (nn := nn) ha.1 (by simp only [List.length_append]; omega)
  rw [List.append_assoc]
  simp only [arrRd, e0]
  by_cases h0 : (a.getD []).length = 0
  · have hnil : a.getD [] = [] := List.length_eq_zero_iff.1 h0
    have hle : ¬ (0 : Int) < (if nul.isSome = true ∧ a.isNone = true then (-1 : Int) else ((a.getD []).length : Int)) := by rw [h0]; split <;> simp
    rw [if_neg (by simp), if_neg hle]
    refine ⟨_, true, by simp only [hnil]; rfl, ?_, ?_⟩
    · cases nul with
      | none => simp [emptyOf, hnil, lenW]
      | some m =>
        cases a with
        | none =>
          have := ha.2 m rfl
          have hv : ¬ ver < (m : Int) := fun h => this h rfl
          simp [emptyOf, hv]
        | some l =>
          have : l = [] := hnil
          subst this
          simp [emptyOf]
    · cases nul with
      | none => simp [emptyOf]
      | some m => intro y hy; exfalso; revert hy; simp only [emptyOf]; split <;> split <;> simp_all
  · have hs : a.isNone = false := by cases a <;> simp_all
    obtain ⟨ys, n1, a1, a2, a3, a4⟩ := rd_N hf (a.getD []) r true hW
    have hpos : (0 : Int) < ((a.getD []).length : Int) := by omega
    simp only [hs, Bool.false_eq_true, and_false, if_false, Int.toNat_natCast, a1]
    rw [if_pos hpos]
    exact ⟨some ys, n1, rfl, by simp [a2, a3], a4⟩
def Sch.pos (ver : Int) (fl : Bool) : Sch → Bool
  | .fin => false
  | .tags _ _ => fl
  | .prim g _ _ _ _ _ rest => g.on ver || rest.pos ver fl
  | .arrP g _ _ _ _ _ rest => g.on ver || rest.pos ver fl
  | .arrS g _ _ _ _ _ _ _ _ _ rest => g.on ver || rest.pos ver fl
  | .sub g _ _ _ _ _ _ e rest => (g.on ver && e.pos ver fl) || rest.pos ver fl
  | .opt g _ _ _ _ _ _ _ _ rest => g.on ver || rest.pos ver fl
  | .cus c => c.pos ver fl
def Sch.posE (ver : Int) (fl : Bool) : Sch → Bool
  | .fin => true
  | .tags _ _ => true
  | .prim _ _ _ _ _ _ rest => rest.posE ver fl
  | .arrP _ _ _ _ _ _ rest => rest.posE ver fl
  | .arrS g _ _ _ _ _ _ _ _ e rest => (!g.on ver || (e.pos ver fl && e.posE ver fl)) && rest.posE ver fl
  | .sub g _ _ _ _ _ _ e rest => (!g.on ver || e.posE ver fl) && rest.posE ver fl
  | .opt g _ _ _ _ _ _ _ e rest => (!g.on ver || e.posE ver fl) && rest.posE ver fl
  | .cus c => c.posE ver fl
def Sch.wf (ver : Int) (fl : Bool) : (S : Sch) → S.T → Prop
  | .fin, _ => True
  | .tags _ _, l => fl = true → tagsOk l
  | .prim g _ _ p _ _ rest, (x, r) => (g.on ver = true → p.wf x) ∧ rest.wf ver fl r
  | .arrP g _ _ _ nul p rest, (a, r) => (g.on ver = true → arrWf nul ver a ∧ ∀ x ∈ a.getD [], p.wf x) ∧ rest.wf ver fl r
  | .arrS g _ _ _ nul _ _ _ _ e rest, (a, r) => (g.on ver = true → arrWf nul ver a ∧ ∀ x ∈ a.getD [], e.wf ver fl x) ∧ rest.wf ver fl r
  | .sub g _ _ _ _ _ _ e rest, (x, r) => (g.on ver = true → e.wf ver fl x) ∧ rest.wf ver fl r
  | .opt g _ _ _ _ _ _ _ e rest, (a, r) => (g.on ver = true → ∀ x, a = some x → e.wf ver fl x) ∧ rest.wf ver fl r
  | .cus c, x => c.wf ver fl x
theorem wStr_pos (x : List UInt8) : 1 ≤ (wStr x).length := by simp [wStr]; omega
theorem wCStr_pos (x : List UInt8) : 1 ≤ (wCStr x).length := by simp only [wCStr, List.length_append, uvOut]; have := @uvE_pos 4 ((List.length x + 1) % 4294967296); omega
theorem wBytes_pos (x : List UInt8) : 1 ≤ (wBytes x).length := by simp [wBytes]; omega
theorem wCBytes_pos (x : List UInt8) : 1 ≤ (wCBytes x).length := by simp only [wCBytes, List.length_append, uvOut]; have := @uvE_pos 4 ((List.length x + 1) % 4294967296); omega
theorem tags_sort (l : TagL) : uvOut ((sortTags l).length % 4294967296) ++ tagsOut (sortTags l) = uvOut (l.length % 4294967296) ++ tagsOut l := by rw [sortTags_len, tagsOut_sort]
theorem prim_pos (p : Prim) (fl : Bool) (x : p.T) (h : p.wf x) : 1 ≤ (p.wr fl x).length := by
  cases p with
  | uuid => have hx : (x : List UInt8).length = 16 := h; simp only [Prim.wr]; rw [show (x : List UInt8).length = 16 from hx]; omega
  | str =>
    cases fl
    · exact wStr_pos x
    · exact wCStr_pos x
  | bytes =>
    cases fl
    · exact wBytes_pos x
    · exact wCBytes_pos x
  | nstr =>
    cases hx : (show Option (List UInt8) from x) with
    | none =>
      have hx' : x = (none : Option (List UInt8)) := hx
      subst hx'
      cases fl <;> simp [Prim.wr, wNStr, wCNStr, uvOut]
      exact uvE_pos
    | some l =>
      have hx' : x = some l := hx
      subst hx'
      cases fl <;> simp [Prim.wr, wNStr, wCNStr, wStr, wCStr, uvOut] <;> first | omega | (have := @uvE_pos 4 ((l.length + 1) % 4294967296); omega)
  | nbytes =>
    cases hx : (show Option (List UInt8) from x) with
    | none =>
      have hx' : x = (none : Option (List UInt8)) := hx
      subst hx'
      cases fl <;> simp [Prim.wr, wNBytes, wCNBytes, uvOut]
      exact uvE_pos
    | some l =>
      have hx' : x = some l := hx
      subst hx'
      cases fl <;> simp [Prim.wr, wNBytes, wCNBytes, wBytes, wCBytes, uvOut] <;> first | omega | (have := @uvE_pos 4 ((l.length + 1) % 4294967296); omega)
  | _ => simp [Prim.wr, num]
theorem lenW_pos (nul : Option Nat) (fl : Bool) (n : Nat) (nil : Bool) : 1 ≤ (lenW nul fl n nil).length := by
  have h1 : 1 ≤ (wLen n).length := by simp [wLen]
  have h2 : 1 ≤ (wCLen n).length := by simp only [wCLen, uvOut]; exact uvE_pos
  have h3 : 1 ≤ (wNLen n nil).length := by simp only [wNLen]; split <;> simp [wLen]
  have h4 : 1 ≤ (wCNLen n nil).length := by simp only [wCNLen]; split; exact uvE_pos; exact h2
  cases nul <;> simp only [lenW] <;> split <;> assumption
theorem sch_pos (ver : Int) (fl : Bool) : ∀ (S : Sch) (x : S.T), S.pos ver fl = true → S.wf ver fl x → 1 ≤ (S.wr ver fl x).length := by
  intro S
  induction S with
  | fin => intro x h; cases h
  | tags k o =>
    intro x h _
    have h' : fl = true := h
    simp only [Sch.wr, if_pos h', List.length_append, uvOut]
    have := @uvE_pos 4 (List.length x % 4294967296)
    omega
  | prim g k o p en d rest ih =>
    rintro ⟨x, r⟩ h ⟨h1, h2⟩
    simp only [Sch.pos, Bool.or_eq_true] at h
    simp only [Sch.wr, List.length_append]
    rcases h with h | h
    · rw [if_pos h]
      have := prim_pos p fl x (h1 h)
      omega
    · have := ih r h h2; omega
  | arrP g k o sT nul p rest ih =>
    rintro ⟨a, r⟩ h ⟨h1, h2⟩
    simp only [Sch.pos, Bool.or_eq_true] at h
    simp only [Sch.wr, List.length_append]
    rcases h with h | h
    · rw [if_pos h, List.length_append]
      have := lenW_pos nul fl (a.getD []).length a.isNone
      omega
    · have := ih r h h2; omega
  | arrS g k o sT nul T PT sz df e rest ihe ih =>
    rintro ⟨a, r⟩ h ⟨h1, h2⟩
    simp only [Sch.pos, Bool.or_eq_true] at h
    simp only [Sch.wr, List.length_append]
    rcases h with h | h
    · rw [if_pos h, List.length_append]
      have := lenW_pos nul fl (a.getD []).length a.isNone
      omega
    · have := ih r h h2; omega
  | sub g k o T PT sz df e rest ihe ih =>
    rintro ⟨x, r⟩ h ⟨h1, h2⟩
    simp only [Sch.pos, Bool.or_eq_true, Bool.and_eq_true] at h
    simp only [Sch.wr, List.length_append]
    rcases h with h | h
    · rw [if_pos h.1]
      have := ihe x h.2 (h1 h.1)
      omega
    · have := ih r h h2; omega
  | opt g k o T PT PP sz df e rest ihe ih =>
    rintro ⟨a, r⟩ h ⟨h1, h2⟩
    simp only [Sch.pos, Bool.or_eq_true] at h
    simp only [Sch.wr, List.length_append]
    rcases h with h | h
    · rw [if_pos h]
      have : 1 ≤ (optW (e.wr ver fl) a).length := by cases a <;> simp [optW]
      omega
    · have := ih r h h2; omega
  | cus c => intro x h1 h2; exact c.pos_wr h1 h2
theorem Sch.TagsOk_mono {p q : TagL → Prop} (h : ∀ l, p l → q l) : ∀ (S : Sch) {x : S.T}, S.TagsOk p x → S.TagsOk q x := by
  intro S
  induction S with
  | fin => intro x _; trivial
  | tags k o => intro x hx; exact h _ hx
  | prim g k o p en d rest ih => intro x hx; exact ih hx
  | arrP g k o sT nul p rest ih => intro x hx; exact ih hx
  | arrS g k o sT nul T PT sz df e rest ihe ih => intro x hx; exact ⟨fun i y hy => ihe (hx.1 i y hy), ih hx.2⟩
  | sub g k o T PT sz df e rest ihe ih => intro x hx; exact ⟨ihe hx.1, ih hx.2⟩
  | opt g k o T PT PP sz df e rest ihe ih => intro x hx; exact ⟨fun y hy => ihe (hx.1 y hy), ih hx.2⟩
  | cus c => intro x hx; exact c.tags_mono h hx
theorem rd_opt {α : Type} {f : RS → Option (α × RS)} {g : α → List UInt8} {W T : α → Prop} (hf : ∀ x, W x → ∀ r nn, ∃ y nn', f ⟨g x ++ r, false, nn⟩ = some (y, ⟨r, false, nn'⟩) ∧ g y = g x ∧ T y) (a : Option α) (hW : ∀ x, a = some x → W x) (r : List UInt8) (nn : Bool) :
    ∃ b nn', optRd f ⟨optW g a ++ r, false, nn⟩ = some (b, ⟨r, false, nn'⟩) ∧ optW g b = optW g a ∧ ∀ y, b = some y → T y := by
  have w1 : ∀ n : Int, (-128 ≤ n ∧ n < 128) → Prim.wf .i8 n := fun n h => h
  cases a with
  | none =>
    obtain ⟨n1, e1⟩ := rd_prim .i8 false (-1 : Int) (w1 _ (by omega)) r nn
    have e0 : Prim.wr .i8 false (-1 : Int) = [255] := by decide
    rw [e0] at e1
    exact ⟨none, n1, by simp only [optRd, optW, e1]; rfl, rfl, fun y hy => by cases hy⟩
  | some x =>
    obtain ⟨n1, e1⟩ := rd_prim .i8 false (1 : Int) (w1 _ (by omega)) (g x ++ r) nn
    have e0 : Prim.wr .i8 false (1 : Int) = [1] := by decide
    rw [e0] at e1
    obtain ⟨y, n2, e2, e3, e4⟩ := hf x (hW x rfl) r n1
    have e1' : Prim.rd .i8 false ⟨optW g (some x) ++ r, false, nn⟩ = ((1 : Int), ⟨g x ++ r, false, n1⟩) := e1
    refine ⟨some y, n2, ?_, by simp only [optW, e3], fun z hz => by cases hz; exact e4⟩
    simp only [optRd, e1', e2, Bool.false_eq_true, if_false, Option.map_some]
    rw [if_neg (by decide)]
theorem rd_sch (ver : Int) (fl : Bool) : ∀ (S : Sch) (x : S.T), S.posE ver fl = true → S.wf ver fl x → ∀ r nn, ∃ y nn', S.rd ver fl ⟨S.wr ver fl x ++ r, false, nn⟩ = some (y, ⟨r, false, nn'⟩) ∧ S.wr ver fl y = S.wr ver fl x ∧ S.TagsOk tagsOk y := by
  have ok0 : tagsOk [] := ⟨by simp, by simp, by simp⟩
  intro S
  induction S with
  | fin => intro x _ _ r nn; exact ⟨(), nn, rfl, rfl, trivial⟩
  | tags k o =>
    intro x _ h r nn
    cases fl
    · exact ⟨[], nn, rfl, by simp [Sch.wr], ok0⟩
    · obtain ⟨n1, e⟩ := rd_tags x (h rfl) r nn
      refine ⟨sortTags x, n1, ?_, ?_, tagsOk_sort (h rfl)⟩
      · exact congrArg some e
      · exact tags_sort x
  | prim g k o p en d rest ih =>
    rintro ⟨x, xr⟩ hp ⟨h1, h2⟩ r nn
    by_cases hg : g.on ver = true
    · obtain ⟨n1, e1⟩ := rd_prim p fl x (h1 hg) (rest.wr ver fl xr ++ r) nn
      obtain ⟨y, n2, e2, e3, e4⟩ := ih xr hp h2 r n1
      refine ⟨(x, y), n2, ?_, ?_, e4⟩
      · simp only [Sch.rd, Sch.wr, if_pos hg, List.append_assoc, e1, e2]; rfl
      · simp only [Sch.wr, e3]
    · obtain ⟨y, n2, e2, e3, e4⟩ := ih xr hp h2 r nn
      refine ⟨(p.dfl d, y), n2, ?_, ?_, e4⟩
      · simp only [Sch.rd, Sch.wr, if_neg hg, List.nil_append, e2]; rfl
      · simp only [Sch.wr, if_neg hg, e3]
  | arrP g k o sT nul p rest ih =>
    rintro ⟨a, xr⟩ hp ⟨h1, h2⟩ r nn
    by_cases hg : g.on ver = true
    · obtain ⟨ha, hW⟩ := h1 hg
      obtain ⟨b, n1, e1, e1', _⟩ := rd_arr (f := fun rs => some (p.rd fl rs)) (g := p.wr fl) (W := p.wf) (T := fun _ => True) (fun x hx r nn => by
        obtain ⟨n', e⟩ := rd_prim p fl x hx r nn
        exact ⟨x, n', by rw [e], rfl, trivial⟩) (prim_pos p fl) (nul := nul) (ver := ver) (fl := fl) a ha hW (rest.wr ver fl xr ++ r) nn
      obtain ⟨y, n2, e2, e3, e4⟩ := ih xr hp h2 r n1
      refine ⟨(b, y), n2, ?_, ?_, e4⟩
      · rw [List.append_assoc] at e1
        simp only [Sch.rd, Sch.wr, if_pos hg, List.append_assoc, e1, e2]; rfl
      · simp only [Sch.wr, if_pos hg, e3, e1']
    · obtain ⟨y, n2, e2, e3, e4⟩ := ih xr hp h2 r nn
      refine ⟨(none, y), n2, ?_, ?_, e4⟩
      · simp only [Sch.rd, Sch.wr, if_neg hg, List.nil_append, e2]; rfl
      · simp only [Sch.wr, if_neg hg, e3]
  | arrS g k o sT nul T PT sz df e rest ihe ih =>
    rintro ⟨a, xr⟩ hp ⟨h1, h2⟩ r nn
    simp only [Sch.posE, Bool.and_eq_true, Bool.or_eq_true, Bool.not_eq_true'] at hp
    by_cases hg : g.on ver = true
    · obtain ⟨ha, hW⟩ := h1 hg
      have hpe : e.pos ver fl = true ∧ e.posE ver fl = true := by
        rcases hp.1 with h | h
        · rw [h] at hg; cases hg
        · exact h
      obtain ⟨b, n1, e1, e1', eT⟩ := rd_arr (f := e.rd ver fl) (g := e.wr ver fl) (W := e.wf ver fl) (T := e.TagsOk tagsOk) (fun x hx r nn => ihe x hpe.2 hx r nn) (fun x hx => sch_pos ver fl e x hpe.1 hx) (nul := nul) (ver := ver) (fl := fl) a ha hW (rest.wr ver fl xr ++ r) nn
      obtain ⟨y, n2, e2, e3, e4⟩ := ih xr hp.2 h2 r n1
      refine ⟨(b, y), n2, ?_, ?_, ?_, e4⟩
      · rw [List.append_assoc] at e1
        simp only [Sch.rd, Sch.wr, if_pos hg, List.append_assoc, e1, e2]; rfl
      · simp only [Sch.wr, if_pos hg, e3, e1']
      · intro i y hy
        exact eT y (List.mem_of_getElem? hy)
    · obtain ⟨y, n2, e2, e3, e4⟩ := ih xr hp.2 h2 r nn
      refine ⟨(none, y), n2, ?_, ?_, ?_, e4⟩
      · simp only [Sch.rd, Sch.wr, if_neg hg, List.nil_append, e2]; rfl
      · simp only [Sch.wr, if_neg hg, e3]
      · intro i y hy; simp at hy
  | sub g k o T PT sz df e rest ihe ih =>
    rintro ⟨x, xr⟩ hp ⟨h1, h2⟩ r nn
    simp only [Sch.posE, Bool.and_eq_true, Bool.or_eq_true, Bool.not_eq_true'] at hp
    by_cases hg : g.on ver = true
    · have hpe : e.posE ver fl = true := by
        rcases hp.1 with h | h
        · rw [h] at hg; cases hg
        · exact h
      obtain ⟨z, n1, e1, e1', eT⟩ := ihe x hpe (h1 hg) (rest.wr ver fl xr ++ r) nn
      obtain ⟨y, n2, e2, e3, e4⟩ := ih xr hp.2 h2 r n1
      refine ⟨(z, y), n2, ?_, ?_, eT, e4⟩
      · simp only [Sch.rd, Sch.wr, if_pos hg, List.append_assoc, e1, e2]; rfl
      · simp only [Sch.wr, if_pos hg, e3, e1']
    · obtain ⟨y, n2, e2, e3, e4⟩ := ih xr hp.2 h2 r nn
      refine ⟨(e.dfl, y), n2, ?_, ?_, Sch.TagsOk_mono (fun l h => by subst h; exact ok0) e e.tagsD, e4⟩
      · simp only [Sch.rd, Sch.wr, if_neg hg, List.nil_append, e2]; rfl
      · simp only [Sch.wr, if_neg hg, e3]
  | opt g k o T PT PP sz df e rest ihe ih =>
    rintro ⟨a, xr⟩ hp ⟨h1, h2⟩ r nn
    simp only [Sch.posE, Bool.and_eq_true, Bool.or_eq_true, Bool.not_eq_true'] at hp
    by_cases hg : g.on ver = true
    · have hpe : e.posE ver fl = true := by
        rcases hp.1 with h | h
        · rw [h] at hg; cases hg
        · exact h
      obtain ⟨b, n1, e1, e1', eT⟩ := rd_opt (f := e.rd ver fl) (g := e.wr ver fl) (W := e.wf ver fl) (T := e.TagsOk tagsOk) (fun x hx r nn => ihe x hpe hx r nn) a (h1 hg) (rest.wr ver fl xr ++ r) nn
      obtain ⟨y, n2, e2, e3, e4⟩ := ih xr hp.2 h2 r n1
      refine ⟨(b, y), n2, ?_, ?_, eT, e4⟩
      · simp only [Sch.rd, Sch.wr, if_pos hg, List.append_assoc, e1, e2]; rfl
      · simp only [Sch.wr, if_pos hg, e3, e1']
    · obtain ⟨y, n2, e2, e3, e4⟩ := ih xr hp.2 h2 r nn
      refine ⟨(none, y), n2, ?_, ?_, fun x hx => (by cases hx), e4⟩
      · simp only [Sch.rd, Sch.wr, if_neg hg, List.nil_append, e2]; rfl
      · simp only [Sch.wr, if_neg hg, e3]
  | cus c => intro x h1 h2 r nn; exact c.rd_wr h1 h2 r nn
end Go.Kg

set_option linter.unusedSimpArgs false
set_option linter.unusedVariables false
set_option linter.unusedSectionVars false
namespace Go.Kg
open Go
theorem fixed_any {k : Nat} {rs : RS} (h : (rdFixed k rs).2.bad = false) : (rdFixed k rs).2.src.length + k = rs.src.length ∧ (rdFixed k rs).1 < 256 ^ k ∧ (rdFixed k rs).2.bad = rs.bad ∧ (rdFixed k rs).2.nn = true := by
  unfold rdFixed at h ⊢
  split at h
  · cases h
  · rename_i hl
    rw [if_neg hl]
    exact ⟨by simp; omega, be_take_lt _ _, rfl, rfl⟩
theorem uv_any {rs : RS} (h : (rdUv rs).2.bad = false) : (uvOut (rdUv rs).1).length + (rdUv rs).2.src.length ≤ rs.src.length ∧ (rdUv rs).1 < 4294967296 ∧ (rdUv rs).2.nn = true := by
  have hlt := rdUv_lt rs
  refine ⟨?_, hlt, ?_⟩
  · unfold rdUv at h ⊢
    split at h
    · rename_i n r e
      exact uvE_le e
    · cases h
  · unfold rdUv at h ⊢
    split at h
    · rfl
    · cases h
theorem span_any {l : Int} {rs : RS} (h : (rdSpan l rs).2.bad = false) : 0 ≤ l ∧ ((rdSpan l rs).1.length : Int) = l ∧ (rdSpan l rs).1.length + (rdSpan l rs).2.src.length = rs.src.length ∧ (rdSpan l rs).2.nn = rs.nn := by
  unfold rdSpan at h ⊢
  split at h
  · cases h
  · rename_i hl
    rw [if_neg hl]
    refine ⟨by omega, ?_, ?_, rfl⟩
    · simp; omega
    · simp; omega
theorem cap_any {n : Int} {rs : RS} (h : (capLen n rs).2.bad = false) : (capLen n rs).1 = n ∧ (capLen n rs).2 = rs ∧ n ≤ rs.src.length := by
  unfold capLen at h ⊢
  split at h
  · cases h
  · rename_i hl
    rw [if_neg hl]
    exact ⟨rfl, rfl, by omega⟩
/-- what reading p leaves -/
def AnyP (p : Prim) (fl : Bool) (rs : RS) : Prop := (p.rd fl rs).2.bad = false → rs.src.length ≤ 32767 → p.wf (p.rd fl rs).1 ∧ (p.wr fl (p.rd fl rs).1).length + (p.rd fl rs).2.src.length ≤ rs.src.length
theorem str_any {rs : RS} (h : (rdStr rs).2.bad = false) (hs : rs.src.length ≤ 32767) : (rdStr rs).1.length ≤ 32767 ∧ (wStr (rdStr rs).1).length + (rdStr rs).2.src.length ≤ rs.src.length := by
  obtain ⟨h1, h2, h3, h4⟩ := span_any h
  have hb : (rdFixed 2 rs).2.bad = false := by
    cases hx : (rdFixed 2 rs).2.bad
    · rfl
    · have := (good_span (i16 (rdFixed 2 rs).1)).bad _ hx
      rw [show rdSpan (i16 (rdFixed 2 rs).1) (rdFixed 2 rs).2 = rdStr rs from rfl, h] at this; cases this
  have h5 := (fixed_any hb).1
  change (rdStr rs).1.length + (rdStr rs).2.src.length = _ at h3
  refine ⟨by omega, ?_⟩
  simp only [wStr, List.length_append, bigE_length]
  omega
theorem cstr_any {rs : RS} (h : (rdCStr rs).2.bad = false) (hs : rs.src.length ≤ 32767) : (rdCStr rs).1.length ≤ 32767 ∧ (wCStr (rdCStr rs).1).length + (rdCStr rs).2.src.length ≤ rs.src.length := by
  obtain ⟨h1, h2, h3, h4⟩ := span_any h
  have hb : (rdUv rs).2.bad = false := by
    cases hx : (rdUv rs).2.bad
    · rfl
    · have := (good_span ((rdUv rs).1 - 1)).bad _ hx
      rw [show rdSpan (((rdUv rs).1 : Int) - 1) (rdUv rs).2 = rdCStr rs from rfl, h] at this; cases this
  obtain ⟨h5, h6, _⟩ := uv_any hb
  change (rdCStr rs).1.length + (rdCStr rs).2.src.length = _ at h3
  change ((rdCStr rs).1.length : Int) = _ at h2
  refine ⟨by omega, ?_⟩
  have e : ((rdCStr rs).1.length + 1) % 4294967296 = (rdUv rs).1 := by omega
  simp only [wCStr, List.length_append, e]
  omega
theorem nstr_any {rs : RS} (h : (rdNStr rs).2.bad = false) (hs : rs.src.length ≤ 32767) : ((rdNStr rs).1.getD []).length ≤ 32767 ∧ (wNStr (rdNStr rs).1).length + (rdNStr rs).2.src.length ≤ rs.src.length := by
  unfold rdNStr at h ⊢
  by_cases hn : i16 (rdFixed 2 rs).1 < 0
  · simp only [if_pos hn] at h ⊢
    have := (fixed_any h).1
    simp [wNStr]; omega
  · simp only [if_neg hn] at h ⊢
    exact str_any h hs
theorem cnstr_any {rs : RS} (h : (rdCNStr rs).2.bad = false) (hs : rs.src.length ≤ 32767) : ((rdCNStr rs).1.getD []).length ≤ 32767 ∧ (wCNStr (rdCNStr rs).1).length + (rdCNStr rs).2.src.length ≤ rs.src.length := by
  unfold rdCNStr at h ⊢
  by_cases hn : ((rdUv rs).1 : Int) - 1 < 0
  · simp only [if_pos hn] at h ⊢
    have h1 := (uv_any h).1
    have h2 := uvE_mono (k := 4) (Nat.zero_le (rdUv rs).1)
    refine ⟨by simp, ?_⟩
    simp only [wCNStr]
    have h3 : (uvOut 0).length ≤ (uvOut (rdUv rs).1).length := h2
    omega
  · simp only [if_neg hn] at h ⊢
    exact cstr_any h hs
theorem bytes_any {rs : RS} (h : (rdBytes rs).2.bad = false) (hs : rs.src.length ≤ 32767) : (rdBytes rs).1.length ≤ 32767 ∧ (wBytes (rdBytes rs).1).length + (rdBytes rs).2.src.length ≤ rs.src.length := by
  unfold rdBytes at h ⊢
  by_cases hn : i32 (rdFixed 4 rs).1 = -1
  · simp only [if_pos hn] at h ⊢
    have := (fixed_any h).1
    simp [wBytes]; omega
  · simp only [if_neg hn] at h ⊢
    obtain ⟨h1, h2, h3, h4⟩ := span_any h
    have hb : (rdFixed 4 rs).2.bad = false := by
      cases hx : (rdFixed 4 rs).2.bad
      · rfl
      · have := (good_span (i32 (rdFixed 4 rs).1)).bad _ hx
        rw [h] at this; cases this
    have h5 := (fixed_any hb).1
    refine ⟨by omega, ?_⟩
    simp only [wBytes, List.length_append, bigE_length]
    omega
theorem cbytes_any {rs : RS} (h : (rdCBytes rs).2.bad = false) (hs : rs.src.length ≤ 32767) : (rdCBytes rs).1.length ≤ 32767 ∧ (wCBytes (rdCBytes rs).1).length + (rdCBytes rs).2.src.length ≤ rs.src.length := by
  unfold rdCBytes at h ⊢
  by_cases hn : (rdUv rs).1 = 0
  · simp only [if_pos hn] at h ⊢
    have h1 := (uv_any h).1
    have h3 : (uvOut 1).length = 1 := by decide
    have h4 : 1 ≤ (uvOut (rdUv rs).1).length := uvE_pos
    refine ⟨by simp, ?_⟩
    simp only [wCBytes, List.length_append, List.length_nil]
    have e : (0 + 1) % 4294967296 = 1 := rfl
    rw [e]
    omega
  · simp only [if_neg hn] at h ⊢
    obtain ⟨h1, h2, h3, h4⟩ := span_any h
    have hb : (rdUv rs).2.bad = false := by
      cases hx : (rdUv rs).2.bad
      · rfl
      · have := (good_span ((rdUv rs).1 - 1)).bad _ hx
        rw [h] at this; cases this
    obtain ⟨h5, h6, _⟩ := uv_any hb
    refine ⟨by omega, ?_⟩
    have e : ((rdSpan ((rdUv rs).1 - 1) (rdUv rs).2).1.length + 1) % 4294967296 = (rdUv rs).1 := by omega
    simp only [wCBytes, List.length_append, e]
    omega
theorem nbytes_any {rs : RS} (h : (rdNBytes rs).2.bad = false) (hs : rs.src.length ≤ 32767) : ((rdNBytes rs).1.getD []).length ≤ 32767 ∧ (wNBytes (rdNBytes rs).1).length + (rdNBytes rs).2.src.length ≤ rs.src.length := by
  unfold rdNBytes at h ⊢
  by_cases hn : i32 (rdFixed 4 rs).1 < 0
  · simp only [if_pos hn] at h ⊢
    have := (fixed_any h).1
    simp [wNBytes]; omega
  · simp only [if_neg hn] at h ⊢
    have h' : (rdSpan (i32 (rdFixed 4 rs).1) (rdFixed 4 rs).2).2.bad = false := h
    obtain ⟨h1, h2, h3, h4⟩ := span_any h'
    have hb : (rdFixed 4 rs).2.bad = false := by
      cases hx : (rdFixed 4 rs).2.bad
      · rfl
      · have := (good_span (i32 (rdFixed 4 rs).1)).bad _ hx
        rw [h'] at this; cases this
    obtain ⟨h5, _, _, h6⟩ := fixed_any hb
    simp only [optOf, h4, h6, if_true, Option.getD_some, wNBytes, wBytes, List.length_append, bigE_length]
    omega
theorem cnbytes_any {rs : RS} (h : (rdCNBytes rs).2.bad = false) (hs : rs.src.length ≤ 32767) : ((rdCNBytes rs).1.getD []).length ≤ 32767 ∧ (wCNBytes (rdCNBytes rs).1).length + (rdCNBytes rs).2.src.length ≤ rs.src.length := by
  unfold rdCNBytes at h ⊢
  by_cases hn : ((rdUv rs).1 : Int) - 1 < 0
  · simp only [if_pos hn] at h ⊢
    have h1 := (uv_any h).1
    have h3 : (uvOut 0).length ≤ (uvOut (rdUv rs).1).length := uvE_mono (k := 4) (Nat.zero_le (rdUv rs).1)
    refine ⟨by simp, ?_⟩
    simp only [wCNBytes]
    omega
  · simp only [if_neg hn] at h ⊢
    have h' : (rdSpan ((rdUv rs).1 - 1) (rdUv rs).2).2.bad = false := h
    obtain ⟨h1, h2, h3, h4⟩ := span_any h'
    have hb : (rdUv rs).2.bad = false := by
      cases hx : (rdUv rs).2.bad
      · rfl
      · have := (good_span ((rdUv rs).1 - 1)).bad _ hx
        rw [h'] at this; cases this
    obtain ⟨h5, h6, h7⟩ := uv_any hb
    have e : ((rdSpan ((rdUv rs).1 - 1) (rdUv rs).2).1.length + 1) % 4294967296 = (rdUv rs).1 := by omega
    simp only [optOf, h4, h7, if_true, Option.getD_some, wCNBytes, wCBytes, List.length_append, e]
    omega
theorem any_prim (p : Prim) (fl : Bool) (rs : RS) : AnyP p fl rs := by
  intro h hs
  cases p with
  | bool =>
    have h1 := (fixed_any (k := 1) h).1
    exact ⟨trivial, by show 1 + (rdFixed 1 rs).2.src.length ≤ _; omega⟩
  | i8 =>
    have h1 := (fixed_any (k := 1) h).1
    refine ⟨?_, by show 1 + (rdFixed 1 rs).2.src.length ≤ _; omega⟩
    show -128 ≤ IntKind.i8.wrap (rdFixed 1 rs).1 ∧ IntKind.i8.wrap (rdFixed 1 rs).1 < 128
    simp [IntKind.wrap, IntKind.signed, IntKind.bits]; omega
  | i16 =>
    have h1 := (fixed_any (k := 2) h).1
    refine ⟨?_, by show (num 2 _).length + (rdFixed 2 rs).2.src.length ≤ _; simp [num]; omega⟩
    show -32768 ≤ IntKind.i16.wrap (rdFixed 2 rs).1 ∧ IntKind.i16.wrap (rdFixed 2 rs).1 < 32768
    simp [IntKind.wrap, IntKind.signed, IntKind.bits]; omega
  | u16 =>
    obtain ⟨h1, h2, _⟩ := fixed_any (k := 2) h
    refine ⟨?_, by show (num 2 _).length + (rdFixed 2 rs).2.src.length ≤ _; simp [num]; omega⟩
    show 0 ≤ ((rdFixed 2 rs).1 : Int) ∧ ((rdFixed 2 rs).1 : Int) < 65536
    omega
  | i32 =>
    have h1 := (fixed_any (k := 4) h).1
    refine ⟨?_, by show (num 4 _).length + (rdFixed 4 rs).2.src.length ≤ _; simp [num]; omega⟩
    show -2147483648 ≤ IntKind.i32.wrap (rdFixed 4 rs).1 ∧ IntKind.i32.wrap (rdFixed 4 rs).1 < 2147483648
    simp [IntKind.wrap, IntKind.signed, IntKind.bits]; omega
  | i64 =>
    have h1 := (fixed_any (k := 8) h).1
    refine ⟨?_, by show (num 8 _).length + (rdFixed 8 rs).2.src.length ≤ _; simp [num]; omega⟩
    show -9223372036854775808 ≤ IntKind.i64.wrap (rdFixed 8 rs).1 ∧ IntKind.i64.wrap (rdFixed 8 rs).1 < 9223372036854775808
    simp [IntKind.wrap, IntKind.signed, IntKind.bits]; omega
  | uuid =>
    obtain ⟨h1, h2, h3, h4⟩ := span_any (l := 16) h
    have h16 : (rdSpan 16 rs).1.length = 16 := by omega
    have e : (rdUuid rs).1 = (rdSpan 16 rs).1 := by simp only [rdUuid, h16, if_true]
    refine ⟨?_, ?_⟩
    · show (rdUuid rs).1.length = 16; rw [e]; exact h16
    · show (rdUuid rs).1.length + (rdSpan 16 rs).2.src.length ≤ _; rw [e]; omega
  | str => cases fl; exact str_any h hs; exact cstr_any h hs
  | nstr => cases fl; exact nstr_any h hs; exact cnstr_any h hs
  | bytes => cases fl; exact bytes_any h hs; exact cbytes_any h hs
  | nbytes => cases fl; exact nbytes_any h hs; exact cnbytes_any h hs
end Go.Kg
