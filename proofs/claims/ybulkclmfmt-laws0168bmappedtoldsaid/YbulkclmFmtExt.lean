import Derived.Test.YbulkclmFmtStr
namespace Go.Proofs.YbulkclmFmt
open Go.ChangeShapes Go.WideShapes Go.ChangeAt Go.RowKit
set_option linter.unusedVariables false

theorem andNot7 (x : Nat) (hx : x < 4611686018427387904) : bits .andNot .i64 (x : Int) 7 = ((x / 8 * 8 : Nat) : Int) := by
  have h1 : (BitVec.ofInt 64 (x : Int)).toNat = x := by
    rw [BitVec.ofInt_natCast, BitVec.toNat_ofNat]; exact Nat.mod_eq_of_lt (by omega)
  have h2 : (~~~ (BitVec.ofInt 64 7)).toNat = (2 ^ 61 - 1) <<< 3 := by decide
  have h3 : x &&& ((2 ^ 61 - 1) <<< 3) = x / 8 * 8 := by
    rw [show x / 8 * 8 = (x >>> 3) <<< 3 by rw [Nat.shiftRight_eq_div_pow, Nat.shiftLeft_eq]]
    apply Nat.eq_of_testBit_eq
    intro i
    rw [Nat.testBit_and, Nat.testBit_shiftLeft, Nat.testBit_shiftLeft, Nat.testBit_shiftRight, Nat.testBit_two_pow_sub_one]
    by_cases hi : 3 ≤ i
    · by_cases hj : i - 3 < 61
      · simp [hi, hj, show 3 + (i - 3) = i by omega]
      · have : x.testBit i = false := Nat.testBit_lt_two_pow (Nat.lt_of_lt_of_le (show x < 2 ^ 62 by omega) (Nat.pow_le_pow_right (by omega) (by omega)))
        simp [this, hj, show 3 + (i - 3) = i by omega]
    · simp [hi]
  show IntKind.i64.wrap (((BitVec.ofInt 64 (x : Int)) &&& ~~~ (BitVec.ofInt 64 7)).toNat : Int) = _
  rw [BitVec.toNat_and, h1, h2, h3, IntKind.wrap_i64]
  omega

theorem run37 (a : Addr) (x : Int) (w : World) (h : w.cell? a = some (.int .u32 x)) : (callFunc 37 #[.pointer (some a)]).run Ybaf.prog w = .ok (.value (.int .u32 x)) w := by
  have e1 : Extern.findNext Ybaf.f37 = none := by kernel_rfl
  have e2 : Extern.find Ybaf.f37 = some (Extern.Atomic.loadT (.int .u32)) := by kernel_rfl
  have e3 : (Ybaf.f37.name == "runtime.NumGoroutine") = false := by kernel_rfl
  have e3' : ¬ Ybaf.f37.name = "runtime.NumGoroutine" := by simpa using e3
  have e4 : Ybaf.f37.body.isNone = true := by kernel_rfl
  have e4' : Ybaf.f37.body = none := by simpa using e4
  have eL : Extern.Atomic.loadT (.int .u32) #[.pointer (some a)] = (do Extern.Atomic.read (.int .u32) (← asAddr (.pointer (some a)))) := rfl
  unfold callFunc
  simp [Ybaf.func37, e1, e2, e3', e4', go_sem, eL, Extern.Atomic.read, h]

theorem run21 (v : Value) (w : World) : (callFunc 21 #[v]).run Ybaf.prog w = .ok (.value (.tuple #[])) w := by
  have e1 : Extern.findNext Ybaf.f21 = none := by kernel_rfl
  have e2 : Extern.find Ybaf.f21 = some Extern.Runtime.nothing := by kernel_rfl
  have e3 : (Ybaf.f21.name == "runtime.NumGoroutine") = false := by kernel_rfl
  have e3' : ¬ Ybaf.f21.name = "runtime.NumGoroutine" := by simpa using e3
  have e4 : Ybaf.f21.body.isNone = true := by kernel_rfl
  have e4' : Ybaf.f21.body = none := by simpa using e4
  unfold callFunc
  simp [Ybaf.func21, e1, e2, e3', e4', go_sem, Extern.Runtime.nothing]
  rfl
end Go.Proofs.YbulkclmFmt
