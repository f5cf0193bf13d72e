/- Walks of math.Abs, IsNaN, IsInf and of the statements' test gFinite: each returns what its operand's word says; the world is as it was. No condition. -/
import Derived.Test.YtpbllagjcdcnpaaBase
import Derived.Handy
namespace Go.Proofs.Ytpbllagjcdcnpaa
open Go.ChangeShapes Go.WideShapes Go.ChangeAt Go.RowKit
open Fl
set_option linter.unusedSimpArgs false
set_option linter.unusedVariables false
attribute [local go_sem] run_store_float run_fadd run_fsub run_fmul run_fdiv run_equalIn_float fmt64

theorem bits_call (x : Nat) (w : World) : (callFunc 75 #[.float .f64 x]).run Try.prog w = .ok (.value (.int .u64 x)) w := by
  rw [run_callFunc_extern (e := Extern.MathFloatBits.float64bits) Try.func75 (by kernel_rfl) (by kernel_rfl) (by kernel_rfl) (by kernel_rfl) _ w]
  rfl
theorem from_call (x : Int) (w : World) : (callFunc 48 #[.int .u64 x]).run Try.prog w = .ok (.value (.float .f64 x.toNat)) w := by
  rw [run_callFunc_extern (e := Extern.MathFloatBits.float64frombits) Try.func48 (by kernel_rfl) (by kernel_rfl) (by kernel_rfl) (by kernel_rfl) _ w]
  rfl
theorem andNot_sign (x : Nat) : (bits .andNot .u64 (x : Int) 9223372036854775808).toNat = fabs x := by
  unfold fabs
  show (IntKind.u64.wrap ((BitVec.ofInt 64 (x : Int) &&& ~~~ BitVec.ofInt 64 9223372036854775808).toNat : Int)).toNat = _
  have h1 : BitVec.ofInt 64 (9223372036854775808 : Int) = 9223372036854775808#64 := by decide
  have h2 : ~~~ (9223372036854775808#64) = 9223372036854775807#64 := by decide
  rw [h1, h2, BitVec.toNat_and, BitVec.ofInt_natCast, BitVec.toNat_ofNat]
  have h3 : (9223372036854775807#64).toNat = 2 ^ 63 - 1 := by decide
  rw [h3, Nat.and_two_pow_sub_one_eq_mod]
  have : x % 2 ^ 64 % 2 ^ 63 = x % 2 ^ 63 := by omega
  rw [this, IntWalk.u64_in _ (by omega)]
  omega

set_option maxHeartbeats 400000 in
theorem abs_any (x : Nat) (w : World) :
    Calls Try.prog 65 #[.float .f64 x] w fun e w' => e = .returned (.float .f64 (fabs x)) ∧ w = w' := by
  have hb := bits_call
  have hf := from_call
  have ha := andNot_sign x
  go_enter Try.func65, Try.ntmps65
  go_wp2
  go_returns
  exact ⟨rfl, rfl⟩
set_option maxHeartbeats 400000 in
theorem isnan_any (x : Nat) (w : World) :
    Calls Try.prog 20 #[.float .f64 x] w fun e w' => e = .returned (.bool (isNan x)) ∧ w = w' := by
  have ho := order_self x
  go_enter Try.func20, Try.ntmps20
  go_wp2
  go_returns
  exact ⟨rfl, rfl⟩
def isInf (x : Nat) : Bool := (dec x).isInfinity
set_option maxHeartbeats 400000 in
theorem isinf_any (x : Nat) (w : World) :
    Calls Try.prog 36 #[.float .f64 x, .int .i64 0] w fun e w' => e = .returned (.bool (isInf x)) ∧ w = w' := by
  have ho : (Ieee.double.order (fabs x) 9218868437227405311 == some .gt) = isInf x := inf_test x
  go_enter Try.func36, Try.ntmps36
  go_wp2_with (go_at_call 65; refine (abs_any _ _).mono ?_; rintro e w' ⟨rfl, rfl⟩)
  go_returns
  exact ⟨rfl, rfl⟩
set_option maxHeartbeats 400000 in
theorem gfinite_any (x : Nat) (w : World) :
    Calls Try.prog 12 #[.float .f64 x] w fun e w' => e = .returned (.bool (fin x)) ∧ w = w' := by
  have hf : fin x = (!isNan x && !isInf x) := fin_test x
  rw [hf]
  clear hf
  cases h1 : isNan x <;> cases h2 : isInf x
  all_goals
    go_enter Try.func12, Try.ntmps12
    go_wp2_with (first
      | (go_at_call 20; refine (isnan_any _ _).mono ?_; rintro e w' ⟨rfl, rfl⟩)
      | (go_at_call 36; refine (isinf_any _ _).mono ?_; rintro e w' ⟨rfl, rfl⟩))
    go_returns
    exact ⟨rfl, rfl⟩
end Go.Proofs.Ytpbllagjcdcnpaa
