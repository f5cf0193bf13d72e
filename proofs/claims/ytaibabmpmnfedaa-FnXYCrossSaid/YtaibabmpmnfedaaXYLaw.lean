/- For every two places: where their numbers are whole, from -2^20 to 2^20, the cross product is the product of the first X and the second Y, less that of the first Y and the second X. No condition. -/
import Derived.Test.YtaibabmpmnfedaaXY
import Derived.Test.YtaibabmpmnfedaaRegion
namespace Go.Proofs.Ytaibabmpmnfedaa
open Go.ChangeShapes Go.WideShapes Go.ChangeAt Go.RowKit
open Fl
set_option linter.unusedSimpArgs false
set_option linter.unusedVariables false
attribute [local go_sem] run_store_float run_fadd run_fsub run_fmul run_fdiv fmt64

theorem toIntVal_isI {b : Nat} {n : Int} (h : isI b n) (h1 : -9223372036854775808 ≤ n) (h2 : n ≤ 9223372036854775807) : floatToIntVal .f64 b .i64 = some n := by
  unfold floatToIntVal
  have : (FloatKind.f64.decode b).toInt .zero = some n := h.toInt
  rw [this]
  have e1 : IntKind.i64.min = -9223372036854775808 := rfl
  have e2 : IntKind.i64.max = 9223372036854775807 := rfl
  simp only [e1, e2]
  rw [if_pos ⟨h1, h2⟩]
theorem mul_bound {a b : Int} (h1 : -1048576 ≤ a ∧ a ≤ 1048576) (h2 : -1048576 ≤ b ∧ b ≤ 1048576) : -1099511627776 ≤ a * b ∧ a * b ≤ 1099511627776 := by
  have h : (a * b).natAbs ≤ 1048576 * 1048576 := by
    rw [Int.natAbs_mul]
    exact Nat.mul_le_mul (by omega) (by omega)
  omega

set_option maxHeartbeats 1000000 in
theorem fnxycross_walk (a b c d : Nat) (w : World) :
    Calls Try.prog 4 #[.agg #[.float .f64 a, .float .f64 b], .agg #[.float .f64 c, .float .f64 d]] w fun e w' => e = .returned (.bool true) ∧ Below w.heap.size w w' := by
  cases h : whole4 a b c d with
  | false =>
    go_enter Try.func4, Try.ntmps4
    go_wp2_with fail
    refine Reg.begin_ (ops := regAt Try.f4 1) 28 (by kernel_rfl) (by kernel_rfl) (fun wr hS hB hzu1 => ?_)
    refine' Reg.val (o := { dst := some 5, op := Op.load 26 (Operand.tmp 2), type := 26, pos := "xy.go:59", after := #[], guard := none }) 0 _ (by rfl) (by kernel_rfl) (by rfl) hS ?hvu1_0 ?_
    case hvu1_0 => intro W hW; obtain ⟨hcW, hfW⟩ := bcell hW; go_simp <;> (with_reducible rfl)
    simp only [Act.put, List.setIfInBounds_toArray, List.set_cons_zero, List.set_cons_succ]
    refine' Reg.val (o := { dst := some 6, op := Op.load 26 (Operand.tmp 3), type := 26, pos := "xy.go:59", after := #[], guard := none }) 1 _ (by rfl) (by kernel_rfl) (by rfl) hS ?hvu1_1 ?_
    case hvu1_1 => intro W hW; obtain ⟨hcW, hfW⟩ := bcell hW; go_simp <;> (with_reducible rfl)
    simp only [Act.put, List.setIfInBounds_toArray, List.set_cons_zero, List.set_cons_succ]
    refine Reg.one (o := { dst := some 7, op := Op.buildSlice 44 2 #[(0, Operand.tmp 5), (1, Operand.tmp 6)], type := 44, pos := "xy.go:59", after := #[{ on := 0, ground := Ground.data }, { on := 1, ground := Ground.data }], guard := none }) 2 (by rfl) (by kernel_rfl) (by rfl) hS hB (fun K Q' hK => ?_)
    go_simp
    refine hK _ _ (by go_grown) ?_
    clear hK K hS hB
    intro hS hB
    refine Reg.one (o := { dst := some 8, op := Op.call { callee := Callee.value (Operand.func 10), args := #[Operand.tmp 7], argTypes := #[44] }, type := 4, pos := "xy.go:59", after := #[{ on := 2, ground := Ground.data }], guard := none }) 3 (by rfl) (by kernel_rfl) (by rfl) hS hB (fun K Q' hK => ?_)
    go_simp
    refine (vwhole_two a b c d _ _ (by go_simp) (by go_simp) (by go_simp) (by go_simp)).mono ?_
    rintro e w3 ⟨rfl, hb3⟩
    refine hK _ _ hb3 ?_
    clear hK K hS hB
    intro hS hB
    refine' Reg.val (o := { dst := some 9, op := Op.unOp UnOp.not 4 (Operand.tmp 8), type := 4, pos := "xy.go:59", after := #[{ on := 3, ground := Ground.data }], guard := none }) 4 _ (by rfl) (by kernel_rfl) (by rfl) hS ?hvu1_4 ?_
    case hvu1_4 => intro W _; go_simp <;> (with_reducible rfl)
    simp only [Act.put, List.setIfInBounds_toArray, List.set_cons_zero, List.set_cons_succ]
    refine' Reg.val (o := { dst := some 10, op := Op.move (Operand.tmp 9), type := 4, pos := "xy.go:59", after := #[{ on := 4, ground := Ground.data }, { on := 3, ground := Ground.chain }], guard := none }) 5 _ (by rfl) (by kernel_rfl) (by rfl) hS ?hvu1_5 ?_
    case hvu1_5 => intro W _; go_simp <;> (with_reducible rfl)
    simp only [Act.put, List.setIfInBounds_toArray, List.set_cons_zero, List.set_cons_succ]
    refine Reg.skp (o := { dst := some 11, op := Op.load 26 (Operand.tmp 2), type := 26, pos := "xy.go:59", after := #[{ on := 5, ground := Ground.guard }], guard := some (5, false) }) 6 (by rfl) (by kernel_rfl) (by rfl) hS ?_
    simp only [Act.put, List.setIfInBounds_toArray, List.set_cons_zero, List.set_cons_succ]
    refine Reg.skp (o := { dst := some 12, op := Op.load 26 (Operand.tmp 3), type := 26, pos := "xy.go:59", after := #[{ on := 5, ground := Ground.guard }], guard := some (5, false) }) 7 (by rfl) (by kernel_rfl) (by rfl) hS ?_
    simp only [Act.put, List.setIfInBounds_toArray, List.set_cons_zero, List.set_cons_succ]
    refine Reg.skp (o := { dst := some 13, op := Op.call { callee := Callee.value (Operand.func 11), args := #[Operand.tmp 11, Operand.tmp 12], argTypes := #[26, 26] }, type := 24, pos := "xy.go:59", after := #[{ on := 6, ground := Ground.data }, { on := 7, ground := Ground.data }, { on := 5, ground := Ground.chain }, { on := 5, ground := Ground.guard }], guard := some (5, false) }) 8 (by rfl) (by kernel_rfl) (by rfl) hS ?_
    simp only [Act.put, List.setIfInBounds_toArray, List.set_cons_zero, List.set_cons_succ]
    refine Reg.skp (o := { dst := some 14, op := Op.fieldAddr 26 (Operand.tmp 2) 0, type := 0, pos := "xy.go:59", after := #[{ on := 5, ground := Ground.guard }], guard := some (5, false) }) 9 (by rfl) (by kernel_rfl) (by rfl) hS ?_
    simp only [Act.put, List.setIfInBounds_toArray, List.set_cons_zero, List.set_cons_succ]
    refine Reg.skp (o := { dst := some 15, op := Op.load 24 (Operand.tmp 14), type := 24, pos := "xy.go:59", after := #[{ on := 9, ground := Ground.data }, { on := 5, ground := Ground.guard }], guard := some (5, false) }) 10 (by rfl) (by kernel_rfl) (by rfl) hS ?_
    simp only [Act.put, List.setIfInBounds_toArray, List.set_cons_zero, List.set_cons_succ]
    refine Reg.skp (o := { dst := some 16, op := Op.convert 24 3 (Operand.tmp 15), type := 3, pos := "xy.go:59", after := #[{ on := 10, ground := Ground.data }, { on := 5, ground := Ground.guard }], guard := some (5, false) }) 11 (by rfl) (by kernel_rfl) (by rfl) hS ?_
    simp only [Act.put, List.setIfInBounds_toArray, List.set_cons_zero, List.set_cons_succ]
    refine Reg.skp (o := { dst := some 17, op := Op.fieldAddr 26 (Operand.tmp 3) 1, type := 0, pos := "xy.go:59", after := #[{ on := 5, ground := Ground.guard }], guard := some (5, false) }) 12 (by rfl) (by kernel_rfl) (by rfl) hS ?_
    simp only [Act.put, List.setIfInBounds_toArray, List.set_cons_zero, List.set_cons_succ]
    refine Reg.skp (o := { dst := some 18, op := Op.load 24 (Operand.tmp 17), type := 24, pos := "xy.go:59", after := #[{ on := 12, ground := Ground.data }, { on := 5, ground := Ground.guard }], guard := some (5, false) }) 13 (by rfl) (by kernel_rfl) (by rfl) hS ?_
    simp only [Act.put, List.setIfInBounds_toArray, List.set_cons_zero, List.set_cons_succ]
    refine Reg.skp (o := { dst := some 19, op := Op.convert 24 3 (Operand.tmp 18), type := 3, pos := "xy.go:59", after := #[{ on := 13, ground := Ground.data }, { on := 5, ground := Ground.guard }], guard := some (5, false) }) 14 (by rfl) (by kernel_rfl) (by rfl) hS ?_
    simp only [Act.put, List.setIfInBounds_toArray, List.set_cons_zero, List.set_cons_succ]
    refine Reg.skp (o := { dst := some 20, op := Op.binOp BinOp.mul 3 (Operand.tmp 16) (Operand.tmp 19) 3, type := 3, pos := "xy.go:59", after := #[{ on := 11, ground := Ground.data }, { on := 14, ground := Ground.data }, { on := 5, ground := Ground.guard }], guard := some (5, false) }) 15 (by rfl) (by kernel_rfl) (by rfl) hS ?_
    simp only [Act.put, List.setIfInBounds_toArray, List.set_cons_zero, List.set_cons_succ]
    refine Reg.skp (o := { dst := some 21, op := Op.fieldAddr 26 (Operand.tmp 2) 1, type := 0, pos := "xy.go:59", after := #[{ on := 5, ground := Ground.guard }], guard := some (5, false) }) 16 (by rfl) (by kernel_rfl) (by rfl) hS ?_
    simp only [Act.put, List.setIfInBounds_toArray, List.set_cons_zero, List.set_cons_succ]
    refine Reg.skp (o := { dst := some 22, op := Op.load 24 (Operand.tmp 21), type := 24, pos := "xy.go:59", after := #[{ on := 16, ground := Ground.data }, { on := 5, ground := Ground.guard }], guard := some (5, false) }) 17 (by rfl) (by kernel_rfl) (by rfl) hS ?_
    simp only [Act.put, List.setIfInBounds_toArray, List.set_cons_zero, List.set_cons_succ]
    refine Reg.skp (o := { dst := some 23, op := Op.convert 24 3 (Operand.tmp 22), type := 3, pos := "xy.go:59", after := #[{ on := 17, ground := Ground.data }, { on := 5, ground := Ground.guard }], guard := some (5, false) }) 18 (by rfl) (by kernel_rfl) (by rfl) hS ?_
    simp only [Act.put, List.setIfInBounds_toArray, List.set_cons_zero, List.set_cons_succ]
    refine Reg.skp (o := { dst := some 24, op := Op.fieldAddr 26 (Operand.tmp 3) 0, type := 0, pos := "xy.go:59", after := #[{ on := 5, ground := Ground.guard }], guard := some (5, false) }) 19 (by rfl) (by kernel_rfl) (by rfl) hS ?_
    simp only [Act.put, List.setIfInBounds_toArray, List.set_cons_zero, List.set_cons_succ]
    refine Reg.skp (o := { dst := some 25, op := Op.load 24 (Operand.tmp 24), type := 24, pos := "xy.go:59", after := #[{ on := 19, ground := Ground.data }, { on := 5, ground := Ground.guard }], guard := some (5, false) }) 20 (by rfl) (by kernel_rfl) (by rfl) hS ?_
    simp only [Act.put, List.setIfInBounds_toArray, List.set_cons_zero, List.set_cons_succ]
    refine Reg.skp (o := { dst := some 26, op := Op.convert 24 3 (Operand.tmp 25), type := 3, pos := "xy.go:59", after := #[{ on := 20, ground := Ground.data }, { on := 5, ground := Ground.guard }], guard := some (5, false) }) 21 (by rfl) (by kernel_rfl) (by rfl) hS ?_
    simp only [Act.put, List.setIfInBounds_toArray, List.set_cons_zero, List.set_cons_succ]
    refine Reg.skp (o := { dst := some 27, op := Op.binOp BinOp.mul 3 (Operand.tmp 23) (Operand.tmp 26) 3, type := 3, pos := "xy.go:59", after := #[{ on := 18, ground := Ground.data }, { on := 21, ground := Ground.data }, { on := 5, ground := Ground.guard }], guard := some (5, false) }) 22 (by rfl) (by kernel_rfl) (by rfl) hS ?_
    simp only [Act.put, List.setIfInBounds_toArray, List.set_cons_zero, List.set_cons_succ]
    refine Reg.skp (o := { dst := some 28, op := Op.binOp BinOp.sub 3 (Operand.tmp 20) (Operand.tmp 27) 3, type := 3, pos := "xy.go:59", after := #[{ on := 15, ground := Ground.data }, { on := 22, ground := Ground.data }, { on := 5, ground := Ground.guard }], guard := some (5, false) }) 23 (by rfl) (by kernel_rfl) (by rfl) hS ?_
    simp only [Act.put, List.setIfInBounds_toArray, List.set_cons_zero, List.set_cons_succ]
    refine Reg.skp (o := { dst := some 29, op := Op.convert 3 24 (Operand.tmp 28), type := 24, pos := "xy.go:59", after := #[{ on := 23, ground := Ground.data }, { on := 5, ground := Ground.guard }], guard := some (5, false) }) 24 (by rfl) (by kernel_rfl) (by rfl) hS ?_
    simp only [Act.put, List.setIfInBounds_toArray, List.set_cons_zero, List.set_cons_succ]
    refine Reg.skp (o := { dst := some 30, op := Op.binOp BinOp.eql 24 (Operand.tmp 13) (Operand.tmp 29) 24, type := 4, pos := "xy.go:59", after := #[{ on := 8, ground := Ground.data }, { on := 24, ground := Ground.data }, { on := 5, ground := Ground.guard }], guard := some (5, false) }) 25 (by rfl) (by kernel_rfl) (by rfl) hS ?_
    simp only [Act.put, List.setIfInBounds_toArray, List.set_cons_zero, List.set_cons_succ]
    refine' Reg.val (o := { dst := some 31, op := Op.pick (Operand.tmp 10) (Operand.const (Value.bool true)) (Operand.tmp 30), type := 4, pos := "xy.go:59", after := #[{ on := 5, ground := Ground.data }, { on := 25, ground := Ground.data }], guard := none }) 26 _ (by rfl) (by kernel_rfl) (by rfl) hS ?hvu1_26 ?_
    case hvu1_26 => intro W _; go_simp <;> (with_reducible rfl)
    simp only [Act.put, List.setIfInBounds_toArray, List.set_cons_zero, List.set_cons_succ]
    refine' Reg.val (o := { dst := some 4, op := Op.assign (Operand.tmp 31), type := 4, pos := "xy.go:59", after := #[{ on := 26, ground := Ground.data }, { on := 8, ground := Ground.chain }, { on := 0, ground := Ground.phase }, { on := 1, ground := Ground.phase }, { on := 2, ground := Ground.phase }, { on := 3, ground := Ground.phase }, { on := 4, ground := Ground.phase }, { on := 5, ground := Ground.phase }, { on := 6, ground := Ground.phase }, { on := 7, ground := Ground.phase }, { on := 8, ground := Ground.phase }, { on := 9, ground := Ground.phase }, { on := 10, ground := Ground.phase }, { on := 11, ground := Ground.phase }, { on := 12, ground := Ground.phase }, { on := 13, ground := Ground.phase }, { on := 14, ground := Ground.phase }, { on := 15, ground := Ground.phase }, { on := 16, ground := Ground.phase }, { on := 17, ground := Ground.phase }, { on := 18, ground := Ground.phase }, { on := 19, ground := Ground.phase }, { on := 20, ground := Ground.phase }, { on := 21, ground := Ground.phase }, { on := 22, ground := Ground.phase }, { on := 23, ground := Ground.phase }, { on := 24, ground := Ground.phase }, { on := 25, ground := Ground.phase }, { on := 26, ground := Ground.phase }], guard := none }) 27 _ (by rfl) (by kernel_rfl) (by rfl) hS ?hvu1_27 ?_
    case hvu1_27 => intro W _; go_simp <;> (with_reducible rfl)
    simp only [Act.put, List.setIfInBounds_toArray, List.set_cons_zero, List.set_cons_succ]
    refine Reg.end_ (by kernel_rfl) ?_
    go_wp2
    go_returns
    exact ⟨rfl, Below.trans (by go_grown) (hS.mono (by go_size))⟩
  | true =>
    have h' := h
    simp only [whole4, Bool.and_eq_true] at h'
    obtain ⟨⟨⟨ha, hb⟩, hc⟩, hd⟩ := h'
    obtain ⟨na, ia, la, ua⟩ := wholeB_isI ha
    obtain ⟨nb, ib, lb, ub⟩ := wholeB_isI hb
    obtain ⟨nc, ic, lc, uc⟩ := wholeB_isI hc
    obtain ⟨nd, id_, ld, ud⟩ := wholeB_isI hd
    have p1 := mul_bound (a := na) (b := nd) ⟨la, ua⟩ ⟨ld, ud⟩
    have p2 := mul_bound (a := nb) (b := nc) ⟨lb, ub⟩ ⟨lc, uc⟩
    obtain ⟨m1, i1⟩ := ia.mul id_ (by omega)
    obtain ⟨m2, i2⟩ := ib.mul ic (by omega)
    obtain ⟨m3, i3⟩ := i1.sub i2 (by omega)
    have ta := toIntVal_isI ia (by omega) (by omega)
    have tb := toIntVal_isI ib (by omega) (by omega)
    have tc := toIntVal_isI ic (by omega) (by omega)
    have td := toIntVal_isI id_ (by omega) (by omega)
    have hI := ofI_isI (n := na * nd - nb * nc) (by omega)
    have ho : Ieee.double.order (fsub (fmul a d) (fmul b c)) (floatOfInt .f64 (na * nd - nb * nc)) = some .eq := by
      have := i3.order hI
      rw [show compare (na * nd - nb * nc) (na * nd - nb * nc) = .eq from Int.compare_eq_eq.2 rfl] at this
      exact this
    have w1 : IntKind.i64.wrap (na * nd) = na * nd := IntWalk.i64_in _ (by omega)
    have w2 : IntKind.i64.wrap (nb * nc) = nb * nc := IntWalk.i64_in _ (by omega)
    have w3 : IntKind.i64.wrap (na * nd - nb * nc) = na * nd - nb * nc := IntWalk.i64_in _ (by omega)
    have conv : ∀ (x : Nat) (n : Int) (w : World), floatToIntVal .f64 x .i64 = some n → (convert 24 3 (.float .f64 x)).run Try.prog w = .ok (.int .i64 n) w :=
      fun x n w h => run_convert_float_int w 24 3 .f64 .i64 x n (by kernel_rfl) Try.underlying3 h
    have ca := fun w => conv a na w ta
    have cb := fun w => conv b nb w tb
    have cc := fun w => conv c nc w tc
    have cd := fun w => conv d nd w td
    clear conv ta tb tc td la ua lb ub lc uc ld ud ia ib ic id_ i1 i2 i3 hI ha hb hc hd p1 p2
    go_enter Try.func4, Try.ntmps4
    go_wp2_with fail
    refine Reg.begin_ (ops := regAt Try.f4 1) 28 (by kernel_rfl) (by kernel_rfl) (fun wr hS hB hzu2 => ?_)
    refine' Reg.val (o := { dst := some 5, op := Op.load 26 (Operand.tmp 2), type := 26, pos := "xy.go:59", after := #[], guard := none }) 0 _ (by rfl) (by kernel_rfl) (by rfl) hS ?hvu2_0 ?_
    case hvu2_0 => intro W hW; obtain ⟨hcW, hfW⟩ := bcell hW; go_simp <;> (with_reducible rfl)
    simp only [Act.put, List.setIfInBounds_toArray, List.set_cons_zero, List.set_cons_succ]
    refine' Reg.val (o := { dst := some 6, op := Op.load 26 (Operand.tmp 3), type := 26, pos := "xy.go:59", after := #[], guard := none }) 1 _ (by rfl) (by kernel_rfl) (by rfl) hS ?hvu2_1 ?_
    case hvu2_1 => intro W hW; obtain ⟨hcW, hfW⟩ := bcell hW; go_simp <;> (with_reducible rfl)
    simp only [Act.put, List.setIfInBounds_toArray, List.set_cons_zero, List.set_cons_succ]
    refine Reg.one (o := { dst := some 7, op := Op.buildSlice 44 2 #[(0, Operand.tmp 5), (1, Operand.tmp 6)], type := 44, pos := "xy.go:59", after := #[{ on := 0, ground := Ground.data }, { on := 1, ground := Ground.data }], guard := none }) 2 (by rfl) (by kernel_rfl) (by rfl) hS hB (fun K Q' hK => ?_)
    go_simp
    refine hK _ _ (by go_grown) ?_
    clear hK K hS hB
    intro hS hB
    refine Reg.one (o := { dst := some 8, op := Op.call { callee := Callee.value (Operand.func 10), args := #[Operand.tmp 7], argTypes := #[44] }, type := 4, pos := "xy.go:59", after := #[{ on := 2, ground := Ground.data }], guard := none }) 3 (by rfl) (by kernel_rfl) (by rfl) hS hB (fun K Q' hK => ?_)
    go_simp
    refine (vwhole_two a b c d _ _ (by go_simp) (by go_simp) (by go_simp) (by go_simp)).mono ?_
    rintro e w3 ⟨rfl, hb3⟩
    refine hK _ _ hb3 ?_
    clear hK K hS hB
    intro hS hB
    refine' Reg.val (o := { dst := some 9, op := Op.unOp UnOp.not 4 (Operand.tmp 8), type := 4, pos := "xy.go:59", after := #[{ on := 3, ground := Ground.data }], guard := none }) 4 _ (by rfl) (by kernel_rfl) (by rfl) hS ?hvu2_4 ?_
    case hvu2_4 => intro W _; go_simp <;> (with_reducible rfl)
    simp only [Act.put, List.setIfInBounds_toArray, List.set_cons_zero, List.set_cons_succ]
    refine' Reg.val (o := { dst := some 10, op := Op.move (Operand.tmp 9), type := 4, pos := "xy.go:59", after := #[{ on := 4, ground := Ground.data }, { on := 3, ground := Ground.chain }], guard := none }) 5 _ (by rfl) (by kernel_rfl) (by rfl) hS ?hvu2_5 ?_
    case hvu2_5 => intro W _; go_simp <;> (with_reducible rfl)
    simp only [Act.put, List.setIfInBounds_toArray, List.set_cons_zero, List.set_cons_succ]
    refine' Reg.val (o := { dst := some 11, op := Op.load 26 (Operand.tmp 2), type := 26, pos := "xy.go:59", after := #[{ on := 5, ground := Ground.guard }], guard := some (5, false) }) 6 _ (by rfl) (by kernel_rfl) (by rfl) hS ?hvu2_6 ?_
    case hvu2_6 => intro W hW; obtain ⟨hcW, hfW⟩ := bcell hW; go_simp <;> (with_reducible rfl)
    simp only [Act.put, List.setIfInBounds_toArray, List.set_cons_zero, List.set_cons_succ]
    refine' Reg.val (o := { dst := some 12, op := Op.load 26 (Operand.tmp 3), type := 26, pos := "xy.go:59", after := #[{ on := 5, ground := Ground.guard }], guard := some (5, false) }) 7 _ (by rfl) (by kernel_rfl) (by rfl) hS ?hvu2_7 ?_
    case hvu2_7 => intro W hW; obtain ⟨hcW, hfW⟩ := bcell hW; go_simp <;> (with_reducible rfl)
    simp only [Act.put, List.setIfInBounds_toArray, List.set_cons_zero, List.set_cons_succ]
    refine' Reg.val (o := { dst := some 14, op := Op.fieldAddr 26 (Operand.tmp 2) 0, type := 0, pos := "xy.go:59", after := #[{ on := 5, ground := Ground.guard }], guard := some (5, false) }) 9 _ (by rfl) (by kernel_rfl) (by rfl) hS ?hvu2_9 ?_
    case hvu2_9 => intro W hW; obtain ⟨hcW, hfW⟩ := bcell hW; go_simp <;> (with_reducible rfl)
    simp only [Act.put, List.setIfInBounds_toArray, List.set_cons_zero, List.set_cons_succ]
    refine' Reg.val (o := { dst := some 15, op := Op.load 24 (Operand.tmp 14), type := 24, pos := "xy.go:59", after := #[{ on := 9, ground := Ground.data }, { on := 5, ground := Ground.guard }], guard := some (5, false) }) 10 _ (by rfl) (by kernel_rfl) (by rfl) hS ?hvu2_10 ?_
    case hvu2_10 => intro W hW; obtain ⟨hcW, hfW⟩ := bcell hW; go_simp <;> (with_reducible rfl)
    simp only [Act.put, List.setIfInBounds_toArray, List.set_cons_zero, List.set_cons_succ]
    refine' Reg.val (o := { dst := some 16, op := Op.convert 24 3 (Operand.tmp 15), type := 3, pos := "xy.go:59", after := #[{ on := 10, ground := Ground.data }, { on := 5, ground := Ground.guard }], guard := some (5, false) }) 11 _ (by rfl) (by kernel_rfl) (by rfl) hS ?hvu2_11 ?_
    case hvu2_11 => intro W hW; obtain ⟨hcW, hfW⟩ := bcell hW; go_simp <;> (with_reducible rfl)
    simp only [Act.put, List.setIfInBounds_toArray, List.set_cons_zero, List.set_cons_succ]
    refine' Reg.val (o := { dst := some 17, op := Op.fieldAddr 26 (Operand.tmp 3) 1, type := 0, pos := "xy.go:59", after := #[{ on := 5, ground := Ground.guard }], guard := some (5, false) }) 12 _ (by rfl) (by kernel_rfl) (by rfl) hS ?hvu2_12 ?_
    case hvu2_12 => intro W hW; obtain ⟨hcW, hfW⟩ := bcell hW; go_simp <;> (with_reducible rfl)
    simp only [Act.put, List.setIfInBounds_toArray, List.set_cons_zero, List.set_cons_succ]
    refine' Reg.val (o := { dst := some 18, op := Op.load 24 (Operand.tmp 17), type := 24, pos := "xy.go:59", after := #[{ on := 12, ground := Ground.data }, { on := 5, ground := Ground.guard }], guard := some (5, false) }) 13 _ (by rfl) (by kernel_rfl) (by rfl) hS ?hvu2_13 ?_
    case hvu2_13 => intro W hW; obtain ⟨hcW, hfW⟩ := bcell hW; go_simp <;> (with_reducible rfl)
    simp only [Act.put, List.setIfInBounds_toArray, List.set_cons_zero, List.set_cons_succ]
    refine' Reg.val (o := { dst := some 19, op := Op.convert 24 3 (Operand.tmp 18), type := 3, pos := "xy.go:59", after := #[{ on := 13, ground := Ground.data }, { on := 5, ground := Ground.guard }], guard := some (5, false) }) 14 _ (by rfl) (by kernel_rfl) (by rfl) hS ?hvu2_14 ?_
    case hvu2_14 => intro W hW; obtain ⟨hcW, hfW⟩ := bcell hW; go_simp <;> (with_reducible rfl)
    simp only [Act.put, List.setIfInBounds_toArray, List.set_cons_zero, List.set_cons_succ]
    refine' Reg.val (o := { dst := some 20, op := Op.binOp BinOp.mul 3 (Operand.tmp 16) (Operand.tmp 19) 3, type := 3, pos := "xy.go:59", after := #[{ on := 11, ground := Ground.data }, { on := 14, ground := Ground.data }, { on := 5, ground := Ground.guard }], guard := some (5, false) }) 15 _ (by rfl) (by kernel_rfl) (by rfl) hS ?hvu2_15 ?_
    case hvu2_15 => intro W hW; obtain ⟨hcW, hfW⟩ := bcell hW; go_simp <;> (with_reducible rfl)
    simp only [Act.put, List.setIfInBounds_toArray, List.set_cons_zero, List.set_cons_succ]
    refine' Reg.val (o := { dst := some 21, op := Op.fieldAddr 26 (Operand.tmp 2) 1, type := 0, pos := "xy.go:59", after := #[{ on := 5, ground := Ground.guard }], guard := some (5, false) }) 16 _ (by rfl) (by kernel_rfl) (by rfl) hS ?hvu2_16 ?_
    case hvu2_16 => intro W hW; obtain ⟨hcW, hfW⟩ := bcell hW; go_simp <;> (with_reducible rfl)
    simp only [Act.put, List.setIfInBounds_toArray, List.set_cons_zero, List.set_cons_succ]
    refine' Reg.val (o := { dst := some 22, op := Op.load 24 (Operand.tmp 21), type := 24, pos := "xy.go:59", after := #[{ on := 16, ground := Ground.data }, { on := 5, ground := Ground.guard }], guard := some (5, false) }) 17 _ (by rfl) (by kernel_rfl) (by rfl) hS ?hvu2_17 ?_
    case hvu2_17 => intro W hW; obtain ⟨hcW, hfW⟩ := bcell hW; go_simp <;> (with_reducible rfl)
    simp only [Act.put, List.setIfInBounds_toArray, List.set_cons_zero, List.set_cons_succ]
    refine' Reg.val (o := { dst := some 23, op := Op.convert 24 3 (Operand.tmp 22), type := 3, pos := "xy.go:59", after := #[{ on := 17, ground := Ground.data }, { on := 5, ground := Ground.guard }], guard := some (5, false) }) 18 _ (by rfl) (by kernel_rfl) (by rfl) hS ?hvu2_18 ?_
    case hvu2_18 => intro W hW; obtain ⟨hcW, hfW⟩ := bcell hW; go_simp <;> (with_reducible rfl)
    simp only [Act.put, List.setIfInBounds_toArray, List.set_cons_zero, List.set_cons_succ]
    refine' Reg.val (o := { dst := some 24, op := Op.fieldAddr 26 (Operand.tmp 3) 0, type := 0, pos := "xy.go:59", after := #[{ on := 5, ground := Ground.guard }], guard := some (5, false) }) 19 _ (by rfl) (by kernel_rfl) (by rfl) hS ?hvu2_19 ?_
    case hvu2_19 => intro W hW; obtain ⟨hcW, hfW⟩ := bcell hW; go_simp <;> (with_reducible rfl)
    simp only [Act.put, List.setIfInBounds_toArray, List.set_cons_zero, List.set_cons_succ]
    refine' Reg.val (o := { dst := some 25, op := Op.load 24 (Operand.tmp 24), type := 24, pos := "xy.go:59", after := #[{ on := 19, ground := Ground.data }, { on := 5, ground := Ground.guard }], guard := some (5, false) }) 20 _ (by rfl) (by kernel_rfl) (by rfl) hS ?hvu2_20 ?_
    case hvu2_20 => intro W hW; obtain ⟨hcW, hfW⟩ := bcell hW; go_simp <;> (with_reducible rfl)
    simp only [Act.put, List.setIfInBounds_toArray, List.set_cons_zero, List.set_cons_succ]
    refine' Reg.val (o := { dst := some 26, op := Op.convert 24 3 (Operand.tmp 25), type := 3, pos := "xy.go:59", after := #[{ on := 20, ground := Ground.data }, { on := 5, ground := Ground.guard }], guard := some (5, false) }) 21 _ (by rfl) (by kernel_rfl) (by rfl) hS ?hvu2_21 ?_
    case hvu2_21 => intro W hW; obtain ⟨hcW, hfW⟩ := bcell hW; go_simp <;> (with_reducible rfl)
    simp only [Act.put, List.setIfInBounds_toArray, List.set_cons_zero, List.set_cons_succ]
    refine' Reg.val (o := { dst := some 27, op := Op.binOp BinOp.mul 3 (Operand.tmp 23) (Operand.tmp 26) 3, type := 3, pos := "xy.go:59", after := #[{ on := 18, ground := Ground.data }, { on := 21, ground := Ground.data }, { on := 5, ground := Ground.guard }], guard := some (5, false) }) 22 _ (by rfl) (by kernel_rfl) (by rfl) hS ?hvu2_22 ?_
    case hvu2_22 => intro W hW; obtain ⟨hcW, hfW⟩ := bcell hW; go_simp <;> (with_reducible rfl)
    simp only [Act.put, List.setIfInBounds_toArray, List.set_cons_zero, List.set_cons_succ]
    refine' Reg.val (o := { dst := some 28, op := Op.binOp BinOp.sub 3 (Operand.tmp 20) (Operand.tmp 27) 3, type := 3, pos := "xy.go:59", after := #[{ on := 15, ground := Ground.data }, { on := 22, ground := Ground.data }, { on := 5, ground := Ground.guard }], guard := some (5, false) }) 23 _ (by rfl) (by kernel_rfl) (by rfl) hS ?hvu2_23 ?_
    case hvu2_23 => intro W hW; obtain ⟨hcW, hfW⟩ := bcell hW; go_simp <;> (with_reducible rfl)
    simp only [Act.put, List.setIfInBounds_toArray, List.set_cons_zero, List.set_cons_succ]
    refine' Reg.val (o := { dst := some 29, op := Op.convert 3 24 (Operand.tmp 28), type := 24, pos := "xy.go:59", after := #[{ on := 23, ground := Ground.data }, { on := 5, ground := Ground.guard }], guard := some (5, false) }) 24 _ (by rfl) (by kernel_rfl) (by rfl) hS ?hvu2_24 ?_
    case hvu2_24 => intro W hW; obtain ⟨hcW, hfW⟩ := bcell hW; go_simp <;> (with_reducible rfl)
    simp only [Act.put, List.setIfInBounds_toArray, List.set_cons_zero, List.set_cons_succ]
    refine Reg.one (o := { dst := some 13, op := Op.call { callee := Callee.value (Operand.func 11), args := #[Operand.tmp 11, Operand.tmp 12], argTypes := #[26, 26] }, type := 24, pos := "xy.go:59", after := #[{ on := 6, ground := Ground.data }, { on := 7, ground := Ground.data }, { on := 5, ground := Ground.chain }, { on := 5, ground := Ground.guard }], guard := some (5, false) }) 8 (by rfl) (by kernel_rfl) (by rfl) hS hB (fun K Q' hK => ?_)
    go_simp
    refine (xycross_any _ _ _ _ _ m1 m2 m3).mono ?_
    rintro e w8 ⟨rfl, hb8⟩
    refine hK _ _ hb8 ?_
    clear hK K hS hB
    intro hS hB
    refine' Reg.val (o := { dst := some 30, op := Op.binOp BinOp.eql 24 (Operand.tmp 13) (Operand.tmp 29) 24, type := 4, pos := "xy.go:59", after := #[{ on := 8, ground := Ground.data }, { on := 24, ground := Ground.data }, { on := 5, ground := Ground.guard }], guard := some (5, false) }) 25 _ (by rfl) (by kernel_rfl) (by rfl) hS ?hvu2_25 ?_
    case hvu2_25 => intro W hW; obtain ⟨hcW, hfW⟩ := bcell hW; go_simp <;> (with_reducible rfl)
    simp only [Act.put, List.setIfInBounds_toArray, List.set_cons_zero, List.set_cons_succ]
    refine' Reg.val (o := { dst := some 31, op := Op.pick (Operand.tmp 10) (Operand.const (Value.bool true)) (Operand.tmp 30), type := 4, pos := "xy.go:59", after := #[{ on := 5, ground := Ground.data }, { on := 25, ground := Ground.data }], guard := none }) 26 _ (by rfl) (by kernel_rfl) (by rfl) hS ?hvu2_26 ?_
    case hvu2_26 => intro W _; go_simp <;> (with_reducible rfl)
    simp only [Act.put, List.setIfInBounds_toArray, List.set_cons_zero, List.set_cons_succ]
    refine' Reg.val (o := { dst := some 4, op := Op.assign (Operand.tmp 31), type := 4, pos := "xy.go:59", after := #[{ on := 26, ground := Ground.data }, { on := 8, ground := Ground.chain }, { on := 0, ground := Ground.phase }, { on := 1, ground := Ground.phase }, { on := 2, ground := Ground.phase }, { on := 3, ground := Ground.phase }, { on := 4, ground := Ground.phase }, { on := 5, ground := Ground.phase }, { on := 6, ground := Ground.phase }, { on := 7, ground := Ground.phase }, { on := 8, ground := Ground.phase }, { on := 9, ground := Ground.phase }, { on := 10, ground := Ground.phase }, { on := 11, ground := Ground.phase }, { on := 12, ground := Ground.phase }, { on := 13, ground := Ground.phase }, { on := 14, ground := Ground.phase }, { on := 15, ground := Ground.phase }, { on := 16, ground := Ground.phase }, { on := 17, ground := Ground.phase }, { on := 18, ground := Ground.phase }, { on := 19, ground := Ground.phase }, { on := 20, ground := Ground.phase }, { on := 21, ground := Ground.phase }, { on := 22, ground := Ground.phase }, { on := 23, ground := Ground.phase }, { on := 24, ground := Ground.phase }, { on := 25, ground := Ground.phase }, { on := 26, ground := Ground.phase }], guard := none }) 27 _ (by rfl) (by kernel_rfl) (by rfl) hS ?hvu2_27 ?_
    case hvu2_27 => intro W _; go_simp <;> (with_reducible rfl)
    simp only [Act.put, List.setIfInBounds_toArray, List.set_cons_zero, List.set_cons_succ]
    refine Reg.end_ (by kernel_rfl) ?_
    go_wp2
    go_returns
    exact ⟨rfl, Below.trans (by go_grown) (hS.mono (by go_size))⟩

namespace fnXYCross
theorem own : ownKnob Try.prog.godebug = none := by kernel_rfl
theorem laidOut : laidOutB Try.prog = true := by kernel_rfl
set_option maxRecDepth 100000 in
theorem lifted (os : Os) (started : os.Started) (H : Type) (enc : TypeId × Value → H) :
    ReturnsInHanded {} Try.checked os 4 .any (Rows.fnXYCrossSpec.pre6 enc Try.prog Try.f4 Rows.fnXYCrossRow.domain false) (Rows.fnXYCrossSpec.post enc Try.prog Try.f4 false true false false) := by
  refine returnsInHanded_of_change (C := Try.checked) own started (by kernel_rfl) Try.func4
    (ChangeSpec.witness6 (enc := enc) (C := Try.checked) false ⟨#[], #[.agg #[.float .f64 0, .float .f64 0], .agg #[.float .f64 0, .float .f64 0]], []⟩ 8 (by kernel_rfl) (by kernel_rfl) (by kernel_rfl) (by kernel_rfl)) ?_
  intro W base args ds gs before hval0 hW hcnd _
  have hval : ∀ (j : Nat) t v, Try.f4.params[j]? = some t → args[j]? = some v → Value.okWide Try.prog W .any base t v := hval0
  have hW' := hW
  obtain ⟨p, q, hA0, hV, rfl, hfz, hnd⟩ := hW
  have hA : DataW.TrodAll enc Try.prog W 0 (fun _ => true) true Try.f4.params.toList args.toList ds p := hA0
  rw [Try.params4] at hA hval
  obtain ⟨v0, vs0, d0, ds0, p0, q0, hargs, rfl, rfl, h0, r0⟩ := trodAll_cons hA
  obtain ⟨v1, vs1, d1, ds1, p1, q1, rfl, rfl, rfl, h1, r1⟩ := trodAll_cons r0
  obtain ⟨rfl, rfl, rfl⟩ := trodAll_nil r1
  obtain rfl : args = #[v0, v1] := by cases args; simp_all
  obtain ⟨rfl, rfl⟩ := trodVars_none hV
  have k0 := h0
  have lt0 : ∀ x ∈ p0, x.block < W.heap.size := by obtain ⟨m, hm⟩ := k0; exact DataW.trod_lt m _ _ _ hm
  have k1 := h1
  have lt1 : ∀ x ∈ p1, x.block < W.heap.size := by obtain ⟨m, hm⟩ := k1; exact DataW.trod_lt m _ _ _ hm
  obtain ⟨a, b, rfl⟩ := open_ff Try.underlying26 Try.underlying24 Try.underlying24 (by kernel_rfl) (by kernel_rfl) (hval 0 26 v0 rfl rfl) h0
  obtain ⟨c, d, rfl⟩ := open_ff Try.underlying26 Try.underlying24 Try.underlying24 (by kernel_rfl) (by kernel_rfl) (hval 1 26 v1 rfl rfl) h1
  refine (fnxycross_walk a b c d W).mono fun e W' ⟨he, bel⟩ => ?_
  subst he
  exact ⟨_, rfl, _, _, _, [], _, [], hW', trodAll_mk1 (shut_bool Try.underlying4 _), (trodAll_cons_mk (Below.trod laidOut (by kernel_rfl) (of_decide_eq_true (by kernel_rfl)) k0 bel lt0) (trodAll_cons_mk (Below.trod laidOut (by kernel_rfl) (of_decide_eq_true (by kernel_rfl)) k1 bel lt1) trodAll_mk0)), rfl, bel.frame _, fun h => by cases h⟩

theorem over : Rows.fnXYCrossRow.holds Try.pinned (OpenSpec.ofChange Rows.fnXYCrossSpec) :=
  OpenClaim.holds_of_wide 4 Try.f4 rfl rfl rfl rfl rfl rfl rfl ⟨rfl, rfl, rfl, rfl, rfl⟩ rfl rfl rfl rfl rfl (by kernel_rfl) Try.func4 (by kernel_rfl)
    (of_decide_eq_true (by kernel_rfl)) (by unfold Func.isWrapper; first | (rw [if_pos (by decide +kernel)]; kernel_rfl) | (rw [if_neg (by decide +kernel)]; exact ⟨rfl, rfl⟩))
    (fun os started H enc _ => lifted os started H enc)

theorem proved : Rows.FnXYCrossSaid := over
#print axioms proved
end fnXYCross
end Go.Proofs.Ytaibabmpmnfedaa
