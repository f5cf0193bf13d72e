/- Walks of the functions on envelopes that FnEnvCoversAll reaches, for finite numbers. -/
import Derived.Test.YtcidgicdeedgfaaFin
import Derived.Test.YtcidgicdeedgfaaRegion
namespace Go.Proofs.Ytcidgicdeedgfaa
open Go.ChangeShapes Go.WideShapes Go.ChangeAt Go.RowKit
open Fl
set_option linter.unusedSimpArgs false
set_option linter.unusedVariables false
attribute [local go_sem] run_store_float run_fadd run_fsub run_fmul run_fdiv run_equalIn_float fmt64

theorem notnan {x : Nat} (hx : fin x = true) : isNan x = false := by
  have h := fin_test x
  rw [hx] at h
  cases hn : isNan x with
  | false => rfl
  | true => rw [hn] at h; simp only [Bool.not_true, Bool.false_and] at h; cases h
abbrev fv (b : Nat) : Value := .float .f64 b
abbrev ev (f : Bool) (a b c d : Nat) : Value := .agg #[.bool f, fv a, fv b, fv c, fv d]
abbrev gv (a b c d : Nat) (f : Bool) : Value := .agg #[fv a, fv b, fv c, fv d, .bool f]
abbrev xv (a b : Nat) : Value := .agg #[fv a, fv b]

set_option maxHeartbeats 400000 in
theorem fmin_any (x y : Nat) (hx : fin x = true) (w : World) :
    Calls Try.prog 39 #[fv x, fv y] w fun e w' => e = .returned (fv (fmin x y)) ∧ w = w' := by
  have hn : isNan x = false := notnan hx
  unfold fmin
  cases h : (Ieee.double.order x y == some .lt)
  all_goals
    go_enter Try.func39, Try.ntmps39
    go_wp2_with (go_at_call 17; refine (isnan_any _ _).mono ?_; rintro e w' ⟨rfl, rfl⟩)
    go_returns
    exact ⟨rfl, rfl⟩
set_option maxHeartbeats 400000 in
theorem fmax_any (x y : Nat) (hx : fin x = true) (w : World) :
    Calls Try.prog 40 #[fv x, fv y] w fun e w' => e = .returned (fv (fmax x y)) ∧ w = w' := by
  have hn : isNan x = false := notnan hx
  unfold fmax
  cases h : (Ieee.double.order x y == some .gt)
  all_goals
    go_enter Try.func40, Try.ntmps40
    go_wp2_with (go_at_call 17; refine (isnan_any _ _).mono ?_; rintro e w' ⟨rfl, rfl⟩)
    go_returns
    exact ⟨rfl, rfl⟩
set_option maxHeartbeats 400000 in
theorem xy_any (x y : Nat) (w : World) :
    Calls Try.prog 29 #[xv x y] w fun e w' => e = .returned (xv x y) ∧ Below w.heap.size w w' := by
  go_enter Try.func29, Try.ntmps29
  go_wp2
  go_returns
  exact ⟨rfl, by go_grown⟩
set_option maxHeartbeats 400000 in
theorem plainxy_any (x y : Nat) (w : World) :
    Calls Try.prog 42 #[xv x y] w fun e w' => e = .returned (xv x y) ∧ Below w.heap.size w w' := by
  go_enter Try.func42, Try.ntmps42
  go_wp2
  go_returns
  exact ⟨rfl, by go_grown⟩
set_option maxHeartbeats 400000 in
theorem isempty_any (a b c d : Nat) (f : Bool) (w : World) :
    Calls Try.prog 37 #[gv a b c d f] w fun e w' => e = .returned (.bool (!f)) ∧ Below w.heap.size w w' := by
  go_enter Try.func37, Try.ntmps37
  go_wp2
  go_returns
  exact ⟨rfl, by go_grown⟩
set_option maxHeartbeats 400000 in
theorem newunchecked_any (a b c d : Nat) (w : World) :
    Calls Try.prog 38 #[xv a b, xv c d] w fun e w' => e = .returned (gv a b c d true) ∧ Below w.heap.size w w' := by
  go_enter Try.func38, Try.ntmps38
  go_wp2
  go_returns
  exact ⟨rfl, by go_grown⟩
set_option maxHeartbeats 1000000 in
theorem expandxy_none (a b c d x y : Nat) (w : World) :
    Calls Try.prog 47 #[gv a b c d false, xv x y] w fun e w' => e = .returned (gv x y x y true) ∧ Below w.heap.size w w' := by
  go_enter Try.func47, Try.ntmps47
  go_wp2_with (first
    | (go_at_call 37; refine (isempty_any _ _ _ _ _ _).mono ?_; rintro e w1 ⟨rfl, hb⟩; (first | (replace hS := chainB hS (by go_grown) hb; clear hb) | (have hS := hb; clear hb)); obtain ⟨hcS, hfS⟩ := bcell hS; (try simp only [World.size_alloc, World.size_setCell, World.size_drew] at hcS hfS))
    | (go_at_call 38; refine (newunchecked_any _ _ _ _ _).mono ?_; rintro e w1 ⟨rfl, hb⟩; (first | (replace hS := chainB hS (by go_grown) hb; clear hb) | (have hS := hb; clear hb)); obtain ⟨hcS, hfS⟩ := bcell hS; (try simp only [World.size_alloc, World.size_setCell, World.size_drew] at hcS hfS)))
  have HB := Below.trans (B := w.heap.size) (a := w) (by go_grown) (hS.mono (by go_size))
  refine bodyPost_ret (v := gv x y x y true) (by simp [results, Try.results47, go_sem, *]) rfl ⟨rfl, by go_grown⟩
set_option maxHeartbeats 1000000 in
theorem expandxy_some (a b c d x y : Nat) (w : World) (ha : fin a = true) (hb : fin b = true) (hc : fin c = true) (hd : fin d = true) :
    Calls Try.prog 47 #[gv a b c d true, xv x y] w fun e w' => e = .returned (gv (fmin a x) (fmin b y) (fmax c x) (fmax d y) true) ∧ Below w.heap.size w w' := by
  go_enter Try.func47, Try.ntmps47
  go_wp2_with (first
    | (go_at_call 37; refine (isempty_any _ _ _ _ _ _).mono ?_; rintro e w1 ⟨rfl, hb⟩; (first | (replace hS := chainB hS (by go_grown) hb; clear hb) | (have hS := hb; clear hb)); obtain ⟨hcS, hfS⟩ := bcell hS; (try simp only [World.size_alloc, World.size_setCell, World.size_drew] at hcS hfS)))
  have hO := hS
  refine Reg.beginR (ops := regAt Try.f47 3) 28 [w.heap.size + 2] (by kernel_rfl) (by kernel_rfl) (fun wr hS hB hzu1 => ?_)
  have hC := But.of_below (rs := [w.heap.size + 2]) rfl hS
  refine' Reg.val (o := { dst := some 10, op := Op.fieldAddr 54 (Operand.tmp 2) 0, type := 0, pos := "type_envelope.go:146", after := #[], guard := none }) 0 _ (by rfl) (by kernel_rfl) (by rfl) hC ?hvu1_0 ?_
  case hvu1_0 => intro W hW; have hcW := hW.cells; have hcV := hW.outer hO; (try simp only [World.size_alloc, World.size_setCell, World.size_drew] at hcV); go_simp <;> (with_reducible rfl)
  simp only [Act.put, List.setIfInBounds_toArray, List.set_cons_zero, List.set_cons_succ]
  refine' Reg.val (o := { dst := some 11, op := Op.fieldAddr 52 (Operand.tmp 10) 0, type := 0, pos := "type_envelope.go:146", after := #[{ on := 0, ground := Ground.data }], guard := none }) 1 _ (by rfl) (by kernel_rfl) (by rfl) hC ?hvu1_1 ?_
  case hvu1_1 => intro W hW; have hcW := hW.cells; have hcV := hW.outer hO; (try simp only [World.size_alloc, World.size_setCell, World.size_drew] at hcV); go_simp <;> (with_reducible rfl)
  simp only [Act.put, List.setIfInBounds_toArray, List.set_cons_zero, List.set_cons_succ]
  refine' Reg.val (o := { dst := some 12, op := Op.load 22 (Operand.tmp 11), type := 22, pos := "type_envelope.go:146", after := #[{ on := 1, ground := Ground.data }], guard := none }) 2 _ (by rfl) (by kernel_rfl) (by rfl) hC ?hvu1_2 ?_
  case hvu1_2 => intro W hW; have hcW := hW.cells; have hcV := hW.outer hO; (try simp only [World.size_alloc, World.size_setCell, World.size_drew] at hcV); go_simp <;> (with_reducible rfl)
  simp only [Act.put, List.setIfInBounds_toArray, List.set_cons_zero, List.set_cons_succ]
  refine' Reg.val (o := { dst := some 13, op := Op.fieldAddr 52 (Operand.tmp 3) 0, type := 0, pos := "type_envelope.go:146", after := #[], guard := none }) 3 _ (by rfl) (by kernel_rfl) (by rfl) hC ?hvu1_3 ?_
  case hvu1_3 => intro W hW; have hcW := hW.cells; have hcV := hW.outer hO; (try simp only [World.size_alloc, World.size_setCell, World.size_drew] at hcV); go_simp <;> (with_reducible rfl)
  simp only [Act.put, List.setIfInBounds_toArray, List.set_cons_zero, List.set_cons_succ]
  refine' Reg.val (o := { dst := some 14, op := Op.load 22 (Operand.tmp 13), type := 22, pos := "type_envelope.go:146", after := #[{ on := 3, ground := Ground.data }], guard := none }) 4 _ (by rfl) (by kernel_rfl) (by rfl) hC ?hvu1_4 ?_
  case hvu1_4 => intro W hW; have hcW := hW.cells; have hcV := hW.outer hO; (try simp only [World.size_alloc, World.size_setCell, World.size_drew] at hcV); go_simp <;> (with_reducible rfl)
  simp only [Act.put, List.setIfInBounds_toArray, List.set_cons_zero, List.set_cons_succ]
  refine' Reg.val (o := { dst := some 16, op := Op.fieldAddr 54 (Operand.tmp 2) 0, type := 0, pos := "type_envelope.go:146", after := #[], guard := none }) 6 _ (by rfl) (by kernel_rfl) (by rfl) hC ?hvu1_6 ?_
  case hvu1_6 => intro W hW; have hcW := hW.cells; have hcV := hW.outer hO; (try simp only [World.size_alloc, World.size_setCell, World.size_drew] at hcV); go_simp <;> (with_reducible rfl)
  simp only [Act.put, List.setIfInBounds_toArray, List.set_cons_zero, List.set_cons_succ]
  refine' Reg.val (o := { dst := some 17, op := Op.fieldAddr 52 (Operand.tmp 16) 1, type := 0, pos := "type_envelope.go:146", after := #[{ on := 6, ground := Ground.data }], guard := none }) 7 _ (by rfl) (by kernel_rfl) (by rfl) hC ?hvu1_7 ?_
  case hvu1_7 => intro W hW; have hcW := hW.cells; have hcV := hW.outer hO; (try simp only [World.size_alloc, World.size_setCell, World.size_drew] at hcV); go_simp <;> (with_reducible rfl)
  simp only [Act.put, List.setIfInBounds_toArray, List.set_cons_zero, List.set_cons_succ]
  refine' Reg.val (o := { dst := some 18, op := Op.load 22 (Operand.tmp 17), type := 22, pos := "type_envelope.go:146", after := #[{ on := 7, ground := Ground.data }], guard := none }) 8 _ (by rfl) (by kernel_rfl) (by rfl) hC ?hvu1_8 ?_
  case hvu1_8 => intro W hW; have hcW := hW.cells; have hcV := hW.outer hO; (try simp only [World.size_alloc, World.size_setCell, World.size_drew] at hcV); go_simp <;> (with_reducible rfl)
  simp only [Act.put, List.setIfInBounds_toArray, List.set_cons_zero, List.set_cons_succ]
  refine' Reg.val (o := { dst := some 19, op := Op.fieldAddr 52 (Operand.tmp 3) 1, type := 0, pos := "type_envelope.go:146", after := #[], guard := none }) 9 _ (by rfl) (by kernel_rfl) (by rfl) hC ?hvu1_9 ?_
  case hvu1_9 => intro W hW; have hcW := hW.cells; have hcV := hW.outer hO; (try simp only [World.size_alloc, World.size_setCell, World.size_drew] at hcV); go_simp <;> (with_reducible rfl)
  simp only [Act.put, List.setIfInBounds_toArray, List.set_cons_zero, List.set_cons_succ]
  refine' Reg.val (o := { dst := some 20, op := Op.load 22 (Operand.tmp 19), type := 22, pos := "type_envelope.go:146", after := #[{ on := 9, ground := Ground.data }], guard := none }) 10 _ (by rfl) (by kernel_rfl) (by rfl) hC ?hvu1_10 ?_
  case hvu1_10 => intro W hW; have hcW := hW.cells; have hcV := hW.outer hO; (try simp only [World.size_alloc, World.size_setCell, World.size_drew] at hcV); go_simp <;> (with_reducible rfl)
  simp only [Act.put, List.setIfInBounds_toArray, List.set_cons_zero, List.set_cons_succ]
  refine' Reg.val (o := { dst := some 23, op := Op.fieldAddr 54 (Operand.tmp 2) 1, type := 0, pos := "type_envelope.go:146", after := #[], guard := none }) 13 _ (by rfl) (by kernel_rfl) (by rfl) hC ?hvu1_13 ?_
  case hvu1_13 => intro W hW; have hcW := hW.cells; have hcV := hW.outer hO; (try simp only [World.size_alloc, World.size_setCell, World.size_drew] at hcV); go_simp <;> (with_reducible rfl)
  simp only [Act.put, List.setIfInBounds_toArray, List.set_cons_zero, List.set_cons_succ]
  refine' Reg.val (o := { dst := some 24, op := Op.fieldAddr 52 (Operand.tmp 23) 0, type := 0, pos := "type_envelope.go:146", after := #[{ on := 13, ground := Ground.data }], guard := none }) 14 _ (by rfl) (by kernel_rfl) (by rfl) hC ?hvu1_14 ?_
  case hvu1_14 => intro W hW; have hcW := hW.cells; have hcV := hW.outer hO; (try simp only [World.size_alloc, World.size_setCell, World.size_drew] at hcV); go_simp <;> (with_reducible rfl)
  simp only [Act.put, List.setIfInBounds_toArray, List.set_cons_zero, List.set_cons_succ]
  refine' Reg.val (o := { dst := some 25, op := Op.load 22 (Operand.tmp 24), type := 22, pos := "type_envelope.go:146", after := #[{ on := 14, ground := Ground.data }], guard := none }) 15 _ (by rfl) (by kernel_rfl) (by rfl) hC ?hvu1_15 ?_
  case hvu1_15 => intro W hW; have hcW := hW.cells; have hcV := hW.outer hO; (try simp only [World.size_alloc, World.size_setCell, World.size_drew] at hcV); go_simp <;> (with_reducible rfl)
  simp only [Act.put, List.setIfInBounds_toArray, List.set_cons_zero, List.set_cons_succ]
  refine' Reg.val (o := { dst := some 26, op := Op.fieldAddr 52 (Operand.tmp 3) 0, type := 0, pos := "type_envelope.go:146", after := #[], guard := none }) 16 _ (by rfl) (by kernel_rfl) (by rfl) hC ?hvu1_16 ?_
  case hvu1_16 => intro W hW; have hcW := hW.cells; have hcV := hW.outer hO; (try simp only [World.size_alloc, World.size_setCell, World.size_drew] at hcV); go_simp <;> (with_reducible rfl)
  simp only [Act.put, List.setIfInBounds_toArray, List.set_cons_zero, List.set_cons_succ]
  refine' Reg.val (o := { dst := some 27, op := Op.load 22 (Operand.tmp 26), type := 22, pos := "type_envelope.go:146", after := #[{ on := 16, ground := Ground.data }], guard := none }) 17 _ (by rfl) (by kernel_rfl) (by rfl) hC ?hvu1_17 ?_
  case hvu1_17 => intro W hW; have hcW := hW.cells; have hcV := hW.outer hO; (try simp only [World.size_alloc, World.size_setCell, World.size_drew] at hcV); go_simp <;> (with_reducible rfl)
  simp only [Act.put, List.setIfInBounds_toArray, List.set_cons_zero, List.set_cons_succ]
  refine' Reg.val (o := { dst := some 29, op := Op.fieldAddr 54 (Operand.tmp 2) 1, type := 0, pos := "type_envelope.go:146", after := #[], guard := none }) 19 _ (by rfl) (by kernel_rfl) (by rfl) hC ?hvu1_19 ?_
  case hvu1_19 => intro W hW; have hcW := hW.cells; have hcV := hW.outer hO; (try simp only [World.size_alloc, World.size_setCell, World.size_drew] at hcV); go_simp <;> (with_reducible rfl)
  simp only [Act.put, List.setIfInBounds_toArray, List.set_cons_zero, List.set_cons_succ]
  refine' Reg.val (o := { dst := some 30, op := Op.fieldAddr 52 (Operand.tmp 29) 1, type := 0, pos := "type_envelope.go:146", after := #[{ on := 19, ground := Ground.data }], guard := none }) 20 _ (by rfl) (by kernel_rfl) (by rfl) hC ?hvu1_20 ?_
  case hvu1_20 => intro W hW; have hcW := hW.cells; have hcV := hW.outer hO; (try simp only [World.size_alloc, World.size_setCell, World.size_drew] at hcV); go_simp <;> (with_reducible rfl)
  simp only [Act.put, List.setIfInBounds_toArray, List.set_cons_zero, List.set_cons_succ]
  refine' Reg.val (o := { dst := some 31, op := Op.load 22 (Operand.tmp 30), type := 22, pos := "type_envelope.go:146", after := #[{ on := 20, ground := Ground.data }], guard := none }) 21 _ (by rfl) (by kernel_rfl) (by rfl) hC ?hvu1_21 ?_
  case hvu1_21 => intro W hW; have hcW := hW.cells; have hcV := hW.outer hO; (try simp only [World.size_alloc, World.size_setCell, World.size_drew] at hcV); go_simp <;> (with_reducible rfl)
  simp only [Act.put, List.setIfInBounds_toArray, List.set_cons_zero, List.set_cons_succ]
  refine' Reg.val (o := { dst := some 32, op := Op.fieldAddr 52 (Operand.tmp 3) 1, type := 0, pos := "type_envelope.go:146", after := #[], guard := none }) 22 _ (by rfl) (by kernel_rfl) (by rfl) hC ?hvu1_22 ?_
  case hvu1_22 => intro W hW; have hcW := hW.cells; have hcV := hW.outer hO; (try simp only [World.size_alloc, World.size_setCell, World.size_drew] at hcV); go_simp <;> (with_reducible rfl)
  simp only [Act.put, List.setIfInBounds_toArray, List.set_cons_zero, List.set_cons_succ]
  refine' Reg.val (o := { dst := some 33, op := Op.load 22 (Operand.tmp 32), type := 22, pos := "type_envelope.go:146", after := #[{ on := 22, ground := Ground.data }], guard := none }) 23 _ (by rfl) (by kernel_rfl) (by rfl) hC ?hvu1_23 ?_
  case hvu1_23 => intro W hW; have hcW := hW.cells; have hcV := hW.outer hO; (try simp only [World.size_alloc, World.size_setCell, World.size_drew] at hcV); go_simp <;> (with_reducible rfl)
  simp only [Act.put, List.setIfInBounds_toArray, List.set_cons_zero, List.set_cons_succ]
  refine Reg.one (o := { dst := some 15, op := Op.call { callee := Callee.value (Operand.func 39), args := #[Operand.tmp 12, Operand.tmp 14], argTypes := #[22, 22] }, type := 22, pos := "type_envelope.go:147", after := #[{ on := 2, ground := Ground.data }, { on := 4, ground := Ground.data }], guard := none }) 5 (by rfl) (by kernel_rfl) (by rfl)  (fun K Q' hK => ?_)
  go_simp
  refine (fmin_any _ _ (by assumption) _).mono ?_
  rintro e w5 ⟨rfl, rfl⟩
  refine hK _ _ hC (fun hC => ?_)
  clear hK K
  refine Reg.one (o := { dst := some 21, op := Op.call { callee := Callee.value (Operand.func 39), args := #[Operand.tmp 18, Operand.tmp 20], argTypes := #[22, 22] }, type := 22, pos := "type_envelope.go:147", after := #[{ on := 8, ground := Ground.data }, { on := 10, ground := Ground.data }, { on := 5, ground := Ground.chain }], guard := none }) 11 (by rfl) (by kernel_rfl) (by rfl)  (fun K Q' hK => ?_)
  go_simp
  refine (fmin_any _ _ (by assumption) _).mono ?_
  rintro e w11 ⟨rfl, rfl⟩
  refine hK _ _ hC (fun hC => ?_)
  clear hK K
  refine' Reg.val (o := { dst := some 22, op := Op.build 52 #[(0, Operand.tmp 15), (1, Operand.tmp 21)], type := 52, pos := "type_envelope.go:146", after := #[{ on := 5, ground := Ground.data }, { on := 11, ground := Ground.data }], guard := none }) 12 _ (by rfl) (by kernel_rfl) (by rfl) hC ?hvu1_12 ?_
  case hvu1_12 => intro W hW; have hcW := hW.cells; have hcV := hW.outer hO; (try simp only [World.size_alloc, World.size_setCell, World.size_drew] at hcV); go_simp <;> (with_reducible rfl)
  simp only [Act.put, List.setIfInBounds_toArray, List.set_cons_zero, List.set_cons_succ]
  refine Reg.one (o := { dst := some 28, op := Op.call { callee := Callee.value (Operand.func 40), args := #[Operand.tmp 25, Operand.tmp 27], argTypes := #[22, 22] }, type := 22, pos := "type_envelope.go:148", after := #[{ on := 15, ground := Ground.data }, { on := 17, ground := Ground.data }, { on := 11, ground := Ground.chain }], guard := none }) 18 (by rfl) (by kernel_rfl) (by rfl)  (fun K Q' hK => ?_)
  go_simp
  refine (fmax_any _ _ (by assumption) _).mono ?_
  rintro e w18 ⟨rfl, rfl⟩
  refine hK _ _ hC (fun hC => ?_)
  clear hK K
  refine Reg.one (o := { dst := some 34, op := Op.call { callee := Callee.value (Operand.func 40), args := #[Operand.tmp 31, Operand.tmp 33], argTypes := #[22, 22] }, type := 22, pos := "type_envelope.go:148", after := #[{ on := 21, ground := Ground.data }, { on := 23, ground := Ground.data }, { on := 18, ground := Ground.chain }], guard := none }) 24 (by rfl) (by kernel_rfl) (by rfl)  (fun K Q' hK => ?_)
  go_simp
  refine (fmax_any _ _ (by assumption) _).mono ?_
  rintro e w24 ⟨rfl, rfl⟩
  refine hK _ _ hC (fun hC => ?_)
  clear hK K
  refine' Reg.val (o := { dst := some 35, op := Op.build 52 #[(0, Operand.tmp 28), (1, Operand.tmp 34)], type := 52, pos := "type_envelope.go:146", after := #[{ on := 18, ground := Ground.data }, { on := 24, ground := Ground.data }], guard := none }) 25 _ (by rfl) (by kernel_rfl) (by rfl) hC ?hvu1_25 ?_
  case hvu1_25 => intro W hW; have hcW := hW.cells; have hcV := hW.outer hO; (try simp only [World.size_alloc, World.size_setCell, World.size_drew] at hcV); go_simp <;> (with_reducible rfl)
  simp only [Act.put, List.setIfInBounds_toArray, List.set_cons_zero, List.set_cons_succ]
  refine Reg.one (o := { dst := some 36, op := Op.call { callee := Callee.value (Operand.func 38), args := #[Operand.tmp 22, Operand.tmp 35], argTypes := #[52, 52] }, type := 54, pos := "type_envelope.go:146", after := #[{ on := 12, ground := Ground.data }, { on := 25, ground := Ground.data }, { on := 24, ground := Ground.chain }], guard := none }) 26 (by rfl) (by kernel_rfl) (by rfl)  (fun K Q' hK => ?_)
  go_simp
  refine (newunchecked_any _ _ _ _ _).mono ?_
  rintro e w26 ⟨rfl, hb26⟩
  replace hS := Below.trans hS (hb26.mono hB)
  replace hB := Nat.le_trans hB hb26.size
  clear hC
  refine hK _ _ (But.of_below rfl hS) (fun hC => ?_)
  clear hK K
  refine Reg.one (o := { dst := none, op := Op.store 54 (Operand.tmp 4) (Operand.tmp 36), type := 0, pos := "type_envelope.go:146", after := #[{ on := 26, ground := Ground.data }, { on := 26, ground := Ground.chain }, { on := 0, ground := Ground.phase }, { on := 1, ground := Ground.phase }, { on := 2, ground := Ground.phase }, { on := 3, ground := Ground.phase }, { on := 4, ground := Ground.phase }, { on := 5, ground := Ground.phase }, { on := 6, ground := Ground.phase }, { on := 7, ground := Ground.phase }, { on := 8, ground := Ground.phase }, { on := 9, ground := Ground.phase }, { on := 10, ground := Ground.phase }, { on := 11, ground := Ground.phase }, { on := 12, ground := Ground.phase }, { on := 13, ground := Ground.phase }, { on := 14, ground := Ground.phase }, { on := 15, ground := Ground.phase }, { on := 16, ground := Ground.phase }, { on := 17, ground := Ground.phase }, { on := 18, ground := Ground.phase }, { on := 19, ground := Ground.phase }, { on := 20, ground := Ground.phase }, { on := 21, ground := Ground.phase }, { on := 22, ground := Ground.phase }, { on := 23, ground := Ground.phase }, { on := 24, ground := Ground.phase }, { on := 25, ground := Ground.phase }, { on := 26, ground := Ground.phase }], guard := none }) 27 (by rfl) (by kernel_rfl) (by rfl)  (fun K Q' hK => ?_)
  obtain ⟨hcR, hfR⟩ := bcell hS
  obtain ⟨hcV, hfV⟩ := bcell (Below.trans hO (hS.mono hO.size))
  (try simp only [World.size_alloc, World.size_setCell, World.size_drew] at hcV hfV)
  go_simp
  refine hK _ _ (by repeat (first | exact hS | assumption | exact But.of_below rfl hS | exact hC | refine But.setCell ?_ (by simp) _ | refine Below.setCell ?_ ?_ _ | refine Below.alloc ?_ ?_ _ | go_size)) (fun hC' => ?_)
  clear hK K
  clear hC
  have hC := hC'
  clear hC'
  refine Reg.end_ (by kernel_rfl) ?_
  have hR := hS
  replace hS := Below.trans hO (hS.mono hO.size)
  obtain ⟨hcS, hfS⟩ := bcell hS
  (try simp only [World.size_alloc, World.size_setCell, World.size_drew] at hcS hfS)
  go_wp2
  have HB := Below.trans (B := w.heap.size) (a := w) (by go_grown) (hS.mono (by go_size))
  refine bodyPost_ret (v := gv (fmin a x) (fmin b y) (fmax c x) (fmax d y) true) (by simp [results, Try.results47, go_sem, *]) rfl ⟨rfl, by go_grown⟩
/-! ### NewEnvelope of a list of places -/
structure Bx where
  (a b c d : Nat)
def bgrow : Option Bx → Nat × Nat → Option Bx
  | none, p => some ⟨p.1, p.2, p.1, p.2⟩
  | some q, p => some ⟨fmin q.a p.1, fmin q.b p.2, fmax q.c p.1, fmax q.d p.2⟩
def bval : Option Bx → Value
  | none => gv 0 0 0 0 false
  | some q => gv q.a q.b q.c q.d true
def bcells : Option Bx → List Value
  | none => [fv 0, fv 0, fv 0, fv 0, .bool false]
  | some q => [fv q.a, fv q.b, fv q.c, fv q.d, .bool true]
def bfin : Option Bx → Prop
  | none => True
  | some q => fin q.a = true ∧ fin q.b = true ∧ fin q.c = true ∧ fin q.d = true
theorem bgrow_fin {o : Option Bx} {p : Nat × Nat} (h : bfin o) (h1 : fin p.1 = true) (h2 : fin p.2 = true) : bfin (bgrow o p) := by
  cases o with
  | none => exact ⟨h1, h2, h1, h2⟩
  | some q => exact ⟨(fmin_spec h.1 h1).1, (fmin_spec h.2.1 h2).1, (fmax_spec h.2.2.1 h1).1, (fmax_spec h.2.2.2 h2).1⟩
def bfold (ps : List (Nat × Nat)) : Option Bx := ps.foldl bgrow none
theorem bfold_snoc (ps : List (Nat × Nat)) (p : Nat × Nat) : bfold (ps ++ [p]) = bgrow (bfold ps) p := by simp [bfold]
def allfin (ps : List (Nat × Nat)) : Prop := ∀ p, p ∈ ps → fin p.1 = true ∧ fin p.2 = true
theorem bfold_fin (ps : List (Nat × Nat)) (h : allfin ps) : bfin (bfold ps) := by
  have key : ∀ (l : List (Nat × Nat)) (o : Option Bx), bfin o → allfin l → bfin (l.foldl bgrow o) := by
    intro l
    induction l with
    | nil => intro o ho _; exact ho
    | cons p r ih =>
      intro o ho hl
      have hp := hl p (by simp)
      exact ih _ (bgrow_fin ho hp.1 hp.2) fun q hq => hl q (by simp [hq])
  exact key ps none trivial h
theorem expandxy_opt (o : Option Bx) (p : Nat × Nat) (w : World) (ho : bfin o) :
    Calls Try.prog 47 #[bval o, xv p.1 p.2] w fun e w' => e = .returned (bval (bgrow o p)) ∧ Below w.heap.size w w' := by
  cases o with
  | none => exact expandxy_none _ _ _ _ _ _ _
  | some q => exact expandxy_some _ _ _ _ _ _ _ ho.1 ho.2.1 ho.2.2.1 ho.2.2.2

/-- a slice of places: its cells, two a place -/
def Ps (w : World) (b off : Nat) (ps : List (Nat × Nat)) : Prop := ∀ i p, ps[i]? = some p → w.cell? ⟨b, off + i * 2, none⟩ = some (fv p.1) ∧ w.cell? ⟨b, off + i * 2 + 1, none⟩ = some (fv p.2)
theorem Ps.keep {w w' : World} {b off : Nat} {ps : List (Nat × Nat)} (h : Ps w b off ps) (hb : Below w.heap.size w w') : Ps w' b off ps := fun i p hi => by
  obtain ⟨h1, h2⟩ := h i p hi
  exact ⟨(hb.cell (World.block_lt_of_cell? w _ h1)).trans h1, (hb.cell (World.block_lt_of_cell? w _ h2)).trans h2⟩
set_option maxHeartbeats 2000000 in
theorem newenv_any (ps : List (Nat × Nat)) (b off cap : Nat) (w : World) (hf : allfin ps) (hp : Ps w b off ps) (hl : ps.length ≤ 1000000) :
    Calls Try.prog 36 #[.slice (some ⟨b, off, none⟩) ps.length cap] w fun e w' => e = .returned (bval (bfold ps)) ∧ Below w.heap.size w w' := by
  go_enter Try.func36, Try.ntmps36
  go_wp2_with fail
  go_loopw [8] (fun i wr => ∃ k, k ≤ ps.length ∧ i = .int .i64 (k : Int) ∧ Below w.heap.size w wr ∧ Blk wr w.heap.size (bcells none) 54 ∧ Blk wr (w.heap.size + 1) (bcells (bfold (ps.take k))) 54)
    (fun i _ => ps.length - (intOf i).toNat)
  case atStart =>
    refine ⟨0, Nat.zero_le _, rfl, by go_grown, Blk.alloc (Blk.new w (bcells none) _) _, ?_⟩
    have := Blk.new (w.alloc (.cells (bcells none).toArray 54)) (bcells none) 54
    rw [World.size_alloc] at this
    exact this
  case round =>
    obtain ⟨k, hk, rfl, H, R, B⟩ := hrel
    by_cases hlt : k < ps.length
    · have hpk := hp k ps[k] (List.getElem?_eq_getElem hlt)
      have hbl := World.block_lt_of_cell? w _ hpk.1
      simp only at hbl
      have c0 := (H.cell (p := ⟨b, off + k * 2, none⟩) hbl).trans hpk.1
      have c1 := (H.cell (p := ⟨b, off + k * 2 + 1, none⟩) hbl).trans hpk.2
      have hb2 := B.lt
      have hbf : bfin (bfold (ps.take k)) := bfold_fin _ fun q hq => hf q (List.mem_of_mem_take hq)
      have hsn : bfold (ps.take (k + 1)) = bgrow (bfold (ps.take k)) ps[k] := by
        rw [List.take_succ_eq_append_getElem hlt, bfold_snoc]
      have HS := Lib.hid hsn
      clear hsn hpk hf hp
      generalize ps[k] = p at *
      generalize bfold (ps.take k) = o at *
      obtain ⟨e0, e1, e2, e3, e4, he⟩ : ∃ e0 e1 e2 e3 e4, bcells o = [e0, e1, e2, e3, e4] := by cases o <;> exact ⟨_, _, _, _, _, rfl⟩
      rw [he] at B
      have hbv : bval o = .agg #[e0, e1, e2, e3, e4] := by
        cases o <;> simp [bcells] at he <;> obtain ⟨rfl, rfl, rfl, rfl, rfl⟩ := he <;> rfl
      have HV := Lib.hid hbv
      have HE := Lib.hid he
      clear hbv he
      obtain ⟨B0, B1, B2, B3, B4, F0, F1, F2, F3, F4⟩ := B.c5
      have HB := Lib.hid B
      have HR := Lib.hid R
      clear B R
      obtain ⟨q, hq⟩ : ∃ q, bgrow o p = some q := by cases o <;> exact ⟨_, rfl⟩
      have hc : ∀ W, Calls Try.prog 47 #[.agg #[e0, e1, e2, e3, e4], xv p.1 p.2] W fun e w' => e = .returned (gv q.a q.b q.c q.d true) ∧ Below W.heap.size W w' := by
        intro W
        have := expandxy_opt o p W hbf
        rw [HV.out, hq] at this
        exact this
      have HC := Lib.hid hc
      have HQ := Lib.hid hq
      clear hc hq hbf
      go_wp2_with fail
      refine (HC.out _).mono ?_
      rintro e w2 ⟨rfl, hb⟩
      have hz := hb.size
      simp only [World.size_alloc] at hz
      have B' := (HB.out.alloc (.cells #[fv p.1, fv p.2] 52)).keep hb (by simp; omega)
      have R' := (HR.out.alloc (.cells #[fv p.1, fv p.2] 52)).keep hb (by simp; omega)
      have H' : Below w.heap.size w w2 := Below.trans (by go_grown) (hb.mono (by simp; omega))
      obtain ⟨B0', B1', B2', B3', B4', F0', F1', F2', F3', F4'⟩ := B'.c5
      have hw2 : w.heap.size + 1 < w2.heap.size := B'.lt
      have HB' := Lib.hid B'
      have HR' := Lib.hid R'
      clear hb hz B' R' HB HR B0 B1 B2 B3 B4 F0 F1 F2 F3 F4 c0 c1 H hb2 hbl HC
      go_wp2_with fail
      go_roundw
      case rel =>
        refine ⟨k + 1, by omega, by go_num, by go_grown, ?_, ?_⟩
        · repeat (refine Blk.other ?_ (by simp) _)
          exact HR'.out
        · rw [HS.out, HQ.out]
          exact ((((HB'.out.set 0 _).set 1 _).set 2 _).set 3 _).set 4 _
      case measure => simp [intOf]; omega
    · have hkk : k = ps.length := by omega
      subst hkk
      rw [List.take_length] at B
      have hb2 := B.lt
      obtain ⟨x0, x1, x2, x3, x4, hx, hv⟩ : ∃ x0 x1 x2 x3 x4, bcells (bfold ps) = [fv x0, fv x1, fv x2, fv x3, .bool x4] ∧ bval (bfold ps) = gv x0 x1 x2 x3 x4 := by
        cases bfold ps <;> exact ⟨_, _, _, _, _, rfl, rfl⟩
      rw [hx] at B
      have HV := Lib.hid hv
      obtain ⟨B0, B1, B2, B3, B4, F0, F1, F2, F3, F4⟩ := B.c5
      obtain ⟨R0, R1, R2, R3, R4, G0, G1, G2, G3, G4⟩ := Blk.c5 (T := 54) (show Blk wr w.heap.size [fv 0, fv 0, fv 0, fv 0, .bool false] 54 from R)
      clear hx hv B R hf hp
      go_wp2_with fail
      refine bodyPost_ret (v := gv x0 x1 x2 x3 x4) (by simp [results, Try.results36, go_sem, *]) rfl ⟨by rw [HV.out], by go_grown⟩
end Go.Proofs.Ytcidgicdeedgfaa
