/- Walks of the functions that join boxes: BoxJoin gives the least and the greatest of the ends. No condition. -/
import Derived.Test.YtaibabmpmnfedaaFin
import Derived.Test.YtaibabmpmnfedaaRegion
namespace Go.Proofs.Ytaibabmpmnfedaa
open Go.ChangeShapes Go.WideShapes Go.ChangeAt Go.RowKit
open Fl
set_option linter.unusedSimpArgs false
set_option linter.unusedVariables false
attribute [local go_sem] run_store_float run_fadd run_fsub run_fmul run_fdiv run_equalIn_float fmt64

set_option maxHeartbeats 400000 in
theorem fastmin_any (x y : Nat) (w : World) :
    Calls Try.prog 41 #[.float .f64 x, .float .f64 y] w fun e w' => e = .returned (.float .f64 (fmin x y)) ∧ w = w' := by
  unfold fmin
  cases h : (Ieee.double.order x y == some .lt)
  all_goals
    go_enter Try.func41, Try.ntmps41
    go_wp2
    go_returns
    exact ⟨rfl, rfl⟩
set_option maxHeartbeats 400000 in
theorem fastmax_any (x y : Nat) (w : World) :
    Calls Try.prog 42 #[.float .f64 x, .float .f64 y] w fun e w' => e = .returned (.float .f64 (fmax x y)) ∧ w = w' := by
  unfold fmax
  cases h : (Ieee.double.order x y == some .gt)
  all_goals
    go_enter Try.func42, Try.ntmps42
    go_wp2
    go_returns
    exact ⟨rfl, rfl⟩

abbrev bx (a b c d : Nat) : Value := .agg #[.float .f64 a, .float .f64 b, .float .f64 c, .float .f64 d]

set_option maxHeartbeats 400000 in
theorem box_any (a b c d : Nat) (w : World) :
    Calls Try.prog 26 #[bx a b c d] w fun e w' => e = .returned (bx a b c d) ∧ Below w.heap.size w w' := by
  go_enter Try.func26, Try.ntmps26
  go_wp2
  go_returns
  exact ⟨rfl, by go_grown⟩
set_option maxHeartbeats 400000 in
theorem frombox_any (a b c d : Nat) (w : World) :
    Calls Try.prog 24 #[bx a b c d] w fun e w' => e = .returned (bx a b c d) ∧ Below w.heap.size w w' := by
  go_enter Try.func24, Try.ntmps24
  go_wp2
  go_returns
  exact ⟨rfl, by go_grown⟩
set_option maxHeartbeats 1000000 in
theorem combine_any (a b c d a' b' c' d' : Nat) (w : World) :
    Calls Try.prog 34 #[bx a b c d, bx a' b' c' d'] w fun e w' => e = .returned (bx (fmin a a') (fmin b b') (fmax c c') (fmax d d')) ∧ Below w.heap.size w w' := by
  go_enter Try.func34, Try.ntmps34
  go_wp2_with fail
  refine Reg.beginR (ops := regAt Try.f34 1) 22 (w.heap.size + 2) (by kernel_rfl) (by kernel_rfl) (fun wr hS hB hzu1 => ?_)
  refine' Reg.val (o := { dst := some 5, op := Op.fieldAddr 50 (Operand.tmp 2) 0, type := 0, pos := "box.go:19", after := #[], guard := none }) 0 _ (by rfl) (by kernel_rfl) (by rfl) (But.of_below rfl hS) ?hvu1_0 ?_
  case hvu1_0 => intro W hW; have hcW := hW.cells; go_simp <;> (with_reducible rfl)
  simp only [Act.put, List.setIfInBounds_toArray, List.set_cons_zero, List.set_cons_succ]
  refine' Reg.val (o := { dst := some 6, op := Op.load 24 (Operand.tmp 5), type := 24, pos := "box.go:19", after := #[{ on := 0, ground := Ground.data }], guard := none }) 1 _ (by rfl) (by kernel_rfl) (by rfl) (But.of_below rfl hS) ?hvu1_1 ?_
  case hvu1_1 => intro W hW; have hcW := hW.cells; go_simp <;> (with_reducible rfl)
  simp only [Act.put, List.setIfInBounds_toArray, List.set_cons_zero, List.set_cons_succ]
  refine' Reg.val (o := { dst := some 7, op := Op.fieldAddr 50 (Operand.tmp 3) 0, type := 0, pos := "box.go:19", after := #[], guard := none }) 2 _ (by rfl) (by kernel_rfl) (by rfl) (But.of_below rfl hS) ?hvu1_2 ?_
  case hvu1_2 => intro W hW; have hcW := hW.cells; go_simp <;> (with_reducible rfl)
  simp only [Act.put, List.setIfInBounds_toArray, List.set_cons_zero, List.set_cons_succ]
  refine' Reg.val (o := { dst := some 8, op := Op.load 24 (Operand.tmp 7), type := 24, pos := "box.go:19", after := #[{ on := 2, ground := Ground.data }], guard := none }) 3 _ (by rfl) (by kernel_rfl) (by rfl) (But.of_below rfl hS) ?hvu1_3 ?_
  case hvu1_3 => intro W hW; have hcW := hW.cells; go_simp <;> (with_reducible rfl)
  simp only [Act.put, List.setIfInBounds_toArray, List.set_cons_zero, List.set_cons_succ]
  refine' Reg.val (o := { dst := some 10, op := Op.fieldAddr 50 (Operand.tmp 2) 1, type := 0, pos := "box.go:19", after := #[], guard := none }) 5 _ (by rfl) (by kernel_rfl) (by rfl) (But.of_below rfl hS) ?hvu1_5 ?_
  case hvu1_5 => intro W hW; have hcW := hW.cells; go_simp <;> (with_reducible rfl)
  simp only [Act.put, List.setIfInBounds_toArray, List.set_cons_zero, List.set_cons_succ]
  refine' Reg.val (o := { dst := some 11, op := Op.load 24 (Operand.tmp 10), type := 24, pos := "box.go:19", after := #[{ on := 5, ground := Ground.data }], guard := none }) 6 _ (by rfl) (by kernel_rfl) (by rfl) (But.of_below rfl hS) ?hvu1_6 ?_
  case hvu1_6 => intro W hW; have hcW := hW.cells; go_simp <;> (with_reducible rfl)
  simp only [Act.put, List.setIfInBounds_toArray, List.set_cons_zero, List.set_cons_succ]
  refine' Reg.val (o := { dst := some 12, op := Op.fieldAddr 50 (Operand.tmp 3) 1, type := 0, pos := "box.go:19", after := #[], guard := none }) 7 _ (by rfl) (by kernel_rfl) (by rfl) (But.of_below rfl hS) ?hvu1_7 ?_
  case hvu1_7 => intro W hW; have hcW := hW.cells; go_simp <;> (with_reducible rfl)
  simp only [Act.put, List.setIfInBounds_toArray, List.set_cons_zero, List.set_cons_succ]
  refine' Reg.val (o := { dst := some 13, op := Op.load 24 (Operand.tmp 12), type := 24, pos := "box.go:19", after := #[{ on := 7, ground := Ground.data }], guard := none }) 8 _ (by rfl) (by kernel_rfl) (by rfl) (But.of_below rfl hS) ?hvu1_8 ?_
  case hvu1_8 => intro W hW; have hcW := hW.cells; go_simp <;> (with_reducible rfl)
  simp only [Act.put, List.setIfInBounds_toArray, List.set_cons_zero, List.set_cons_succ]
  refine' Reg.val (o := { dst := some 15, op := Op.fieldAddr 50 (Operand.tmp 2) 2, type := 0, pos := "box.go:19", after := #[], guard := none }) 10 _ (by rfl) (by kernel_rfl) (by rfl) (But.of_below rfl hS) ?hvu1_10 ?_
  case hvu1_10 => intro W hW; have hcW := hW.cells; go_simp <;> (with_reducible rfl)
  simp only [Act.put, List.setIfInBounds_toArray, List.set_cons_zero, List.set_cons_succ]
  refine' Reg.val (o := { dst := some 16, op := Op.load 24 (Operand.tmp 15), type := 24, pos := "box.go:19", after := #[{ on := 10, ground := Ground.data }], guard := none }) 11 _ (by rfl) (by kernel_rfl) (by rfl) (But.of_below rfl hS) ?hvu1_11 ?_
  case hvu1_11 => intro W hW; have hcW := hW.cells; go_simp <;> (with_reducible rfl)
  simp only [Act.put, List.setIfInBounds_toArray, List.set_cons_zero, List.set_cons_succ]
  refine' Reg.val (o := { dst := some 17, op := Op.fieldAddr 50 (Operand.tmp 3) 2, type := 0, pos := "box.go:19", after := #[], guard := none }) 12 _ (by rfl) (by kernel_rfl) (by rfl) (But.of_below rfl hS) ?hvu1_12 ?_
  case hvu1_12 => intro W hW; have hcW := hW.cells; go_simp <;> (with_reducible rfl)
  simp only [Act.put, List.setIfInBounds_toArray, List.set_cons_zero, List.set_cons_succ]
  refine' Reg.val (o := { dst := some 18, op := Op.load 24 (Operand.tmp 17), type := 24, pos := "box.go:19", after := #[{ on := 12, ground := Ground.data }], guard := none }) 13 _ (by rfl) (by kernel_rfl) (by rfl) (But.of_below rfl hS) ?hvu1_13 ?_
  case hvu1_13 => intro W hW; have hcW := hW.cells; go_simp <;> (with_reducible rfl)
  simp only [Act.put, List.setIfInBounds_toArray, List.set_cons_zero, List.set_cons_succ]
  refine' Reg.val (o := { dst := some 20, op := Op.fieldAddr 50 (Operand.tmp 2) 3, type := 0, pos := "box.go:19", after := #[], guard := none }) 15 _ (by rfl) (by kernel_rfl) (by rfl) (But.of_below rfl hS) ?hvu1_15 ?_
  case hvu1_15 => intro W hW; have hcW := hW.cells; go_simp <;> (with_reducible rfl)
  simp only [Act.put, List.setIfInBounds_toArray, List.set_cons_zero, List.set_cons_succ]
  refine' Reg.val (o := { dst := some 21, op := Op.load 24 (Operand.tmp 20), type := 24, pos := "box.go:19", after := #[{ on := 15, ground := Ground.data }], guard := none }) 16 _ (by rfl) (by kernel_rfl) (by rfl) (But.of_below rfl hS) ?hvu1_16 ?_
  case hvu1_16 => intro W hW; have hcW := hW.cells; go_simp <;> (with_reducible rfl)
  simp only [Act.put, List.setIfInBounds_toArray, List.set_cons_zero, List.set_cons_succ]
  refine' Reg.val (o := { dst := some 22, op := Op.fieldAddr 50 (Operand.tmp 3) 3, type := 0, pos := "box.go:19", after := #[], guard := none }) 17 _ (by rfl) (by kernel_rfl) (by rfl) (But.of_below rfl hS) ?hvu1_17 ?_
  case hvu1_17 => intro W hW; have hcW := hW.cells; go_simp <;> (with_reducible rfl)
  simp only [Act.put, List.setIfInBounds_toArray, List.set_cons_zero, List.set_cons_succ]
  refine' Reg.val (o := { dst := some 23, op := Op.load 24 (Operand.tmp 22), type := 24, pos := "box.go:19", after := #[{ on := 17, ground := Ground.data }], guard := none }) 18 _ (by rfl) (by kernel_rfl) (by rfl) (But.of_below rfl hS) ?hvu1_18 ?_
  case hvu1_18 => intro W hW; have hcW := hW.cells; go_simp <;> (with_reducible rfl)
  simp only [Act.put, List.setIfInBounds_toArray, List.set_cons_zero, List.set_cons_succ]
  refine Reg.one (o := { dst := some 9, op := Op.call { callee := Callee.value (Operand.func 41), args := #[Operand.tmp 6, Operand.tmp 8], argTypes := #[24, 24] }, type := 24, pos := "box.go:20", after := #[{ on := 1, ground := Ground.data }, { on := 3, ground := Ground.data }], guard := none }) 4 (by rfl) (by kernel_rfl) (by rfl)  (fun K Q' hK => ?_)
  go_simp
  refine (fastmin_any _ _ _).mono ?_
  rintro e w4 ⟨rfl, rfl⟩
  refine hK _ _ (But.of_below rfl hS) ?_
  clear hK K
  refine Reg.one (o := { dst := some 14, op := Op.call { callee := Callee.value (Operand.func 41), args := #[Operand.tmp 11, Operand.tmp 13], argTypes := #[24, 24] }, type := 24, pos := "box.go:21", after := #[{ on := 6, ground := Ground.data }, { on := 8, ground := Ground.data }, { on := 4, ground := Ground.chain }], guard := none }) 9 (by rfl) (by kernel_rfl) (by rfl)  (fun K Q' hK => ?_)
  go_simp
  refine (fastmin_any _ _ _).mono ?_
  rintro e w9 ⟨rfl, rfl⟩
  refine hK _ _ (But.of_below rfl hS) ?_
  clear hK K
  refine Reg.one (o := { dst := some 19, op := Op.call { callee := Callee.value (Operand.func 42), args := #[Operand.tmp 16, Operand.tmp 18], argTypes := #[24, 24] }, type := 24, pos := "box.go:22", after := #[{ on := 11, ground := Ground.data }, { on := 13, ground := Ground.data }, { on := 9, ground := Ground.chain }], guard := none }) 14 (by rfl) (by kernel_rfl) (by rfl)  (fun K Q' hK => ?_)
  go_simp
  refine (fastmax_any _ _ _).mono ?_
  rintro e w14 ⟨rfl, rfl⟩
  refine hK _ _ (But.of_below rfl hS) ?_
  clear hK K
  refine Reg.one (o := { dst := some 24, op := Op.call { callee := Callee.value (Operand.func 42), args := #[Operand.tmp 21, Operand.tmp 23], argTypes := #[24, 24] }, type := 24, pos := "box.go:23", after := #[{ on := 16, ground := Ground.data }, { on := 18, ground := Ground.data }, { on := 14, ground := Ground.chain }], guard := none }) 19 (by rfl) (by kernel_rfl) (by rfl)  (fun K Q' hK => ?_)
  go_simp
  refine (fastmax_any _ _ _).mono ?_
  rintro e w19 ⟨rfl, rfl⟩
  refine hK _ _ (But.of_below rfl hS) ?_
  clear hK K
  refine' Reg.val (o := { dst := some 25, op := Op.build 50 #[(0, Operand.tmp 9), (1, Operand.tmp 14), (2, Operand.tmp 19), (3, Operand.tmp 24)], type := 50, pos := "box.go:19", after := #[{ on := 4, ground := Ground.data }, { on := 9, ground := Ground.data }, { on := 14, ground := Ground.data }, { on := 19, ground := Ground.data }], guard := none }) 20 _ (by rfl) (by kernel_rfl) (by rfl) (But.of_below rfl hS) ?hvu1_20 ?_
  case hvu1_20 => intro W hW; have hcW := hW.cells; go_simp <;> (with_reducible rfl)
  simp only [Act.put, List.setIfInBounds_toArray, List.set_cons_zero, List.set_cons_succ]
  refine Reg.one (o := { dst := none, op := Op.store 50 (Operand.tmp 4) (Operand.tmp 25), type := 0, pos := "box.go:19", after := #[{ on := 20, ground := Ground.data }, { on := 19, ground := Ground.chain }, { on := 0, ground := Ground.phase }, { on := 1, ground := Ground.phase }, { on := 2, ground := Ground.phase }, { on := 3, ground := Ground.phase }, { on := 4, ground := Ground.phase }, { on := 5, ground := Ground.phase }, { on := 6, ground := Ground.phase }, { on := 7, ground := Ground.phase }, { on := 8, ground := Ground.phase }, { on := 9, ground := Ground.phase }, { on := 10, ground := Ground.phase }, { on := 11, ground := Ground.phase }, { on := 12, ground := Ground.phase }, { on := 13, ground := Ground.phase }, { on := 14, ground := Ground.phase }, { on := 15, ground := Ground.phase }, { on := 16, ground := Ground.phase }, { on := 17, ground := Ground.phase }, { on := 18, ground := Ground.phase }, { on := 19, ground := Ground.phase }, { on := 20, ground := Ground.phase }], guard := none }) 21 (by rfl) (by kernel_rfl) (by rfl)  (fun K Q' hK => ?_)
  obtain ⟨hcR, hfR⟩ := bcell hS
  go_simp
  refine hK _ _ (by repeat (first | exact hS | assumption | exact But.of_below rfl hS | refine But.setCell ?_ rfl _ | refine Below.setCell ?_ ?_ _ | refine Below.alloc ?_ ?_ _ | go_size)) ?_
  clear hK K
  refine Reg.end_ (by kernel_rfl) ?_
  have hR := hS
  obtain ⟨hcS, hfS⟩ := bcell hS
  (try simp only [World.size_alloc, World.size_setCell, World.size_drew] at hcS hfS)
  go_wp2
  have HB := Below.trans (B := w.heap.size) (a := w) (by go_grown) (hS.mono (by go_size))
  refine bodyPost_ret (v := bx (fmin a a') (fmin b b') (fmax c c') (fmax d d')) (by simp [results, Try.results34, go_sem, hcS, hfS]) rfl ⟨rfl, ?_⟩
  go_grown
set_option maxHeartbeats 1000000 in
theorem doorcombine_any (a b c d a' b' c' d' : Nat) (w : World) :
    Calls Try.prog 25 #[bx a b c d, bx a' b' c' d'] w fun e w' => e = .returned (bx (fmin a a') (fmin b b') (fmax c c') (fmax d d')) ∧ Below w.heap.size w w' := by
  go_enter Try.func25, Try.ntmps25
  go_wp2_with (go_at_call 34; refine (combine_any _ _ _ _ _ _ _ _ _).mono ?_; rintro e w1 ⟨rfl, hb⟩; have H : Below w.heap.size w w1 := Below.trans (by go_grown) (hb.mono (by go_size)); obtain ⟨hc, hf⟩ := bcell hb; obtain ⟨hcO, hfO⟩ := bcell H; have hz := hb.size; (try simp only [World.size_alloc, World.size_setCell, World.size_drew] at hz hc hf); clear hb)
  refine bodyPost_ret (v := bx (fmin a a') (fmin b b') (fmax c c') (fmax d d')) (by simp [results, Try.results25, go_sem, *]) rfl ⟨rfl, ?_⟩
  go_grown
set_option maxHeartbeats 1000000 in
theorem boxjoin_any (a b c d a' b' c' d' : Nat) (w : World) :
    Calls Try.prog 13 #[bx a b c d, bx a' b' c' d'] w fun e w' => e = .returned (bx (fmin a a') (fmin b b') (fmax c c') (fmax d d')) ∧ Below w.heap.size w w' := by
  go_enter Try.func13, Try.ntmps13
  go_wp2_with fail
  refine Reg.beginR (ops := regAt Try.f13 1) 7 (w.heap.size + 2) (by kernel_rfl) (by kernel_rfl) (fun wr hS hB hzu2 => ?_)
  refine' Reg.val (o := { dst := some 5, op := Op.load 31 (Operand.tmp 2), type := 31, pos := "tree.go:20", after := #[], guard := none }) 0 _ (by rfl) (by kernel_rfl) (by rfl) (But.of_below rfl hS) ?hvu2_0 ?_
  case hvu2_0 => intro W hW; have hcW := hW.cells; go_simp <;> (with_reducible rfl)
  simp only [Act.put, List.setIfInBounds_toArray, List.set_cons_zero, List.set_cons_succ]
  refine' Reg.val (o := { dst := some 7, op := Op.load 31 (Operand.tmp 3), type := 31, pos := "tree.go:20", after := #[], guard := none }) 2 _ (by rfl) (by kernel_rfl) (by rfl) (But.of_below rfl hS) ?hvu2_2 ?_
  case hvu2_2 => intro W hW; have hcW := hW.cells; go_simp <;> (with_reducible rfl)
  simp only [Act.put, List.setIfInBounds_toArray, List.set_cons_zero, List.set_cons_succ]
  refine Reg.one (o := { dst := some 6, op := Op.call { callee := Callee.value (Operand.func 26), args := #[Operand.tmp 5], argTypes := #[31] }, type := 50, pos := "tree.go:20", after := #[{ on := 0, ground := Ground.data }], guard := none }) 1 (by rfl) (by kernel_rfl) (by rfl)  (fun K Q' hK => ?_)
  go_simp
  refine (box_any _ _ _ _ _).mono ?_
  rintro e w1 ⟨rfl, hb1⟩
  replace hS := Below.trans hS (hb1.mono hB)
  replace hB := Nat.le_trans hB hb1.size
  refine hK _ _ (But.of_below rfl hS) ?_
  clear hK K
  refine Reg.one (o := { dst := some 8, op := Op.call { callee := Callee.value (Operand.func 26), args := #[Operand.tmp 7], argTypes := #[31] }, type := 50, pos := "tree.go:20", after := #[{ on := 2, ground := Ground.data }, { on := 1, ground := Ground.chain }], guard := none }) 3 (by rfl) (by kernel_rfl) (by rfl)  (fun K Q' hK => ?_)
  go_simp
  refine (box_any _ _ _ _ _).mono ?_
  rintro e w3 ⟨rfl, hb3⟩
  replace hS := Below.trans hS (hb3.mono hB)
  replace hB := Nat.le_trans hB hb3.size
  refine hK _ _ (But.of_below rfl hS) ?_
  clear hK K
  refine Reg.one (o := { dst := some 9, op := Op.call { callee := Callee.value (Operand.func 25), args := #[Operand.tmp 6, Operand.tmp 8], argTypes := #[50, 50] }, type := 50, pos := "tree.go:20", after := #[{ on := 1, ground := Ground.data }, { on := 3, ground := Ground.data }, { on := 3, ground := Ground.chain }], guard := none }) 4 (by rfl) (by kernel_rfl) (by rfl)  (fun K Q' hK => ?_)
  go_simp
  refine (doorcombine_any _ _ _ _ _ _ _ _ _).mono ?_
  rintro e w4 ⟨rfl, hb4⟩
  replace hS := Below.trans hS (hb4.mono hB)
  replace hB := Nat.le_trans hB hb4.size
  refine hK _ _ (But.of_below rfl hS) ?_
  clear hK K
  refine Reg.one (o := { dst := some 10, op := Op.call { callee := Callee.value (Operand.func 24), args := #[Operand.tmp 9], argTypes := #[50] }, type := 31, pos := "tree.go:20", after := #[{ on := 4, ground := Ground.data }, { on := 4, ground := Ground.chain }], guard := none }) 5 (by rfl) (by kernel_rfl) (by rfl)  (fun K Q' hK => ?_)
  go_simp
  refine (frombox_any _ _ _ _ _).mono ?_
  rintro e w5 ⟨rfl, hb5⟩
  replace hS := Below.trans hS (hb5.mono hB)
  replace hB := Nat.le_trans hB hb5.size
  refine hK _ _ (But.of_below rfl hS) ?_
  clear hK K
  refine Reg.one (o := { dst := none, op := Op.store 31 (Operand.tmp 4) (Operand.tmp 10), type := 0, pos := "tree.go:20", after := #[{ on := 5, ground := Ground.data }, { on := 5, ground := Ground.chain }, { on := 0, ground := Ground.phase }, { on := 1, ground := Ground.phase }, { on := 2, ground := Ground.phase }, { on := 3, ground := Ground.phase }, { on := 4, ground := Ground.phase }, { on := 5, ground := Ground.phase }], guard := none }) 6 (by rfl) (by kernel_rfl) (by rfl)  (fun K Q' hK => ?_)
  obtain ⟨hcR, hfR⟩ := bcell hS
  go_simp
  refine hK _ _ (by repeat (first | exact hS | assumption | exact But.of_below rfl hS | refine But.setCell ?_ rfl _ | refine Below.setCell ?_ ?_ _ | refine Below.alloc ?_ ?_ _ | go_size)) ?_
  clear hK K
  refine Reg.end_ (by kernel_rfl) ?_
  have hR := hS
  obtain ⟨hcS, hfS⟩ := bcell hS
  (try simp only [World.size_alloc, World.size_setCell, World.size_drew] at hcS hfS)
  go_wp2
  have HB := Below.trans (B := w.heap.size) (a := w) (by go_grown) (hS.mono (by go_size))
  refine bodyPost_ret (v := bx (fmin a a') (fmin b b') (fmax c c') (fmax d d')) (by simp [results, Try.results13, go_sem, hcS, hfS]) rfl ⟨rfl, ?_⟩
  go_grown
def fin4 (a b c d : Nat) : Bool := fin a && fin b && fin c && fin d
set_option maxHeartbeats 1000000 in
theorem efinite_any (a b c d : Nat) (w : World) :
    Calls Try.prog 12 #[bx a b c d] w fun e w' => e = .returned (.bool (fin4 a b c d)) ∧ Below w.heap.size w w' := by
  unfold fin4
  cases h1 : fin a <;> cases h2 : fin b <;> cases h3 : fin c <;> cases h4 : fin d
  all_goals
    go_enter Try.func12, Try.ntmps12
    go_wp2_with (go_at_call 23; refine (gfinite_any _ _).mono ?_; rintro e w' ⟨rfl, rfl⟩)
    go_returns
    exact ⟨rfl, by go_grown⟩
end Go.Proofs.Ytaibabmpmnfedaa
