/- Walks of a sequence's place and length, and of the first and the last segment that have a length. -/
import Derived.Test.YtpbllagjcdcnpaaSeq
namespace Go.Proofs.Ytpbllagjcdcnpaa
open Go.ChangeShapes Go.WideShapes Go.ChangeAt Go.RowKit
open Fl
set_option linter.unusedSimpArgs false
set_option linter.unusedVariables false
attribute [local go_sem] run_store_float run_fadd run_fsub run_fmul run_fdiv run_equalIn_float fmt64

abbrev sq (D : Int) (b N : Nat) : Value := .agg #[.int .u8 D, .slice (some ⟨b, 0, none⟩) N N]
set_option maxRecDepth 20000 in
set_option maxHeartbeats 4000000 in
theorem getxy_any (D : Int) (b N i j : Nat) (f : Nat → Nat) (w : World) (hD : Is4 D) (hB : Blk w b (flos N f) 48) (hN : N ≤ 2000) (hj : j = i * wid D) (hjN : j + 1 < N) :
    Calls Try.prog 95 #[sq D b N, .int .i64 i] w fun e w' => e = .returned (.agg #[fw (f j), fw (f (j + 1))]) ∧ Below w.heap.size w w' := by
  have hd := Lib.hid fun W => dimension_any D hD W
  obtain ⟨W, hWd⟩ : ∃ W, wid D = W := ⟨_, rfl⟩
  rw [hWd] at hd hj
  have hij : (i : Int) * (W : Int) = (j : Int) := by rw [hj, Int.natCast_mul]
  have hj0 : j < N := by omega
  have hw0 : IntKind.i64.wrap (j : Int) = (j : Int) := by rw [IntKind.wrap_i64]; omega
  have hw1 : IntKind.i64.wrap ((j : Int) + 1) = (j : Int) + 1 := by rw [IntKind.wrap_i64]; omega
  have hge1 : 0 ≤ (j : Int) + 1 := by omega
  have hlt1 : (j : Int) + 1 < (N : Int) := by omega
  have htn1 : ((j : Int) + 1).toNat = j + 1 := by omega
  have hbl := hB.lt
  have p0 := (hB.cell j).trans (flos_at hj0)
  have p1 := (hB.cell (j + 1)).trans (flos_at hjN)
  clear hj hB
  go_enter Try.func95, Try.ntmps95
  go_wp2_with (go_at_call 74; refine (hd.out _).mono ?_; rintro e w1 ⟨rfl, hb⟩; have hb1 := Lib.hid hb; clear hb)
  have hz1 := hb1.out.size
  simp only [World.size_alloc] at hz1
  have K0 := ((Blk.new w [.int .u8 D, .slice (some ⟨b, 0, none⟩) N N] 68).alloc (.cells #[fw 0, fw 0] 80)).keep hb1.out (by simp only [World.size_alloc]; omega)
  have K1 := (Blk.new (w.alloc (.cells #[.int .u8 D, .slice (some ⟨b, 0, none⟩) N N] 68)) [fw 0, fw 0] 80).keep hb1.out (by simp only [World.size_alloc]; omega)
  simp only [World.size_alloc] at K1
  have L0 := K0.lt
  have L1 := K1.lt
  obtain ⟨k0, k1, g0, g1⟩ := K0.c2
  obtain ⟨s0, s1, t0, t1⟩ := K1.c2
  have HT : Below w.heap.size w w1 := Below.trans (by go_grown) (hb1.out.mono (by simp only [World.size_alloc]; omega))
  have r0 := (HT.cell (p := ⟨b, j, none⟩) hbl).trans p0
  have r1 := (HT.cell (p := ⟨b, j + 1, none⟩) hbl).trans p1
  have hb1' : b < w1.heap.size := by omega
  have hbn : ¬ b = w.heap.size + 1 := by omega
  have hne0 : ¬ w.heap.size = w.heap.size + 1 := by omega
  have HT := Lib.hid HT
  clear K0 K1 p0 p1
  refine Reg.beginR (ops := regAt Try.f95 2) 17 [w.heap.size + 1] (by kernel_rfl) (by kernel_rfl) (fun wr hS hB hzu1 => ?_)
  have hC := But.of_below (rs := [w.heap.size + 1]) rfl hS
  refine' Reg.val (o := { dst := some 9, op := Op.fieldAddr 68 (Operand.tmp 2) 1, type := 0, pos := "type_sequence.go:85", after := #[], guard := none }) 0 _ (by rfl) (by kernel_rfl) (by rfl) hC ?hvu1_0 ?_
  case hvu1_0 => intro W hW; have hcW := hW.cells; go_simp <;> (with_reducible rfl)
  simp only [Act.put, List.setIfInBounds_toArray, List.set_cons_zero, List.set_cons_succ]
  refine' Reg.val (o := { dst := some 10, op := Op.load 22 (Operand.tmp 9), type := 22, pos := "type_sequence.go:85", after := #[{ on := 0, ground := Ground.data }], guard := none }) 1 _ (by rfl) (by kernel_rfl) (by rfl) hC ?hvu1_1 ?_
  case hvu1_1 => intro W hW; have hcW := hW.cells; go_simp <;> (with_reducible rfl)
  simp only [Act.put, List.setIfInBounds_toArray, List.set_cons_zero, List.set_cons_succ]
  refine' Reg.val (o := { dst := some 11, op := Op.move (Operand.tmp 1), type := 3, pos := "type_sequence.go:85", after := #[], guard := none }) 2 _ (by rfl) (by kernel_rfl) (by rfl) hC ?hvu1_2 ?_
  case hvu1_2 => intro W _; go_simp <;> (with_reducible rfl)
  simp only [Act.put, List.setIfInBounds_toArray, List.set_cons_zero, List.set_cons_succ]
  refine' Reg.val (o := { dst := some 12, op := Op.move (Operand.tmp 5), type := 3, pos := "type_sequence.go:85", after := #[], guard := none }) 3 _ (by rfl) (by kernel_rfl) (by rfl) hC ?hvu1_3 ?_
  case hvu1_3 => intro W _; go_simp <;> (with_reducible rfl)
  simp only [Act.put, List.setIfInBounds_toArray, List.set_cons_zero, List.set_cons_succ]
  refine' Reg.val (o := { dst := some 13, op := Op.binOp BinOp.mul 3 (Operand.tmp 11) (Operand.tmp 12) 3, type := 3, pos := "type_sequence.go:85", after := #[{ on := 2, ground := Ground.data }, { on := 3, ground := Ground.data }], guard := none }) 4 _ (by rfl) (by kernel_rfl) (by rfl) hC ?hvu1_4 ?_
  case hvu1_4 => intro W hW; have hcW := hW.cells; go_simp <;> (with_reducible rfl)
  simp only [Act.put, List.setIfInBounds_toArray, List.set_cons_zero, List.set_cons_succ]
  refine' Reg.val (o := { dst := some 14, op := Op.indexAddr 22 (Operand.tmp 10) (Operand.tmp 13), type := 0, pos := "type_sequence.go:85", after := #[{ on := 1, ground := Ground.data }, { on := 4, ground := Ground.data }], guard := none }) 5 _ (by rfl) (by kernel_rfl) (by rfl) hC ?hvu1_5 ?_
  case hvu1_5 => intro W hW; have hcW := hW.cells; go_simp <;> (with_reducible rfl)
  simp only [Act.put, List.setIfInBounds_toArray, List.set_cons_zero, List.set_cons_succ]
  refine' Reg.val (o := { dst := some 15, op := Op.load 48 (Operand.tmp 14), type := 48, pos := "type_sequence.go:85", after := #[{ on := 5, ground := Ground.data }], guard := none }) 6 _ (by rfl) (by kernel_rfl) (by rfl) hC ?hvu1_6 ?_
  case hvu1_6 => intro W hW; have hcW := hW.cells; go_simp <;> (with_reducible rfl)
  simp only [Act.put, List.setIfInBounds_toArray, List.set_cons_zero, List.set_cons_succ]
  refine' Reg.val (o := { dst := some 16, op := Op.fieldAddr 68 (Operand.tmp 2) 1, type := 0, pos := "type_sequence.go:85", after := #[], guard := none }) 7 _ (by rfl) (by kernel_rfl) (by rfl) hC ?hvu1_7 ?_
  case hvu1_7 => intro W hW; have hcW := hW.cells; go_simp <;> (with_reducible rfl)
  simp only [Act.put, List.setIfInBounds_toArray, List.set_cons_zero, List.set_cons_succ]
  refine' Reg.val (o := { dst := some 17, op := Op.load 22 (Operand.tmp 16), type := 22, pos := "type_sequence.go:85", after := #[{ on := 7, ground := Ground.data }], guard := none }) 8 _ (by rfl) (by kernel_rfl) (by rfl) hC ?hvu1_8 ?_
  case hvu1_8 => intro W hW; have hcW := hW.cells; go_simp <;> (with_reducible rfl)
  simp only [Act.put, List.setIfInBounds_toArray, List.set_cons_zero, List.set_cons_succ]
  refine' Reg.val (o := { dst := some 18, op := Op.move (Operand.tmp 1), type := 3, pos := "type_sequence.go:85", after := #[], guard := none }) 9 _ (by rfl) (by kernel_rfl) (by rfl) hC ?hvu1_9 ?_
  case hvu1_9 => intro W _; go_simp <;> (with_reducible rfl)
  simp only [Act.put, List.setIfInBounds_toArray, List.set_cons_zero, List.set_cons_succ]
  refine' Reg.val (o := { dst := some 19, op := Op.move (Operand.tmp 5), type := 3, pos := "type_sequence.go:85", after := #[], guard := none }) 10 _ (by rfl) (by kernel_rfl) (by rfl) hC ?hvu1_10 ?_
  case hvu1_10 => intro W _; go_simp <;> (with_reducible rfl)
  simp only [Act.put, List.setIfInBounds_toArray, List.set_cons_zero, List.set_cons_succ]
  refine' Reg.val (o := { dst := some 20, op := Op.binOp BinOp.mul 3 (Operand.tmp 18) (Operand.tmp 19) 3, type := 3, pos := "type_sequence.go:85", after := #[{ on := 9, ground := Ground.data }, { on := 10, ground := Ground.data }], guard := none }) 11 _ (by rfl) (by kernel_rfl) (by rfl) hC ?hvu1_11 ?_
  case hvu1_11 => intro W hW; have hcW := hW.cells; go_simp <;> (with_reducible rfl)
  simp only [Act.put, List.setIfInBounds_toArray, List.set_cons_zero, List.set_cons_succ]
  refine' Reg.val (o := { dst := some 21, op := Op.binOp BinOp.add 3 (Operand.tmp 20) (Operand.const (Value.int IntKind.i64 1)) 3, type := 3, pos := "type_sequence.go:85", after := #[{ on := 11, ground := Ground.data }], guard := none }) 12 _ (by rfl) (by kernel_rfl) (by rfl) hC ?hvu1_12 ?_
  case hvu1_12 => intro W hW; have hcW := hW.cells; go_simp <;> (with_reducible rfl)
  simp only [Act.put, List.setIfInBounds_toArray, List.set_cons_zero, List.set_cons_succ]
  refine' Reg.val (o := { dst := some 22, op := Op.indexAddr 22 (Operand.tmp 17) (Operand.tmp 21), type := 0, pos := "type_sequence.go:85", after := #[{ on := 8, ground := Ground.data }, { on := 12, ground := Ground.data }], guard := none }) 13 _ (by rfl) (by kernel_rfl) (by rfl) hC ?hvu1_13 ?_
  case hvu1_13 => intro W hW; have hcW := hW.cells; go_simp <;> (with_reducible rfl)
  simp only [Act.put, List.setIfInBounds_toArray, List.set_cons_zero, List.set_cons_succ]
  refine' Reg.val (o := { dst := some 23, op := Op.load 48 (Operand.tmp 22), type := 48, pos := "type_sequence.go:85", after := #[{ on := 13, ground := Ground.data }], guard := none }) 14 _ (by rfl) (by kernel_rfl) (by rfl) hC ?hvu1_14 ?_
  case hvu1_14 => intro W hW; have hcW := hW.cells; go_simp <;> (with_reducible rfl)
  simp only [Act.put, List.setIfInBounds_toArray, List.set_cons_zero, List.set_cons_succ]
  refine' Reg.val (o := { dst := some 24, op := Op.build 80 #[(0, Operand.tmp 15), (1, Operand.tmp 23)], type := 80, pos := "type_sequence.go:85", after := #[{ on := 6, ground := Ground.data }, { on := 14, ground := Ground.data }], guard := none }) 15 _ (by rfl) (by kernel_rfl) (by rfl) hC ?hvu1_15 ?_
  case hvu1_15 => intro W hW; have hcW := hW.cells; go_simp <;> (with_reducible rfl)
  simp only [Act.put, List.setIfInBounds_toArray, List.set_cons_zero, List.set_cons_succ]
  refine Reg.one (o := { dst := none, op := Op.store 80 (Operand.tmp 4) (Operand.tmp 24), type := 0, pos := "type_sequence.go:85", after := #[{ on := 15, ground := Ground.data }, { on := 0, ground := Ground.phase }, { on := 1, ground := Ground.phase }, { on := 2, ground := Ground.phase }, { on := 3, ground := Ground.phase }, { on := 4, ground := Ground.phase }, { on := 5, ground := Ground.phase }, { on := 6, ground := Ground.phase }, { on := 7, ground := Ground.phase }, { on := 8, ground := Ground.phase }, { on := 9, ground := Ground.phase }, { on := 10, ground := Ground.phase }, { on := 11, ground := Ground.phase }, { on := 12, ground := Ground.phase }, { on := 13, ground := Ground.phase }, { on := 14, ground := Ground.phase }, { on := 15, ground := Ground.phase }], guard := none }) 16 (by rfl) (by kernel_rfl) (by rfl)  (fun K Q' hK => ?_)
  obtain ⟨hcR, hfR⟩ := bcell hS
  go_simp
  refine hK _ _ (by repeat (first | exact hS | assumption | exact But.of_below rfl hS | exact hC | refine But.setCell ?_ (by simp) _ | refine Below.setCell ?_ ?_ _ | refine Below.alloc ?_ ?_ _ | go_size)) (fun hC' => ?_)
  clear hK K
  clear hC
  have hC := hC'
  clear hC'
  refine Reg.end_ (by kernel_rfl) ?_
  have hR := hS
  obtain ⟨hcS, hfS⟩ := bcell hS
  (try simp only [World.size_alloc, World.size_setCell, World.size_drew] at hcS hfS)
  have HT2 := HT.out.trans (hR.mono (by have := HT.out.size; omega))
  go_wp2_with fail
  refine bodyPost_ret (v := .agg #[fw (f j), fw (f (j + 1))]) (by simp [results, Try.results95, go_sem, *]) rfl ⟨rfl, (HT2.setCell (p := ⟨w.heap.size + 1, 0, none⟩) (by show _ ≤ w.heap.size + 1; omega) _).setCell (p := ⟨w.heap.size + 1, 1, none⟩) (by show _ ≤ w.heap.size + 1; omega) _⟩
set_option maxRecDepth 20000 in
set_option maxHeartbeats 4000000 in
theorem length_any (D : Int) (b N q : Nat) (w : World) (hD : Is4 D) (hN : N ≤ 2000) (hq : N = q * wid D) :
    Calls Try.prog 70 #[sq D b N] w fun e w' => e = .returned (.int .i64 q) ∧ Below w.heap.size w w' := by
  have hW := wid_le D
  have hd := Lib.hid fun W => dimension_any D hD W
  obtain ⟨W, hWd⟩ : ∃ W, wid D = W := ⟨_, rfl⟩
  rw [hWd] at hd hq hW
  have hW0 : ¬ W = 0 := by omega
  have hdq : (N : Int) / (W : Int) = (q : Int) := by
    rw [hq, ← Int.natCast_ediv, Nat.mul_div_cancel _ (by omega)]
  have hqN : q ≤ N := by rw [hq]; exact Nat.le_mul_of_pos_right q (by omega)
  have hwq : IntKind.i64.wrap (q : Int) = (q : Int) := by rw [IntKind.wrap_i64]; omega
  clear hq
  go_enter Try.func70, Try.ntmps70
  go_wp2_with fail
  refine Reg.beginB (ops := regAt Try.f70 1) 8 (by kernel_rfl) (by kernel_rfl) (fun wr hS hB hzu2 => ?_)
  have hC := hS
  refine' Reg.val (o := { dst := some 3, op := Op.fieldAddr 68 (Operand.tmp 1) 1, type := 0, pos := "type_sequence.go:54", after := #[], guard := none }) 0 _ (by rfl) (by kernel_rfl) (by rfl) hC ?hvu2_0 ?_
  case hvu2_0 => intro W hW; obtain ⟨hcW, hfW⟩ := bcell hW; go_simp <;> (with_reducible rfl)
  simp only [Act.put, List.setIfInBounds_toArray, List.set_cons_zero, List.set_cons_succ]
  refine' Reg.val (o := { dst := some 4, op := Op.load 22 (Operand.tmp 3), type := 22, pos := "type_sequence.go:54", after := #[{ on := 0, ground := Ground.data }], guard := none }) 1 _ (by rfl) (by kernel_rfl) (by rfl) hC ?hvu2_1 ?_
  case hvu2_1 => intro W hW; obtain ⟨hcW, hfW⟩ := bcell hW; go_simp <;> (with_reducible rfl)
  simp only [Act.put, List.setIfInBounds_toArray, List.set_cons_zero, List.set_cons_succ]
  refine' Reg.val (o := { dst := some 5, op := Op.call { callee := Callee.builtin Builtin.len, args := #[Operand.tmp 4], argTypes := #[22] }, type := 3, pos := "type_sequence.go:54", after := #[{ on := 1, ground := Ground.data }], guard := none }) 2 _ (by rfl) (by kernel_rfl) (by rfl) hC ?hvu2_2 ?_
  case hvu2_2 => intro W hW; obtain ⟨hcW, hfW⟩ := bcell hW; go_simp <;> (with_reducible rfl)
  simp only [Act.put, List.setIfInBounds_toArray, List.set_cons_zero, List.set_cons_succ]
  refine' Reg.val (o := { dst := some 6, op := Op.fieldAddr 68 (Operand.tmp 1) 0, type := 0, pos := "type_sequence.go:54", after := #[], guard := none }) 3 _ (by rfl) (by kernel_rfl) (by rfl) hC ?hvu2_3 ?_
  case hvu2_3 => intro W hW; obtain ⟨hcW, hfW⟩ := bcell hW; go_simp <;> (with_reducible rfl)
  simp only [Act.put, List.setIfInBounds_toArray, List.set_cons_zero, List.set_cons_succ]
  refine' Reg.val (o := { dst := some 7, op := Op.load 66 (Operand.tmp 6), type := 66, pos := "type_sequence.go:54", after := #[{ on := 3, ground := Ground.data }], guard := none }) 4 _ (by rfl) (by kernel_rfl) (by rfl) hC ?hvu2_4 ?_
  case hvu2_4 => intro W hW; obtain ⟨hcW, hfW⟩ := bcell hW; go_simp <;> (with_reducible rfl)
  simp only [Act.put, List.setIfInBounds_toArray, List.set_cons_zero, List.set_cons_succ]
  refine Reg.one (o := { dst := some 8, op := Op.call { callee := Callee.value (Operand.func 74), args := #[Operand.tmp 7], argTypes := #[66] }, type := 3, pos := "type_sequence.go:54", after := #[{ on := 4, ground := Ground.data }], guard := none }) 5 (by rfl) (by kernel_rfl) (by rfl)  (fun K Q' hK => ?_)
  go_simp
  refine (hd.out _).mono ?_
  rintro e w5 ⟨rfl, hb5⟩
  replace hS := Below.trans hS (hb5.mono hB)
  replace hB := Nat.le_trans hB hb5.size
  clear hC
  refine hK _ _ hS (fun hC => ?_)
  clear hK K
  refine' Reg.val (o := { dst := some 9, op := Op.binOp BinOp.quo 3 (Operand.tmp 5) (Operand.tmp 8) 3, type := 3, pos := "type_sequence.go:54", after := #[{ on := 2, ground := Ground.data }, { on := 5, ground := Ground.data }], guard := none }) 6 _ (by rfl) (by kernel_rfl) (by rfl) hC ?hvu2_6 ?_
  case hvu2_6 => intro W hW; obtain ⟨hcW, hfW⟩ := bcell hW; go_simp <;> (with_reducible rfl)
  simp only [Act.put, List.setIfInBounds_toArray, List.set_cons_zero, List.set_cons_succ]
  refine' Reg.val (o := { dst := some 2, op := Op.assign (Operand.tmp 9), type := 3, pos := "type_sequence.go:54", after := #[{ on := 6, ground := Ground.data }, { on := 5, ground := Ground.chain }, { on := 0, ground := Ground.phase }, { on := 1, ground := Ground.phase }, { on := 2, ground := Ground.phase }, { on := 3, ground := Ground.phase }, { on := 4, ground := Ground.phase }, { on := 5, ground := Ground.phase }, { on := 6, ground := Ground.phase }], guard := none }) 7 _ (by rfl) (by kernel_rfl) (by rfl) hC ?hvu2_7 ?_
  case hvu2_7 => intro W _; go_simp <;> (with_reducible rfl)
  simp only [Act.put, List.setIfInBounds_toArray, List.set_cons_zero, List.set_cons_succ]
  refine Reg.end_ (by kernel_rfl) ?_
  have hR := hS
  obtain ⟨hcS, hfS⟩ := bcell hS
  (try simp only [World.size_alloc, World.size_setCell, World.size_drew] at hcS hfS)
  go_wp2_with fail
  go_returns
  exact ⟨rfl, Below.trans (by go_grown) (hS.mono (by simp only [World.size_alloc]; omega))⟩
def GX (w : World) (D : Int) (b N q : Nat) (X Y : Nat → Nat) : Prop := ∀ (I : Int) (i : Nat) (W : World), Below w.heap.size w W → I = i → i < q →
  Calls Try.prog 95 #[sq D b N, .int .i64 I] W fun e w' => e = .returned (.agg #[fw (X i), fw (Y i)]) ∧ Below W.heap.size W w'
def eqb (x y : Nat) : Bool := Ieee.double.order x y == some .eq
/-- segment i has a length -/
def ne (X Y : Nat → Nat) (i : Nat) : Bool := !(eqb (X i) (X (i - 1)) && eqb (Y i) (Y (i - 1)))
/-- what the first and the last segment with a length are -/
def FL (X Y : Nat → Nat) (q : Nat) (r1 r2 : Int) (ok : Bool) : Prop :=
  (r1 = -1 ∧ r2 = -1 ∧ ok = false ∧ ∀ i, 1 ≤ i → i < q → ne X Y i = false) ∨
  ∃ i1 i2 : Nat, r1 = i1 ∧ r2 = i2 ∧ ok = true ∧ 1 ≤ i1 ∧ i1 ≤ i2 ∧ i2 < q ∧ ne X Y i1 = true ∧ ne X Y i2 = true ∧ (∀ i, 1 ≤ i → i < i1 → ne X Y i = false) ∧ ∀ i, i2 < i → i < q → ne X Y i = false
set_option maxRecDepth 20000 in
set_option maxHeartbeats 8000000 in
theorem fal_any (D : Int) (b N q : Nat) (X Y : Nat → Nat) (w : World) (hq2 : q ≤ 2000) (hl : ∀ W, Calls Try.prog 70 #[sq D b N] W fun e w' => e = .returned (.int .i64 q) ∧ Below W.heap.size W w') (hg : GX w D b N q X Y) :
    Calls Try.prog 66 #[sq D b N] w fun e w' => (∃ r1 r2 ok, e = .returned (.tuple #[.int .i64 r1, .int .i64 r2, .bool ok]) ∧ FL X Y q r1 r2 ok) ∧ Below w.heap.size w w' := by
  have hl := Lib.hid hl
  have hg := Lib.hid hg
  go_enter Try.func66, Try.ntmps66
  go_wp2_with (go_at_call 70; refine (hl.out _).mono ?_; rintro e w1 ⟨rfl, hb⟩; have hb1 := Lib.hid hb; clear hb)
  have HT : Below w.heap.size w w1 := Below.trans (by go_grown) (hb1.out.mono (by simp only [World.size_alloc]; omega))
  have K0 := (Blk.new w [.int .u8 D, .slice (some ⟨b, 0, none⟩) N N] 68).keep hb1.out (by simp only [World.size_alloc]; omega)
  go_loopw [6, 8] (fun s6 i wr => s6 = .int .i64 (-1) ∧ ∃ k : Nat, i = .int .i64 (k : Int) ∧ 1 ≤ k ∧ (k ≤ q ∨ k = 1) ∧ Below w.heap.size w wr ∧ Blk wr w.heap.size [.int .u8 D, .slice (some ⟨b, 0, none⟩) N N] 68 ∧ ∀ i, 1 ≤ i → i < k → ne X Y i = false)
    (fun _ i _ => q - (intOf i).toNat)
  case atStart => exact ⟨rfl, 1, rfl, Nat.le_refl _, Or.inr rfl, HT, K0, fun i h1 h2 => by omega⟩
  case round =>
    obtain ⟨rfl, k, rfl, hk1, hkq, H, K, hne⟩ := hrel
    have hne := Lib.hid hne
    obtain ⟨k0, k1, g0, g1⟩ := K.c2
    have hl0 := K.lt
    have HK := Lib.hid K
    clear K
    by_cases hk : k < q
    · have hwk : IntKind.i64.wrap ((k : Int) - 1) = (k : Int) - 1 := by rw [IntKind.wrap_i64]; omega
      cases h1 : (Ieee.double.order (X k) (X (k - 1)) == some .eq) <;> cases h2 : (Ieee.double.order (Y k) (Y (k - 1)) == some .eq)
      rotate_right
      · go_wp2_with fail
        refine Reg.beginB (ops := regAt Try.f66 6) 8 (by kernel_rfl) (by kernel_rfl) (fun wr hS hB hzu3 => ?_)
        have hC := hS
        refine' Reg.val (o := { dst := some 17, op := Op.load 68 (Operand.tmp 1), type := 68, pos := "type_sequence.go:230", after := #[], guard := none }) 0 _ (by rfl) (by kernel_rfl) (by rfl) hC ?hvu3_0 ?_
        case hvu3_0 => intro W hW; obtain ⟨hcW, hfW⟩ := bcell hW; go_simp <;> (with_reducible rfl)
        simp only [Act.put, List.setIfInBounds_toArray, List.set_cons_zero, List.set_cons_succ]
        refine' Reg.val (o := { dst := some 18, op := Op.move (Operand.tmp 8), type := 3, pos := "type_sequence.go:230", after := #[], guard := none }) 1 _ (by rfl) (by kernel_rfl) (by rfl) hC ?hvu3_1 ?_
        case hvu3_1 => intro W _; go_simp <;> (with_reducible rfl)
        simp only [Act.put, List.setIfInBounds_toArray, List.set_cons_zero, List.set_cons_succ]
        refine' Reg.val (o := { dst := some 20, op := Op.load 68 (Operand.tmp 1), type := 68, pos := "type_sequence.go:230", after := #[], guard := none }) 3 _ (by rfl) (by kernel_rfl) (by rfl) hC ?hvu3_3 ?_
        case hvu3_3 => intro W hW; obtain ⟨hcW, hfW⟩ := bcell hW; go_simp <;> (with_reducible rfl)
        simp only [Act.put, List.setIfInBounds_toArray, List.set_cons_zero, List.set_cons_succ]
        refine' Reg.val (o := { dst := some 21, op := Op.move (Operand.tmp 8), type := 3, pos := "type_sequence.go:230", after := #[], guard := none }) 4 _ (by rfl) (by kernel_rfl) (by rfl) hC ?hvu3_4 ?_
        case hvu3_4 => intro W _; go_simp <;> (with_reducible rfl)
        simp only [Act.put, List.setIfInBounds_toArray, List.set_cons_zero, List.set_cons_succ]
        refine' Reg.val (o := { dst := some 22, op := Op.binOp BinOp.sub 3 (Operand.tmp 21) (Operand.const (Value.int IntKind.i64 1)) 3, type := 3, pos := "type_sequence.go:230", after := #[{ on := 4, ground := Ground.data }], guard := none }) 5 _ (by rfl) (by kernel_rfl) (by rfl) hC ?hvu3_5 ?_
        case hvu3_5 => intro W hW; obtain ⟨hcW, hfW⟩ := bcell hW; go_simp <;> (with_reducible rfl)
        simp only [Act.put, List.setIfInBounds_toArray, List.set_cons_zero, List.set_cons_succ]
        refine Reg.one (o := { dst := some 19, op := Op.call { callee := Callee.value (Operand.func 95), args := #[Operand.tmp 17, Operand.tmp 18], argTypes := #[68, 3] }, type := 80, pos := "type_sequence.go:230", after := #[{ on := 0, ground := Ground.data }, { on := 1, ground := Ground.data }], guard := none }) 2 (by rfl) (by kernel_rfl) (by rfl)  (fun K Q' hK => ?_)
        go_simp
        refine (hg.out _ k _ (H.trans (hS.mono H.size)) rfl hk).mono ?_
        rintro e w2 ⟨rfl, hb2⟩
        replace hS := Below.trans hS (hb2.mono hB)
        replace hB := Nat.le_trans hB hb2.size
        clear hC
        refine hK _ _ hS (fun hC => ?_)
        clear hK K
        refine Reg.one (o := { dst := some 23, op := Op.call { callee := Callee.value (Operand.func 95), args := #[Operand.tmp 20, Operand.tmp 22], argTypes := #[68, 3] }, type := 80, pos := "type_sequence.go:230", after := #[{ on := 3, ground := Ground.data }, { on := 5, ground := Ground.data }, { on := 2, ground := Ground.chain }], guard := none }) 6 (by rfl) (by kernel_rfl) (by rfl)  (fun K Q' hK => ?_)
        go_simp
        refine (hg.out _ (k - 1) _ (H.trans (hS.mono H.size)) (by omega) (by omega)).mono ?_
        rintro e w6 ⟨rfl, hb6⟩
        replace hS := Below.trans hS (hb6.mono hB)
        replace hB := Nat.le_trans hB hb6.size
        clear hC
        refine hK _ _ hS (fun hC => ?_)
        clear hK K
        refine' Reg.val (o := { dst := some 24, op := Op.binOp BinOp.neq 80 (Operand.tmp 19) (Operand.tmp 23) 80, type := 4, pos := "type_sequence.go:230", after := #[{ on := 2, ground := Ground.data }, { on := 6, ground := Ground.data }], guard := none }) 7 _ (by rfl) (by kernel_rfl) (by rfl) hC ?hvu3_7 ?_
        case hvu3_7 => intro W hW; obtain ⟨hcW, hfW⟩ := bcell hW; go_simp <;> (with_reducible rfl)
        simp only [Act.put, List.setIfInBounds_toArray, List.set_cons_zero, List.set_cons_succ]
        refine Reg.end_ (by kernel_rfl) ?_
        have hR := hS
        obtain ⟨hcS, hfS⟩ := bcell hS
        (try simp only [World.size_alloc, World.size_setCell, World.size_drew] at hcS hfS)
        go_wp2_with fail
        go_roundw
        case rel =>
          refine ⟨rfl, k + 1, by go_num, by omega, Or.inl (by omega), H.trans (hS.mono H.size), HK.out.keep hS hl0, fun i h1' h2' => ?_⟩
          by_cases hik : i = k
          · subst hik
            simp [ne, eqb, h1, h2]
          · exact hne.out i h1' (by omega)
        case measure => simp [intOf]; omega
      all_goals
        go_wp2_with fail
        refine Reg.beginB (ops := regAt Try.f66 6) 8 (by kernel_rfl) (by kernel_rfl) (fun wr hS hB hzu4 => ?_)
        have hC := hS
        refine' Reg.val (o := { dst := some 17, op := Op.load 68 (Operand.tmp 1), type := 68, pos := "type_sequence.go:230", after := #[], guard := none }) 0 _ (by rfl) (by kernel_rfl) (by rfl) hC ?hvu4_0 ?_
        case hvu4_0 => intro W hW; obtain ⟨hcW, hfW⟩ := bcell hW; go_simp <;> (with_reducible rfl)
        simp only [Act.put, List.setIfInBounds_toArray, List.set_cons_zero, List.set_cons_succ]
        refine' Reg.val (o := { dst := some 18, op := Op.move (Operand.tmp 8), type := 3, pos := "type_sequence.go:230", after := #[], guard := none }) 1 _ (by rfl) (by kernel_rfl) (by rfl) hC ?hvu4_1 ?_
        case hvu4_1 => intro W _; go_simp <;> (with_reducible rfl)
        simp only [Act.put, List.setIfInBounds_toArray, List.set_cons_zero, List.set_cons_succ]
        refine' Reg.val (o := { dst := some 20, op := Op.load 68 (Operand.tmp 1), type := 68, pos := "type_sequence.go:230", after := #[], guard := none }) 3 _ (by rfl) (by kernel_rfl) (by rfl) hC ?hvu4_3 ?_
        case hvu4_3 => intro W hW; obtain ⟨hcW, hfW⟩ := bcell hW; go_simp <;> (with_reducible rfl)
        simp only [Act.put, List.setIfInBounds_toArray, List.set_cons_zero, List.set_cons_succ]
        refine' Reg.val (o := { dst := some 21, op := Op.move (Operand.tmp 8), type := 3, pos := "type_sequence.go:230", after := #[], guard := none }) 4 _ (by rfl) (by kernel_rfl) (by rfl) hC ?hvu4_4 ?_
        case hvu4_4 => intro W _; go_simp <;> (with_reducible rfl)
        simp only [Act.put, List.setIfInBounds_toArray, List.set_cons_zero, List.set_cons_succ]
        refine' Reg.val (o := { dst := some 22, op := Op.binOp BinOp.sub 3 (Operand.tmp 21) (Operand.const (Value.int IntKind.i64 1)) 3, type := 3, pos := "type_sequence.go:230", after := #[{ on := 4, ground := Ground.data }], guard := none }) 5 _ (by rfl) (by kernel_rfl) (by rfl) hC ?hvu4_5 ?_
        case hvu4_5 => intro W hW; obtain ⟨hcW, hfW⟩ := bcell hW; go_simp <;> (with_reducible rfl)
        simp only [Act.put, List.setIfInBounds_toArray, List.set_cons_zero, List.set_cons_succ]
        refine Reg.one (o := { dst := some 19, op := Op.call { callee := Callee.value (Operand.func 95), args := #[Operand.tmp 17, Operand.tmp 18], argTypes := #[68, 3] }, type := 80, pos := "type_sequence.go:230", after := #[{ on := 0, ground := Ground.data }, { on := 1, ground := Ground.data }], guard := none }) 2 (by rfl) (by kernel_rfl) (by rfl)  (fun K Q' hK => ?_)
        go_simp
        refine (hg.out _ k _ (H.trans (hS.mono H.size)) rfl hk).mono ?_
        rintro e w2 ⟨rfl, hb2⟩
        replace hS := Below.trans hS (hb2.mono hB)
        replace hB := Nat.le_trans hB hb2.size
        clear hC
        refine hK _ _ hS (fun hC => ?_)
        clear hK K
        refine Reg.one (o := { dst := some 23, op := Op.call { callee := Callee.value (Operand.func 95), args := #[Operand.tmp 20, Operand.tmp 22], argTypes := #[68, 3] }, type := 80, pos := "type_sequence.go:230", after := #[{ on := 3, ground := Ground.data }, { on := 5, ground := Ground.data }, { on := 2, ground := Ground.chain }], guard := none }) 6 (by rfl) (by kernel_rfl) (by rfl)  (fun K Q' hK => ?_)
        go_simp
        refine (hg.out _ (k - 1) _ (H.trans (hS.mono H.size)) (by omega) (by omega)).mono ?_
        rintro e w6 ⟨rfl, hb6⟩
        replace hS := Below.trans hS (hb6.mono hB)
        replace hB := Nat.le_trans hB hb6.size
        clear hC
        refine hK _ _ hS (fun hC => ?_)
        clear hK K
        refine' Reg.val (o := { dst := some 24, op := Op.binOp BinOp.neq 80 (Operand.tmp 19) (Operand.tmp 23) 80, type := 4, pos := "type_sequence.go:230", after := #[{ on := 2, ground := Ground.data }, { on := 6, ground := Ground.data }], guard := none }) 7 _ (by rfl) (by kernel_rfl) (by rfl) hC ?hvu4_7 ?_
        case hvu4_7 => intro W hW; obtain ⟨hcW, hfW⟩ := bcell hW; go_simp <;> (with_reducible rfl)
        simp only [Act.put, List.setIfInBounds_toArray, List.set_cons_zero, List.set_cons_succ]
        refine Reg.end_ (by kernel_rfl) ?_
        have hR := hS
        obtain ⟨hcS, hfS⟩ := bcell hS
        (try simp only [World.size_alloc, World.size_setCell, World.size_drew] at hcS hfS)
        have hnk : ne X Y k = true := by simp [ne, eqb, h1, h2]
        have hnk := Lib.hid hnk
        have H6 := H.trans (hS.mono H.size)
        have K6 := HK.out.keep hS hl0
        clear h1 h2 hS hB hC hR hcS hfS
        have hkn : ¬ (k : Int) = -1 := by omega
        go_wp2_with fail
        go_loopw [7, 9] (fun s7 i wx => s7 = .int .i64 (-1) ∧ ∃ z : Nat, i = .int .i64 (z : Int) ∧ k ≤ z ∧ z < q ∧ Below w.heap.size w wx ∧ Blk wx w.heap.size [.int .u8 D, .slice (some ⟨b, 0, none⟩) N N] 68 ∧ ∀ j, z < j → j < q → ne X Y j = false)
          (fun _ i _ => (intOf i).toNat)
        case atStart => exact ⟨rfl, q - 1, by go_num, by omega, by omega, H6, K6, fun j h1 h2 => by omega⟩
        case round =>
          obtain ⟨rfl, z, rfl, hkz, hz, HX, KX, hnz⟩ := hrel
          have hnz := Lib.hid hnz
          obtain ⟨k0, k1, g0, g1⟩ := KX.c2
          have hlx := KX.lt
          have HKX := Lib.hid KX
          clear KX
          have hwz : IntKind.i64.wrap ((z : Int) - 1) = (z : Int) - 1 := by rw [IntKind.wrap_i64]; omega
          have hzn : ¬ (z : Int) = -1 := by omega
          cases h3 : (Ieee.double.order (X z) (X (z - 1)) == some .eq) <;> cases h4 : (Ieee.double.order (Y z) (Y (z - 1)) == some .eq)
          rotate_right
          · go_wp2_with fail
            refine Reg.beginB (ops := regAt Try.f66 11) 8 (by kernel_rfl) (by kernel_rfl) (fun wr hS hB hzu5 => ?_)
            have hC := hS
            refine' Reg.val (o := { dst := some 32, op := Op.load 68 (Operand.tmp 1), type := 68, pos := "type_sequence.go:236", after := #[], guard := none }) 0 _ (by rfl) (by kernel_rfl) (by rfl) hC ?hvu5_0 ?_
            case hvu5_0 => intro W hW; obtain ⟨hcW, hfW⟩ := bcell hW; go_simp <;> (with_reducible rfl)
            simp only [Act.put, List.setIfInBounds_toArray, List.set_cons_zero, List.set_cons_succ]
            refine' Reg.val (o := { dst := some 33, op := Op.move (Operand.tmp 9), type := 3, pos := "type_sequence.go:236", after := #[], guard := none }) 1 _ (by rfl) (by kernel_rfl) (by rfl) hC ?hvu5_1 ?_
            case hvu5_1 => intro W _; go_simp <;> (with_reducible rfl)
            simp only [Act.put, List.setIfInBounds_toArray, List.set_cons_zero, List.set_cons_succ]
            refine' Reg.val (o := { dst := some 35, op := Op.load 68 (Operand.tmp 1), type := 68, pos := "type_sequence.go:236", after := #[], guard := none }) 3 _ (by rfl) (by kernel_rfl) (by rfl) hC ?hvu5_3 ?_
            case hvu5_3 => intro W hW; obtain ⟨hcW, hfW⟩ := bcell hW; go_simp <;> (with_reducible rfl)
            simp only [Act.put, List.setIfInBounds_toArray, List.set_cons_zero, List.set_cons_succ]
            refine' Reg.val (o := { dst := some 36, op := Op.move (Operand.tmp 9), type := 3, pos := "type_sequence.go:236", after := #[], guard := none }) 4 _ (by rfl) (by kernel_rfl) (by rfl) hC ?hvu5_4 ?_
            case hvu5_4 => intro W _; go_simp <;> (with_reducible rfl)
            simp only [Act.put, List.setIfInBounds_toArray, List.set_cons_zero, List.set_cons_succ]
            refine' Reg.val (o := { dst := some 37, op := Op.binOp BinOp.sub 3 (Operand.tmp 36) (Operand.const (Value.int IntKind.i64 1)) 3, type := 3, pos := "type_sequence.go:236", after := #[{ on := 4, ground := Ground.data }], guard := none }) 5 _ (by rfl) (by kernel_rfl) (by rfl) hC ?hvu5_5 ?_
            case hvu5_5 => intro W hW; obtain ⟨hcW, hfW⟩ := bcell hW; go_simp <;> (with_reducible rfl)
            simp only [Act.put, List.setIfInBounds_toArray, List.set_cons_zero, List.set_cons_succ]
            refine Reg.one (o := { dst := some 34, op := Op.call { callee := Callee.value (Operand.func 95), args := #[Operand.tmp 32, Operand.tmp 33], argTypes := #[68, 3] }, type := 80, pos := "type_sequence.go:236", after := #[{ on := 0, ground := Ground.data }, { on := 1, ground := Ground.data }], guard := none }) 2 (by rfl) (by kernel_rfl) (by rfl)  (fun K Q' hK => ?_)
            go_simp
            refine (hg.out _ z _ (HX.trans (hS.mono HX.size)) rfl hz).mono ?_
            rintro e w2 ⟨rfl, hb2⟩
            replace hS := Below.trans hS (hb2.mono hB)
            replace hB := Nat.le_trans hB hb2.size
            clear hC
            refine hK _ _ hS (fun hC => ?_)
            clear hK K
            refine Reg.one (o := { dst := some 38, op := Op.call { callee := Callee.value (Operand.func 95), args := #[Operand.tmp 35, Operand.tmp 37], argTypes := #[68, 3] }, type := 80, pos := "type_sequence.go:236", after := #[{ on := 3, ground := Ground.data }, { on := 5, ground := Ground.data }, { on := 2, ground := Ground.chain }], guard := none }) 6 (by rfl) (by kernel_rfl) (by rfl)  (fun K Q' hK => ?_)
            go_simp
            refine (hg.out _ (z - 1) _ (HX.trans (hS.mono HX.size)) (by omega) (by omega)).mono ?_
            rintro e w6 ⟨rfl, hb6⟩
            replace hS := Below.trans hS (hb6.mono hB)
            replace hB := Nat.le_trans hB hb6.size
            clear hC
            refine hK _ _ hS (fun hC => ?_)
            clear hK K
            refine' Reg.val (o := { dst := some 39, op := Op.binOp BinOp.neq 80 (Operand.tmp 34) (Operand.tmp 38) 80, type := 4, pos := "type_sequence.go:236", after := #[{ on := 2, ground := Ground.data }, { on := 6, ground := Ground.data }], guard := none }) 7 _ (by rfl) (by kernel_rfl) (by rfl) hC ?hvu5_7 ?_
            case hvu5_7 => intro W hW; obtain ⟨hcW, hfW⟩ := bcell hW; go_simp <;> (with_reducible rfl)
            simp only [Act.put, List.setIfInBounds_toArray, List.set_cons_zero, List.set_cons_succ]
            refine Reg.end_ (by kernel_rfl) ?_
            have hR := hS
            obtain ⟨hcS, hfS⟩ := bcell hS
            (try simp only [World.size_alloc, World.size_setCell, World.size_drew] at hcS hfS)
            go_wp2_with fail
            have hnz1 : ne X Y z = false := by simp [ne, eqb, h3, h4]
            have hzk : z ≠ k := by
              rintro rfl
              have := hnk.out
              rw [hnz1] at this
              cases this
            go_roundw
            case rel =>
              refine ⟨rfl, z - 1, by go_num, by omega, by omega, HX.trans (hS.mono HX.size), HKX.out.keep hS hlx, fun j h1' h2' => ?_⟩
              by_cases hjz : j = z
              · subst hjz; exact hnz1
              · exact hnz.out j (by omega) h2'
            case measure => simp [intOf]; omega
          all_goals
            go_wp2_with fail
            refine Reg.beginB (ops := regAt Try.f66 11) 8 (by kernel_rfl) (by kernel_rfl) (fun wr hS hB hzu6 => ?_)
            have hC := hS
            refine' Reg.val (o := { dst := some 32, op := Op.load 68 (Operand.tmp 1), type := 68, pos := "type_sequence.go:236", after := #[], guard := none }) 0 _ (by rfl) (by kernel_rfl) (by rfl) hC ?hvu6_0 ?_
            case hvu6_0 => intro W hW; obtain ⟨hcW, hfW⟩ := bcell hW; go_simp <;> (with_reducible rfl)
            simp only [Act.put, List.setIfInBounds_toArray, List.set_cons_zero, List.set_cons_succ]
            refine' Reg.val (o := { dst := some 33, op := Op.move (Operand.tmp 9), type := 3, pos := "type_sequence.go:236", after := #[], guard := none }) 1 _ (by rfl) (by kernel_rfl) (by rfl) hC ?hvu6_1 ?_
            case hvu6_1 => intro W _; go_simp <;> (with_reducible rfl)
            simp only [Act.put, List.setIfInBounds_toArray, List.set_cons_zero, List.set_cons_succ]
            refine' Reg.val (o := { dst := some 35, op := Op.load 68 (Operand.tmp 1), type := 68, pos := "type_sequence.go:236", after := #[], guard := none }) 3 _ (by rfl) (by kernel_rfl) (by rfl) hC ?hvu6_3 ?_
            case hvu6_3 => intro W hW; obtain ⟨hcW, hfW⟩ := bcell hW; go_simp <;> (with_reducible rfl)
            simp only [Act.put, List.setIfInBounds_toArray, List.set_cons_zero, List.set_cons_succ]
            refine' Reg.val (o := { dst := some 36, op := Op.move (Operand.tmp 9), type := 3, pos := "type_sequence.go:236", after := #[], guard := none }) 4 _ (by rfl) (by kernel_rfl) (by rfl) hC ?hvu6_4 ?_
            case hvu6_4 => intro W _; go_simp <;> (with_reducible rfl)
            simp only [Act.put, List.setIfInBounds_toArray, List.set_cons_zero, List.set_cons_succ]
            refine' Reg.val (o := { dst := some 37, op := Op.binOp BinOp.sub 3 (Operand.tmp 36) (Operand.const (Value.int IntKind.i64 1)) 3, type := 3, pos := "type_sequence.go:236", after := #[{ on := 4, ground := Ground.data }], guard := none }) 5 _ (by rfl) (by kernel_rfl) (by rfl) hC ?hvu6_5 ?_
            case hvu6_5 => intro W hW; obtain ⟨hcW, hfW⟩ := bcell hW; go_simp <;> (with_reducible rfl)
            simp only [Act.put, List.setIfInBounds_toArray, List.set_cons_zero, List.set_cons_succ]
            refine Reg.one (o := { dst := some 34, op := Op.call { callee := Callee.value (Operand.func 95), args := #[Operand.tmp 32, Operand.tmp 33], argTypes := #[68, 3] }, type := 80, pos := "type_sequence.go:236", after := #[{ on := 0, ground := Ground.data }, { on := 1, ground := Ground.data }], guard := none }) 2 (by rfl) (by kernel_rfl) (by rfl)  (fun K Q' hK => ?_)
            go_simp
            refine (hg.out _ z _ (HX.trans (hS.mono HX.size)) rfl hz).mono ?_
            rintro e w2 ⟨rfl, hb2⟩
            replace hS := Below.trans hS (hb2.mono hB)
            replace hB := Nat.le_trans hB hb2.size
            clear hC
            refine hK _ _ hS (fun hC => ?_)
            clear hK K
            refine Reg.one (o := { dst := some 38, op := Op.call { callee := Callee.value (Operand.func 95), args := #[Operand.tmp 35, Operand.tmp 37], argTypes := #[68, 3] }, type := 80, pos := "type_sequence.go:236", after := #[{ on := 3, ground := Ground.data }, { on := 5, ground := Ground.data }, { on := 2, ground := Ground.chain }], guard := none }) 6 (by rfl) (by kernel_rfl) (by rfl)  (fun K Q' hK => ?_)
            go_simp
            refine (hg.out _ (z - 1) _ (HX.trans (hS.mono HX.size)) (by omega) (by omega)).mono ?_
            rintro e w6 ⟨rfl, hb6⟩
            replace hS := Below.trans hS (hb6.mono hB)
            replace hB := Nat.le_trans hB hb6.size
            clear hC
            refine hK _ _ hS (fun hC => ?_)
            clear hK K
            refine' Reg.val (o := { dst := some 39, op := Op.binOp BinOp.neq 80 (Operand.tmp 34) (Operand.tmp 38) 80, type := 4, pos := "type_sequence.go:236", after := #[{ on := 2, ground := Ground.data }, { on := 6, ground := Ground.data }], guard := none }) 7 _ (by rfl) (by kernel_rfl) (by rfl) hC ?hvu6_7 ?_
            case hvu6_7 => intro W hW; obtain ⟨hcW, hfW⟩ := bcell hW; go_simp <;> (with_reducible rfl)
            simp only [Act.put, List.setIfInBounds_toArray, List.set_cons_zero, List.set_cons_succ]
            refine Reg.end_ (by kernel_rfl) ?_
            have hR := hS
            obtain ⟨hcS, hfS⟩ := bcell hS
            (try simp only [World.size_alloc, World.size_setCell, World.size_drew] at hcS hfS)
            go_wp2_with fail
            have hnz1 : ne X Y z = true := by simp [ne, eqb, h3, h4]
            exact bodyPost_ret (v := .tuple #[.int .i64 k, .int .i64 z, .bool ((k : Int) != -1 && (z : Int) != -1)]) (by simp [results, Try.results66, go_sem]) rfl
              ⟨⟨k, z, _, rfl, Or.inr ⟨k, z, rfl, rfl, by simp <;> omega, hk1, hkz, hz, hnk.out, hnz1, hne.out, hnz.out⟩⟩, HX.trans (hS.mono HX.size)⟩
    · have hne2 : ∀ i, 1 ≤ i → i < q → ne X Y i = false := fun i a b => hne.out i a (by omega)
      have hne2 := Lib.hid hne2
      go_wp2_with fail
      go_loopw [7, 9] (fun s7 i wx => s7 = .int .i64 (-1) ∧ ∃ z : Int, i = .int .i64 z ∧ -1 ≤ z ∧ z < q ∧ Below w.heap.size w wx ∧ Blk wx w.heap.size [.int .u8 D, .slice (some ⟨b, 0, none⟩) N N] 68)
        (fun _ i _ => (intOf i).toNat)
      case atStart => exact ⟨rfl, (q : Int) - 1, rfl, by omega, by omega, H, HK.out⟩
      case round =>
        obtain ⟨rfl, z, rfl, hz1, hzq, HX, KX⟩ := hrel
        obtain ⟨k0, k1, g0, g1⟩ := KX.c2
        have hlx := KX.lt
        have HKX := Lib.hid KX
        clear KX
        by_cases hzz : 1 ≤ z
        · obtain ⟨z, rfl⟩ : ∃ j : Nat, z = (j : Int) := ⟨z.toNat, by omega⟩
          have hz : z < q := by omega
          have hn := hne2.out z (by omega) hz
          have h3 : (Ieee.double.order (X z) (X (z - 1)) == some .eq) = true := by
            cases h : (Ieee.double.order (X z) (X (z - 1)) == some .eq)
            · simp [ne, eqb, h] at hn
            · rfl
          have h4 : (Ieee.double.order (Y z) (Y (z - 1)) == some .eq) = true := by
            cases h : (Ieee.double.order (Y z) (Y (z - 1)) == some .eq)
            · simp [ne, eqb, h] at hn
            · rfl
          clear hn
          have hwz : IntKind.i64.wrap ((z : Int) - 1) = (z : Int) - 1 := by rw [IntKind.wrap_i64]; omega
          go_wp2_with fail
          refine Reg.beginB (ops := regAt Try.f66 11) 8 (by kernel_rfl) (by kernel_rfl) (fun wr hS hB hzu7 => ?_)
          have hC := hS
          refine' Reg.val (o := { dst := some 32, op := Op.load 68 (Operand.tmp 1), type := 68, pos := "type_sequence.go:236", after := #[], guard := none }) 0 _ (by rfl) (by kernel_rfl) (by rfl) hC ?hvu7_0 ?_
          case hvu7_0 => intro W hW; obtain ⟨hcW, hfW⟩ := bcell hW; go_simp <;> (with_reducible rfl)
          simp only [Act.put, List.setIfInBounds_toArray, List.set_cons_zero, List.set_cons_succ]
          refine' Reg.val (o := { dst := some 33, op := Op.move (Operand.tmp 9), type := 3, pos := "type_sequence.go:236", after := #[], guard := none }) 1 _ (by rfl) (by kernel_rfl) (by rfl) hC ?hvu7_1 ?_
          case hvu7_1 => intro W _; go_simp <;> (with_reducible rfl)
          simp only [Act.put, List.setIfInBounds_toArray, List.set_cons_zero, List.set_cons_succ]
          refine' Reg.val (o := { dst := some 35, op := Op.load 68 (Operand.tmp 1), type := 68, pos := "type_sequence.go:236", after := #[], guard := none }) 3 _ (by rfl) (by kernel_rfl) (by rfl) hC ?hvu7_3 ?_
          case hvu7_3 => intro W hW; obtain ⟨hcW, hfW⟩ := bcell hW; go_simp <;> (with_reducible rfl)
          simp only [Act.put, List.setIfInBounds_toArray, List.set_cons_zero, List.set_cons_succ]
          refine' Reg.val (o := { dst := some 36, op := Op.move (Operand.tmp 9), type := 3, pos := "type_sequence.go:236", after := #[], guard := none }) 4 _ (by rfl) (by kernel_rfl) (by rfl) hC ?hvu7_4 ?_
          case hvu7_4 => intro W _; go_simp <;> (with_reducible rfl)
          simp only [Act.put, List.setIfInBounds_toArray, List.set_cons_zero, List.set_cons_succ]
          refine' Reg.val (o := { dst := some 37, op := Op.binOp BinOp.sub 3 (Operand.tmp 36) (Operand.const (Value.int IntKind.i64 1)) 3, type := 3, pos := "type_sequence.go:236", after := #[{ on := 4, ground := Ground.data }], guard := none }) 5 _ (by rfl) (by kernel_rfl) (by rfl) hC ?hvu7_5 ?_
          case hvu7_5 => intro W hW; obtain ⟨hcW, hfW⟩ := bcell hW; go_simp <;> (with_reducible rfl)
          simp only [Act.put, List.setIfInBounds_toArray, List.set_cons_zero, List.set_cons_succ]
          refine Reg.one (o := { dst := some 34, op := Op.call { callee := Callee.value (Operand.func 95), args := #[Operand.tmp 32, Operand.tmp 33], argTypes := #[68, 3] }, type := 80, pos := "type_sequence.go:236", after := #[{ on := 0, ground := Ground.data }, { on := 1, ground := Ground.data }], guard := none }) 2 (by rfl) (by kernel_rfl) (by rfl)  (fun K Q' hK => ?_)
          go_simp
          refine (hg.out _ z _ (HX.trans (hS.mono HX.size)) rfl hz).mono ?_
          rintro e w2 ⟨rfl, hb2⟩
          replace hS := Below.trans hS (hb2.mono hB)
          replace hB := Nat.le_trans hB hb2.size
          clear hC
          refine hK _ _ hS (fun hC => ?_)
          clear hK K
          refine Reg.one (o := { dst := some 38, op := Op.call { callee := Callee.value (Operand.func 95), args := #[Operand.tmp 35, Operand.tmp 37], argTypes := #[68, 3] }, type := 80, pos := "type_sequence.go:236", after := #[{ on := 3, ground := Ground.data }, { on := 5, ground := Ground.data }, { on := 2, ground := Ground.chain }], guard := none }) 6 (by rfl) (by kernel_rfl) (by rfl)  (fun K Q' hK => ?_)
          go_simp
          refine (hg.out _ (z - 1) _ (HX.trans (hS.mono HX.size)) (by omega) (by omega)).mono ?_
          rintro e w6 ⟨rfl, hb6⟩
          replace hS := Below.trans hS (hb6.mono hB)
          replace hB := Nat.le_trans hB hb6.size
          clear hC
          refine hK _ _ hS (fun hC => ?_)
          clear hK K
          refine' Reg.val (o := { dst := some 39, op := Op.binOp BinOp.neq 80 (Operand.tmp 34) (Operand.tmp 38) 80, type := 4, pos := "type_sequence.go:236", after := #[{ on := 2, ground := Ground.data }, { on := 6, ground := Ground.data }], guard := none }) 7 _ (by rfl) (by kernel_rfl) (by rfl) hC ?hvu7_7 ?_
          case hvu7_7 => intro W hW; obtain ⟨hcW, hfW⟩ := bcell hW; go_simp <;> (with_reducible rfl)
          simp only [Act.put, List.setIfInBounds_toArray, List.set_cons_zero, List.set_cons_succ]
          refine Reg.end_ (by kernel_rfl) ?_
          have hR := hS
          obtain ⟨hcS, hfS⟩ := bcell hS
          (try simp only [World.size_alloc, World.size_setCell, World.size_drew] at hcS hfS)
          go_wp2_with fail
          go_roundw
          case rel => exact ⟨rfl, (z : Int) - 1, by go_num, by omega, by omega, HX.trans (hS.mono HX.size), HKX.out.keep hS hlx⟩
          case measure => simp [intOf]; omega
        · go_wp2_with fail
          exact bodyPost_ret (v := .tuple #[.int .i64 (-1), .int .i64 (-1), .bool false]) (by simp [results, Try.results66, go_sem]) rfl
            ⟨by first | exact ⟨-1, -1, false, rfl, Or.inl ⟨rfl, rfl, rfl, hne2.out⟩⟩ | exact Or.inl ⟨rfl, Or.inl ⟨rfl, rfl, rfl, hne2.out⟩⟩ | exact ⟨-1, -1, Or.inl ⟨rfl, Or.inl ⟨rfl, rfl, rfl, hne2.out⟩⟩⟩, HX⟩
end Go.Proofs.Ytpbllagjcdcnpaa
