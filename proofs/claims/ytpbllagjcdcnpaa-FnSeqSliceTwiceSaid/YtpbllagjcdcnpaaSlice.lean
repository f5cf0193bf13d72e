/- Walks of a sequence's Slice, of its length and type, and of the plain line that it makes. -/
import Derived.Test.YtpbllagjcdcnpaaGet
namespace Go.Proofs.Ytpbllagjcdcnpaa
open Go.ChangeShapes Go.WideShapes Go.ChangeAt Go.RowKit
open Fl
set_option linter.unusedSimpArgs false
set_option linter.unusedVariables false
attribute [local go_sem] run_store_float run_fadd run_fsub run_fmul run_fdiv run_equalIn_float fmt64

theorem Flo.cut {w : World} {A : Option Addr} {N c lo hi : Nat} {f : Nat → Nat} (h : Flo w A N c f) (h1 : lo ≤ hi) (h2 : hi ≤ N) :
    Flo w (if c = lo then A else A.map (fun x => x.add lo)) (hi - lo) (c - lo) (fun x => f (lo + x)) := by
  have := h.le
  refine ⟨by omega, Nat.le_trans (Nat.sub_le _ _) h.cap, fun hn => ?_, fun a ha i hi' => ?_⟩
  · cases A with
    | none => have := h.none_ rfl; omega
    | some a =>
      split at hn
      · cases hn
      · simp at hn
  · have hne : ¬ c = lo := by omega
    rw [if_neg hne] at ha
    cases A with
    | none => simp at ha
    | some a0 =>
      simp only [Option.map_some, Option.some.injEq] at ha
      subst ha
      rw [Deep.add_add]
      exact h.cell a0 rfl (lo + i) (by omega)
set_option maxRecDepth 20000 in
set_option maxHeartbeats 4000000 in
theorem slice_any (D : Int) (A : Option Addr) (N c i j lo hi : Nat) (f : Nat → Nat) (w : World) (hD : Is4 D) (hf : Flo w A N c f) (hN : N ≤ 2000) (hlo : lo = i * wid D) (hhi : hi = j * wid D) (hij : lo ≤ hi) (hj : hi ≤ N) (A' : Option Addr) (hA' : (if c = lo then A else A.map (fun x => x.add lo)) = A') :
    Calls Try.prog 42 #[sg D A N c, .int .i64 i, .int .i64 j] w fun e w' => e = .returned (sg D A' (hi - lo) (c - lo)) ∧ Below w.heap.size w w' := by
  have hd := Lib.hid fun W => dimension_any D hD W
  obtain ⟨W, hWd⟩ : ∃ W, wid D = W := ⟨_, rfl⟩
  rw [hWd] at hd hlo hhi
  have hil : (i : Int) * (W : Int) = (lo : Int) := by rw [hlo, Int.natCast_mul]
  have hjl : (j : Int) * (W : Int) = (hi : Int) := by rw [hhi, Int.natCast_mul]
  have hcap := hf.cap
  have hle := hf.le
  have hmx : maxLen = 9223372036854775807 := rfl
  rw [hmx] at hcap
  have hw0 : IntKind.i64.wrap (lo : Int) = (lo : Int) := by rw [IntKind.wrap_i64]; omega
  have hw1 : IntKind.i64.wrap (hi : Int) = (hi : Int) := by rw [IntKind.wrap_i64]; omega
  have hc1 : (lo : Int) ≤ (hi : Int) := by omega
  have hc2 : (hi : Int) ≤ (c : Int) := by omega
  have hc3 : hi ≤ c := by omega
  clear hlo hhi hf
  go_enter Try.func42, Try.ntmps42
  go_wp2_with (go_at_call 74; refine (hd.out _).mono ?_; rintro e w1 ⟨rfl, hb⟩; have hb1 := Lib.hid hb; clear hb)
  have hz1 := hb1.out.size
  simp only [World.size_alloc] at hz1
  have K0 := ((Blk.new w [.int .u8 D, .slice A N c] 68).alloc (.cells #[.int .u8 0, .slice none 0 0] 68)).keep hb1.out (by simp only [World.size_alloc]; omega)
  have K1 := (Blk.new (w.alloc (.cells #[.int .u8 D, .slice A N c] 68)) [.int .u8 0, .slice none 0 0] 68).keep hb1.out (by simp only [World.size_alloc]; omega)
  simp only [World.size_alloc] at K1
  have L0 := K0.lt
  have L1 := K1.lt
  obtain ⟨k0, k1, g0, g1⟩ := K0.c2
  obtain ⟨s0, s1, t0, t1⟩ := K1.c2
  have HT : Below w.heap.size w w1 := Below.trans (by go_grown) (hb1.out.mono (by simp only [World.size_alloc]; omega))
  have hne0 : ¬ w.heap.size = w.heap.size + 1 := by omega
  have HT := Lib.hid HT
  clear K0 K1
  refine Reg.beginR (ops := regAt Try.f42 2) 13 [w.heap.size + 1] (by kernel_rfl) (by kernel_rfl) (fun wr hS hB hzu1 => ?_)
  have hC := But.of_below (rs := [w.heap.size + 1]) rfl hS
  refine' Reg.val (o := { dst := some 11, op := Op.fieldAddr 68 (Operand.tmp 3) 0, type := 0, pos := "type_sequence.go:111", after := #[], guard := none }) 0 _ (by rfl) (by kernel_rfl) (by rfl) hC ?hvu1_0 ?_
  case hvu1_0 => intro W hW; have hcW := hW.cells; go_simp <;> (with_reducible rfl)
  simp only [Act.put, List.setIfInBounds_toArray, List.set_cons_zero, List.set_cons_succ]
  refine' Reg.val (o := { dst := some 12, op := Op.load 66 (Operand.tmp 11), type := 66, pos := "type_sequence.go:111", after := #[{ on := 0, ground := Ground.data }], guard := none }) 1 _ (by rfl) (by kernel_rfl) (by rfl) hC ?hvu1_1 ?_
  case hvu1_1 => intro W hW; have hcW := hW.cells; go_simp <;> (with_reducible rfl)
  simp only [Act.put, List.setIfInBounds_toArray, List.set_cons_zero, List.set_cons_succ]
  refine' Reg.val (o := { dst := some 13, op := Op.fieldAddr 68 (Operand.tmp 3) 1, type := 0, pos := "type_sequence.go:111", after := #[], guard := none }) 2 _ (by rfl) (by kernel_rfl) (by rfl) hC ?hvu1_2 ?_
  case hvu1_2 => intro W hW; have hcW := hW.cells; go_simp <;> (with_reducible rfl)
  simp only [Act.put, List.setIfInBounds_toArray, List.set_cons_zero, List.set_cons_succ]
  refine' Reg.val (o := { dst := some 14, op := Op.load 22 (Operand.tmp 13), type := 22, pos := "type_sequence.go:111", after := #[{ on := 2, ground := Ground.data }], guard := none }) 3 _ (by rfl) (by kernel_rfl) (by rfl) hC ?hvu1_3 ?_
  case hvu1_3 => intro W hW; have hcW := hW.cells; go_simp <;> (with_reducible rfl)
  simp only [Act.put, List.setIfInBounds_toArray, List.set_cons_zero, List.set_cons_succ]
  refine' Reg.val (o := { dst := some 15, op := Op.move (Operand.tmp 1), type := 3, pos := "type_sequence.go:111", after := #[], guard := none }) 4 _ (by rfl) (by kernel_rfl) (by rfl) hC ?hvu1_4 ?_
  case hvu1_4 => intro W _; go_simp <;> (with_reducible rfl)
  simp only [Act.put, List.setIfInBounds_toArray, List.set_cons_zero, List.set_cons_succ]
  refine' Reg.val (o := { dst := some 16, op := Op.move (Operand.tmp 7), type := 3, pos := "type_sequence.go:111", after := #[], guard := none }) 5 _ (by rfl) (by kernel_rfl) (by rfl) hC ?hvu1_5 ?_
  case hvu1_5 => intro W _; go_simp <;> (with_reducible rfl)
  simp only [Act.put, List.setIfInBounds_toArray, List.set_cons_zero, List.set_cons_succ]
  refine' Reg.val (o := { dst := some 17, op := Op.binOp BinOp.mul 3 (Operand.tmp 15) (Operand.tmp 16) 3, type := 3, pos := "type_sequence.go:111", after := #[{ on := 4, ground := Ground.data }, { on := 5, ground := Ground.data }], guard := none }) 6 _ (by rfl) (by kernel_rfl) (by rfl) hC ?hvu1_6 ?_
  case hvu1_6 => intro W hW; have hcW := hW.cells; go_simp <;> (with_reducible rfl)
  simp only [Act.put, List.setIfInBounds_toArray, List.set_cons_zero, List.set_cons_succ]
  refine' Reg.val (o := { dst := some 18, op := Op.move (Operand.tmp 2), type := 3, pos := "type_sequence.go:111", after := #[], guard := none }) 7 _ (by rfl) (by kernel_rfl) (by rfl) hC ?hvu1_7 ?_
  case hvu1_7 => intro W _; go_simp <;> (with_reducible rfl)
  simp only [Act.put, List.setIfInBounds_toArray, List.set_cons_zero, List.set_cons_succ]
  refine' Reg.val (o := { dst := some 19, op := Op.move (Operand.tmp 7), type := 3, pos := "type_sequence.go:111", after := #[], guard := none }) 8 _ (by rfl) (by kernel_rfl) (by rfl) hC ?hvu1_8 ?_
  case hvu1_8 => intro W _; go_simp <;> (with_reducible rfl)
  simp only [Act.put, List.setIfInBounds_toArray, List.set_cons_zero, List.set_cons_succ]
  refine' Reg.val (o := { dst := some 20, op := Op.binOp BinOp.mul 3 (Operand.tmp 18) (Operand.tmp 19) 3, type := 3, pos := "type_sequence.go:111", after := #[{ on := 7, ground := Ground.data }, { on := 8, ground := Ground.data }], guard := none }) 9 _ (by rfl) (by kernel_rfl) (by rfl) hC ?hvu1_9 ?_
  case hvu1_9 => intro W hW; have hcW := hW.cells; go_simp <;> (with_reducible rfl)
  simp only [Act.put, List.setIfInBounds_toArray, List.set_cons_zero, List.set_cons_succ]
  refine' Reg.val (o := { dst := some 21, op := Op.slice 22 (Operand.tmp 14) (some (Operand.tmp 17)) (some (Operand.tmp 20)) none, type := 22, pos := "type_sequence.go:111", after := #[{ on := 3, ground := Ground.data }, { on := 6, ground := Ground.data }, { on := 9, ground := Ground.data }], guard := none }) 10 _ (by rfl) (by kernel_rfl) (by rfl) hC ?hvu1_10 ?_
  case hvu1_10 => intro W hW; have hcW := hW.cells; go_simp <;> (with_reducible rfl)
  simp only [Act.put, List.setIfInBounds_toArray, List.set_cons_zero, List.set_cons_succ]
  refine' Reg.val (o := { dst := some 22, op := Op.build 68 #[(0, Operand.tmp 12), (1, Operand.tmp 21)], type := 68, pos := "type_sequence.go:111", after := #[{ on := 1, ground := Ground.data }, { on := 10, ground := Ground.data }], guard := none }) 11 _ (by rfl) (by kernel_rfl) (by rfl) hC ?hvu1_11 ?_
  case hvu1_11 => intro W hW; have hcW := hW.cells; go_simp <;> (with_reducible rfl)
  simp only [Act.put, List.setIfInBounds_toArray, List.set_cons_zero, List.set_cons_succ]
  refine Reg.one (o := { dst := none, op := Op.store 68 (Operand.tmp 6) (Operand.tmp 22), type := 0, pos := "type_sequence.go:111", after := #[{ on := 11, ground := Ground.data }, { on := 0, ground := Ground.phase }, { on := 1, ground := Ground.phase }, { on := 2, ground := Ground.phase }, { on := 3, ground := Ground.phase }, { on := 4, ground := Ground.phase }, { on := 5, ground := Ground.phase }, { on := 6, ground := Ground.phase }, { on := 7, ground := Ground.phase }, { on := 8, ground := Ground.phase }, { on := 9, ground := Ground.phase }, { on := 10, ground := Ground.phase }, { on := 11, ground := Ground.phase }], guard := none }) 12 (by rfl) (by kernel_rfl) (by rfl)  (fun K Q' hK => ?_)
  obtain ⟨hcR, hfR⟩ := bcell hS
  go_simp
  refine hK _ _ (by repeat (first | exact hS | assumption | exact But.of_below rfl hS | exact hC | refine But.setCell ?_ (by simp) _ | refine Below.setCell ?_ ?_ _ | refine Below.alloc ?_ ?_ _ | go_size)) (fun hC' => ?_)
  clear hK K
  clear hC
  have hC := hC'
  clear hC'
  refine Reg.end_ (by kernel_rfl) ?_
  have hR := hS
  obtain ⟨hcS, hfS⟩ := bcell hS
  (try simp only [World.size_alloc, World.size_setCell, World.size_drew] at hcS hfS)
  (try simp only [hA'])
  clear hA'
  have HT2 := HT.out.trans (hR.mono (by have := HT.out.size; omega))
  go_wp2_with fail
  refine bodyPost_ret (v := sg D A' (hi - lo) (c - lo)) (by simp [results, Try.results42, go_sem, *]) rfl ⟨rfl, (HT2.setCell (p := ⟨w.heap.size + 1, 0, none⟩) (by show _ ≤ w.heap.size + 1; omega) _).setCell (p := ⟨w.heap.size + 1, 1, none⟩) (by show _ ≤ w.heap.size + 1; omega) _⟩
set_option maxRecDepth 20000 in
set_option maxHeartbeats 4000000 in
theorem length_g (D : Int) (A : Option Addr) (N c q : Nat) (w : World) (hD : Is4 D) (hN : N ≤ 2000) (hq : N = q * wid D) :
    Calls Try.prog 70 #[sg D A N c] w fun e w' => e = .returned (.int .i64 q) ∧ Below w.heap.size w w' := by
  have hW := wid_le D
  have hd := Lib.hid fun W => dimension_any D hD W
  obtain ⟨W, hWd⟩ : ∃ W, wid D = W := ⟨_, rfl⟩
  rw [hWd] at hd hq hW
  have hW0 : ¬ W = 0 := by omega
  have hdq : (N : Int) / (W : Int) = (q : Int) := by
    rw [hq, ← Int.natCast_ediv, Nat.mul_div_cancel _ (by omega)]
  have hqN : q ≤ N := by rw [hq]; exact Nat.le_mul_of_pos_right q (by omega)
  have hwq : IntKind.i64.wrap (q : Int) = (q : Int) := by rw [IntKind.wrap_i64]; omega
  clear hq
  go_enter Try.func70, Try.ntmps70
  go_wp2_with fail
  refine Reg.beginB (ops := regAt Try.f70 1) 8 (by kernel_rfl) (by kernel_rfl) (fun wr hS hB hzu2 => ?_)
  have hC := hS
  refine' Reg.val (o := { dst := some 3, op := Op.fieldAddr 68 (Operand.tmp 1) 1, type := 0, pos := "type_sequence.go:54", after := #[], guard := none }) 0 _ (by rfl) (by kernel_rfl) (by rfl) hC ?hvu2_0 ?_
  case hvu2_0 => intro W hW; obtain ⟨hcW, hfW⟩ := bcell hW; go_simp <;> (with_reducible rfl)
  simp only [Act.put, List.setIfInBounds_toArray, List.set_cons_zero, List.set_cons_succ]
  refine' Reg.val (o := { dst := some 4, op := Op.load 22 (Operand.tmp 3), type := 22, pos := "type_sequence.go:54", after := #[{ on := 0, ground := Ground.data }], guard := none }) 1 _ (by rfl) (by kernel_rfl) (by rfl) hC ?hvu2_1 ?_
  case hvu2_1 => intro W hW; obtain ⟨hcW, hfW⟩ := bcell hW; go_simp <;> (with_reducible rfl)
  simp only [Act.put, List.setIfInBounds_toArray, List.set_cons_zero, List.set_cons_succ]
  refine' Reg.val (o := { dst := some 5, op := Op.call { callee := Callee.builtin Builtin.len, args := #[Operand.tmp 4], argTypes := #[22] }, type := 3, pos := "type_sequence.go:54", after := #[{ on := 1, ground := Ground.data }], guard := none }) 2 _ (by rfl) (by kernel_rfl) (by rfl) hC ?hvu2_2 ?_
  case hvu2_2 => intro W hW; obtain ⟨hcW, hfW⟩ := bcell hW; go_simp <;> (with_reducible rfl)
  simp only [Act.put, List.setIfInBounds_toArray, List.set_cons_zero, List.set_cons_succ]
  refine' Reg.val (o := { dst := some 6, op := Op.fieldAddr 68 (Operand.tmp 1) 0, type := 0, pos := "type_sequence.go:54", after := #[], guard := none }) 3 _ (by rfl) (by kernel_rfl) (by rfl) hC ?hvu2_3 ?_
  case hvu2_3 => intro W hW; obtain ⟨hcW, hfW⟩ := bcell hW; go_simp <;> (with_reducible rfl)
  simp only [Act.put, List.setIfInBounds_toArray, List.set_cons_zero, List.set_cons_succ]
  refine' Reg.val (o := { dst := some 7, op := Op.load 66 (Operand.tmp 6), type := 66, pos := "type_sequence.go:54", after := #[{ on := 3, ground := Ground.data }], guard := none }) 4 _ (by rfl) (by kernel_rfl) (by rfl) hC ?hvu2_4 ?_
  case hvu2_4 => intro W hW; obtain ⟨hcW, hfW⟩ := bcell hW; go_simp <;> (with_reducible rfl)
  simp only [Act.put, List.setIfInBounds_toArray, List.set_cons_zero, List.set_cons_succ]
  refine Reg.one (o := { dst := some 8, op := Op.call { callee := Callee.value (Operand.func 74), args := #[Operand.tmp 7], argTypes := #[66] }, type := 3, pos := "type_sequence.go:54", after := #[{ on := 4, ground := Ground.data }], guard := none }) 5 (by rfl) (by kernel_rfl) (by rfl)  (fun K Q' hK => ?_)
  go_simp
  refine (hd.out _).mono ?_
  rintro e w5 ⟨rfl, hb5⟩
  replace hS := Below.trans hS (hb5.mono hB)
  replace hB := Nat.le_trans hB hb5.size
  clear hC
  refine hK _ _ hS (fun hC => ?_)
  clear hK K
  refine' Reg.val (o := { dst := some 9, op := Op.binOp BinOp.quo 3 (Operand.tmp 5) (Operand.tmp 8) 3, type := 3, pos := "type_sequence.go:54", after := #[{ on := 2, ground := Ground.data }, { on := 5, ground := Ground.data }], guard := none }) 6 _ (by rfl) (by kernel_rfl) (by rfl) hC ?hvu2_6 ?_
  case hvu2_6 => intro W hW; obtain ⟨hcW, hfW⟩ := bcell hW; go_simp <;> (with_reducible rfl)
  simp only [Act.put, List.setIfInBounds_toArray, List.set_cons_zero, List.set_cons_succ]
  refine' Reg.val (o := { dst := some 2, op := Op.assign (Operand.tmp 9), type := 3, pos := "type_sequence.go:54", after := #[{ on := 6, ground := Ground.data }, { on := 5, ground := Ground.chain }, { on := 0, ground := Ground.phase }, { on := 1, ground := Ground.phase }, { on := 2, ground := Ground.phase }, { on := 3, ground := Ground.phase }, { on := 4, ground := Ground.phase }, { on := 5, ground := Ground.phase }, { on := 6, ground := Ground.phase }], guard := none }) 7 _ (by rfl) (by kernel_rfl) (by rfl) hC ?hvu2_7 ?_
  case hvu2_7 => intro W _; go_simp <;> (with_reducible rfl)
  simp only [Act.put, List.setIfInBounds_toArray, List.set_cons_zero, List.set_cons_succ]
  refine Reg.end_ (by kernel_rfl) ?_
  have hR := hS
  obtain ⟨hcS, hfS⟩ := bcell hS
  (try simp only [World.size_alloc, World.size_setCell, World.size_drew] at hcS hfS)
  go_wp2_with fail
  go_returns
  exact ⟨rfl, Below.trans (by go_grown) (hS.mono (by simp only [World.size_alloc]; omega))⟩
theorem ctype_any (D : Int) (A : Option Addr) (N c : Nat) (w : World) : Calls Try.prog 69 #[sg D A N c] w fun e w' => e = .returned (.int .u8 D) ∧ Below w.heap.size w w' := by
  go_enter Try.func69, Try.ntmps69
  go_wp2_with fail
  go_returns
  exact ⟨rfl, by go_grown⟩
theorem is3d_any (D : Int) (hD : Is4 D) (w : World) : Calls Try.prog 72 #[.int .u8 D] w fun e w' => e = .returned (.bool (decide (D = 1) || decide (D = 3))) ∧ Below w.heap.size w w' := by
  have b0 : bits .and .u8 0 1 = 0 := by decide
  have b1 : bits .and .u8 1 1 = 1 := by decide
  have b2 : bits .and .u8 2 1 = 0 := by decide
  have b3 : bits .and .u8 3 1 = 1 := by decide
  rcases hD with rfl | rfl | rfl | rfl
  all_goals
    go_enter Try.func72, Try.ntmps72
    go_wp2_with fail
    go_returns
    exact ⟨rfl, by go_grown⟩
theorem ism_any (D : Int) (hD : Is4 D) (w : World) : Calls Try.prog 73 #[.int .u8 D] w fun e w' => e = .returned (.bool (decide (D = 2) || decide (D = 3))) ∧ Below w.heap.size w w' := by
  have b0 : bits .and .u8 0 2 = 0 := by decide
  have b1 : bits .and .u8 1 2 = 0 := by decide
  have b2 : bits .and .u8 2 2 = 2 := by decide
  have b3 : bits .and .u8 3 2 = 2 := by decide
  rcases hD with rfl | rfl | rfl | rfl
  all_goals
    go_enter Try.func73, Try.ntmps73
    go_wp2_with fail
    go_returns
    exact ⟨rfl, by go_grown⟩
end Go.Proofs.Ytpbllagjcdcnpaa
