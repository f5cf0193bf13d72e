/- Walks of the envelope functions that FnEnvCoversAll reaches, second part; for finite numbers. -/
import Derived.Test.YtcidgicdeedgfaaEnv
namespace Go.Proofs.Ytcidgicdeedgfaa
open Go.ChangeShapes Go.WideShapes Go.ChangeAt Go.RowKit
open Fl
set_option linter.unusedSimpArgs false
set_option linter.unusedVariables false
attribute [local go_sem] run_store_float run_fadd run_fsub run_fmul run_fdiv run_equalIn_float fmt64

set_option maxHeartbeats 1000000 in
theorem envelope_full (a b c d : Nat) (w : World) (ha : fin a = true) (hb : fin b = true) (hc : fin c = true) (hd : fin d = true) :
    Calls Try.prog 26 #[ev true a b c d] w fun e w' => e = .returned (gv (fmin a c) (fmin b d) (fmax a c) (fmax b d) true) ∧ Below w.heap.size w w' := by
  have hf : allfin [(a, b), (c, d)] := by
    intro p hp
    simp at hp
    rcases hp with rfl | rfl
    · exact ⟨ha, hb⟩
    · exact ⟨hc, hd⟩
  have hN : ∀ (k : Nat) (W : World), W.cell? ⟨k, 0, none⟩ = some (fv a) → W.cell? ⟨k, 1, none⟩ = some (fv b) → W.cell? ⟨k, 2, none⟩ = some (fv c) → W.cell? ⟨k, 3, none⟩ = some (fv d) →
      Calls Try.prog 36 #[.slice (some ⟨k, 0, none⟩) 2 2] W fun e w' => e = .returned (gv (fmin a c) (fmin b d) (fmax a c) (fmax b d) true) ∧ Below W.heap.size W w' := by
    intro k W h0 h1 h2 h3
    refine newenv_any [(a, b), (c, d)] k 0 2 W hf (fun i p hi => ?_) (by simp)
    match i with
    | 0 => simp at hi; subst hi; exact ⟨h0, h1⟩
    | 1 => simp at hi; subst hi; exact ⟨h2, h3⟩
    | i + 2 => simp at hi
  have HN := Lib.hid hN
  clear hN hf ha hb hc hd
  go_enter Try.func26, Try.ntmps26
  go_wp2_with (go_at_call 36; refine (HN.out _ _ ?_ ?_ ?_ ?_).mono ?_; go_simp; go_simp; go_simp; go_simp; rintro e w1 ⟨rfl, hb⟩; (first | (replace hS := chainB hS (by go_grown) hb; clear hb) | (have hS := hb; clear hb)); obtain ⟨hcS, hfS⟩ := bcell hS; (try simp only [World.size_alloc, World.size_setCell, World.size_drew] at hcS hfS))
  have HB := Below.trans (B := w.heap.size) (a := w) (by go_grown) (hS.mono (by go_size))
  refine bodyPost_ret (v := gv (fmin a c) (fmin b d) (fmax a c) (fmax b d) true) (by simp [results, Try.results26, go_sem, *]) rfl ⟨rfl, by go_grown⟩
set_option maxHeartbeats 1000000 in
theorem minmax_full (a b c d : Nat) (w : World) :
    Calls Try.prog 35 #[gv a b c d true] w fun e w' => e = .returned (.tuple #[xv a b, xv c d, .bool true]) ∧ Below w.heap.size w w' := by
  go_enter Try.func35, Try.ntmps35
  go_wp2_with (go_at_call 37; refine (isempty_any _ _ _ _ _ _).mono ?_; rintro e w1 ⟨rfl, hb⟩; (first | (replace hS := chainB hS (by go_grown) hb; clear hb) | (have hS := hb; clear hb)); obtain ⟨hcS, hfS⟩ := bcell hS; (try simp only [World.size_alloc, World.size_setCell, World.size_drew] at hcS hfS))
  have hO := hS
  refine Reg.beginR (ops := regAt Try.f35 3) 7 [w.heap.size + 1, w.heap.size + 2] (by kernel_rfl) (by kernel_rfl) (fun wr hS hB hzu2 => ?_)
  have hC := But.of_below (rs := [w.heap.size + 1, w.heap.size + 2]) rfl hS
  refine' Reg.val (o := { dst := some 9, op := Op.fieldAddr 54 (Operand.tmp 1) 0, type := 0, pos := "type_envelope.go:135", after := #[], guard := none }) 0 _ (by rfl) (by kernel_rfl) (by rfl) hC ?hvu2_0 ?_
  case hvu2_0 => intro W hW; have hcW := hW.cells; have hcV := hW.outer hO; (try simp only [World.size_alloc, World.size_setCell, World.size_drew] at hcV); go_simp <;> (with_reducible rfl)
  simp only [Act.put, List.setIfInBounds_toArray, List.set_cons_zero, List.set_cons_succ]
  refine' Reg.val (o := { dst := some 10, op := Op.load 52 (Operand.tmp 9), type := 52, pos := "type_envelope.go:135", after := #[{ on := 0, ground := Ground.data }], guard := none }) 1 _ (by rfl) (by kernel_rfl) (by rfl) hC ?hvu2_1 ?_
  case hvu2_1 => intro W hW; have hcW := hW.cells; have hcV := hW.outer hO; (try simp only [World.size_alloc, World.size_setCell, World.size_drew] at hcV); go_simp <;> (with_reducible rfl)
  simp only [Act.put, List.setIfInBounds_toArray, List.set_cons_zero, List.set_cons_succ]
  refine' Reg.val (o := { dst := some 11, op := Op.fieldAddr 54 (Operand.tmp 1) 1, type := 0, pos := "type_envelope.go:135", after := #[{ on := 4, ground := Ground.gcOnly Departure.lateStores }], guard := none }) 2 _ (by rfl) (by kernel_rfl) (by rfl) hC ?hvu2_2 ?_
  case hvu2_2 => intro W hW; have hcW := hW.cells; have hcV := hW.outer hO; (try simp only [World.size_alloc, World.size_setCell, World.size_drew] at hcV); go_simp <;> (with_reducible rfl)
  simp only [Act.put, List.setIfInBounds_toArray, List.set_cons_zero, List.set_cons_succ]
  refine' Reg.val (o := { dst := some 12, op := Op.load 52 (Operand.tmp 11), type := 52, pos := "type_envelope.go:135", after := #[{ on := 2, ground := Ground.data }, { on := 4, ground := Ground.gcOnly Departure.lateStores }], guard := none }) 3 _ (by rfl) (by kernel_rfl) (by rfl) hC ?hvu2_3 ?_
  case hvu2_3 => intro W hW; have hcW := hW.cells; have hcV := hW.outer hO; (try simp only [World.size_alloc, World.size_setCell, World.size_drew] at hcV); go_simp <;> (with_reducible rfl)
  simp only [Act.put, List.setIfInBounds_toArray, List.set_cons_zero, List.set_cons_succ]
  refine Reg.one (o := { dst := none, op := Op.store 52 (Operand.tmp 2) (Operand.tmp 10), type := 0, pos := "type_envelope.go:135", after := #[{ on := 1, ground := Ground.data }, { on := 0, ground := Ground.phase }, { on := 1, ground := Ground.phase }, { on := 2, ground := Ground.textOnly Departure.lateStores }, { on := 3, ground := Ground.textOnly Departure.lateStores }], guard := none }) 4 (by rfl) (by kernel_rfl) (by rfl)  (fun K Q' hK => ?_)
  obtain ⟨hcR, hfR⟩ := bcell hS
  obtain ⟨hcV, hfV⟩ := bcell (Below.trans hO (hS.mono hO.size))
  (try simp only [World.size_alloc, World.size_setCell, World.size_drew] at hcV hfV)
  go_simp
  refine hK _ _ (by repeat (first | exact hS | assumption | exact But.of_below rfl hS | exact hC | refine But.setCell ?_ (by simp) _ | refine Below.setCell ?_ ?_ _ | refine Below.alloc ?_ ?_ _ | go_size)) (fun hC' => ?_)
  clear hK K
  clear hC
  have hC := hC'
  clear hC'
  refine Reg.one (o := { dst := none, op := Op.store 52 (Operand.tmp 3) (Operand.tmp 12), type := 0, pos := "type_envelope.go:135", after := #[{ on := 3, ground := Ground.data }, { on := 4, ground := Ground.chain }, { on := 0, ground := Ground.phase }, { on := 1, ground := Ground.phase }, { on := 2, ground := Ground.phase }, { on := 3, ground := Ground.phase }, { on := 4, ground := Ground.phase }], guard := none }) 5 (by rfl) (by kernel_rfl) (by rfl)  (fun K Q' hK => ?_)
  obtain ⟨hcR, hfR⟩ := bcell hS
  obtain ⟨hcV, hfV⟩ := bcell (Below.trans hO (hS.mono hO.size))
  (try simp only [World.size_alloc, World.size_setCell, World.size_drew] at hcV hfV)
  go_simp
  refine hK _ _ (by repeat (first | exact hS | assumption | exact But.of_below rfl hS | exact hC | refine But.setCell ?_ (by simp) _ | refine Below.setCell ?_ ?_ _ | refine Below.alloc ?_ ?_ _ | go_size)) (fun hC' => ?_)
  clear hK K
  clear hC
  have hC := hC'
  clear hC'
  refine' Reg.val (o := { dst := some 4, op := Op.assign (Operand.const (Value.bool true)), type := 4, pos := "type_envelope.go:135", after := #[{ on := 5, ground := Ground.chain }, { on := 0, ground := Ground.phase }, { on := 1, ground := Ground.phase }, { on := 2, ground := Ground.phase }, { on := 3, ground := Ground.phase }, { on := 4, ground := Ground.phase }, { on := 5, ground := Ground.phase }], guard := none }) 6 _ (by rfl) (by kernel_rfl) (by rfl) hC ?hvu2_6 ?_
  case hvu2_6 => intro W _; go_simp <;> (with_reducible rfl)
  simp only [Act.put, List.setIfInBounds_toArray, List.set_cons_zero, List.set_cons_succ]
  refine Reg.end_ (by kernel_rfl) ?_
  have hR := hS
  replace hS := Below.trans hO (hS.mono hO.size)
  obtain ⟨hcS, hfS⟩ := bcell hS
  (try simp only [World.size_alloc, World.size_setCell, World.size_drew] at hcS hfS)
  go_wp2
  have HB := Below.trans (B := w.heap.size) (a := w) (by go_grown) (hS.mono (by go_size))
  refine bodyPost_ret (v := .tuple #[xv a b, xv c d, .bool true]) (by simp [results, Try.results35, go_sem, *]) rfl ⟨rfl, by go_grown⟩
set_option maxHeartbeats 1000000 in
theorem expandenv_full (a b c d a' b' c' d' : Nat) (w : World) (ha : fin a = true) (hb : fin b = true) (hc : fin c = true) (hd : fin d = true) :
    Calls Try.prog 27 #[gv a b c d true, gv a' b' c' d' true] w fun e w' => e = .returned (gv (fmin a a') (fmin b b') (fmax c c') (fmax d d') true) ∧ Below w.heap.size w w' := by
  go_enter Try.func27, Try.ntmps27
  go_wp2_with (go_at_call 37; refine (isempty_any _ _ _ _ _ _).mono ?_; rintro e w1 ⟨rfl, hb⟩; (first | (replace hS := chainB hS (by go_grown) hb; clear hb) | (have hS := hb; clear hb)); obtain ⟨hcS, hfS⟩ := bcell hS; (try simp only [World.size_alloc, World.size_setCell, World.size_drew] at hcS hfS))
  have hO := hS
  refine Reg.beginR (ops := regAt Try.f27 5) 32 [w.heap.size + 2] (by kernel_rfl) (by kernel_rfl) (fun wr hS hB hzu3 => ?_)
  have hC := But.of_below (rs := [w.heap.size + 2]) rfl hS
  refine' Reg.val (o := { dst := some 11, op := Op.fieldAddr 54 (Operand.tmp 2) 0, type := 0, pos := "type_envelope.go:163", after := #[], guard := none }) 0 _ (by rfl) (by kernel_rfl) (by rfl) hC ?hvu3_0 ?_
  case hvu3_0 => intro W hW; have hcW := hW.cells; have hcV := hW.outer hO; (try simp only [World.size_alloc, World.size_setCell, World.size_drew] at hcV); go_simp <;> (with_reducible rfl)
  simp only [Act.put, List.setIfInBounds_toArray, List.set_cons_zero, List.set_cons_succ]
  refine' Reg.val (o := { dst := some 12, op := Op.fieldAddr 52 (Operand.tmp 11) 0, type := 0, pos := "type_envelope.go:163", after := #[{ on := 0, ground := Ground.data }], guard := none }) 1 _ (by rfl) (by kernel_rfl) (by rfl) hC ?hvu3_1 ?_
  case hvu3_1 => intro W hW; have hcW := hW.cells; have hcV := hW.outer hO; (try simp only [World.size_alloc, World.size_setCell, World.size_drew] at hcV); go_simp <;> (with_reducible rfl)
  simp only [Act.put, List.setIfInBounds_toArray, List.set_cons_zero, List.set_cons_succ]
  refine' Reg.val (o := { dst := some 13, op := Op.load 22 (Operand.tmp 12), type := 22, pos := "type_envelope.go:163", after := #[{ on := 1, ground := Ground.data }], guard := none }) 2 _ (by rfl) (by kernel_rfl) (by rfl) hC ?hvu3_2 ?_
  case hvu3_2 => intro W hW; have hcW := hW.cells; have hcV := hW.outer hO; (try simp only [World.size_alloc, World.size_setCell, World.size_drew] at hcV); go_simp <;> (with_reducible rfl)
  simp only [Act.put, List.setIfInBounds_toArray, List.set_cons_zero, List.set_cons_succ]
  refine' Reg.val (o := { dst := some 14, op := Op.fieldAddr 54 (Operand.tmp 3) 0, type := 0, pos := "type_envelope.go:163", after := #[], guard := none }) 3 _ (by rfl) (by kernel_rfl) (by rfl) hC ?hvu3_3 ?_
  case hvu3_3 => intro W hW; have hcW := hW.cells; have hcV := hW.outer hO; (try simp only [World.size_alloc, World.size_setCell, World.size_drew] at hcV); go_simp <;> (with_reducible rfl)
  simp only [Act.put, List.setIfInBounds_toArray, List.set_cons_zero, List.set_cons_succ]
  refine' Reg.val (o := { dst := some 15, op := Op.fieldAddr 52 (Operand.tmp 14) 0, type := 0, pos := "type_envelope.go:163", after := #[{ on := 3, ground := Ground.data }], guard := none }) 4 _ (by rfl) (by kernel_rfl) (by rfl) hC ?hvu3_4 ?_
  case hvu3_4 => intro W hW; have hcW := hW.cells; have hcV := hW.outer hO; (try simp only [World.size_alloc, World.size_setCell, World.size_drew] at hcV); go_simp <;> (with_reducible rfl)
  simp only [Act.put, List.setIfInBounds_toArray, List.set_cons_zero, List.set_cons_succ]
  refine' Reg.val (o := { dst := some 16, op := Op.load 22 (Operand.tmp 15), type := 22, pos := "type_envelope.go:163", after := #[{ on := 4, ground := Ground.data }], guard := none }) 5 _ (by rfl) (by kernel_rfl) (by rfl) hC ?hvu3_5 ?_
  case hvu3_5 => intro W hW; have hcW := hW.cells; have hcV := hW.outer hO; (try simp only [World.size_alloc, World.size_setCell, World.size_drew] at hcV); go_simp <;> (with_reducible rfl)
  simp only [Act.put, List.setIfInBounds_toArray, List.set_cons_zero, List.set_cons_succ]
  refine' Reg.val (o := { dst := some 18, op := Op.fieldAddr 54 (Operand.tmp 2) 0, type := 0, pos := "type_envelope.go:163", after := #[], guard := none }) 7 _ (by rfl) (by kernel_rfl) (by rfl) hC ?hvu3_7 ?_
  case hvu3_7 => intro W hW; have hcW := hW.cells; have hcV := hW.outer hO; (try simp only [World.size_alloc, World.size_setCell, World.size_drew] at hcV); go_simp <;> (with_reducible rfl)
  simp only [Act.put, List.setIfInBounds_toArray, List.set_cons_zero, List.set_cons_succ]
  refine' Reg.val (o := { dst := some 19, op := Op.fieldAddr 52 (Operand.tmp 18) 1, type := 0, pos := "type_envelope.go:163", after := #[{ on := 7, ground := Ground.data }], guard := none }) 8 _ (by rfl) (by kernel_rfl) (by rfl) hC ?hvu3_8 ?_
  case hvu3_8 => intro W hW; have hcW := hW.cells; have hcV := hW.outer hO; (try simp only [World.size_alloc, World.size_setCell, World.size_drew] at hcV); go_simp <;> (with_reducible rfl)
  simp only [Act.put, List.setIfInBounds_toArray, List.set_cons_zero, List.set_cons_succ]
  refine' Reg.val (o := { dst := some 20, op := Op.load 22 (Operand.tmp 19), type := 22, pos := "type_envelope.go:163", after := #[{ on := 8, ground := Ground.data }], guard := none }) 9 _ (by rfl) (by kernel_rfl) (by rfl) hC ?hvu3_9 ?_
  case hvu3_9 => intro W hW; have hcW := hW.cells; have hcV := hW.outer hO; (try simp only [World.size_alloc, World.size_setCell, World.size_drew] at hcV); go_simp <;> (with_reducible rfl)
  simp only [Act.put, List.setIfInBounds_toArray, List.set_cons_zero, List.set_cons_succ]
  refine' Reg.val (o := { dst := some 21, op := Op.fieldAddr 54 (Operand.tmp 3) 0, type := 0, pos := "type_envelope.go:163", after := #[], guard := none }) 10 _ (by rfl) (by kernel_rfl) (by rfl) hC ?hvu3_10 ?_
  case hvu3_10 => intro W hW; have hcW := hW.cells; have hcV := hW.outer hO; (try simp only [World.size_alloc, World.size_setCell, World.size_drew] at hcV); go_simp <;> (with_reducible rfl)
  simp only [Act.put, List.setIfInBounds_toArray, List.set_cons_zero, List.set_cons_succ]
  refine' Reg.val (o := { dst := some 22, op := Op.fieldAddr 52 (Operand.tmp 21) 1, type := 0, pos := "type_envelope.go:163", after := #[{ on := 10, ground := Ground.data }], guard := none }) 11 _ (by rfl) (by kernel_rfl) (by rfl) hC ?hvu3_11 ?_
  case hvu3_11 => intro W hW; have hcW := hW.cells; have hcV := hW.outer hO; (try simp only [World.size_alloc, World.size_setCell, World.size_drew] at hcV); go_simp <;> (with_reducible rfl)
  simp only [Act.put, List.setIfInBounds_toArray, List.set_cons_zero, List.set_cons_succ]
  refine' Reg.val (o := { dst := some 23, op := Op.load 22 (Operand.tmp 22), type := 22, pos := "type_envelope.go:163", after := #[{ on := 11, ground := Ground.data }], guard := none }) 12 _ (by rfl) (by kernel_rfl) (by rfl) hC ?hvu3_12 ?_
  case hvu3_12 => intro W hW; have hcW := hW.cells; have hcV := hW.outer hO; (try simp only [World.size_alloc, World.size_setCell, World.size_drew] at hcV); go_simp <;> (with_reducible rfl)
  simp only [Act.put, List.setIfInBounds_toArray, List.set_cons_zero, List.set_cons_succ]
  refine' Reg.val (o := { dst := some 26, op := Op.fieldAddr 54 (Operand.tmp 2) 1, type := 0, pos := "type_envelope.go:163", after := #[], guard := none }) 15 _ (by rfl) (by kernel_rfl) (by rfl) hC ?hvu3_15 ?_
  case hvu3_15 => intro W hW; have hcW := hW.cells; have hcV := hW.outer hO; (try simp only [World.size_alloc, World.size_setCell, World.size_drew] at hcV); go_simp <;> (with_reducible rfl)
  simp only [Act.put, List.setIfInBounds_toArray, List.set_cons_zero, List.set_cons_succ]
  refine' Reg.val (o := { dst := some 27, op := Op.fieldAddr 52 (Operand.tmp 26) 0, type := 0, pos := "type_envelope.go:163", after := #[{ on := 15, ground := Ground.data }], guard := none }) 16 _ (by rfl) (by kernel_rfl) (by rfl) hC ?hvu3_16 ?_
  case hvu3_16 => intro W hW; have hcW := hW.cells; have hcV := hW.outer hO; (try simp only [World.size_alloc, World.size_setCell, World.size_drew] at hcV); go_simp <;> (with_reducible rfl)
  simp only [Act.put, List.setIfInBounds_toArray, List.set_cons_zero, List.set_cons_succ]
  refine' Reg.val (o := { dst := some 28, op := Op.load 22 (Operand.tmp 27), type := 22, pos := "type_envelope.go:163", after := #[{ on := 16, ground := Ground.data }], guard := none }) 17 _ (by rfl) (by kernel_rfl) (by rfl) hC ?hvu3_17 ?_
  case hvu3_17 => intro W hW; have hcW := hW.cells; have hcV := hW.outer hO; (try simp only [World.size_alloc, World.size_setCell, World.size_drew] at hcV); go_simp <;> (with_reducible rfl)
  simp only [Act.put, List.setIfInBounds_toArray, List.set_cons_zero, List.set_cons_succ]
  refine' Reg.val (o := { dst := some 29, op := Op.fieldAddr 54 (Operand.tmp 3) 1, type := 0, pos := "type_envelope.go:163", after := #[], guard := none }) 18 _ (by rfl) (by kernel_rfl) (by rfl) hC ?hvu3_18 ?_
  case hvu3_18 => intro W hW; have hcW := hW.cells; have hcV := hW.outer hO; (try simp only [World.size_alloc, World.size_setCell, World.size_drew] at hcV); go_simp <;> (with_reducible rfl)
  simp only [Act.put, List.setIfInBounds_toArray, List.set_cons_zero, List.set_cons_succ]
  refine' Reg.val (o := { dst := some 30, op := Op.fieldAddr 52 (Operand.tmp 29) 0, type := 0, pos := "type_envelope.go:163", after := #[{ on := 18, ground := Ground.data }], guard := none }) 19 _ (by rfl) (by kernel_rfl) (by rfl) hC ?hvu3_19 ?_
  case hvu3_19 => intro W hW; have hcW := hW.cells; have hcV := hW.outer hO; (try simp only [World.size_alloc, World.size_setCell, World.size_drew] at hcV); go_simp <;> (with_reducible rfl)
  simp only [Act.put, List.setIfInBounds_toArray, List.set_cons_zero, List.set_cons_succ]
  refine' Reg.val (o := { dst := some 31, op := Op.load 22 (Operand.tmp 30), type := 22, pos := "type_envelope.go:163", after := #[{ on := 19, ground := Ground.data }], guard := none }) 20 _ (by rfl) (by kernel_rfl) (by rfl) hC ?hvu3_20 ?_
  case hvu3_20 => intro W hW; have hcW := hW.cells; have hcV := hW.outer hO; (try simp only [World.size_alloc, World.size_setCell, World.size_drew] at hcV); go_simp <;> (with_reducible rfl)
  simp only [Act.put, List.setIfInBounds_toArray, List.set_cons_zero, List.set_cons_succ]
  refine' Reg.val (o := { dst := some 33, op := Op.fieldAddr 54 (Operand.tmp 2) 1, type := 0, pos := "type_envelope.go:163", after := #[], guard := none }) 22 _ (by rfl) (by kernel_rfl) (by rfl) hC ?hvu3_22 ?_
  case hvu3_22 => intro W hW; have hcW := hW.cells; have hcV := hW.outer hO; (try simp only [World.size_alloc, World.size_setCell, World.size_drew] at hcV); go_simp <;> (with_reducible rfl)
  simp only [Act.put, List.setIfInBounds_toArray, List.set_cons_zero, List.set_cons_succ]
  refine' Reg.val (o := { dst := some 34, op := Op.fieldAddr 52 (Operand.tmp 33) 1, type := 0, pos := "type_envelope.go:163", after := #[{ on := 22, ground := Ground.data }], guard := none }) 23 _ (by rfl) (by kernel_rfl) (by rfl) hC ?hvu3_23 ?_
  case hvu3_23 => intro W hW; have hcW := hW.cells; have hcV := hW.outer hO; (try simp only [World.size_alloc, World.size_setCell, World.size_drew] at hcV); go_simp <;> (with_reducible rfl)
  simp only [Act.put, List.setIfInBounds_toArray, List.set_cons_zero, List.set_cons_succ]
  refine' Reg.val (o := { dst := some 35, op := Op.load 22 (Operand.tmp 34), type := 22, pos := "type_envelope.go:163", after := #[{ on := 23, ground := Ground.data }], guard := none }) 24 _ (by rfl) (by kernel_rfl) (by rfl) hC ?hvu3_24 ?_
  case hvu3_24 => intro W hW; have hcW := hW.cells; have hcV := hW.outer hO; (try simp only [World.size_alloc, World.size_setCell, World.size_drew] at hcV); go_simp <;> (with_reducible rfl)
  simp only [Act.put, List.setIfInBounds_toArray, List.set_cons_zero, List.set_cons_succ]
  refine' Reg.val (o := { dst := some 36, op := Op.fieldAddr 54 (Operand.tmp 3) 1, type := 0, pos := "type_envelope.go:163", after := #[], guard := none }) 25 _ (by rfl) (by kernel_rfl) (by rfl) hC ?hvu3_25 ?_
  case hvu3_25 => intro W hW; have hcW := hW.cells; have hcV := hW.outer hO; (try simp only [World.size_alloc, World.size_setCell, World.size_drew] at hcV); go_simp <;> (with_reducible rfl)
  simp only [Act.put, List.setIfInBounds_toArray, List.set_cons_zero, List.set_cons_succ]
  refine' Reg.val (o := { dst := some 37, op := Op.fieldAddr 52 (Operand.tmp 36) 1, type := 0, pos := "type_envelope.go:163", after := #[{ on := 25, ground := Ground.data }], guard := none }) 26 _ (by rfl) (by kernel_rfl) (by rfl) hC ?hvu3_26 ?_
  case hvu3_26 => intro W hW; have hcW := hW.cells; have hcV := hW.outer hO; (try simp only [World.size_alloc, World.size_setCell, World.size_drew] at hcV); go_simp <;> (with_reducible rfl)
  simp only [Act.put, List.setIfInBounds_toArray, List.set_cons_zero, List.set_cons_succ]
  refine' Reg.val (o := { dst := some 38, op := Op.load 22 (Operand.tmp 37), type := 22, pos := "type_envelope.go:163", after := #[{ on := 26, ground := Ground.data }], guard := none }) 27 _ (by rfl) (by kernel_rfl) (by rfl) hC ?hvu3_27 ?_
  case hvu3_27 => intro W hW; have hcW := hW.cells; have hcV := hW.outer hO; (try simp only [World.size_alloc, World.size_setCell, World.size_drew] at hcV); go_simp <;> (with_reducible rfl)
  simp only [Act.put, List.setIfInBounds_toArray, List.set_cons_zero, List.set_cons_succ]
  refine Reg.one (o := { dst := some 17, op := Op.call { callee := Callee.value (Operand.func 39), args := #[Operand.tmp 13, Operand.tmp 16], argTypes := #[22, 22] }, type := 22, pos := "type_envelope.go:164", after := #[{ on := 2, ground := Ground.data }, { on := 5, ground := Ground.data }], guard := none }) 6 (by rfl) (by kernel_rfl) (by rfl)  (fun K Q' hK => ?_)
  go_simp
  refine (fmin_any _ _ (by assumption) _).mono ?_
  rintro e w6 ⟨rfl, rfl⟩
  refine hK _ _ hC (fun hC => ?_)
  clear hK K
  refine Reg.one (o := { dst := some 24, op := Op.call { callee := Callee.value (Operand.func 39), args := #[Operand.tmp 20, Operand.tmp 23], argTypes := #[22, 22] }, type := 22, pos := "type_envelope.go:164", after := #[{ on := 9, ground := Ground.data }, { on := 12, ground := Ground.data }, { on := 6, ground := Ground.chain }], guard := none }) 13 (by rfl) (by kernel_rfl) (by rfl)  (fun K Q' hK => ?_)
  go_simp
  refine (fmin_any _ _ (by assumption) _).mono ?_
  rintro e w13 ⟨rfl, rfl⟩
  refine hK _ _ hC (fun hC => ?_)
  clear hK K
  refine' Reg.val (o := { dst := some 25, op := Op.build 52 #[(0, Operand.tmp 17), (1, Operand.tmp 24)], type := 52, pos := "type_envelope.go:163", after := #[{ on := 6, ground := Ground.data }, { on := 13, ground := Ground.data }], guard := none }) 14 _ (by rfl) (by kernel_rfl) (by rfl) hC ?hvu3_14 ?_
  case hvu3_14 => intro W hW; have hcW := hW.cells; have hcV := hW.outer hO; (try simp only [World.size_alloc, World.size_setCell, World.size_drew] at hcV); go_simp <;> (with_reducible rfl)
  simp only [Act.put, List.setIfInBounds_toArray, List.set_cons_zero, List.set_cons_succ]
  refine Reg.one (o := { dst := some 32, op := Op.call { callee := Callee.value (Operand.func 40), args := #[Operand.tmp 28, Operand.tmp 31], argTypes := #[22, 22] }, type := 22, pos := "type_envelope.go:165", after := #[{ on := 17, ground := Ground.data }, { on := 20, ground := Ground.data }, { on := 13, ground := Ground.chain }], guard := none }) 21 (by rfl) (by kernel_rfl) (by rfl)  (fun K Q' hK => ?_)
  go_simp
  refine (fmax_any _ _ (by assumption) _).mono ?_
  rintro e w21 ⟨rfl, rfl⟩
  refine hK _ _ hC (fun hC => ?_)
  clear hK K
  refine Reg.one (o := { dst := some 39, op := Op.call { callee := Callee.value (Operand.func 40), args := #[Operand.tmp 35, Operand.tmp 38], argTypes := #[22, 22] }, type := 22, pos := "type_envelope.go:165", after := #[{ on := 24, ground := Ground.data }, { on := 27, ground := Ground.data }, { on := 21, ground := Ground.chain }], guard := none }) 28 (by rfl) (by kernel_rfl) (by rfl)  (fun K Q' hK => ?_)
  go_simp
  refine (fmax_any _ _ (by assumption) _).mono ?_
  rintro e w28 ⟨rfl, rfl⟩
  refine hK _ _ hC (fun hC => ?_)
  clear hK K
  refine' Reg.val (o := { dst := some 40, op := Op.build 52 #[(0, Operand.tmp 32), (1, Operand.tmp 39)], type := 52, pos := "type_envelope.go:163", after := #[{ on := 21, ground := Ground.data }, { on := 28, ground := Ground.data }], guard := none }) 29 _ (by rfl) (by kernel_rfl) (by rfl) hC ?hvu3_29 ?_
  case hvu3_29 => intro W hW; have hcW := hW.cells; have hcV := hW.outer hO; (try simp only [World.size_alloc, World.size_setCell, World.size_drew] at hcV); go_simp <;> (with_reducible rfl)
  simp only [Act.put, List.setIfInBounds_toArray, List.set_cons_zero, List.set_cons_succ]
  refine Reg.one (o := { dst := some 41, op := Op.call { callee := Callee.value (Operand.func 38), args := #[Operand.tmp 25, Operand.tmp 40], argTypes := #[52, 52] }, type := 54, pos := "type_envelope.go:163", after := #[{ on := 14, ground := Ground.data }, { on := 29, ground := Ground.data }, { on := 28, ground := Ground.chain }], guard := none }) 30 (by rfl) (by kernel_rfl) (by rfl)  (fun K Q' hK => ?_)
  go_simp
  refine (newunchecked_any _ _ _ _ _).mono ?_
  rintro e w30 ⟨rfl, hb30⟩
  replace hS := Below.trans hS (hb30.mono hB)
  replace hB := Nat.le_trans hB hb30.size
  clear hC
  refine hK _ _ (But.of_below rfl hS) (fun hC => ?_)
  clear hK K
  refine Reg.one (o := { dst := none, op := Op.store 54 (Operand.tmp 4) (Operand.tmp 41), type := 0, pos := "type_envelope.go:163", after := #[{ on := 30, ground := Ground.data }, { on := 30, ground := Ground.chain }, { on := 0, ground := Ground.phase }, { on := 1, ground := Ground.phase }, { on := 2, ground := Ground.phase }, { on := 3, ground := Ground.phase }, { on := 4, ground := Ground.phase }, { on := 5, ground := Ground.phase }, { on := 6, ground := Ground.phase }, { on := 7, ground := Ground.phase }, { on := 8, ground := Ground.phase }, { on := 9, ground := Ground.phase }, { on := 10, ground := Ground.phase }, { on := 11, ground := Ground.phase }, { on := 12, ground := Ground.phase }, { on := 13, ground := Ground.phase }, { on := 14, ground := Ground.phase }, { on := 15, ground := Ground.phase }, { on := 16, ground := Ground.phase }, { on := 17, ground := Ground.phase }, { on := 18, ground := Ground.phase }, { on := 19, ground := Ground.phase }, { on := 20, ground := Ground.phase }, { on := 21, ground := Ground.phase }, { on := 22, ground := Ground.phase }, { on := 23, ground := Ground.phase }, { on := 24, ground := Ground.phase }, { on := 25, ground := Ground.phase }, { on := 26, ground := Ground.phase }, { on := 27, ground := Ground.phase }, { on := 28, ground := Ground.phase }, { on := 29, ground := Ground.phase }, { on := 30, ground := Ground.phase }], guard := none }) 31 (by rfl) (by kernel_rfl) (by rfl)  (fun K Q' hK => ?_)
  obtain ⟨hcR, hfR⟩ := bcell hS
  obtain ⟨hcV, hfV⟩ := bcell (Below.trans hO (hS.mono hO.size))
  (try simp only [World.size_alloc, World.size_setCell, World.size_drew] at hcV hfV)
  go_simp
  refine hK _ _ (by repeat (first | exact hS | assumption | exact But.of_below rfl hS | exact hC | refine But.setCell ?_ (by simp) _ | refine Below.setCell ?_ ?_ _ | refine Below.alloc ?_ ?_ _ | go_size)) (fun hC' => ?_)
  clear hK K
  clear hC
  have hC := hC'
  clear hC'
  refine Reg.end_ (by kernel_rfl) ?_
  have hR := hS
  replace hS := Below.trans hO (hS.mono hO.size)
  obtain ⟨hcS, hfS⟩ := bcell hS
  (try simp only [World.size_alloc, World.size_setCell, World.size_drew] at hcS hfS)
  go_wp2
  have HB := Below.trans (B := w.heap.size) (a := w) (by go_grown) (hS.mono (by go_size))
  refine bodyPost_ret (v := gv (fmin a a') (fmin b b') (fmax c c') (fmax d d') true) (by simp [results, Try.results27, go_sem, *]) rfl ⟨rfl, by go_grown⟩
end Go.Proofs.Ytcidgicdeedgfaa
