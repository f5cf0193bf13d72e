/- What two envelopes with finite ends grow together to covers the one and has each place of the other: for every two envelopes and every place the law returns true. No condition. -/
import Derived.Test.YtcidgicdeedgfaaEnv5
import Derived.Test.YtcidgicdeedgfaaEnv6
import Derived.Test.YtcidgicdeedgfaaEnvP
import Derived.Test.YtcidgicdeedgfaaOpenEnv
import Derived.Deep.DeepCutAuto
namespace Go.Proofs.Ytcidgicdeedgfaa
open Go.ChangeShapes Go.WideShapes Go.ChangeAt Go.RowKit
open Fl
set_option linter.unusedSimpArgs false
set_option linter.unusedVariables false
attribute [local go_sem] run_store_float run_fadd run_fsub run_fmul run_fdiv run_equalIn_float fmt64

theorem Blk.newAt {w : World} {n : Nat} (e : w.heap.size = n) (cs : List Value) (T : TypeId) : Blk (w.alloc (.cells cs.toArray T)) n cs T := e ▸ Blk.new w cs T

set_option maxHeartbeats 2000000 in
theorem envlaw_nofit (f f' : Bool) (a b c d a' b' c' d' x y : Nat) (w : World) (h : (fitB f a b c d && fitB f' a' b' c' d') = false) :
    Calls Try.prog 4 #[ev f a b c d, ev f' a' b' c' d', xv x y] w fun e w' => e = .returned (.bool true) ∧ Below w.heap.size w w' := by
  have HF : ∀ (r : Nat) (W : World), Blk W r [.bool f, fv a, fv b, fv c, fv d, .bool f', fv a', fv b', fv c', fv d'] 30 → Calls Try.prog 9 #[.slice (some ⟨r, 0, none⟩) 2 2] W fun e w' => e = .returned (.bool false) ∧ Below W.heap.size W w' := by
    intro r W hB
    rw [← h]
    exact efits_two _ _ _ _ _ _ _ _ _ _ _ _ hB
  have HF := Lib.hid HF
  clear h
  go_enter Try.func4, Try.ntmps4
  go_wp2_with fail
  refine Reg.beginB (ops := regAt Try.f4 1) 17 (by kernel_rfl) (by kernel_rfl) (fun wr hS hB hzu1 => ?_)
  have hC := hS
  have hzr := hzu1
  simp only [World.size_alloc] at hzr
  refine' Reg.val (o := { dst := some 8, op := Op.load 30 (Operand.tmp 3), type := 30, pos := "env.go:206", after := #[], guard := none }) 0 _ (by rfl) (by kernel_rfl) (by rfl) hC ?hvu1_0 ?_
  case hvu1_0 => intro W hW; obtain ⟨hcW, hfW⟩ := bcell hW; go_simp <;> (with_reducible rfl)
  simp only [Act.put, List.setIfInBounds_toArray, List.set_cons_zero, List.set_cons_succ]
  refine' Reg.val (o := { dst := some 9, op := Op.load 30 (Operand.tmp 4), type := 30, pos := "env.go:206", after := #[], guard := none }) 1 _ (by rfl) (by kernel_rfl) (by rfl) hC ?hvu1_1 ?_
  case hvu1_1 => intro W hW; obtain ⟨hcW, hfW⟩ := bcell hW; go_simp <;> (with_reducible rfl)
  simp only [Act.put, List.setIfInBounds_toArray, List.set_cons_zero, List.set_cons_succ]
  refine Reg.new (o := { dst := some 10, op := Op.buildSlice 47 2 #[(0, Operand.tmp 8), (1, Operand.tmp 9)], type := 47, pos := "env.go:206", after := #[{ on := 0, ground := Ground.data }, { on := 1, ground := Ground.data }], guard := none }) 2 (by rfl) (by kernel_rfl) (by rfl) (fun _ hb => (Below.trans hS (hb.mono hB))) (fun K Q' hK => ?_)
  go_simp
  refine hK _ _ (by go_grown) ?_
  clear hK K
  clear hC
  intro hb hN2 hC
  have hBN2 := hB
  have hSb2 := hS
  replace hS := Below.trans hS (hb.mono hB)
  replace hB := Nat.le_trans hB hb.size
  clear hb
  refine Reg.one (o := { dst := some 11, op := Op.call { callee := Callee.value (Operand.func 9), args := #[Operand.tmp 10], argTypes := #[47] }, type := 4, pos := "env.go:206", after := #[{ on := 2, ground := Ground.data }], guard := none }) 3 (by rfl) (by kernel_rfl) (by rfl)  (fun K Q' hK => ?_)
  go_simp
  refine (HF.out _ _ ((Blk.newAt hzr _ _).keep hN2 (by simp only [World.size_alloc]; omega))).mono ?_
  rintro e w3 ⟨rfl, hb3⟩
  replace hS := Below.trans hS (hb3.mono hB)
  replace hB := Nat.le_trans hB hb3.size
  replace hN2 := Below.trans hN2 (hb3.mono hN2.size)
  clear hC
  refine hK _ _ hS (fun hC => ?_)
  clear hK K
  refine' Reg.val (o := { dst := some 12, op := Op.unOp UnOp.not 4 (Operand.tmp 11), type := 4, pos := "env.go:206", after := #[{ on := 3, ground := Ground.data }], guard := none }) 4 _ (by rfl) (by kernel_rfl) (by rfl) hC ?hvu1_4 ?_
  case hvu1_4 => intro W _; go_simp <;> (with_reducible rfl)
  simp only [Act.put, List.setIfInBounds_toArray, List.set_cons_zero, List.set_cons_succ]
  refine' Reg.val (o := { dst := some 13, op := Op.move (Operand.tmp 12), type := 4, pos := "env.go:206", after := #[{ on := 4, ground := Ground.data }, { on := 3, ground := Ground.chain }], guard := none }) 5 _ (by rfl) (by kernel_rfl) (by rfl) hC ?hvu1_5 ?_
  case hvu1_5 => intro W _; go_simp <;> (with_reducible rfl)
  simp only [Act.put, List.setIfInBounds_toArray, List.set_cons_zero, List.set_cons_succ]
  refine Reg.skp (o := { dst := some 14, op := Op.fieldAddr 30 (Operand.tmp 3) 0, type := 0, pos := "env.go:206", after := #[{ on := 5, ground := Ground.guard }], guard := some (5, false) }) 6 (by rfl) (by kernel_rfl) (by rfl) hC ?_
  simp only [Act.put, List.setIfInBounds_toArray, List.set_cons_zero, List.set_cons_succ]
  refine Reg.skp (o := { dst := some 15, op := Op.load 4 (Operand.tmp 14), type := 4, pos := "env.go:206", after := #[{ on := 6, ground := Ground.data }, { on := 5, ground := Ground.guard }], guard := some (5, false) }) 7 (by rfl) (by kernel_rfl) (by rfl) hC ?_
  simp only [Act.put, List.setIfInBounds_toArray, List.set_cons_zero, List.set_cons_succ]
  refine Reg.skp (o := { dst := some 16, op := Op.unOp UnOp.not 4 (Operand.tmp 15), type := 4, pos := "env.go:206", after := #[{ on := 7, ground := Ground.data }, { on := 5, ground := Ground.guard }], guard := some (5, false) }) 8 (by rfl) (by kernel_rfl) (by rfl) hC ?_
  simp only [Act.put, List.setIfInBounds_toArray, List.set_cons_zero, List.set_cons_succ]
  refine' Reg.val (o := { dst := some 17, op := Op.pick (Operand.tmp 13) (Operand.const (Value.bool true)) (Operand.tmp 16), type := 4, pos := "env.go:206", after := #[{ on := 5, ground := Ground.data }, { on := 8, ground := Ground.data }], guard := none }) 9 _ (by rfl) (by kernel_rfl) (by rfl) hC ?hvu1_9 ?_
  case hvu1_9 => intro W _; go_simp <;> (with_reducible rfl)
  simp only [Act.put, List.setIfInBounds_toArray, List.set_cons_zero, List.set_cons_succ]
  refine' Reg.val (o := { dst := some 18, op := Op.move (Operand.tmp 17), type := 4, pos := "env.go:206", after := #[{ on := 9, ground := Ground.data }, { on := 5, ground := Ground.chain }], guard := none }) 10 _ (by rfl) (by kernel_rfl) (by rfl) hC ?hvu1_10 ?_
  case hvu1_10 => intro W _; go_simp <;> (with_reducible rfl)
  simp only [Act.put, List.setIfInBounds_toArray, List.set_cons_zero, List.set_cons_succ]
  refine Reg.skp (o := { dst := some 19, op := Op.load 30 (Operand.tmp 4), type := 30, pos := "env.go:206", after := #[{ on := 10, ground := Ground.guard }], guard := some (10, false) }) 11 (by rfl) (by kernel_rfl) (by rfl) hC ?_
  simp only [Act.put, List.setIfInBounds_toArray, List.set_cons_zero, List.set_cons_succ]
  refine Reg.skp (o := { dst := some 20, op := Op.call { callee := Callee.value (Operand.func 11), args := #[Operand.tmp 19], argTypes := #[30] }, type := 30, pos := "env.go:206", after := #[{ on := 11, ground := Ground.data }, { on := 10, ground := Ground.chain }, { on := 10, ground := Ground.guard }], guard := some (10, false) }) 12 (by rfl) (by kernel_rfl) (by rfl) hC ?_
  simp only [Act.put, List.setIfInBounds_toArray, List.set_cons_zero, List.set_cons_succ]
  refine Reg.skp (o := { dst := some 21, op := Op.load 32 (Operand.tmp 5), type := 32, pos := "env.go:206", after := #[{ on := 10, ground := Ground.guard }], guard := some (10, false) }) 13 (by rfl) (by kernel_rfl) (by rfl) hC ?_
  simp only [Act.put, List.setIfInBounds_toArray, List.set_cons_zero, List.set_cons_succ]
  refine Reg.skp (o := { dst := some 22, op := Op.call { callee := Callee.value (Operand.func 10), args := #[Operand.tmp 20, Operand.tmp 21], argTypes := #[30, 32] }, type := 4, pos := "env.go:206", after := #[{ on := 12, ground := Ground.data }, { on := 13, ground := Ground.data }, { on := 12, ground := Ground.chain }, { on := 10, ground := Ground.guard }], guard := some (10, false) }) 14 (by rfl) (by kernel_rfl) (by rfl) hC ?_
  simp only [Act.put, List.setIfInBounds_toArray, List.set_cons_zero, List.set_cons_succ]
  refine Reg.skp (o := { dst := some 23, op := Op.unOp UnOp.not 4 (Operand.tmp 22), type := 4, pos := "env.go:206", after := #[{ on := 14, ground := Ground.data }, { on := 10, ground := Ground.guard }], guard := some (10, false) }) 15 (by rfl) (by kernel_rfl) (by rfl) hC ?_
  simp only [Act.put, List.setIfInBounds_toArray, List.set_cons_zero, List.set_cons_succ]
  refine' Reg.val (o := { dst := some 24, op := Op.pick (Operand.tmp 18) (Operand.const (Value.bool true)) (Operand.tmp 23), type := 4, pos := "env.go:206", after := #[{ on := 10, ground := Ground.data }, { on := 15, ground := Ground.data }], guard := none }) 16 _ (by rfl) (by kernel_rfl) (by rfl) hC ?hvu1_16 ?_
  case hvu1_16 => intro W _; go_simp <;> (with_reducible rfl)
  simp only [Act.put, List.setIfInBounds_toArray, List.set_cons_zero, List.set_cons_succ]
  refine Reg.end_ (by kernel_rfl) ?_
  have hR := hS
  obtain ⟨hcS, hfS⟩ := bcell hS
  (try simp only [World.size_alloc, World.size_setCell, World.size_drew] at hcS hfS)
  go_wp2
  go_returns
  exact ⟨rfl, Below.trans (by go_grown) (hS.mono (by go_size))⟩
set_option maxHeartbeats 2000000 in
theorem envlaw_empty (f' : Bool) (a b c d a' b' c' d' x y : Nat) (w : World) (h : (fitB false a b c d && fitB f' a' b' c' d') = true) :
    Calls Try.prog 4 #[ev false a b c d, ev f' a' b' c' d', xv x y] w fun e w' => e = .returned (.bool true) ∧ Below w.heap.size w w' := by
  have HF : ∀ (r : Nat) (W : World), Blk W r [.bool false, fv a, fv b, fv c, fv d, .bool f', fv a', fv b', fv c', fv d'] 30 → Calls Try.prog 9 #[.slice (some ⟨r, 0, none⟩) 2 2] W fun e w' => e = .returned (.bool true) ∧ Below W.heap.size W w' := by
    intro r W hB
    rw [← h]
    exact efits_two _ _ _ _ _ _ _ _ _ _ _ _ hB
  have HF := Lib.hid HF
  clear h
  go_enter Try.func4, Try.ntmps4
  go_wp2_with fail
  refine Reg.beginB (ops := regAt Try.f4 1) 17 (by kernel_rfl) (by kernel_rfl) (fun wr hS hB hzu2 => ?_)
  have hC := hS
  have hzr := hzu2
  simp only [World.size_alloc] at hzr
  refine' Reg.val (o := { dst := some 8, op := Op.load 30 (Operand.tmp 3), type := 30, pos := "env.go:206", after := #[], guard := none }) 0 _ (by rfl) (by kernel_rfl) (by rfl) hC ?hvu2_0 ?_
  case hvu2_0 => intro W hW; obtain ⟨hcW, hfW⟩ := bcell hW; go_simp <;> (with_reducible rfl)
  simp only [Act.put, List.setIfInBounds_toArray, List.set_cons_zero, List.set_cons_succ]
  refine' Reg.val (o := { dst := some 9, op := Op.load 30 (Operand.tmp 4), type := 30, pos := "env.go:206", after := #[], guard := none }) 1 _ (by rfl) (by kernel_rfl) (by rfl) hC ?hvu2_1 ?_
  case hvu2_1 => intro W hW; obtain ⟨hcW, hfW⟩ := bcell hW; go_simp <;> (with_reducible rfl)
  simp only [Act.put, List.setIfInBounds_toArray, List.set_cons_zero, List.set_cons_succ]
  refine Reg.new (o := { dst := some 10, op := Op.buildSlice 47 2 #[(0, Operand.tmp 8), (1, Operand.tmp 9)], type := 47, pos := "env.go:206", after := #[{ on := 0, ground := Ground.data }, { on := 1, ground := Ground.data }], guard := none }) 2 (by rfl) (by kernel_rfl) (by rfl) (fun _ hb => (Below.trans hS (hb.mono hB))) (fun K Q' hK => ?_)
  go_simp
  refine hK _ _ (by go_grown) ?_
  clear hK K
  clear hC
  intro hb hN2 hC
  have hBN2 := hB
  have hSb2 := hS
  replace hS := Below.trans hS (hb.mono hB)
  replace hB := Nat.le_trans hB hb.size
  clear hb
  refine Reg.one (o := { dst := some 11, op := Op.call { callee := Callee.value (Operand.func 9), args := #[Operand.tmp 10], argTypes := #[47] }, type := 4, pos := "env.go:206", after := #[{ on := 2, ground := Ground.data }], guard := none }) 3 (by rfl) (by kernel_rfl) (by rfl)  (fun K Q' hK => ?_)
  go_simp
  refine (HF.out _ _ ((Blk.newAt hzr _ _).keep hN2 (by simp only [World.size_alloc]; omega))).mono ?_
  rintro e w3 ⟨rfl, hb3⟩
  replace hS := Below.trans hS (hb3.mono hB)
  replace hB := Nat.le_trans hB hb3.size
  replace hN2 := Below.trans hN2 (hb3.mono hN2.size)
  clear hC
  refine hK _ _ hS (fun hC => ?_)
  clear hK K
  refine' Reg.val (o := { dst := some 12, op := Op.unOp UnOp.not 4 (Operand.tmp 11), type := 4, pos := "env.go:206", after := #[{ on := 3, ground := Ground.data }], guard := none }) 4 _ (by rfl) (by kernel_rfl) (by rfl) hC ?hvu2_4 ?_
  case hvu2_4 => intro W _; go_simp <;> (with_reducible rfl)
  simp only [Act.put, List.setIfInBounds_toArray, List.set_cons_zero, List.set_cons_succ]
  refine' Reg.val (o := { dst := some 13, op := Op.move (Operand.tmp 12), type := 4, pos := "env.go:206", after := #[{ on := 4, ground := Ground.data }, { on := 3, ground := Ground.chain }], guard := none }) 5 _ (by rfl) (by kernel_rfl) (by rfl) hC ?hvu2_5 ?_
  case hvu2_5 => intro W _; go_simp <;> (with_reducible rfl)
  simp only [Act.put, List.setIfInBounds_toArray, List.set_cons_zero, List.set_cons_succ]
  refine' Reg.val (o := { dst := some 14, op := Op.fieldAddr 30 (Operand.tmp 3) 0, type := 0, pos := "env.go:206", after := #[{ on := 5, ground := Ground.guard }], guard := some (5, false) }) 6 _ (by rfl) (by kernel_rfl) (by rfl) hC ?hvu2_6 ?_
  case hvu2_6 => intro W hW; obtain ⟨hcW, hfW⟩ := bcell hW; go_simp <;> (with_reducible rfl)
  simp only [Act.put, List.setIfInBounds_toArray, List.set_cons_zero, List.set_cons_succ]
  refine' Reg.val (o := { dst := some 15, op := Op.load 4 (Operand.tmp 14), type := 4, pos := "env.go:206", after := #[{ on := 6, ground := Ground.data }, { on := 5, ground := Ground.guard }], guard := some (5, false) }) 7 _ (by rfl) (by kernel_rfl) (by rfl) hC ?hvu2_7 ?_
  case hvu2_7 => intro W hW; obtain ⟨hcW, hfW⟩ := bcell hW; go_simp <;> (with_reducible rfl)
  simp only [Act.put, List.setIfInBounds_toArray, List.set_cons_zero, List.set_cons_succ]
  refine' Reg.val (o := { dst := some 16, op := Op.unOp UnOp.not 4 (Operand.tmp 15), type := 4, pos := "env.go:206", after := #[{ on := 7, ground := Ground.data }, { on := 5, ground := Ground.guard }], guard := some (5, false) }) 8 _ (by rfl) (by kernel_rfl) (by rfl) hC ?hvu2_8 ?_
  case hvu2_8 => intro W _; go_simp <;> (with_reducible rfl)
  simp only [Act.put, List.setIfInBounds_toArray, List.set_cons_zero, List.set_cons_succ]
  refine' Reg.val (o := { dst := some 17, op := Op.pick (Operand.tmp 13) (Operand.const (Value.bool true)) (Operand.tmp 16), type := 4, pos := "env.go:206", after := #[{ on := 5, ground := Ground.data }, { on := 8, ground := Ground.data }], guard := none }) 9 _ (by rfl) (by kernel_rfl) (by rfl) hC ?hvu2_9 ?_
  case hvu2_9 => intro W _; go_simp <;> (with_reducible rfl)
  simp only [Act.put, List.setIfInBounds_toArray, List.set_cons_zero, List.set_cons_succ]
  refine' Reg.val (o := { dst := some 18, op := Op.move (Operand.tmp 17), type := 4, pos := "env.go:206", after := #[{ on := 9, ground := Ground.data }, { on := 5, ground := Ground.chain }], guard := none }) 10 _ (by rfl) (by kernel_rfl) (by rfl) hC ?hvu2_10 ?_
  case hvu2_10 => intro W _; go_simp <;> (with_reducible rfl)
  simp only [Act.put, List.setIfInBounds_toArray, List.set_cons_zero, List.set_cons_succ]
  refine Reg.skp (o := { dst := some 19, op := Op.load 30 (Operand.tmp 4), type := 30, pos := "env.go:206", after := #[{ on := 10, ground := Ground.guard }], guard := some (10, false) }) 11 (by rfl) (by kernel_rfl) (by rfl) hC ?_
  simp only [Act.put, List.setIfInBounds_toArray, List.set_cons_zero, List.set_cons_succ]
  refine Reg.skp (o := { dst := some 20, op := Op.call { callee := Callee.value (Operand.func 11), args := #[Operand.tmp 19], argTypes := #[30] }, type := 30, pos := "env.go:206", after := #[{ on := 11, ground := Ground.data }, { on := 10, ground := Ground.chain }, { on := 10, ground := Ground.guard }], guard := some (10, false) }) 12 (by rfl) (by kernel_rfl) (by rfl) hC ?_
  simp only [Act.put, List.setIfInBounds_toArray, List.set_cons_zero, List.set_cons_succ]
  refine Reg.skp (o := { dst := some 21, op := Op.load 32 (Operand.tmp 5), type := 32, pos := "env.go:206", after := #[{ on := 10, ground := Ground.guard }], guard := some (10, false) }) 13 (by rfl) (by kernel_rfl) (by rfl) hC ?_
  simp only [Act.put, List.setIfInBounds_toArray, List.set_cons_zero, List.set_cons_succ]
  refine Reg.skp (o := { dst := some 22, op := Op.call { callee := Callee.value (Operand.func 10), args := #[Operand.tmp 20, Operand.tmp 21], argTypes := #[30, 32] }, type := 4, pos := "env.go:206", after := #[{ on := 12, ground := Ground.data }, { on := 13, ground := Ground.data }, { on := 12, ground := Ground.chain }, { on := 10, ground := Ground.guard }], guard := some (10, false) }) 14 (by rfl) (by kernel_rfl) (by rfl) hC ?_
  simp only [Act.put, List.setIfInBounds_toArray, List.set_cons_zero, List.set_cons_succ]
  refine Reg.skp (o := { dst := some 23, op := Op.unOp UnOp.not 4 (Operand.tmp 22), type := 4, pos := "env.go:206", after := #[{ on := 14, ground := Ground.data }, { on := 10, ground := Ground.guard }], guard := some (10, false) }) 15 (by rfl) (by kernel_rfl) (by rfl) hC ?_
  simp only [Act.put, List.setIfInBounds_toArray, List.set_cons_zero, List.set_cons_succ]
  refine' Reg.val (o := { dst := some 24, op := Op.pick (Operand.tmp 18) (Operand.const (Value.bool true)) (Operand.tmp 23), type := 4, pos := "env.go:206", after := #[{ on := 10, ground := Ground.data }, { on := 15, ground := Ground.data }], guard := none }) 16 _ (by rfl) (by kernel_rfl) (by rfl) hC ?hvu2_16 ?_
  case hvu2_16 => intro W _; go_simp <;> (with_reducible rfl)
  simp only [Act.put, List.setIfInBounds_toArray, List.set_cons_zero, List.set_cons_succ]
  refine Reg.end_ (by kernel_rfl) ?_
  have hR := hS
  obtain ⟨hcS, hfS⟩ := bcell hS
  (try simp only [World.size_alloc, World.size_setCell, World.size_drew] at hcS hfS)
  go_wp2
  go_returns
  exact ⟨rfl, Below.trans (by go_grown) (hS.mono (by go_size))⟩
set_option maxHeartbeats 2000000 in
theorem envlaw_no (f' : Bool) (a b c d a' b' c' d' x y m1 m2 m3 m4 : Nat) (w : World) (h : (fitB true a b c d && fitB f' a' b' c' d') = true)
    (hm : ∀ W, Calls Try.prog 11 #[ev f' a' b' c' d'] W fun e w' => e = .returned (ev f' m1 m2 m3 m4) ∧ Below W.heap.size W w')
    (hh : ∀ W, Calls Try.prog 10 #[ev f' m1 m2 m3 m4, xv x y] W fun e w' => e = .returned (.bool false) ∧ Below W.heap.size W w') :
    Calls Try.prog 4 #[ev true a b c d, ev f' a' b' c' d', xv x y] w fun e w' => e = .returned (.bool true) ∧ Below w.heap.size w w' := by
  have HF : ∀ (r : Nat) (W : World), Blk W r [.bool true, fv a, fv b, fv c, fv d, .bool f', fv a', fv b', fv c', fv d'] 30 → Calls Try.prog 9 #[.slice (some ⟨r, 0, none⟩) 2 2] W fun e w' => e = .returned (.bool true) ∧ Below W.heap.size W w' := by
    intro r W hB
    rw [← h]
    exact efits_two _ _ _ _ _ _ _ _ _ _ _ _ hB
  have HF := Lib.hid HF
  have HM := Lib.hid hm
  have HH := Lib.hid hh
  clear h hm hh
  go_enter Try.func4, Try.ntmps4
  go_wp2_with fail
  refine Reg.beginB (ops := regAt Try.f4 1) 17 (by kernel_rfl) (by kernel_rfl) (fun wr hS hB hzu3 => ?_)
  have hC := hS
  have hzr := hzu3
  simp only [World.size_alloc] at hzr
  refine' Reg.val (o := { dst := some 8, op := Op.load 30 (Operand.tmp 3), type := 30, pos := "env.go:206", after := #[], guard := none }) 0 _ (by rfl) (by kernel_rfl) (by rfl) hC ?hvu3_0 ?_
  case hvu3_0 => intro W hW; obtain ⟨hcW, hfW⟩ := bcell hW; go_simp <;> (with_reducible rfl)
  simp only [Act.put, List.setIfInBounds_toArray, List.set_cons_zero, List.set_cons_succ]
  refine' Reg.val (o := { dst := some 9, op := Op.load 30 (Operand.tmp 4), type := 30, pos := "env.go:206", after := #[], guard := none }) 1 _ (by rfl) (by kernel_rfl) (by rfl) hC ?hvu3_1 ?_
  case hvu3_1 => intro W hW; obtain ⟨hcW, hfW⟩ := bcell hW; go_simp <;> (with_reducible rfl)
  simp only [Act.put, List.setIfInBounds_toArray, List.set_cons_zero, List.set_cons_succ]
  refine Reg.new (o := { dst := some 10, op := Op.buildSlice 47 2 #[(0, Operand.tmp 8), (1, Operand.tmp 9)], type := 47, pos := "env.go:206", after := #[{ on := 0, ground := Ground.data }, { on := 1, ground := Ground.data }], guard := none }) 2 (by rfl) (by kernel_rfl) (by rfl) (fun _ hb => (Below.trans hS (hb.mono hB))) (fun K Q' hK => ?_)
  go_simp
  refine hK _ _ (by go_grown) ?_
  clear hK K
  clear hC
  intro hb hN2 hC
  have hBN2 := hB
  have hSb2 := hS
  replace hS := Below.trans hS (hb.mono hB)
  replace hB := Nat.le_trans hB hb.size
  clear hb
  refine Reg.one (o := { dst := some 11, op := Op.call { callee := Callee.value (Operand.func 9), args := #[Operand.tmp 10], argTypes := #[47] }, type := 4, pos := "env.go:206", after := #[{ on := 2, ground := Ground.data }], guard := none }) 3 (by rfl) (by kernel_rfl) (by rfl)  (fun K Q' hK => ?_)
  go_simp
  refine (HF.out _ _ ((Blk.newAt hzr _ _).keep hN2 (by simp only [World.size_alloc]; omega))).mono ?_
  rintro e w3 ⟨rfl, hb3⟩
  replace hS := Below.trans hS (hb3.mono hB)
  replace hB := Nat.le_trans hB hb3.size
  replace hN2 := Below.trans hN2 (hb3.mono hN2.size)
  clear hC
  refine hK _ _ hS (fun hC => ?_)
  clear hK K
  refine' Reg.val (o := { dst := some 12, op := Op.unOp UnOp.not 4 (Operand.tmp 11), type := 4, pos := "env.go:206", after := #[{ on := 3, ground := Ground.data }], guard := none }) 4 _ (by rfl) (by kernel_rfl) (by rfl) hC ?hvu3_4 ?_
  case hvu3_4 => intro W _; go_simp <;> (with_reducible rfl)
  simp only [Act.put, List.setIfInBounds_toArray, List.set_cons_zero, List.set_cons_succ]
  refine' Reg.val (o := { dst := some 13, op := Op.move (Operand.tmp 12), type := 4, pos := "env.go:206", after := #[{ on := 4, ground := Ground.data }, { on := 3, ground := Ground.chain }], guard := none }) 5 _ (by rfl) (by kernel_rfl) (by rfl) hC ?hvu3_5 ?_
  case hvu3_5 => intro W _; go_simp <;> (with_reducible rfl)
  simp only [Act.put, List.setIfInBounds_toArray, List.set_cons_zero, List.set_cons_succ]
  refine' Reg.val (o := { dst := some 14, op := Op.fieldAddr 30 (Operand.tmp 3) 0, type := 0, pos := "env.go:206", after := #[{ on := 5, ground := Ground.guard }], guard := some (5, false) }) 6 _ (by rfl) (by kernel_rfl) (by rfl) hC ?hvu3_6 ?_
  case hvu3_6 => intro W hW; obtain ⟨hcW, hfW⟩ := bcell hW; go_simp <;> (with_reducible rfl)
  simp only [Act.put, List.setIfInBounds_toArray, List.set_cons_zero, List.set_cons_succ]
  refine' Reg.val (o := { dst := some 15, op := Op.load 4 (Operand.tmp 14), type := 4, pos := "env.go:206", after := #[{ on := 6, ground := Ground.data }, { on := 5, ground := Ground.guard }], guard := some (5, false) }) 7 _ (by rfl) (by kernel_rfl) (by rfl) hC ?hvu3_7 ?_
  case hvu3_7 => intro W hW; obtain ⟨hcW, hfW⟩ := bcell hW; go_simp <;> (with_reducible rfl)
  simp only [Act.put, List.setIfInBounds_toArray, List.set_cons_zero, List.set_cons_succ]
  refine' Reg.val (o := { dst := some 16, op := Op.unOp UnOp.not 4 (Operand.tmp 15), type := 4, pos := "env.go:206", after := #[{ on := 7, ground := Ground.data }, { on := 5, ground := Ground.guard }], guard := some (5, false) }) 8 _ (by rfl) (by kernel_rfl) (by rfl) hC ?hvu3_8 ?_
  case hvu3_8 => intro W _; go_simp <;> (with_reducible rfl)
  simp only [Act.put, List.setIfInBounds_toArray, List.set_cons_zero, List.set_cons_succ]
  refine' Reg.val (o := { dst := some 17, op := Op.pick (Operand.tmp 13) (Operand.const (Value.bool true)) (Operand.tmp 16), type := 4, pos := "env.go:206", after := #[{ on := 5, ground := Ground.data }, { on := 8, ground := Ground.data }], guard := none }) 9 _ (by rfl) (by kernel_rfl) (by rfl) hC ?hvu3_9 ?_
  case hvu3_9 => intro W _; go_simp <;> (with_reducible rfl)
  simp only [Act.put, List.setIfInBounds_toArray, List.set_cons_zero, List.set_cons_succ]
  refine' Reg.val (o := { dst := some 18, op := Op.move (Operand.tmp 17), type := 4, pos := "env.go:206", after := #[{ on := 9, ground := Ground.data }, { on := 5, ground := Ground.chain }], guard := none }) 10 _ (by rfl) (by kernel_rfl) (by rfl) hC ?hvu3_10 ?_
  case hvu3_10 => intro W _; go_simp <;> (with_reducible rfl)
  simp only [Act.put, List.setIfInBounds_toArray, List.set_cons_zero, List.set_cons_succ]
  refine' Reg.val (o := { dst := some 19, op := Op.load 30 (Operand.tmp 4), type := 30, pos := "env.go:206", after := #[{ on := 10, ground := Ground.guard }], guard := some (10, false) }) 11 _ (by rfl) (by kernel_rfl) (by rfl) hC ?hvu3_11 ?_
  case hvu3_11 => intro W hW; obtain ⟨hcW, hfW⟩ := bcell hW; go_simp <;> (with_reducible rfl)
  simp only [Act.put, List.setIfInBounds_toArray, List.set_cons_zero, List.set_cons_succ]
  refine' Reg.val (o := { dst := some 21, op := Op.load 32 (Operand.tmp 5), type := 32, pos := "env.go:206", after := #[{ on := 10, ground := Ground.guard }], guard := some (10, false) }) 13 _ (by rfl) (by kernel_rfl) (by rfl) hC ?hvu3_13 ?_
  case hvu3_13 => intro W hW; obtain ⟨hcW, hfW⟩ := bcell hW; go_simp <;> (with_reducible rfl)
  simp only [Act.put, List.setIfInBounds_toArray, List.set_cons_zero, List.set_cons_succ]
  refine Reg.one (o := { dst := some 20, op := Op.call { callee := Callee.value (Operand.func 11), args := #[Operand.tmp 19], argTypes := #[30] }, type := 30, pos := "env.go:206", after := #[{ on := 11, ground := Ground.data }, { on := 10, ground := Ground.chain }, { on := 10, ground := Ground.guard }], guard := some (10, false) }) 12 (by rfl) (by kernel_rfl) (by rfl)  (fun K Q' hK => ?_)
  go_simp
  refine (HM.out _).mono ?_
  rintro e w12 ⟨rfl, hb12⟩
  replace hS := Below.trans hS (hb12.mono hB)
  replace hB := Nat.le_trans hB hb12.size
  replace hN2 := Below.trans hN2 (hb12.mono hN2.size)
  clear hC
  refine hK _ _ hS (fun hC => ?_)
  clear hK K
  refine Reg.one (o := { dst := some 22, op := Op.call { callee := Callee.value (Operand.func 10), args := #[Operand.tmp 20, Operand.tmp 21], argTypes := #[30, 32] }, type := 4, pos := "env.go:206", after := #[{ on := 12, ground := Ground.data }, { on := 13, ground := Ground.data }, { on := 12, ground := Ground.chain }, { on := 10, ground := Ground.guard }], guard := some (10, false) }) 14 (by rfl) (by kernel_rfl) (by rfl)  (fun K Q' hK => ?_)
  go_simp
  refine (HH.out _).mono ?_
  rintro e w14 ⟨rfl, hb14⟩
  replace hS := Below.trans hS (hb14.mono hB)
  replace hB := Nat.le_trans hB hb14.size
  replace hN2 := Below.trans hN2 (hb14.mono hN2.size)
  clear hC
  refine hK _ _ hS (fun hC => ?_)
  clear hK K
  refine' Reg.val (o := { dst := some 23, op := Op.unOp UnOp.not 4 (Operand.tmp 22), type := 4, pos := "env.go:206", after := #[{ on := 14, ground := Ground.data }, { on := 10, ground := Ground.guard }], guard := some (10, false) }) 15 _ (by rfl) (by kernel_rfl) (by rfl) hC ?hvu3_15 ?_
  case hvu3_15 => intro W _; go_simp <;> (with_reducible rfl)
  simp only [Act.put, List.setIfInBounds_toArray, List.set_cons_zero, List.set_cons_succ]
  refine' Reg.val (o := { dst := some 24, op := Op.pick (Operand.tmp 18) (Operand.const (Value.bool true)) (Operand.tmp 23), type := 4, pos := "env.go:206", after := #[{ on := 10, ground := Ground.data }, { on := 15, ground := Ground.data }], guard := none }) 16 _ (by rfl) (by kernel_rfl) (by rfl) hC ?hvu3_16 ?_
  case hvu3_16 => intro W _; go_simp <;> (with_reducible rfl)
  simp only [Act.put, List.setIfInBounds_toArray, List.set_cons_zero, List.set_cons_succ]
  refine Reg.end_ (by kernel_rfl) ?_
  have hR := hS
  obtain ⟨hcS, hfS⟩ := bcell hS
  (try simp only [World.size_alloc, World.size_setCell, World.size_drew] at hcS hfS)
  go_wp2
  go_returns
  exact ⟨rfl, Below.trans (by go_grown) (hS.mono (by go_size))⟩
end Go.Proofs.Ytcidgicdeedgfaa
