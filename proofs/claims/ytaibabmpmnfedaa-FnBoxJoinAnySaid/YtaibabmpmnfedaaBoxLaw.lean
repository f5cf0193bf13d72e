/- Boxes of finite numbers are joined in any order to the same, and a box by itself to itself: for every three boxes the law returns true. No condition. -/
import Derived.Test.YtaibabmpmnfedaaBoxWalk

import Derived.Deep.DeepCutAuto
namespace Go.Proofs.Ytaibabmpmnfedaa
open Go.ChangeShapes Go.WideShapes Go.ChangeAt Go.RowKit
open Fl
set_option linter.unusedSimpArgs false
set_option linter.unusedVariables false
attribute [local go_sem] run_store_float run_fadd run_fsub run_fmul run_fdiv run_equalIn_float fmt64

section
variable {a b c : Nat} (ha : fin a = true) (hb : fin b = true) (hc : fin c = true)
include ha hb hc
theorem min_1 : Ieee.double.order (fmin (fmin a b) c) (fmin a (fmin c b)) = some .eq := by
  obtain ⟨f1, l1, l2, o1⟩ := fmin_spec ha hb
  obtain ⟨f2, l3, l4, o2⟩ := fmin_spec f1 hc
  obtain ⟨f3, l5, l6, o3⟩ := fmin_spec hc hb
  obtain ⟨f4, l7, l8, o4⟩ := fmin_spec ha f3
  exact (order_q f2 f4).2.1 (by grind)
theorem min_2 : Ieee.double.order (fmin (fmin a b) c) (fmin (fmin c a) b) = some .eq := by
  obtain ⟨f1, l1, l2, o1⟩ := fmin_spec ha hb
  obtain ⟨f2, l3, l4, o2⟩ := fmin_spec f1 hc
  obtain ⟨f3, l5, l6, o3⟩ := fmin_spec hc ha
  obtain ⟨f4, l7, l8, o4⟩ := fmin_spec f3 hb
  exact (order_q f2 f4).2.1 (by grind)
theorem max_1 : Ieee.double.order (fmax (fmax a b) c) (fmax a (fmax c b)) = some .eq := by
  obtain ⟨f1, l1, l2, o1⟩ := fmax_spec ha hb
  obtain ⟨f2, l3, l4, o2⟩ := fmax_spec f1 hc
  obtain ⟨f3, l5, l6, o3⟩ := fmax_spec hc hb
  obtain ⟨f4, l7, l8, o4⟩ := fmax_spec ha f3
  exact (order_q f2 f4).2.1 (by grind)
theorem max_2 : Ieee.double.order (fmax (fmax a b) c) (fmax (fmax c a) b) = some .eq := by
  obtain ⟨f1, l1, l2, o1⟩ := fmax_spec ha hb
  obtain ⟨f2, l3, l4, o2⟩ := fmax_spec f1 hc
  obtain ⟨f3, l5, l6, o3⟩ := fmax_spec hc ha
  obtain ⟨f4, l7, l8, o4⟩ := fmax_spec f3 hb
  exact (order_q f2 f4).2.1 (by grind)
end
theorem min_3 {a : Nat} (ha : fin a = true) : Ieee.double.order (fmin a a) a = some .eq := by
  obtain ⟨f1, l1, l2, o1⟩ := fmin_spec ha ha
  exact (order_q f1 ha).2.1 (by grind)
theorem max_3 {a : Nat} (ha : fin a = true) : Ieee.double.order (fmax a a) a = some .eq := by
  obtain ⟨f1, l1, l2, o1⟩ := fmax_spec ha ha
  exact (order_q f1 ha).2.1 (by grind)

set_option maxHeartbeats 1000000 in
theorem boxlaw_not (a1 b1 c1 d1 a2 b2 c2 d2 a3 b3 c3 d3 : Nat) (w : World) (h : (fin4 a1 b1 c1 d1 && fin4 a2 b2 c2 d2 && fin4 a3 b3 c3 d3) = false) :
    Calls Try.prog 5 #[bx a1 b1 c1 d1, bx a2 b2 c2 d2, bx a3 b3 c3 d3] w fun e w' => e = .returned (.bool true) ∧ Below w.heap.size w w' := by
  cases h1 : fin4 a1 b1 c1 d1 <;> cases h2 : fin4 a2 b2 c2 d2 <;> cases h3 : fin4 a3 b3 c3 d3
  case true.true.true => rw [h1, h2, h3] at h; simp at h
  all_goals
    clear h
    go_enter Try.func5, Try.ntmps5
    go_wp2_with (go_at_call 12; refine (efinite_any _ _ _ _ _).mono ?_; rintro e w1 ⟨rfl, hb⟩; (first | (replace hS := chainB hS (by go_grown) hb; clear hb) | (have hS := hb; clear hb)); obtain ⟨hcS, hfS⟩ := bcell hS; (try simp only [World.size_alloc, World.size_setCell, World.size_drew] at hcS hfS))
    go_returns
    exact ⟨rfl, Below.trans (by go_grown) (hS.mono (by go_size))⟩

set_option maxHeartbeats 2000000 in
theorem boxlaw_yes (a1 b1 c1 d1 a2 b2 c2 d2 a3 b3 c3 d3 : Nat) (w : World) (h : (fin4 a1 b1 c1 d1 && fin4 a2 b2 c2 d2 && fin4 a3 b3 c3 d3) = true) :
    Calls Try.prog 5 #[bx a1 b1 c1 d1, bx a2 b2 c2 d2, bx a3 b3 c3 d3] w fun e w' => e = .returned (.bool true) ∧ Below w.heap.size w w' := by
  simp only [Bool.and_eq_true] at h
  obtain ⟨⟨h1, h2⟩, h3⟩ := h
  have g1 := h1
  have g2 := h2
  have g3 := h3
  simp only [fin4, Bool.and_eq_true] at g1 g2 g3
  obtain ⟨⟨⟨fa1, fb1⟩, fc1⟩, fd1⟩ := g1
  obtain ⟨⟨⟨fa2, fb2⟩, fc2⟩, fd2⟩ := g2
  obtain ⟨⟨⟨fa3, fb3⟩, fc3⟩, fd3⟩ := g3
  have m1 := min_1 fa1 fa2 fa3
  have m2 := min_1 fb1 fb2 fb3
  have m3 := max_1 fc1 fc2 fc3
  have m4 := max_1 fd1 fd2 fd3
  have n1 := min_2 fa1 fa2 fa3
  have n2 := min_2 fb1 fb2 fb3
  have n3 := max_2 fc1 fc2 fc3
  have n4 := max_2 fd1 fd2 fd3
  have l1 := min_3 fa1
  have l2 := min_3 fb1
  have l3 := max_3 fc1
  have l4 := max_3 fd1
  clear fa1 fb1 fc1 fd1 fa2 fb2 fc2 fd2 fa3 fb3 fc3 fd3
  go_enter Try.func5, Try.ntmps5
  go_wp2_with (go_at_call 12; refine (efinite_any _ _ _ _ _).mono ?_; rintro e w1 ⟨rfl, hb⟩; (first | (replace hS := chainB hS (by go_grown) hb; clear hb) | (have hS := hb; clear hb)); obtain ⟨hcS, hfS⟩ := bcell hS; (try simp only [World.size_alloc, World.size_setCell, World.size_drew] at hcS hfS))

  go_cut [7] (fun s7 wx => ∃ g : Nat, s7 = .pointer (some ⟨g, 0, none⟩) ∧ wx.cell? ⟨g, 0, none⟩ = some (.float .f64 (fmin (fmin a1 a2) a3)) ∧ wx.cell? ⟨g, 1, none⟩ = some (.float .f64 (fmin (fmin b1 b2) b3)) ∧
      wx.cell? ⟨g, 2, none⟩ = some (.float .f64 (fmax (fmax c1 c2) c3)) ∧ wx.cell? ⟨g, 3, none⟩ = some (.float .f64 (fmax (fmax d1 d2) d3)) ∧
      Below (((w.alloc (.cells #[.float .f64 a1, .float .f64 b1, .float .f64 c1, .float .f64 d1] 31)).alloc (.cells #[.float .f64 a2, .float .f64 b2, .float .f64 c2, .float .f64 d2] 31)).alloc (.cells #[.float .f64 a3, .float .f64 b3, .float .f64 c3, .float .f64 d3] 31)).heap.size (((w.alloc (.cells #[.float .f64 a1, .float .f64 b1, .float .f64 c1, .float .f64 d1] 31)).alloc (.cells #[.float .f64 a2, .float .f64 b2, .float .f64 c2, .float .f64 d2] 31)).alloc (.cells #[.float .f64 a3, .float .f64 b3, .float .f64 c3, .float .f64 d3] 31)) wx)
  case first =>
    have hO := hS
    refine Reg.beginB (ops := regAt Try.f5 3) 7 (by kernel_rfl) (by kernel_rfl) (fun wr hS hB hzu3 => ?_)
    refine' Reg.val (o := { dst := some 21, op := Op.load 31 (Operand.tmp 3), type := 31, pos := "nodes.go:116", after := #[], guard := none }) 0 _ (by rfl) (by kernel_rfl) (by rfl) hS ?hvu3_0 ?_
    case hvu3_0 => intro W hW; obtain ⟨hcW, hfW⟩ := bcell hW; obtain ⟨hcV, hfV⟩ := bcell (Below.trans hO (hW.mono hO.size)); (try simp only [World.size_alloc, World.size_setCell, World.size_drew] at hcV hfV); go_simp <;> (with_reducible rfl)
    simp only [Act.put, List.setIfInBounds_toArray, List.set_cons_zero, List.set_cons_succ]
    refine' Reg.val (o := { dst := some 22, op := Op.load 31 (Operand.tmp 4), type := 31, pos := "nodes.go:116", after := #[], guard := none }) 1 _ (by rfl) (by kernel_rfl) (by rfl) hS ?hvu3_1 ?_
    case hvu3_1 => intro W hW; obtain ⟨hcW, hfW⟩ := bcell hW; obtain ⟨hcV, hfV⟩ := bcell (Below.trans hO (hW.mono hO.size)); (try simp only [World.size_alloc, World.size_setCell, World.size_drew] at hcV hfV); go_simp <;> (with_reducible rfl)
    simp only [Act.put, List.setIfInBounds_toArray, List.set_cons_zero, List.set_cons_succ]
    refine' Reg.val (o := { dst := some 24, op := Op.load 31 (Operand.tmp 5), type := 31, pos := "nodes.go:116", after := #[], guard := none }) 3 _ (by rfl) (by kernel_rfl) (by rfl) hS ?hvu3_3 ?_
    case hvu3_3 => intro W hW; obtain ⟨hcW, hfW⟩ := bcell hW; obtain ⟨hcV, hfV⟩ := bcell (Below.trans hO (hW.mono hO.size)); (try simp only [World.size_alloc, World.size_setCell, World.size_drew] at hcV hfV); go_simp <;> (with_reducible rfl)
    simp only [Act.put, List.setIfInBounds_toArray, List.set_cons_zero, List.set_cons_succ]
    refine Reg.two 2 5 (by kernel_rfl) ?_ ?_
    · refine Step1.one (o := { dst := some 23, op := Op.call { callee := Callee.value (Operand.func 13), args := #[Operand.tmp 21, Operand.tmp 22], argTypes := #[31, 31] }, type := 31, pos := "nodes.go:116", after := #[{ on := 0, ground := Ground.data }, { on := 1, ground := Ground.data }], guard := none }) (by rfl) (by rfl)  (fun K Q' hK => ?_)
      go_simp
      refine (boxjoin_any _ _ _ _ _ _ _ _ _).mono ?_
      rintro e w2 ⟨rfl, hb2⟩
      replace hS := Below.trans hS (hb2.mono hB)
      replace hB := Nat.le_trans hB hb2.size
      refine hK _ _ hS ?_
      clear hK K
      refine Reg.two 4 5 (by kernel_rfl) ?_ ?_
      · refine Step1.one (o := { dst := some 25, op := Op.call { callee := Callee.value (Operand.func 13), args := #[Operand.tmp 23, Operand.tmp 24], argTypes := #[31, 31] }, type := 31, pos := "nodes.go:116", after := #[{ on := 2, ground := Ground.data }, { on := 3, ground := Ground.data }, { on := 2, ground := Ground.chain }], guard := none }) (by rfl) (by rfl)  (fun K Q' hK => ?_)
        go_simp
        refine (boxjoin_any _ _ _ _ _ _ _ _ _).mono ?_
        rintro e w4 ⟨rfl, hb4⟩
        replace hS := Below.trans hS (hb4.mono hB)
        replace hB := Nat.le_trans hB hb4.size
        refine hK _ _ hS ?_
        clear hK K
        refine Reg.new (o := { dst := some 7, op := Op.alloc 31, type := 0, pos := "nodes.go:116", after := #[], guard := none }) 5 (by rfl) (by kernel_rfl) (by rfl) (fun _ hb => (Below.trans hS (hb.mono hB))) (fun K Q' hK => ?_)
        go_simp
        refine hK _ _ (by go_grown) ?_
        clear hK K
        intro hb hN5
        have hBN5 := hB
        have hSb5 := hS
        replace hS := Below.trans hS (hb.mono hB)
        replace hB := Nat.le_trans hB hb.size
        clear hb
        refine Reg.one (o := { dst := none, op := Op.store 31 (Operand.tmp 7) (Operand.tmp 25), type := 0, pos := "nodes.go:116", after := #[{ on := 5, ground := Ground.data }, { on := 4, ground := Ground.data }, { on := 4, ground := Ground.chain }, { on := 0, ground := Ground.phase }, { on := 1, ground := Ground.phase }, { on := 2, ground := Ground.phase }, { on := 3, ground := Ground.phase }, { on := 4, ground := Ground.phase }, { on := 5, ground := Ground.phase }], guard := none }) 6 (by rfl) (by kernel_rfl) (by rfl)  (fun K Q' hK => ?_)
        obtain ⟨hcR, hfR⟩ := bcell hS
        obtain ⟨hcV, hfV⟩ := bcell (Below.trans hO (hS.mono hO.size))
        (try simp only [World.size_alloc, World.size_setCell, World.size_drew] at hcV hfV)
        obtain ⟨hcN5, hfN5⟩ := bcell hN5
        (try simp only [World.size_alloc, World.size_setCell, World.size_drew] at hcN5 hfN5)
        go_simp
        refine hK _ _ (by repeat (first | exact hS | assumption | exact But.of_below rfl hS | refine But.setCell ?_ rfl _ | refine Below.setCell ?_ ?_ _ | refine Below.alloc ?_ ?_ _ | go_size)) ?_
        clear hK K
        refine Reg.end_ (by kernel_rfl) ?_
        have hR := hS
        replace hS := Below.trans hO (hS.mono hO.size)
        obtain ⟨hcS, hfS⟩ := bcell hS
        (try simp only [World.size_alloc, World.size_setCell, World.size_drew] at hcS hfS)
        (go_wp2_with fail; go_meet; refine ⟨_, rfl, ?_, ?_, ?_, ?_, ?_⟩; all_goals first | (go_simp; done) | (repeat (first | exact hS | exact Below.trans hO (hSb5.mono hO.size) | refine Below.setCell ?_ ?_ _ | refine Below.alloc ?_ ?_ _ | (have h1 := hO.size; have h2 := hBN5; simp only [World.size_alloc] at h1 ⊢; omega))))
      · refine Step1.new (o := { dst := some 7, op := Op.alloc 31, type := 0, pos := "nodes.go:116", after := #[], guard := none }) (by rfl) (by rfl) (fun _ hb => (Below.trans hS (hb.mono hB))) (fun K Q' hK => ?_)
        go_simp
        refine hK _ _ (by go_grown) ?_
        clear hK K
        intro hb hN5
        have hBN5 := hB
        have hSb5 := hS
        replace hS := Below.trans hS (hb.mono hB)
        replace hB := Nat.le_trans hB hb.size
        clear hb
        refine Reg.one (o := { dst := some 25, op := Op.call { callee := Callee.value (Operand.func 13), args := #[Operand.tmp 23, Operand.tmp 24], argTypes := #[31, 31] }, type := 31, pos := "nodes.go:116", after := #[{ on := 2, ground := Ground.data }, { on := 3, ground := Ground.data }, { on := 2, ground := Ground.chain }], guard := none }) 4 (by rfl) (by kernel_rfl) (by rfl)  (fun K Q' hK => ?_)
        go_simp
        refine (boxjoin_any _ _ _ _ _ _ _ _ _).mono ?_
        rintro e w4 ⟨rfl, hb4⟩
        replace hS := Below.trans hS (hb4.mono hB)
        replace hB := Nat.le_trans hB hb4.size
        replace hN5 := Below.trans hN5 (hb4.mono hN5.size)
        refine hK _ _ hS ?_
        clear hK K
        refine Reg.one (o := { dst := none, op := Op.store 31 (Operand.tmp 7) (Operand.tmp 25), type := 0, pos := "nodes.go:116", after := #[{ on := 5, ground := Ground.data }, { on := 4, ground := Ground.data }, { on := 4, ground := Ground.chain }, { on := 0, ground := Ground.phase }, { on := 1, ground := Ground.phase }, { on := 2, ground := Ground.phase }, { on := 3, ground := Ground.phase }, { on := 4, ground := Ground.phase }, { on := 5, ground := Ground.phase }], guard := none }) 6 (by rfl) (by kernel_rfl) (by rfl)  (fun K Q' hK => ?_)
        obtain ⟨hcR, hfR⟩ := bcell hS
        obtain ⟨hcV, hfV⟩ := bcell (Below.trans hO (hS.mono hO.size))
        (try simp only [World.size_alloc, World.size_setCell, World.size_drew] at hcV hfV)
        obtain ⟨hcN5, hfN5⟩ := bcell hN5
        (try simp only [World.size_alloc, World.size_setCell, World.size_drew] at hcN5 hfN5)
        go_simp
        refine hK _ _ (by repeat (first | exact hS | assumption | exact But.of_below rfl hS | refine But.setCell ?_ rfl _ | refine Below.setCell ?_ ?_ _ | refine Below.alloc ?_ ?_ _ | go_size)) ?_
        clear hK K
        refine Reg.end_ (by kernel_rfl) ?_
        have hR := hS
        replace hS := Below.trans hO (hS.mono hO.size)
        obtain ⟨hcS, hfS⟩ := bcell hS
        (try simp only [World.size_alloc, World.size_setCell, World.size_drew] at hcS hfS)
        (go_wp2_with fail; go_meet; refine ⟨_, rfl, ?_, ?_, ?_, ?_, ?_⟩; all_goals first | (go_simp; done) | (repeat (first | exact hS | exact Below.trans hO (hSb5.mono hO.size) | refine Below.setCell ?_ ?_ _ | refine Below.alloc ?_ ?_ _ | (have h1 := hO.size; have h2 := hBN5; simp only [World.size_alloc] at h1 ⊢; omega))))
    · refine Step1.new (o := { dst := some 7, op := Op.alloc 31, type := 0, pos := "nodes.go:116", after := #[], guard := none }) (by rfl) (by rfl) (fun _ hb => (Below.trans hS (hb.mono hB))) (fun K Q' hK => ?_)
      go_simp
      refine hK _ _ (by go_grown) ?_
      clear hK K
      intro hb hN5
      have hBN5 := hB
      have hSb5 := hS
      replace hS := Below.trans hS (hb.mono hB)
      replace hB := Nat.le_trans hB hb.size
      clear hb
      refine Reg.one (o := { dst := some 23, op := Op.call { callee := Callee.value (Operand.func 13), args := #[Operand.tmp 21, Operand.tmp 22], argTypes := #[31, 31] }, type := 31, pos := "nodes.go:116", after := #[{ on := 0, ground := Ground.data }, { on := 1, ground := Ground.data }], guard := none }) 2 (by rfl) (by kernel_rfl) (by rfl)  (fun K Q' hK => ?_)
      go_simp
      refine (boxjoin_any _ _ _ _ _ _ _ _ _).mono ?_
      rintro e w2 ⟨rfl, hb2⟩
      replace hS := Below.trans hS (hb2.mono hB)
      replace hB := Nat.le_trans hB hb2.size
      replace hN5 := Below.trans hN5 (hb2.mono hN5.size)
      refine hK _ _ hS ?_
      clear hK K
      refine Reg.one (o := { dst := some 25, op := Op.call { callee := Callee.value (Operand.func 13), args := #[Operand.tmp 23, Operand.tmp 24], argTypes := #[31, 31] }, type := 31, pos := "nodes.go:116", after := #[{ on := 2, ground := Ground.data }, { on := 3, ground := Ground.data }, { on := 2, ground := Ground.chain }], guard := none }) 4 (by rfl) (by kernel_rfl) (by rfl)  (fun K Q' hK => ?_)
      go_simp
      refine (boxjoin_any _ _ _ _ _ _ _ _ _).mono ?_
      rintro e w4 ⟨rfl, hb4⟩
      replace hS := Below.trans hS (hb4.mono hB)
      replace hB := Nat.le_trans hB hb4.size
      replace hN5 := Below.trans hN5 (hb4.mono hN5.size)
      refine hK _ _ hS ?_
      clear hK K
      refine Reg.one (o := { dst := none, op := Op.store 31 (Operand.tmp 7) (Operand.tmp 25), type := 0, pos := "nodes.go:116", after := #[{ on := 5, ground := Ground.data }, { on := 4, ground := Ground.data }, { on := 4, ground := Ground.chain }, { on := 0, ground := Ground.phase }, { on := 1, ground := Ground.phase }, { on := 2, ground := Ground.phase }, { on := 3, ground := Ground.phase }, { on := 4, ground := Ground.phase }, { on := 5, ground := Ground.phase }], guard := none }) 6 (by rfl) (by kernel_rfl) (by rfl)  (fun K Q' hK => ?_)
      obtain ⟨hcR, hfR⟩ := bcell hS
      obtain ⟨hcV, hfV⟩ := bcell (Below.trans hO (hS.mono hO.size))
      (try simp only [World.size_alloc, World.size_setCell, World.size_drew] at hcV hfV)
      obtain ⟨hcN5, hfN5⟩ := bcell hN5
      (try simp only [World.size_alloc, World.size_setCell, World.size_drew] at hcN5 hfN5)
      go_simp
      refine hK _ _ (by repeat (first | exact hS | assumption | exact But.of_below rfl hS | refine But.setCell ?_ rfl _ | refine Below.setCell ?_ ?_ _ | refine Below.alloc ?_ ?_ _ | go_size)) ?_
      clear hK K
      refine Reg.end_ (by kernel_rfl) ?_
      have hR := hS
      replace hS := Below.trans hO (hS.mono hO.size)
      obtain ⟨hcS, hfS⟩ := bcell hS
      (try simp only [World.size_alloc, World.size_setCell, World.size_drew] at hcS hfS)
      (go_wp2_with fail; go_meet; refine ⟨_, rfl, ?_, ?_, ?_, ?_, ?_⟩; all_goals first | (go_simp; done) | (repeat (first | exact hS | exact Below.trans hO (hSb5.mono hO.size) | refine Below.setCell ?_ ?_ _ | refine Below.alloc ?_ ?_ _ | (have h1 := hO.size; have h2 := hBN5; simp only [World.size_alloc] at h1 ⊢; omega))))
  case rest =>
    obtain ⟨g, rfl, g0, g1, g2, g3, hS⟩ := hcut
    have hg := World.block_lt_of_cell? _ _ g0
    simp only at hg
    go_wp2_with fail
    have hO := hS
    refine Reg.beginB (ops := regAt Try.f5 4) 24 (by kernel_rfl) (by kernel_rfl) (fun wr hS hB hzu4 => ?_)
    refine' Reg.val (o := { dst := some 26, op := Op.load 31 (Operand.tmp 7), type := 31, pos := "nodes.go:117", after := #[], guard := none }) 0 _ (by rfl) (by kernel_rfl) (by rfl) hS ?hvu4_0 ?_
    case hvu4_0 => intro W hW; obtain ⟨hcW, hfW⟩ := bcell hW; obtain ⟨hcV, hfV⟩ := bcell (Below.trans hO (hW.mono hO.size)); (try simp only [World.size_alloc, World.size_setCell, World.size_drew] at hcV hfV); go_simp <;> (with_reducible rfl)
    simp only [Act.put, List.setIfInBounds_toArray, List.set_cons_zero, List.set_cons_succ]
    refine' Reg.val (o := { dst := some 27, op := Op.load 31 (Operand.tmp 3), type := 31, pos := "nodes.go:117", after := #[], guard := none }) 1 _ (by rfl) (by kernel_rfl) (by rfl) hS ?hvu4_1 ?_
    case hvu4_1 => intro W hW; obtain ⟨hcW, hfW⟩ := bcell hW; obtain ⟨hcV, hfV⟩ := bcell (Below.trans hO (hW.mono hO.size)); (try simp only [World.size_alloc, World.size_setCell, World.size_drew] at hcV hfV); go_simp <;> (with_reducible rfl)
    simp only [Act.put, List.setIfInBounds_toArray, List.set_cons_zero, List.set_cons_succ]
    refine' Reg.val (o := { dst := some 28, op := Op.load 31 (Operand.tmp 5), type := 31, pos := "nodes.go:117", after := #[], guard := none }) 2 _ (by rfl) (by kernel_rfl) (by rfl) hS ?hvu4_2 ?_
    case hvu4_2 => intro W hW; obtain ⟨hcW, hfW⟩ := bcell hW; obtain ⟨hcV, hfV⟩ := bcell (Below.trans hO (hW.mono hO.size)); (try simp only [World.size_alloc, World.size_setCell, World.size_drew] at hcV hfV); go_simp <;> (with_reducible rfl)
    simp only [Act.put, List.setIfInBounds_toArray, List.set_cons_zero, List.set_cons_succ]
    refine' Reg.val (o := { dst := some 29, op := Op.load 31 (Operand.tmp 4), type := 31, pos := "nodes.go:117", after := #[], guard := none }) 3 _ (by rfl) (by kernel_rfl) (by rfl) hS ?hvu4_3 ?_
    case hvu4_3 => intro W hW; obtain ⟨hcW, hfW⟩ := bcell hW; obtain ⟨hcV, hfV⟩ := bcell (Below.trans hO (hW.mono hO.size)); (try simp only [World.size_alloc, World.size_setCell, World.size_drew] at hcV hfV); go_simp <;> (with_reducible rfl)
    simp only [Act.put, List.setIfInBounds_toArray, List.set_cons_zero, List.set_cons_succ]
    refine Reg.one (o := { dst := some 30, op := Op.call { callee := Callee.value (Operand.func 13), args := #[Operand.tmp 28, Operand.tmp 29], argTypes := #[31, 31] }, type := 31, pos := "nodes.go:117", after := #[{ on := 2, ground := Ground.data }, { on := 3, ground := Ground.data }], guard := none }) 4 (by rfl) (by kernel_rfl) (by rfl)  (fun K Q' hK => ?_)
    go_simp
    refine (boxjoin_any _ _ _ _ _ _ _ _ _).mono ?_
    rintro e w4 ⟨rfl, hb4⟩
    replace hS := Below.trans hS (hb4.mono hB)
    replace hB := Nat.le_trans hB hb4.size
    refine hK _ _ hS ?_
    clear hK K
    refine Reg.one (o := { dst := some 31, op := Op.call { callee := Callee.value (Operand.func 13), args := #[Operand.tmp 27, Operand.tmp 30], argTypes := #[31, 31] }, type := 31, pos := "nodes.go:117", after := #[{ on := 1, ground := Ground.data }, { on := 4, ground := Ground.data }, { on := 4, ground := Ground.chain }], guard := none }) 5 (by rfl) (by kernel_rfl) (by rfl)  (fun K Q' hK => ?_)
    go_simp
    refine (boxjoin_any _ _ _ _ _ _ _ _ _).mono ?_
    rintro e w5 ⟨rfl, hb5⟩
    replace hS := Below.trans hS (hb5.mono hB)
    replace hB := Nat.le_trans hB hb5.size
    refine hK _ _ hS ?_
    clear hK K
    refine' Reg.val (o := { dst := some 32, op := Op.binOp BinOp.eql 31 (Operand.tmp 26) (Operand.tmp 31) 31, type := 4, pos := "nodes.go:117", after := #[{ on := 0, ground := Ground.data }, { on := 5, ground := Ground.data }], guard := none }) 6 _ (by rfl) (by kernel_rfl) (by rfl) hS ?hvu4_6 ?_
    case hvu4_6 => intro W hW; obtain ⟨hcW, hfW⟩ := bcell hW; obtain ⟨hcV, hfV⟩ := bcell (Below.trans hO (hW.mono hO.size)); (try simp only [World.size_alloc, World.size_setCell, World.size_drew] at hcV hfV); go_simp <;> (with_reducible rfl)
    simp only [Act.put, List.setIfInBounds_toArray, List.set_cons_zero, List.set_cons_succ]
    refine' Reg.val (o := { dst := some 33, op := Op.move (Operand.tmp 32), type := 4, pos := "nodes.go:117", after := #[{ on := 6, ground := Ground.data }, { on := 5, ground := Ground.chain }], guard := none }) 7 _ (by rfl) (by kernel_rfl) (by rfl) hS ?hvu4_7 ?_
    case hvu4_7 => intro W _; go_simp <;> (with_reducible rfl)
    simp only [Act.put, List.setIfInBounds_toArray, List.set_cons_zero, List.set_cons_succ]
    refine' Reg.val (o := { dst := some 34, op := Op.load 31 (Operand.tmp 7), type := 31, pos := "nodes.go:117", after := #[{ on := 7, ground := Ground.guard }], guard := some (7, true) }) 8 _ (by rfl) (by kernel_rfl) (by rfl) hS ?hvu4_8 ?_
    case hvu4_8 => intro W hW; obtain ⟨hcW, hfW⟩ := bcell hW; obtain ⟨hcV, hfV⟩ := bcell (Below.trans hO (hW.mono hO.size)); (try simp only [World.size_alloc, World.size_setCell, World.size_drew] at hcV hfV); go_simp <;> (with_reducible rfl)
    simp only [Act.put, List.setIfInBounds_toArray, List.set_cons_zero, List.set_cons_succ]
    refine' Reg.val (o := { dst := some 35, op := Op.load 31 (Operand.tmp 5), type := 31, pos := "nodes.go:117", after := #[{ on := 7, ground := Ground.guard }], guard := some (7, true) }) 9 _ (by rfl) (by kernel_rfl) (by rfl) hS ?hvu4_9 ?_
    case hvu4_9 => intro W hW; obtain ⟨hcW, hfW⟩ := bcell hW; obtain ⟨hcV, hfV⟩ := bcell (Below.trans hO (hW.mono hO.size)); (try simp only [World.size_alloc, World.size_setCell, World.size_drew] at hcV hfV); go_simp <;> (with_reducible rfl)
    simp only [Act.put, List.setIfInBounds_toArray, List.set_cons_zero, List.set_cons_succ]
    refine' Reg.val (o := { dst := some 36, op := Op.load 31 (Operand.tmp 3), type := 31, pos := "nodes.go:117", after := #[{ on := 7, ground := Ground.guard }], guard := some (7, true) }) 10 _ (by rfl) (by kernel_rfl) (by rfl) hS ?hvu4_10 ?_
    case hvu4_10 => intro W hW; obtain ⟨hcW, hfW⟩ := bcell hW; obtain ⟨hcV, hfV⟩ := bcell (Below.trans hO (hW.mono hO.size)); (try simp only [World.size_alloc, World.size_setCell, World.size_drew] at hcV hfV); go_simp <;> (with_reducible rfl)
    simp only [Act.put, List.setIfInBounds_toArray, List.set_cons_zero, List.set_cons_succ]
    refine' Reg.val (o := { dst := some 38, op := Op.load 31 (Operand.tmp 4), type := 31, pos := "nodes.go:117", after := #[{ on := 7, ground := Ground.guard }], guard := some (7, true) }) 12 _ (by rfl) (by kernel_rfl) (by rfl) hS ?hvu4_12 ?_
    case hvu4_12 => intro W hW; obtain ⟨hcW, hfW⟩ := bcell hW; obtain ⟨hcV, hfV⟩ := bcell (Below.trans hO (hW.mono hO.size)); (try simp only [World.size_alloc, World.size_setCell, World.size_drew] at hcV hfV); go_simp <;> (with_reducible rfl)
    simp only [Act.put, List.setIfInBounds_toArray, List.set_cons_zero, List.set_cons_succ]
    refine Reg.one (o := { dst := some 37, op := Op.call { callee := Callee.value (Operand.func 13), args := #[Operand.tmp 35, Operand.tmp 36], argTypes := #[31, 31] }, type := 31, pos := "nodes.go:117", after := #[{ on := 9, ground := Ground.data }, { on := 10, ground := Ground.data }, { on := 7, ground := Ground.chain }, { on := 7, ground := Ground.guard }], guard := some (7, true) }) 11 (by rfl) (by kernel_rfl) (by rfl)  (fun K Q' hK => ?_)
    go_simp
    refine (boxjoin_any _ _ _ _ _ _ _ _ _).mono ?_
    rintro e w11 ⟨rfl, hb11⟩
    replace hS := Below.trans hS (hb11.mono hB)
    replace hB := Nat.le_trans hB hb11.size
    refine hK _ _ hS ?_
    clear hK K
    refine Reg.one (o := { dst := some 39, op := Op.call { callee := Callee.value (Operand.func 13), args := #[Operand.tmp 37, Operand.tmp 38], argTypes := #[31, 31] }, type := 31, pos := "nodes.go:117", after := #[{ on := 11, ground := Ground.data }, { on := 12, ground := Ground.data }, { on := 11, ground := Ground.chain }, { on := 7, ground := Ground.guard }], guard := some (7, true) }) 13 (by rfl) (by kernel_rfl) (by rfl)  (fun K Q' hK => ?_)
    go_simp
    refine (boxjoin_any _ _ _ _ _ _ _ _ _).mono ?_
    rintro e w13 ⟨rfl, hb13⟩
    replace hS := Below.trans hS (hb13.mono hB)
    replace hB := Nat.le_trans hB hb13.size
    refine hK _ _ hS ?_
    clear hK K
    refine' Reg.val (o := { dst := some 40, op := Op.binOp BinOp.eql 31 (Operand.tmp 34) (Operand.tmp 39) 31, type := 4, pos := "nodes.go:117", after := #[{ on := 8, ground := Ground.data }, { on := 13, ground := Ground.data }, { on := 7, ground := Ground.guard }], guard := some (7, true) }) 14 _ (by rfl) (by kernel_rfl) (by rfl) hS ?hvu4_14 ?_
    case hvu4_14 => intro W hW; obtain ⟨hcW, hfW⟩ := bcell hW; obtain ⟨hcV, hfV⟩ := bcell (Below.trans hO (hW.mono hO.size)); (try simp only [World.size_alloc, World.size_setCell, World.size_drew] at hcV hfV); go_simp <;> (with_reducible rfl)
    simp only [Act.put, List.setIfInBounds_toArray, List.set_cons_zero, List.set_cons_succ]
    refine' Reg.val (o := { dst := some 41, op := Op.pick (Operand.tmp 33) (Operand.tmp 40) (Operand.const (Value.bool false)), type := 4, pos := "nodes.go:117", after := #[{ on := 7, ground := Ground.data }, { on := 14, ground := Ground.data }], guard := none }) 15 _ (by rfl) (by kernel_rfl) (by rfl) hS ?hvu4_15 ?_
    case hvu4_15 => intro W _; go_simp <;> (with_reducible rfl)
    simp only [Act.put, List.setIfInBounds_toArray, List.set_cons_zero, List.set_cons_succ]
    refine' Reg.val (o := { dst := some 42, op := Op.move (Operand.tmp 41), type := 4, pos := "nodes.go:117", after := #[{ on := 15, ground := Ground.data }, { on := 13, ground := Ground.chain }], guard := none }) 16 _ (by rfl) (by kernel_rfl) (by rfl) hS ?hvu4_16 ?_
    case hvu4_16 => intro W _; go_simp <;> (with_reducible rfl)
    simp only [Act.put, List.setIfInBounds_toArray, List.set_cons_zero, List.set_cons_succ]
    refine' Reg.val (o := { dst := some 43, op := Op.load 31 (Operand.tmp 3), type := 31, pos := "nodes.go:117", after := #[{ on := 16, ground := Ground.guard }], guard := some (16, true) }) 17 _ (by rfl) (by kernel_rfl) (by rfl) hS ?hvu4_17 ?_
    case hvu4_17 => intro W hW; obtain ⟨hcW, hfW⟩ := bcell hW; obtain ⟨hcV, hfV⟩ := bcell (Below.trans hO (hW.mono hO.size)); (try simp only [World.size_alloc, World.size_setCell, World.size_drew] at hcV hfV); go_simp <;> (with_reducible rfl)
    simp only [Act.put, List.setIfInBounds_toArray, List.set_cons_zero, List.set_cons_succ]
    refine' Reg.val (o := { dst := some 44, op := Op.load 31 (Operand.tmp 3), type := 31, pos := "nodes.go:117", after := #[{ on := 16, ground := Ground.guard }], guard := some (16, true) }) 18 _ (by rfl) (by kernel_rfl) (by rfl) hS ?hvu4_18 ?_
    case hvu4_18 => intro W hW; obtain ⟨hcW, hfW⟩ := bcell hW; obtain ⟨hcV, hfV⟩ := bcell (Below.trans hO (hW.mono hO.size)); (try simp only [World.size_alloc, World.size_setCell, World.size_drew] at hcV hfV); go_simp <;> (with_reducible rfl)
    simp only [Act.put, List.setIfInBounds_toArray, List.set_cons_zero, List.set_cons_succ]
    refine' Reg.val (o := { dst := some 46, op := Op.load 31 (Operand.tmp 3), type := 31, pos := "nodes.go:117", after := #[{ on := 16, ground := Ground.guard }], guard := some (16, true) }) 20 _ (by rfl) (by kernel_rfl) (by rfl) hS ?hvu4_20 ?_
    case hvu4_20 => intro W hW; obtain ⟨hcW, hfW⟩ := bcell hW; obtain ⟨hcV, hfV⟩ := bcell (Below.trans hO (hW.mono hO.size)); (try simp only [World.size_alloc, World.size_setCell, World.size_drew] at hcV hfV); go_simp <;> (with_reducible rfl)
    simp only [Act.put, List.setIfInBounds_toArray, List.set_cons_zero, List.set_cons_succ]
    refine Reg.one (o := { dst := some 45, op := Op.call { callee := Callee.value (Operand.func 13), args := #[Operand.tmp 43, Operand.tmp 44], argTypes := #[31, 31] }, type := 31, pos := "nodes.go:117", after := #[{ on := 17, ground := Ground.data }, { on := 18, ground := Ground.data }, { on := 16, ground := Ground.chain }, { on := 16, ground := Ground.guard }], guard := some (16, true) }) 19 (by rfl) (by kernel_rfl) (by rfl)  (fun K Q' hK => ?_)
    go_simp
    refine (boxjoin_any _ _ _ _ _ _ _ _ _).mono ?_
    rintro e w19 ⟨rfl, hb19⟩
    replace hS := Below.trans hS (hb19.mono hB)
    replace hB := Nat.le_trans hB hb19.size
    refine hK _ _ hS ?_
    clear hK K
    refine' Reg.val (o := { dst := some 47, op := Op.binOp BinOp.eql 31 (Operand.tmp 45) (Operand.tmp 46) 31, type := 4, pos := "nodes.go:117", after := #[{ on := 19, ground := Ground.data }, { on := 20, ground := Ground.data }, { on := 16, ground := Ground.guard }], guard := some (16, true) }) 21 _ (by rfl) (by kernel_rfl) (by rfl) hS ?hvu4_21 ?_
    case hvu4_21 => intro W hW; obtain ⟨hcW, hfW⟩ := bcell hW; obtain ⟨hcV, hfV⟩ := bcell (Below.trans hO (hW.mono hO.size)); (try simp only [World.size_alloc, World.size_setCell, World.size_drew] at hcV hfV); go_simp <;> (with_reducible rfl)
    simp only [Act.put, List.setIfInBounds_toArray, List.set_cons_zero, List.set_cons_succ]
    refine' Reg.val (o := { dst := some 48, op := Op.pick (Operand.tmp 42) (Operand.tmp 47) (Operand.const (Value.bool false)), type := 4, pos := "nodes.go:117", after := #[{ on := 16, ground := Ground.data }, { on := 21, ground := Ground.data }], guard := none }) 22 _ (by rfl) (by kernel_rfl) (by rfl) hS ?hvu4_22 ?_
    case hvu4_22 => intro W _; go_simp <;> (with_reducible rfl)
    simp only [Act.put, List.setIfInBounds_toArray, List.set_cons_zero, List.set_cons_succ]
    refine' Reg.val (o := { dst := some 6, op := Op.assign (Operand.tmp 48), type := 4, pos := "nodes.go:117", after := #[{ on := 22, ground := Ground.data }, { on := 19, ground := Ground.chain }, { on := 0, ground := Ground.phase }, { on := 1, ground := Ground.phase }, { on := 2, ground := Ground.phase }, { on := 3, ground := Ground.phase }, { on := 4, ground := Ground.phase }, { on := 5, ground := Ground.phase }, { on := 6, ground := Ground.phase }, { on := 7, ground := Ground.phase }, { on := 8, ground := Ground.phase }, { on := 9, ground := Ground.phase }, { on := 10, ground := Ground.phase }, { on := 11, ground := Ground.phase }, { on := 12, ground := Ground.phase }, { on := 13, ground := Ground.phase }, { on := 14, ground := Ground.phase }, { on := 15, ground := Ground.phase }, { on := 16, ground := Ground.phase }, { on := 17, ground := Ground.phase }, { on := 18, ground := Ground.phase }, { on := 19, ground := Ground.phase }, { on := 20, ground := Ground.phase }, { on := 21, ground := Ground.phase }, { on := 22, ground := Ground.phase }], guard := none }) 23 _ (by rfl) (by kernel_rfl) (by rfl) hS ?hvu4_23 ?_
    case hvu4_23 => intro W _; go_simp <;> (with_reducible rfl)
    simp only [Act.put, List.setIfInBounds_toArray, List.set_cons_zero, List.set_cons_succ]
    refine Reg.end_ (by kernel_rfl) ?_
    have hR := hS
    replace hS := Below.trans hO (hS.mono hO.size)
    obtain ⟨hcS, hfS⟩ := bcell hS
    (try simp only [World.size_alloc, World.size_setCell, World.size_drew] at hcS hfS)
    go_wp2
    go_returns
    exact ⟨rfl, Below.trans (by go_grown) (hS.mono (by go_size))⟩

theorem boxlaw_walk (a1 b1 c1 d1 a2 b2 c2 d2 a3 b3 c3 d3 : Nat) (w : World) :
    Calls Try.prog 5 #[bx a1 b1 c1 d1, bx a2 b2 c2 d2, bx a3 b3 c3 d3] w fun e w' => e = .returned (.bool true) ∧ Below w.heap.size w w' := by
  cases h : (fin4 a1 b1 c1 d1 && fin4 a2 b2 c2 d2 && fin4 a3 b3 c3 d3) with
  | false => exact boxlaw_not _ _ _ _ _ _ _ _ _ _ _ _ _ h
  | true => exact boxlaw_yes _ _ _ _ _ _ _ _ _ _ _ _ _ h

namespace fnBoxJoinAny
theorem own : ownKnob Try.prog.godebug = none := by kernel_rfl
theorem laidOut : laidOutB Try.prog = true := by kernel_rfl
set_option maxRecDepth 100000 in
theorem lifted (os : Os) (started : os.Started) (H : Type) (enc : TypeId × Value → H) :
    ReturnsInHanded {} Try.checked os 5 .any (Rows.fnBoxJoinAnySpec.pre6 enc Try.prog Try.f5 Rows.fnBoxJoinAnyRow.domain false) (Rows.fnBoxJoinAnySpec.post enc Try.prog Try.f5 false true false false) := by
  refine returnsInHanded_of_change (C := Try.checked) own started (by kernel_rfl) Try.func5
    (ChangeSpec.witness6 (enc := enc) (C := Try.checked) false ⟨#[], #[.agg #[.float .f64 0, .float .f64 0, .float .f64 0, .float .f64 0], .agg #[.float .f64 0, .float .f64 0, .float .f64 0, .float .f64 0], .agg #[.float .f64 0, .float .f64 0, .float .f64 0, .float .f64 0]], []⟩ 8 (by kernel_rfl) (by kernel_rfl) (by kernel_rfl) (by kernel_rfl)) ?_
  intro W base args ds gs before hval0 hW hcnd _
  have hval : ∀ (j : Nat) t v, Try.f5.params[j]? = some t → args[j]? = some v → Value.okWide Try.prog W .any base t v := hval0
  have hW' := hW
  obtain ⟨p, q, hA0, hV, rfl, hfz, hnd⟩ := hW
  have hA : DataW.TrodAll enc Try.prog W 0 (fun _ => true) true Try.f5.params.toList args.toList ds p := hA0
  rw [Try.params5] at hA hval
  obtain ⟨v0, vs0, d0, ds0, p0, q0, hargs, rfl, rfl, h0, r0⟩ := trodAll_cons hA
  obtain ⟨v1, vs1, d1, ds1, p1, q1, rfl, rfl, rfl, h1, r1⟩ := trodAll_cons r0
  obtain ⟨v2, vs2, d2, ds2, p2, q2, rfl, rfl, rfl, h2, r2⟩ := trodAll_cons r1
  obtain ⟨rfl, rfl, rfl⟩ := trodAll_nil r2
  obtain rfl : args = #[v0, v1, v2] := by cases args; simp_all
  obtain ⟨rfl, rfl⟩ := trodVars_none hV
  have k0 := h0
  have lt0 : ∀ x ∈ p0, x.block < W.heap.size := by obtain ⟨m, hm⟩ := k0; exact DataW.trod_lt m _ _ _ hm
  have k1 := h1
  have lt1 : ∀ x ∈ p1, x.block < W.heap.size := by obtain ⟨m, hm⟩ := k1; exact DataW.trod_lt m _ _ _ hm
  have k2 := h2
  have lt2 : ∀ x ∈ p2, x.block < W.heap.size := by obtain ⟨m, hm⟩ := k2; exact DataW.trod_lt m _ _ _ hm
  obtain ⟨a1, b1, c1, d1, rfl⟩ := open_ffff Try.underlying31 Try.underlying24 Try.underlying24 Try.underlying24 Try.underlying24 (by kernel_rfl) (by kernel_rfl) (hval 0 31 v0 rfl rfl) h0
  obtain ⟨a2, b2, c2, d2, rfl⟩ := open_ffff Try.underlying31 Try.underlying24 Try.underlying24 Try.underlying24 Try.underlying24 (by kernel_rfl) (by kernel_rfl) (hval 1 31 v1 rfl rfl) h1
  obtain ⟨a3, b3, c3, d3, rfl⟩ := open_ffff Try.underlying31 Try.underlying24 Try.underlying24 Try.underlying24 Try.underlying24 (by kernel_rfl) (by kernel_rfl) (hval 2 31 v2 rfl rfl) h2
  refine (boxlaw_walk a1 b1 c1 d1 a2 b2 c2 d2 a3 b3 c3 d3 W).mono fun e W' ⟨he, bel⟩ => ?_
  subst he
  exact ⟨_, rfl, _, _, _, [], _, [], hW', trodAll_mk1 (shut_bool Try.underlying4 _), (trodAll_cons_mk (Below.trod laidOut (by kernel_rfl) (of_decide_eq_true (by kernel_rfl)) k0 bel lt0) (trodAll_cons_mk (Below.trod laidOut (by kernel_rfl) (of_decide_eq_true (by kernel_rfl)) k1 bel lt1) (trodAll_cons_mk (Below.trod laidOut (by kernel_rfl) (of_decide_eq_true (by kernel_rfl)) k2 bel lt2) trodAll_mk0))), rfl, bel.frame _, fun h => by cases h⟩

theorem over : Rows.fnBoxJoinAnyRow.holds Try.pinned (OpenSpec.ofChange Rows.fnBoxJoinAnySpec) :=
  OpenClaim.holds_of_wide 5 Try.f5 rfl rfl rfl rfl rfl rfl rfl ⟨rfl, rfl, rfl, rfl, rfl⟩ rfl rfl rfl rfl rfl (by kernel_rfl) Try.func5 (by kernel_rfl)
    (of_decide_eq_true (by kernel_rfl)) (by unfold Func.isWrapper; first | (rw [if_pos (by decide +kernel)]; kernel_rfl) | (rw [if_neg (by decide +kernel)]; exact ⟨rfl, rfl⟩))
    (fun os started H enc _ => lifted os started H enc)

theorem proved : Rows.FnBoxJoinAnySaid := over
#print axioms proved
end fnBoxJoinAny
end Go.Proofs.Ytaibabmpmnfedaa
