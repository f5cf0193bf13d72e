/- Walks of the reference's New on a line: its type's last two bits, its whole places. -/
import Derived.Test.YtpbllagjcdcnpaaAll
import Derived.Test.YtpbllagjcdcnpaaRegApp
namespace Go.Proofs.Ytpbllagjcdcnpaa
open Go.ChangeShapes Go.WideShapes Go.ChangeAt Go.RowKit
open Fl
set_option linter.unusedSimpArgs false
set_option linter.unusedVariables false
attribute [local go_sem] run_store_float run_fadd run_fsub run_fmul run_fdiv run_equalIn_float fmt64

theorem leaf_any (k : Int) (w : World) : Calls Try.prog 54 #[.int .i64 k] w fun e w' => e = .returned (.bool (decide (k = 1) || decide (k = 2))) ∧ Below w.heap.size w w' := by
  by_cases h1 : k = 1
  · subst h1
    go_enter Try.func54, Try.ntmps54
    go_wp2_with fail
    go_returns
    exact ⟨rfl, by go_grown⟩
  · by_cases h2 : k = 2
    · subst h2
      go_enter Try.func54, Try.ntmps54
      go_wp2_with fail
      go_returns
      exact ⟨rfl, by go_grown⟩
    · go_enter Try.func54, Try.ntmps54
      go_wp2_with fail
      go_returns
      exact ⟨by simp [h1, h2], by go_grown⟩
def Is4 (D : Int) : Prop := D = 0 ∨ D = 1 ∨ D = 2 ∨ D = 3
def wid (D : Int) : Nat := if D = 0 then 2 else if D = 3 then 4 else 3
theorem width_any (D : Int) (hD : Is4 D) (w : World) : Calls Try.prog 55 #[.int .i64 D] w fun e w' => e = .returned (.int .i64 (wid D)) ∧ Below w.heap.size w w' := by
  have b0 : bits .and .i64 0 1 = 0 := by decide
  have b1 : bits .and .i64 1 1 = 1 := by decide
  have b2 : bits .and .i64 2 1 = 0 := by decide
  have b3 : bits .and .i64 3 1 = 1 := by decide
  rcases hD with rfl | rfl | rfl | rfl
  all_goals
    go_enter Try.func55, Try.ntmps55
    go_wp2_with fail
    go_returns
    exact ⟨rfl, by go_grown⟩
theorem wid_le (D : Int) : 2 ≤ wid D ∧ wid D ≤ 4 := by
  unfold wid
  split
  · omega
  · split <;> omega
set_option maxRecDepth 20000 in
set_option maxHeartbeats 4000000 in
theorem new_line (m D : Int) (A B : Option Addr) (n c l e : Nat) (f : Nat → Nat) (w : World) (hf : Flo w A n c f) (hn : n ≤ 2000) (hD : Is4 D) (hmD : bits .and .i64 m 3 = D) :
    Calls Try.prog 25 #[.agg #[.int .i64 2, .int .i64 m, .slice A n c, .slice B l e]] w fun e w' => (∃ A' c', e = .returned (.agg #[.int .i64 2, .int .i64 D, .slice A' (n / wid D * wid D) c', .slice none 0 0]) ∧ Flo w' A' (n / wid D * wid D) c' f) ∧ Below w.heap.size w w' := by
  have hW := wid_le D
  have hf := Lib.hid hf
  generalize hq : wid D = W at *
  have hW0 : ¬ W = 0 := by omega
  have hqi : ((n / W : Nat) : Int) = (n : Int) / (W : Int) := Int.natCast_ediv n W
  have hqn : n / W * W ≤ n := Nat.div_mul_le_self n W
  have hqs : n / W ≤ n := Nat.div_le_self n W
  have hwq : IntKind.i64.wrap ((n : Int) / (W : Int)) = (n : Int) / (W : Int) := by
    rw [← hqi]
    generalize n / W = q at hqs ⊢
    rw [IntKind.wrap_i64]
    omega
  have hqi := Lib.hid hqi
  go_enter Try.func25, Try.ntmps25
  go_wp2_with (go_at_call 54; refine (leaf_any _ _).mono ?_; rintro e w1 ⟨rfl, hb⟩; (first | (replace hS := chainB hS (by go_grown) hb; clear hb) | (have hS := hb; clear hb)); obtain ⟨hcS, hfS⟩ := bcell hS; (try simp only [World.size_alloc, World.size_setCell, World.size_drew] at hcS hfS))
  go_cut [4] (fun s4 wx => s4 = .int .i64 ((n / W : Nat) : Int) ∧ Below (((w.alloc (.cells #[.int .i64 2, .int .i64 m, .slice A n c, .slice B l e] 25)).alloc (.cells #[.int .i64 0, .int .i64 0, .slice none 0 0, .slice none 0 0] 25)).alloc (.cells #[.int .i64 2, .int .i64 D, .slice none 0 0, .slice none 0 0] 25)).heap.size (((w.alloc (.cells #[.int .i64 2, .int .i64 m, .slice A n c, .slice B l e] 25)).alloc (.cells #[.int .i64 0, .int .i64 0, .slice none 0 0, .slice none 0 0] 25)).alloc (.cells #[.int .i64 2, .int .i64 D, .slice none 0 0, .slice none 0 0] 25)) wx)
  case first =>
    have hO := hS
    refine Reg.beginB (ops := regAt Try.f25 5) 8 (by kernel_rfl) (by kernel_rfl) (fun wr hS hB hzu1 => ?_)
    have hC := hS
    refine' Reg.val (o := { dst := some 27, op := Op.fieldAddr 25 (Operand.tmp 1) 2, type := 0, pos := "geom.go:56", after := #[], guard := none }) 0 _ (by rfl) (by kernel_rfl) (by rfl) hC ?hvu1_0 ?_
    case hvu1_0 => intro W hW; obtain ⟨hcW, hfW⟩ := bcell hW; obtain ⟨hcV, hfV⟩ := bcell (Below.trans hO (hW.mono hO.size)); (try simp only [World.size_alloc, World.size_setCell, World.size_drew] at hcV hfV); go_simp <;> (with_reducible rfl)
    simp only [Act.put, List.setIfInBounds_toArray, List.set_cons_zero, List.set_cons_succ]
    refine' Reg.val (o := { dst := some 28, op := Op.load 22 (Operand.tmp 27), type := 22, pos := "geom.go:56", after := #[{ on := 0, ground := Ground.data }], guard := none }) 1 _ (by rfl) (by kernel_rfl) (by rfl) hC ?hvu1_1 ?_
    case hvu1_1 => intro W hW; obtain ⟨hcW, hfW⟩ := bcell hW; obtain ⟨hcV, hfV⟩ := bcell (Below.trans hO (hW.mono hO.size)); (try simp only [World.size_alloc, World.size_setCell, World.size_drew] at hcV hfV); go_simp <;> (with_reducible rfl)
    simp only [Act.put, List.setIfInBounds_toArray, List.set_cons_zero, List.set_cons_succ]
    refine' Reg.val (o := { dst := some 29, op := Op.call { callee := Callee.builtin Builtin.len, args := #[Operand.tmp 28], argTypes := #[22] }, type := 3, pos := "geom.go:56", after := #[{ on := 1, ground := Ground.data }], guard := none }) 2 _ (by rfl) (by kernel_rfl) (by rfl) hC ?hvu1_2 ?_
    case hvu1_2 => intro W hW; obtain ⟨hcW, hfW⟩ := bcell hW; obtain ⟨hcV, hfV⟩ := bcell (Below.trans hO (hW.mono hO.size)); (try simp only [World.size_alloc, World.size_setCell, World.size_drew] at hcV hfV); go_simp <;> (with_reducible rfl)
    simp only [Act.put, List.setIfInBounds_toArray, List.set_cons_zero, List.set_cons_succ]
    refine' Reg.val (o := { dst := some 30, op := Op.fieldAddr 25 (Operand.tmp 3) 1, type := 0, pos := "geom.go:56", after := #[], guard := none }) 3 _ (by rfl) (by kernel_rfl) (by rfl) hC ?hvu1_3 ?_
    case hvu1_3 => intro W hW; obtain ⟨hcW, hfW⟩ := bcell hW; obtain ⟨hcV, hfV⟩ := bcell (Below.trans hO (hW.mono hO.size)); (try simp only [World.size_alloc, World.size_setCell, World.size_drew] at hcV hfV); go_simp <;> (with_reducible rfl)
    simp only [Act.put, List.setIfInBounds_toArray, List.set_cons_zero, List.set_cons_succ]
    refine' Reg.val (o := { dst := some 31, op := Op.load 3 (Operand.tmp 30), type := 3, pos := "geom.go:56", after := #[{ on := 3, ground := Ground.data }], guard := none }) 4 _ (by rfl) (by kernel_rfl) (by rfl) hC ?hvu1_4 ?_
    case hvu1_4 => intro W hW; obtain ⟨hcW, hfW⟩ := bcell hW; obtain ⟨hcV, hfV⟩ := bcell (Below.trans hO (hW.mono hO.size)); (try simp only [World.size_alloc, World.size_setCell, World.size_drew] at hcV hfV); go_simp <;> (with_reducible rfl)
    simp only [Act.put, List.setIfInBounds_toArray, List.set_cons_zero, List.set_cons_succ]
    refine Reg.one (o := { dst := some 32, op := Op.call { callee := Callee.value (Operand.func 55), args := #[Operand.tmp 31], argTypes := #[3] }, type := 3, pos := "geom.go:56", after := #[{ on := 4, ground := Ground.data }], guard := none }) 5 (by rfl) (by kernel_rfl) (by rfl)  (fun K Q' hK => ?_)
    go_simp
    refine (width_any D hD _).mono ?_
    rintro e w5 ⟨rfl, hb5⟩
    replace hS := Below.trans hS (hb5.mono hB)
    replace hB := Nat.le_trans hB hb5.size
    clear hC
    refine hK _ _ hS (fun hC => ?_)
    clear hK K
    refine' Reg.val (o := { dst := some 33, op := Op.binOp BinOp.quo 3 (Operand.tmp 29) (Operand.tmp 32) 3, type := 3, pos := "geom.go:56", after := #[{ on := 2, ground := Ground.data }, { on := 5, ground := Ground.data }], guard := none }) 6 _ (by rfl) (by kernel_rfl) (by rfl) hC ?hvu1_6 ?_
    case hvu1_6 => intro W hW; obtain ⟨hcW, hfW⟩ := bcell hW; obtain ⟨hcV, hfV⟩ := bcell (Below.trans hO (hW.mono hO.size)); (try simp only [World.size_alloc, World.size_setCell, World.size_drew] at hcV hfV); go_simp <;> (with_reducible rfl)
    simp only [Act.put, List.setIfInBounds_toArray, List.set_cons_zero, List.set_cons_succ]
    refine' Reg.val (o := { dst := some 4, op := Op.assign (Operand.tmp 33), type := 3, pos := "geom.go:56", after := #[{ on := 6, ground := Ground.data }, { on := 5, ground := Ground.chain }, { on := 0, ground := Ground.phase }, { on := 1, ground := Ground.phase }, { on := 2, ground := Ground.phase }, { on := 3, ground := Ground.phase }, { on := 4, ground := Ground.phase }, { on := 5, ground := Ground.phase }, { on := 6, ground := Ground.phase }], guard := none }) 7 _ (by rfl) (by kernel_rfl) (by rfl) hC ?hvu1_7 ?_
    case hvu1_7 => intro W _; go_simp <;> (with_reducible rfl)
    simp only [Act.put, List.setIfInBounds_toArray, List.set_cons_zero, List.set_cons_succ]
    refine Reg.end_ (by kernel_rfl) ?_
    have hR := hS
    replace hS := Below.trans hO (hS.mono hO.size)
    obtain ⟨hcS, hfS⟩ := bcell hS
    (try simp only [World.size_alloc, World.size_setCell, World.size_drew] at hcS hfS)
    (go_wp2_with fail; go_meet; exact ⟨by rw [hqi.out], hS⟩)
  case rest =>
    obtain ⟨rfl, hS⟩ := hcut
    clear hwq
    have hle0 := hf.out.le
    have hcp := hf.out.cap
    have hmx : maxLen = 9223372036854775807 := rfl
    rw [hmx] at hcp
    have hqm : ((n / W * W : Nat) : Int) = (n : Int) / (W : Int) * (W : Int) := by rw [Int.natCast_mul, hqi.out]
    have hge : 0 ≤ (n : Int) / (W : Int) * (W : Int) := by rw [← hqm]; exact Int.natCast_nonneg _
    have hle : (n : Int) / (W : Int) * (W : Int) ≤ (c : Int) := by rw [← hqm]; exact Int.ofNat_le.2 (Nat.le_trans hqn hle0)
    have htn : ((n : Int) / (W : Int) * (W : Int)).toNat = n / W * W := by rw [← hqm]; exact Int.toNat_natCast _
    have hwm : IntKind.i64.wrap ((n : Int) / (W : Int) * (W : Int)) = (n : Int) / (W : Int) * (W : Int) := by
      rw [IntKind.wrap_i64]
      generalize (n : Int) / (W : Int) * (W : Int) = z at hge hle
      omega
    clear hqm
    have hf3 : Flo w A (n / W * W) c f := ⟨Nat.le_trans hqn hle0, hf.out.cap, fun h => by have := hf.out.none_ h; omega, fun a ha i hi => hf.out.cell a ha i (by omega)⟩
    have hO2 : Below w.heap.size w wc := Below.trans (by go_grown) (hS.mono (by simp only [World.size_alloc]; omega))
    have hf3 := Lib.hid (hf3.keep hO2)
    have hO2 := Lib.hid hO2
    have B0 := (((Blk.new w [.int .i64 2, .int .i64 m, .slice A n c, .slice B l e] 25).alloc (.cells #[.int .i64 0, .int .i64 0, .slice none 0 0, .slice none 0 0] 25)).alloc (.cells #[.int .i64 2, .int .i64 D, .slice none 0 0, .slice none 0 0] 25)).keep hS (by simp only [World.size_alloc]; omega)
    have B2 := (Blk.new ((w.alloc (.cells #[.int .i64 2, .int .i64 m, .slice A n c, .slice B l e] 25)).alloc (.cells #[.int .i64 0, .int .i64 0, .slice none 0 0, .slice none 0 0] 25)) [.int .i64 2, .int .i64 D, .slice none 0 0, .slice none 0 0] 25).keep hS (by simp only [World.size_alloc]; omega)
    have B1 := ((Blk.new (w.alloc (.cells #[.int .i64 2, .int .i64 m, .slice A n c, .slice B l e] 25)) [.int .i64 0, .int .i64 0, .slice none 0 0, .slice none 0 0] 25).alloc (.cells #[.int .i64 2, .int .i64 D, .slice none 0 0, .slice none 0 0] 25)).keep hS (by simp only [World.size_alloc]; omega)
    simp only [World.size_alloc] at B2 B1
    have hl1 := B1.lt
    obtain ⟨s0, s1, s2, s3, t0, t1, t2, t3⟩ := B1.c4
    have HB1 := Lib.hid B1
    clear B1
    obtain ⟨x0, x1, x2, x3, y0, y1, y2, y3⟩ := B0.c4
    obtain ⟨u0, u1, u2, u3, v0, v1, v2, v3⟩ := B2.c4
    have hl0 := B0.lt
    have hl2 := B2.lt
    have HB0 := Lib.hid B0
    have HB2 := Lib.hid B2
    clear B0 B2
    go_wp2_with fail
    have hne0 : ¬ w.heap.size = w.heap.size + 1 + 1 := by omega
    refine Reg.beginR (ops := regAt Try.f25 8) 13 [w.heap.size + 1 + 1] (by kernel_rfl) (by kernel_rfl) (fun wr hS hB hzu2 => ?_)
    have hC := But.of_below (rs := [w.heap.size + 1 + 1]) rfl hS
    refine' Reg.val (o := { dst := some 39, op := Op.fieldAddr 25 (Operand.tmp 3) 2, type := 0, pos := "geom.go:60", after := #[], guard := none }) 0 _ (by rfl) (by kernel_rfl) (by rfl) hC ?hvu2_0 ?_
    case hvu2_0 => intro W hW; have hcW := hW.cells; go_simp <;> (with_reducible rfl)
    simp only [Act.put, List.setIfInBounds_toArray, List.set_cons_zero, List.set_cons_succ]
    refine' Reg.val (o := { dst := some 41, op := Op.fieldAddr 25 (Operand.tmp 1) 2, type := 0, pos := "geom.go:60", after := #[], guard := none }) 2 _ (by rfl) (by kernel_rfl) (by rfl) hC ?hvu2_2 ?_
    case hvu2_2 => intro W hW; have hcW := hW.cells; go_simp <;> (with_reducible rfl)
    simp only [Act.put, List.setIfInBounds_toArray, List.set_cons_zero, List.set_cons_succ]
    refine' Reg.val (o := { dst := some 42, op := Op.load 22 (Operand.tmp 41), type := 22, pos := "geom.go:60", after := #[{ on := 2, ground := Ground.data }], guard := none }) 3 _ (by rfl) (by kernel_rfl) (by rfl) hC ?hvu2_3 ?_
    case hvu2_3 => intro W hW; have hcW := hW.cells; go_simp <;> (with_reducible rfl)
    simp only [Act.put, List.setIfInBounds_toArray, List.set_cons_zero, List.set_cons_succ]
    refine' Reg.val (o := { dst := some 43, op := Op.move (Operand.tmp 4), type := 3, pos := "geom.go:60", after := #[], guard := none }) 4 _ (by rfl) (by kernel_rfl) (by rfl) hC ?hvu2_4 ?_
    case hvu2_4 => intro W _; go_simp <;> (with_reducible rfl)
    simp only [Act.put, List.setIfInBounds_toArray, List.set_cons_zero, List.set_cons_succ]
    refine' Reg.val (o := { dst := some 44, op := Op.fieldAddr 25 (Operand.tmp 3) 1, type := 0, pos := "geom.go:60", after := #[], guard := none }) 5 _ (by rfl) (by kernel_rfl) (by rfl) hC ?hvu2_5 ?_
    case hvu2_5 => intro W hW; have hcW := hW.cells; go_simp <;> (with_reducible rfl)
    simp only [Act.put, List.setIfInBounds_toArray, List.set_cons_zero, List.set_cons_succ]
    refine Reg.two 1 6 (by kernel_rfl) ?_ ?_
    · refine Step1.one (o := { dst := some 40, op := Op.load 22 (Operand.tmp 39), type := 22, pos := "geom.go:60", after := #[{ on := 0, ground := Ground.data }], guard := none }) (by rfl) (by rfl)  (fun K Q' hK => ?_)
      obtain ⟨hcR, hfR⟩ := bcell hS
      go_simp
      refine hK _ _ hC (fun hC => ?_)
      clear hK K hcR hfR
      refine Reg.one (o := { dst := some 45, op := Op.load 3 (Operand.tmp 44), type := 3, pos := "geom.go:60", after := #[{ on := 5, ground := Ground.data }], guard := none }) 6 (by rfl) (by kernel_rfl) (by rfl)  (fun K Q' hK => ?_)
      obtain ⟨hcR, hfR⟩ := bcell hS
      go_simp
      refine hK _ _ hC (fun hC => ?_)
      clear hK K hcR hfR
      refine Reg.one (o := { dst := some 46, op := Op.call { callee := Callee.value (Operand.func 55), args := #[Operand.tmp 45], argTypes := #[3] }, type := 3, pos := "geom.go:60", after := #[{ on := 6, ground := Ground.data }], guard := none }) 7 (by rfl) (by kernel_rfl) (by rfl)  (fun K Q' hK => ?_)
      go_simp
      refine (width_any D hD _).mono ?_
      rintro e w7 ⟨rfl, hb7⟩
      replace hS := Below.trans hS (hb7.mono hB)
      replace hB := Nat.le_trans hB hb7.size
      clear hC
      refine hK _ _ (But.of_below rfl hS) (fun hC => ?_)
      clear hK K
      refine' Reg.val (o := { dst := some 47, op := Op.binOp BinOp.mul 3 (Operand.tmp 43) (Operand.tmp 46) 3, type := 3, pos := "geom.go:60", after := #[{ on := 4, ground := Ground.data }, { on := 7, ground := Ground.data }], guard := none }) 8 _ (by rfl) (by kernel_rfl) (by rfl) hC ?hvu2a_8 ?_
      case hvu2a_8 => intro W hW; have hcW := hW.cells; go_simp <;> (with_reducible rfl)
      simp only [Act.put, List.setIfInBounds_toArray, List.set_cons_zero, List.set_cons_succ]
      refine' Reg.val (o := { dst := some 48, op := Op.slice 22 (Operand.tmp 42) none (some (Operand.tmp 47)) none, type := 22, pos := "geom.go:60", after := #[{ on := 3, ground := Ground.data }, { on := 8, ground := Ground.data }], guard := none }) 9 _ (by rfl) (by kernel_rfl) (by rfl) hC ?hvu2a_9 ?_
      case hvu2a_9 => intro W hW; have hcW := hW.cells; go_simp <;> (with_reducible rfl)
      simp only [Act.put, List.setIfInBounds_toArray, List.set_cons_zero, List.set_cons_succ]
      refine Reg.app (o := { dst := some 49, op := Op.call { callee := Callee.builtin Builtin.append, args := #[Operand.tmp 40, Operand.tmp 48], argTypes := #[22, 22] }, type := 22, pos := "geom.go:60", after := #[{ on := 1, ground := Ground.data }, { on := 9, ground := Ground.data }, { on := 7, ground := Ground.chain }], guard := none }) 10 (by rfl) (by kernel_rfl) (by rfl) _ _ _ rfl rfl _ _ rfl rfl (flo_append_nil Try.underlying22 (by kernel_rfl) (hf3.out.keep hS) (by omega) hB) (fun v' w' hR => hC.below hR.1) ?_
      rintro v10 w10 ⟨hb10, ⟨A2, c2, rfl, hf2, hfr2⟩⟩
      replace hC := hC.below hb10
      (try replace hS := Below.trans hS (hb10.mono hB))
      (try replace hB := Nat.le_trans hB hb10.size)
      refine' Reg.val (o := { dst := some 50, op := Op.fieldAddr 25 (Operand.tmp 3) 2, type := 0, pos := "geom.go:60", after := #[{ on := 0, ground := Ground.phase }, { on := 1, ground := Ground.phase }, { on := 2, ground := Ground.phase }, { on := 3, ground := Ground.phase }, { on := 4, ground := Ground.phase }, { on := 5, ground := Ground.phase }, { on := 6, ground := Ground.phase }, { on := 7, ground := Ground.phase }, { on := 8, ground := Ground.phase }, { on := 9, ground := Ground.phase }, { on := 10, ground := Ground.phase }], guard := none }) 11 _ (by rfl) (by kernel_rfl) (by rfl) hC ?hvu2a_11 ?_
      case hvu2a_11 => intro W hW; have hcW := hW.cells; go_simp <;> (with_reducible rfl)
      simp only [Act.put, List.setIfInBounds_toArray, List.set_cons_zero, List.set_cons_succ]
      refine Reg.one (o := { dst := none, op := Op.store 22 (Operand.tmp 50) (Operand.tmp 49), type := 0, pos := "geom.go:60", after := #[{ on := 11, ground := Ground.data }, { on := 10, ground := Ground.data }, { on := 10, ground := Ground.chain }, { on := 0, ground := Ground.phase }, { on := 1, ground := Ground.phase }, { on := 2, ground := Ground.phase }, { on := 3, ground := Ground.phase }, { on := 4, ground := Ground.phase }, { on := 5, ground := Ground.phase }, { on := 6, ground := Ground.phase }, { on := 7, ground := Ground.phase }, { on := 8, ground := Ground.phase }, { on := 9, ground := Ground.phase }, { on := 10, ground := Ground.phase }], guard := none }) 12 (by rfl) (by kernel_rfl) (by rfl)  (fun K Q' hK => ?_)
      obtain ⟨hcR, hfR⟩ := bcell hS
      go_simp
      refine hK _ _ (by repeat (first | exact hS | assumption | exact But.of_below rfl hS | exact hC | refine But.setCell ?_ (by simp) _ | refine Below.setCell ?_ ?_ _ | refine Below.alloc ?_ ?_ _ | go_size)) (fun hC' => ?_)
      clear hK K
      clear hC
      have hC := hC'
      clear hC'
      refine Reg.end_ (by kernel_rfl) ?_
      have hR := hS
      obtain ⟨hcS, hfS⟩ := bcell hS
      (try simp only [World.size_alloc, World.size_setCell, World.size_drew] at hcS hfS)
      (have hzS := hS.size; have HF2 := Lib.hid hf2; have HFR2 := Lib.hid hfr2; clear hf2 hfr2; clear hcR hfR; go_wp2_with fail; have HT := hO2.out.trans (hS.mono hO2.out.size); refine bodyPost_ret (v := .agg #[.int .i64 2, .int .i64 D, .slice A2 (n / W * W) c2, .slice none 0 0]) (by simp [results, Try.results25, go_sem, *]) rfl ⟨⟨A2, c2, rfl, (((((HF2.out.other (p := ⟨w.heap.size + 1 + 1, 2, none⟩) (fun a ha => by have := HFR2.out a ha; show w.heap.size + 1 + 1 ≠ a.block; omega) _).other (p := ⟨w.heap.size + 1, 0, none⟩) (fun a ha => by have := HFR2.out a ha; show w.heap.size + 1 ≠ a.block; omega) _).other (p := ⟨w.heap.size + 1, 1, none⟩) (fun a ha => by have := HFR2.out a ha; show w.heap.size + 1 ≠ a.block; omega) _).other (p := ⟨w.heap.size + 1, 2, none⟩) (fun a ha => by have := HFR2.out a ha; show w.heap.size + 1 ≠ a.block; omega) _).other (p := ⟨w.heap.size + 1, 3, none⟩) (fun a ha => by have := HFR2.out a ha; show w.heap.size + 1 ≠ a.block; omega) _)⟩, (((((HT.setCell (p := ⟨w.heap.size + 1 + 1, 2, none⟩) (by show _ ≤ w.heap.size + 1 + 1; omega) _).setCell (p := ⟨w.heap.size + 1, 0, none⟩) (by show _ ≤ w.heap.size + 1; omega) _).setCell (p := ⟨w.heap.size + 1, 1, none⟩) (by show _ ≤ w.heap.size + 1; omega) _).setCell (p := ⟨w.heap.size + 1, 2, none⟩) (by show _ ≤ w.heap.size + 1; omega) _).setCell (p := ⟨w.heap.size + 1, 3, none⟩) (by show _ ≤ w.heap.size + 1; omega) _)⟩)
    · refine Step1.one (o := { dst := some 45, op := Op.load 3 (Operand.tmp 44), type := 3, pos := "geom.go:60", after := #[{ on := 5, ground := Ground.data }], guard := none }) (by rfl) (by rfl)  (fun K Q' hK => ?_)
      obtain ⟨hcR, hfR⟩ := bcell hS
      go_simp
      refine hK _ _ hC (fun hC => ?_)
      clear hK K hcR hfR
      refine Reg.two 1 7 (by kernel_rfl) ?_ ?_
      · refine Step1.one (o := { dst := some 40, op := Op.load 22 (Operand.tmp 39), type := 22, pos := "geom.go:60", after := #[{ on := 0, ground := Ground.data }], guard := none }) (by rfl) (by rfl)  (fun K Q' hK => ?_)
        obtain ⟨hcR, hfR⟩ := bcell hS
        go_simp
        refine hK _ _ hC (fun hC => ?_)
        clear hK K hcR hfR
        refine Reg.one (o := { dst := some 46, op := Op.call { callee := Callee.value (Operand.func 55), args := #[Operand.tmp 45], argTypes := #[3] }, type := 3, pos := "geom.go:60", after := #[{ on := 6, ground := Ground.data }], guard := none }) 7 (by rfl) (by kernel_rfl) (by rfl)  (fun K Q' hK => ?_)
        go_simp
        refine (width_any D hD _).mono ?_
        rintro e w7 ⟨rfl, hb7⟩
        replace hS := Below.trans hS (hb7.mono hB)
        replace hB := Nat.le_trans hB hb7.size
        clear hC
        refine hK _ _ (But.of_below rfl hS) (fun hC => ?_)
        clear hK K
        refine' Reg.val (o := { dst := some 47, op := Op.binOp BinOp.mul 3 (Operand.tmp 43) (Operand.tmp 46) 3, type := 3, pos := "geom.go:60", after := #[{ on := 4, ground := Ground.data }, { on := 7, ground := Ground.data }], guard := none }) 8 _ (by rfl) (by kernel_rfl) (by rfl) hC ?hvu2ba_8 ?_
        case hvu2ba_8 => intro W hW; have hcW := hW.cells; go_simp <;> (with_reducible rfl)
        simp only [Act.put, List.setIfInBounds_toArray, List.set_cons_zero, List.set_cons_succ]
        refine' Reg.val (o := { dst := some 48, op := Op.slice 22 (Operand.tmp 42) none (some (Operand.tmp 47)) none, type := 22, pos := "geom.go:60", after := #[{ on := 3, ground := Ground.data }, { on := 8, ground := Ground.data }], guard := none }) 9 _ (by rfl) (by kernel_rfl) (by rfl) hC ?hvu2ba_9 ?_
        case hvu2ba_9 => intro W hW; have hcW := hW.cells; go_simp <;> (with_reducible rfl)
        simp only [Act.put, List.setIfInBounds_toArray, List.set_cons_zero, List.set_cons_succ]
        refine Reg.app (o := { dst := some 49, op := Op.call { callee := Callee.builtin Builtin.append, args := #[Operand.tmp 40, Operand.tmp 48], argTypes := #[22, 22] }, type := 22, pos := "geom.go:60", after := #[{ on := 1, ground := Ground.data }, { on := 9, ground := Ground.data }, { on := 7, ground := Ground.chain }], guard := none }) 10 (by rfl) (by kernel_rfl) (by rfl) _ _ _ rfl rfl _ _ rfl rfl (flo_append_nil Try.underlying22 (by kernel_rfl) (hf3.out.keep hS) (by omega) hB) (fun v' w' hR => hC.below hR.1) ?_
        rintro v10 w10 ⟨hb10, ⟨A2, c2, rfl, hf2, hfr2⟩⟩
        replace hC := hC.below hb10
        (try replace hS := Below.trans hS (hb10.mono hB))
        (try replace hB := Nat.le_trans hB hb10.size)
        refine' Reg.val (o := { dst := some 50, op := Op.fieldAddr 25 (Operand.tmp 3) 2, type := 0, pos := "geom.go:60", after := #[{ on := 0, ground := Ground.phase }, { on := 1, ground := Ground.phase }, { on := 2, ground := Ground.phase }, { on := 3, ground := Ground.phase }, { on := 4, ground := Ground.phase }, { on := 5, ground := Ground.phase }, { on := 6, ground := Ground.phase }, { on := 7, ground := Ground.phase }, { on := 8, ground := Ground.phase }, { on := 9, ground := Ground.phase }, { on := 10, ground := Ground.phase }], guard := none }) 11 _ (by rfl) (by kernel_rfl) (by rfl) hC ?hvu2ba_11 ?_
        case hvu2ba_11 => intro W hW; have hcW := hW.cells; go_simp <;> (with_reducible rfl)
        simp only [Act.put, List.setIfInBounds_toArray, List.set_cons_zero, List.set_cons_succ]
        refine Reg.one (o := { dst := none, op := Op.store 22 (Operand.tmp 50) (Operand.tmp 49), type := 0, pos := "geom.go:60", after := #[{ on := 11, ground := Ground.data }, { on := 10, ground := Ground.data }, { on := 10, ground := Ground.chain }, { on := 0, ground := Ground.phase }, { on := 1, ground := Ground.phase }, { on := 2, ground := Ground.phase }, { on := 3, ground := Ground.phase }, { on := 4, ground := Ground.phase }, { on := 5, ground := Ground.phase }, { on := 6, ground := Ground.phase }, { on := 7, ground := Ground.phase }, { on := 8, ground := Ground.phase }, { on := 9, ground := Ground.phase }, { on := 10, ground := Ground.phase }], guard := none }) 12 (by rfl) (by kernel_rfl) (by rfl)  (fun K Q' hK => ?_)
        obtain ⟨hcR, hfR⟩ := bcell hS
        go_simp
        refine hK _ _ (by repeat (first | exact hS | assumption | exact But.of_below rfl hS | exact hC | refine But.setCell ?_ (by simp) _ | refine Below.setCell ?_ ?_ _ | refine Below.alloc ?_ ?_ _ | go_size)) (fun hC' => ?_)
        clear hK K
        clear hC
        have hC := hC'
        clear hC'
        refine Reg.end_ (by kernel_rfl) ?_
        have hR := hS
        obtain ⟨hcS, hfS⟩ := bcell hS
        (try simp only [World.size_alloc, World.size_setCell, World.size_drew] at hcS hfS)
        (have hzS := hS.size; have HF2 := Lib.hid hf2; have HFR2 := Lib.hid hfr2; clear hf2 hfr2; clear hcR hfR; go_wp2_with fail; have HT := hO2.out.trans (hS.mono hO2.out.size); refine bodyPost_ret (v := .agg #[.int .i64 2, .int .i64 D, .slice A2 (n / W * W) c2, .slice none 0 0]) (by simp [results, Try.results25, go_sem, *]) rfl ⟨⟨A2, c2, rfl, (((((HF2.out.other (p := ⟨w.heap.size + 1 + 1, 2, none⟩) (fun a ha => by have := HFR2.out a ha; show w.heap.size + 1 + 1 ≠ a.block; omega) _).other (p := ⟨w.heap.size + 1, 0, none⟩) (fun a ha => by have := HFR2.out a ha; show w.heap.size + 1 ≠ a.block; omega) _).other (p := ⟨w.heap.size + 1, 1, none⟩) (fun a ha => by have := HFR2.out a ha; show w.heap.size + 1 ≠ a.block; omega) _).other (p := ⟨w.heap.size + 1, 2, none⟩) (fun a ha => by have := HFR2.out a ha; show w.heap.size + 1 ≠ a.block; omega) _).other (p := ⟨w.heap.size + 1, 3, none⟩) (fun a ha => by have := HFR2.out a ha; show w.heap.size + 1 ≠ a.block; omega) _)⟩, (((((HT.setCell (p := ⟨w.heap.size + 1 + 1, 2, none⟩) (by show _ ≤ w.heap.size + 1 + 1; omega) _).setCell (p := ⟨w.heap.size + 1, 0, none⟩) (by show _ ≤ w.heap.size + 1; omega) _).setCell (p := ⟨w.heap.size + 1, 1, none⟩) (by show _ ≤ w.heap.size + 1; omega) _).setCell (p := ⟨w.heap.size + 1, 2, none⟩) (by show _ ≤ w.heap.size + 1; omega) _).setCell (p := ⟨w.heap.size + 1, 3, none⟩) (by show _ ≤ w.heap.size + 1; omega) _)⟩)
      · refine Step1.one (o := { dst := some 46, op := Op.call { callee := Callee.value (Operand.func 55), args := #[Operand.tmp 45], argTypes := #[3] }, type := 3, pos := "geom.go:60", after := #[{ on := 6, ground := Ground.data }], guard := none }) (by rfl) (by rfl)  (fun K Q' hK => ?_)
        go_simp
        refine (width_any D hD _).mono ?_
        rintro e w7 ⟨rfl, hb7⟩
        replace hS := Below.trans hS (hb7.mono hB)
        replace hB := Nat.le_trans hB hb7.size
        clear hC
        refine hK _ _ (But.of_below rfl hS) (fun hC => ?_)
        clear hK K
        refine' Reg.val (o := { dst := some 47, op := Op.binOp BinOp.mul 3 (Operand.tmp 43) (Operand.tmp 46) 3, type := 3, pos := "geom.go:60", after := #[{ on := 4, ground := Ground.data }, { on := 7, ground := Ground.data }], guard := none }) 8 _ (by rfl) (by kernel_rfl) (by rfl) hC ?hvu2bb_8 ?_
        case hvu2bb_8 => intro W hW; have hcW := hW.cells; go_simp <;> (with_reducible rfl)
        simp only [Act.put, List.setIfInBounds_toArray, List.set_cons_zero, List.set_cons_succ]
        refine' Reg.val (o := { dst := some 48, op := Op.slice 22 (Operand.tmp 42) none (some (Operand.tmp 47)) none, type := 22, pos := "geom.go:60", after := #[{ on := 3, ground := Ground.data }, { on := 8, ground := Ground.data }], guard := none }) 9 _ (by rfl) (by kernel_rfl) (by rfl) hC ?hvu2bb_9 ?_
        case hvu2bb_9 => intro W hW; have hcW := hW.cells; go_simp <;> (with_reducible rfl)
        simp only [Act.put, List.setIfInBounds_toArray, List.set_cons_zero, List.set_cons_succ]
        refine Reg.one (o := { dst := some 40, op := Op.load 22 (Operand.tmp 39), type := 22, pos := "geom.go:60", after := #[{ on := 0, ground := Ground.data }], guard := none }) 1 (by rfl) (by kernel_rfl) (by rfl)  (fun K Q' hK => ?_)
        obtain ⟨hcR, hfR⟩ := bcell hS
        go_simp
        refine hK _ _ hC (fun hC => ?_)
        clear hK K hcR hfR
        refine Reg.app (o := { dst := some 49, op := Op.call { callee := Callee.builtin Builtin.append, args := #[Operand.tmp 40, Operand.tmp 48], argTypes := #[22, 22] }, type := 22, pos := "geom.go:60", after := #[{ on := 1, ground := Ground.data }, { on := 9, ground := Ground.data }, { on := 7, ground := Ground.chain }], guard := none }) 10 (by rfl) (by kernel_rfl) (by rfl) _ _ _ rfl rfl _ _ rfl rfl (flo_append_nil Try.underlying22 (by kernel_rfl) (hf3.out.keep hS) (by omega) hB) (fun v' w' hR => hC.below hR.1) ?_
        rintro v10 w10 ⟨hb10, ⟨A2, c2, rfl, hf2, hfr2⟩⟩
        replace hC := hC.below hb10
        (try replace hS := Below.trans hS (hb10.mono hB))
        (try replace hB := Nat.le_trans hB hb10.size)
        refine' Reg.val (o := { dst := some 50, op := Op.fieldAddr 25 (Operand.tmp 3) 2, type := 0, pos := "geom.go:60", after := #[{ on := 0, ground := Ground.phase }, { on := 1, ground := Ground.phase }, { on := 2, ground := Ground.phase }, { on := 3, ground := Ground.phase }, { on := 4, ground := Ground.phase }, { on := 5, ground := Ground.phase }, { on := 6, ground := Ground.phase }, { on := 7, ground := Ground.phase }, { on := 8, ground := Ground.phase }, { on := 9, ground := Ground.phase }, { on := 10, ground := Ground.phase }], guard := none }) 11 _ (by rfl) (by kernel_rfl) (by rfl) hC ?hvu2bb_11 ?_
        case hvu2bb_11 => intro W hW; have hcW := hW.cells; go_simp <;> (with_reducible rfl)
        simp only [Act.put, List.setIfInBounds_toArray, List.set_cons_zero, List.set_cons_succ]
        refine Reg.one (o := { dst := none, op := Op.store 22 (Operand.tmp 50) (Operand.tmp 49), type := 0, pos := "geom.go:60", after := #[{ on := 11, ground := Ground.data }, { on := 10, ground := Ground.data }, { on := 10, ground := Ground.chain }, { on := 0, ground := Ground.phase }, { on := 1, ground := Ground.phase }, { on := 2, ground := Ground.phase }, { on := 3, ground := Ground.phase }, { on := 4, ground := Ground.phase }, { on := 5, ground := Ground.phase }, { on := 6, ground := Ground.phase }, { on := 7, ground := Ground.phase }, { on := 8, ground := Ground.phase }, { on := 9, ground := Ground.phase }, { on := 10, ground := Ground.phase }], guard := none }) 12 (by rfl) (by kernel_rfl) (by rfl)  (fun K Q' hK => ?_)
        obtain ⟨hcR, hfR⟩ := bcell hS
        go_simp
        refine hK _ _ (by repeat (first | exact hS | assumption | exact But.of_below rfl hS | exact hC | refine But.setCell ?_ (by simp) _ | refine Below.setCell ?_ ?_ _ | refine Below.alloc ?_ ?_ _ | go_size)) (fun hC' => ?_)
        clear hK K
        clear hC
        have hC := hC'
        clear hC'
        refine Reg.end_ (by kernel_rfl) ?_
        have hR := hS
        obtain ⟨hcS, hfS⟩ := bcell hS
        (try simp only [World.size_alloc, World.size_setCell, World.size_drew] at hcS hfS)
        (have hzS := hS.size; have HF2 := Lib.hid hf2; have HFR2 := Lib.hid hfr2; clear hf2 hfr2; clear hcR hfR; go_wp2_with fail; have HT := hO2.out.trans (hS.mono hO2.out.size); refine bodyPost_ret (v := .agg #[.int .i64 2, .int .i64 D, .slice A2 (n / W * W) c2, .slice none 0 0]) (by simp [results, Try.results25, go_sem, *]) rfl ⟨⟨A2, c2, rfl, (((((HF2.out.other (p := ⟨w.heap.size + 1 + 1, 2, none⟩) (fun a ha => by have := HFR2.out a ha; show w.heap.size + 1 + 1 ≠ a.block; omega) _).other (p := ⟨w.heap.size + 1, 0, none⟩) (fun a ha => by have := HFR2.out a ha; show w.heap.size + 1 ≠ a.block; omega) _).other (p := ⟨w.heap.size + 1, 1, none⟩) (fun a ha => by have := HFR2.out a ha; show w.heap.size + 1 ≠ a.block; omega) _).other (p := ⟨w.heap.size + 1, 2, none⟩) (fun a ha => by have := HFR2.out a ha; show w.heap.size + 1 ≠ a.block; omega) _).other (p := ⟨w.heap.size + 1, 3, none⟩) (fun a ha => by have := HFR2.out a ha; show w.heap.size + 1 ≠ a.block; omega) _)⟩, (((((HT.setCell (p := ⟨w.heap.size + 1 + 1, 2, none⟩) (by show _ ≤ w.heap.size + 1 + 1; omega) _).setCell (p := ⟨w.heap.size + 1, 0, none⟩) (by show _ ≤ w.heap.size + 1; omega) _).setCell (p := ⟨w.heap.size + 1, 1, none⟩) (by show _ ≤ w.heap.size + 1; omega) _).setCell (p := ⟨w.heap.size + 1, 2, none⟩) (by show _ ≤ w.heap.size + 1; omega) _).setCell (p := ⟨w.heap.size + 1, 3, none⟩) (by show _ ≤ w.heap.size + 1; omega) _)⟩)
end Go.Proofs.Ytpbllagjcdcnpaa
