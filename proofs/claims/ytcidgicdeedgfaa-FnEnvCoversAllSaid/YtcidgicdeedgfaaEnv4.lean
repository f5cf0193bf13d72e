/- Walks of the envelope functions that FnEnvCoversAll reaches, fourth part: the functions of impl, and the law's own helpers. -/
import Derived.Test.YtcidgicdeedgfaaEnv3
namespace Go.Proofs.Ytcidgicdeedgfaa
open Go.ChangeShapes Go.WideShapes Go.ChangeAt Go.RowKit
open Fl
set_option linter.unusedSimpArgs false
set_option linter.unusedVariables false
attribute [local go_sem] run_store_float run_fadd run_fsub run_fmul run_fdiv run_equalIn_float fmt64

abbrev bx (a b c d : Nat) : Value := .agg #[.float .f64 a, .float .f64 b, .float .f64 c, .float .f64 d]
set_option maxHeartbeats 2000000 in
theorem envexpand_full (a b c d a' b' c' d' : Nat) (w : World) (ha : fin a = true) (hb : fin b = true) (hc : fin c = true) (hd : fin d = true)
    (ha' : fin a' = true) (hb' : fin b' = true) (hc' : fin c' = true) (hd' : fin d' = true) :
    Calls Try.prog 12 #[ev true a b c d, ev true a' b' c' d'] w fun e w' => e = .returned (ev true (fmin (fmin a c) (fmin a' c')) (fmin (fmin b d) (fmin b' d')) (fmax (fmax a c) (fmax a' c')) (fmax (fmax b d) (fmax b' d'))) ∧ Below w.heap.size w w' := by
  have f1 := (fmin_spec ha hc).1
  have f2 := (fmin_spec hb hd).1
  have f3 := (fmax_spec ha hc).1
  have f4 := (fmax_spec hb hd).1
  go_enter Try.func12, Try.ntmps12
  go_wp2_with fail
  refine Reg.beginR (ops := regAt Try.f12 1) 7 [w.heap.size + 2] (by kernel_rfl) (by kernel_rfl) (fun wr hS hB hzu4 => ?_)
  have hC := But.of_below (rs := [w.heap.size + 2]) rfl hS
  refine' Reg.val (o := { dst := some 5, op := Op.load 30 (Operand.tmp 2), type := 30, pos := "geometry.go:500", after := #[], guard := none }) 0 _ (by rfl) (by kernel_rfl) (by rfl) hC ?hvu4_0 ?_
  case hvu4_0 => intro W hW; have hcW := hW.cells; go_simp <;> (with_reducible rfl)
  simp only [Act.put, List.setIfInBounds_toArray, List.set_cons_zero, List.set_cons_succ]
  refine' Reg.val (o := { dst := some 7, op := Op.load 30 (Operand.tmp 3), type := 30, pos := "geometry.go:500", after := #[], guard := none }) 2 _ (by rfl) (by kernel_rfl) (by rfl) hC ?hvu4_2 ?_
  case hvu4_2 => intro W hW; have hcW := hW.cells; go_simp <;> (with_reducible rfl)
  simp only [Act.put, List.setIfInBounds_toArray, List.set_cons_zero, List.set_cons_succ]
  refine Reg.one (o := { dst := some 6, op := Op.call { callee := Callee.value (Operand.func 26), args := #[Operand.tmp 5], argTypes := #[30] }, type := 54, pos := "geometry.go:500", after := #[{ on := 0, ground := Ground.data }], guard := none }) 1 (by rfl) (by kernel_rfl) (by rfl)  (fun K Q' hK => ?_)
  go_simp
  refine (envelope_full _ _ _ _ _ (by assumption) (by assumption) (by assumption) (by assumption)).mono ?_
  rintro e w1 ⟨rfl, hb1⟩
  replace hS := Below.trans hS (hb1.mono hB)
  replace hB := Nat.le_trans hB hb1.size
  clear hC
  refine hK _ _ (But.of_below rfl hS) (fun hC => ?_)
  clear hK K
  refine Reg.one (o := { dst := some 8, op := Op.call { callee := Callee.value (Operand.func 26), args := #[Operand.tmp 7], argTypes := #[30] }, type := 54, pos := "geometry.go:500", after := #[{ on := 2, ground := Ground.data }, { on := 1, ground := Ground.chain }], guard := none }) 3 (by rfl) (by kernel_rfl) (by rfl)  (fun K Q' hK => ?_)
  go_simp
  refine (envelope_full _ _ _ _ _ (by assumption) (by assumption) (by assumption) (by assumption)).mono ?_
  rintro e w3 ⟨rfl, hb3⟩
  replace hS := Below.trans hS (hb3.mono hB)
  replace hB := Nat.le_trans hB hb3.size
  clear hC
  refine hK _ _ (But.of_below rfl hS) (fun hC => ?_)
  clear hK K
  refine Reg.one (o := { dst := some 9, op := Op.call { callee := Callee.value (Operand.func 27), args := #[Operand.tmp 6, Operand.tmp 8], argTypes := #[54, 54] }, type := 54, pos := "geometry.go:500", after := #[{ on := 1, ground := Ground.data }, { on := 3, ground := Ground.data }, { on := 3, ground := Ground.chain }], guard := none }) 4 (by rfl) (by kernel_rfl) (by rfl)  (fun K Q' hK => ?_)
  go_simp
  refine (expandenv_full _ _ _ _ _ _ _ _ _ (by assumption) (by assumption) (by assumption) (by assumption)).mono ?_
  rintro e w4 ⟨rfl, hb4⟩
  replace hS := Below.trans hS (hb4.mono hB)
  replace hB := Nat.le_trans hB hb4.size
  clear hC
  refine hK _ _ (But.of_below rfl hS) (fun hC => ?_)
  clear hK K
  refine Reg.one (o := { dst := some 10, op := Op.call { callee := Callee.value (Operand.func 25), args := #[Operand.tmp 9], argTypes := #[54] }, type := 30, pos := "geometry.go:500", after := #[{ on := 4, ground := Ground.data }, { on := 4, ground := Ground.chain }], guard := none }) 5 (by rfl) (by kernel_rfl) (by rfl)  (fun K Q' hK => ?_)
  go_simp
  refine (plainenv_full _ _ _ _ _).mono ?_
  rintro e w5 ⟨rfl, hb5⟩
  replace hS := Below.trans hS (hb5.mono hB)
  replace hB := Nat.le_trans hB hb5.size
  clear hC
  refine hK _ _ (But.of_below rfl hS) (fun hC => ?_)
  clear hK K
  refine Reg.one (o := { dst := none, op := Op.store 30 (Operand.tmp 4) (Operand.tmp 10), type := 0, pos := "geometry.go:500", after := #[{ on := 5, ground := Ground.data }, { on := 5, ground := Ground.chain }, { on := 0, ground := Ground.phase }, { on := 1, ground := Ground.phase }, { on := 2, ground := Ground.phase }, { on := 3, ground := Ground.phase }, { on := 4, ground := Ground.phase }, { on := 5, ground := Ground.phase }], guard := none }) 6 (by rfl) (by kernel_rfl) (by rfl)  (fun K Q' hK => ?_)
  obtain ⟨hcR, hfR⟩ := bcell hS
  go_simp
  refine hK _ _ (by repeat (first | exact hS | assumption | exact But.of_below rfl hS | exact hC | refine But.setCell ?_ (by simp) _ | refine Below.setCell ?_ ?_ _ | refine Below.alloc ?_ ?_ _ | go_size)) (fun hC' => ?_)
  clear hK K
  clear hC
  have hC := hC'
  clear hC'
  refine Reg.end_ (by kernel_rfl) ?_
  have hR := hS
  obtain ⟨hcS, hfS⟩ := bcell hS
  (try simp only [World.size_alloc, World.size_setCell, World.size_drew] at hcS hfS)
  go_wp2
  have HB := Below.trans (B := w.heap.size) (a := w) (by go_grown) (hS.mono (by go_size))
  refine bodyPost_ret (v := ev true (fmin (fmin a c) (fmin a' c')) (fmin (fmin b d) (fmin b' d')) (fmax (fmax a c) (fmax a' c')) (fmax (fmax b d) (fmax b' d'))) (by simp [results, Try.results12, go_sem, *]) rfl ⟨rfl, by go_grown⟩
set_option maxHeartbeats 2000000 in
theorem envcovers_full (a b c d a' b' c' d' : Nat) (w : World) (ha : fin a = true) (hb : fin b = true) (hc : fin c = true) (hd : fin d = true)
    (ha' : fin a' = true) (hb' : fin b' = true) (hc' : fin c' = true) (hd' : fin d' = true) :
    Calls Try.prog 14 #[ev true a b c d, ev true a' b' c' d'] w fun e w' => e = .returned (.bool (leb (fmin a c) (fmin a' c') && leb (fmin b d) (fmin b' d') && geb (fmax a c) (fmax a' c') && geb (fmax b d) (fmax b' d'))) ∧ Below w.heap.size w w' := by
  generalize hr : (leb (fmin a c) (fmin a' c') && leb (fmin b d) (fmin b' d') && geb (fmax a c) (fmax a' c') && geb (fmax b d) (fmax b' d')) = r
  have hcov : ∀ W, Calls Try.prog 30 #[gv (fmin a c) (fmin b d) (fmax a c) (fmax b d) true, gv (fmin a' c') (fmin b' d') (fmax a' c') (fmax b' d') true] W fun e w' => e = .returned (.bool r) ∧ Below W.heap.size W w' := by
    intro W
    rw [← hr]
    exact covers_any _ _ _ _ _ _ _ _ W
  have HC := Lib.hid hcov
  clear hcov hr
  go_enter Try.func14, Try.ntmps14
  go_wp2_with fail
  refine Reg.beginB (ops := regAt Try.f14 1) 6 (by kernel_rfl) (by kernel_rfl) (fun wr hS hB hzu5 => ?_)
  have hC := hS
  refine' Reg.val (o := { dst := some 5, op := Op.load 30 (Operand.tmp 2), type := 30, pos := "geometry.go:488", after := #[], guard := none }) 0 _ (by rfl) (by kernel_rfl) (by rfl) hC ?hvu5_0 ?_
  case hvu5_0 => intro W hW; obtain ⟨hcW, hfW⟩ := bcell hW; go_simp <;> (with_reducible rfl)
  simp only [Act.put, List.setIfInBounds_toArray, List.set_cons_zero, List.set_cons_succ]
  refine' Reg.val (o := { dst := some 7, op := Op.load 30 (Operand.tmp 3), type := 30, pos := "geometry.go:488", after := #[], guard := none }) 2 _ (by rfl) (by kernel_rfl) (by rfl) hC ?hvu5_2 ?_
  case hvu5_2 => intro W hW; obtain ⟨hcW, hfW⟩ := bcell hW; go_simp <;> (with_reducible rfl)
  simp only [Act.put, List.setIfInBounds_toArray, List.set_cons_zero, List.set_cons_succ]
  refine Reg.one (o := { dst := some 6, op := Op.call { callee := Callee.value (Operand.func 26), args := #[Operand.tmp 5], argTypes := #[30] }, type := 54, pos := "geometry.go:488", after := #[{ on := 0, ground := Ground.data }], guard := none }) 1 (by rfl) (by kernel_rfl) (by rfl)  (fun K Q' hK => ?_)
  go_simp
  refine (envelope_full _ _ _ _ _ (by assumption) (by assumption) (by assumption) (by assumption)).mono ?_
  rintro e w1 ⟨rfl, hb1⟩
  replace hS := Below.trans hS (hb1.mono hB)
  replace hB := Nat.le_trans hB hb1.size
  clear hC
  refine hK _ _ hS (fun hC => ?_)
  clear hK K
  refine Reg.one (o := { dst := some 8, op := Op.call { callee := Callee.value (Operand.func 26), args := #[Operand.tmp 7], argTypes := #[30] }, type := 54, pos := "geometry.go:488", after := #[{ on := 2, ground := Ground.data }, { on := 1, ground := Ground.chain }], guard := none }) 3 (by rfl) (by kernel_rfl) (by rfl)  (fun K Q' hK => ?_)
  go_simp
  refine (envelope_full _ _ _ _ _ (by assumption) (by assumption) (by assumption) (by assumption)).mono ?_
  rintro e w3 ⟨rfl, hb3⟩
  replace hS := Below.trans hS (hb3.mono hB)
  replace hB := Nat.le_trans hB hb3.size
  clear hC
  refine hK _ _ hS (fun hC => ?_)
  clear hK K
  refine Reg.one (o := { dst := some 9, op := Op.call { callee := Callee.value (Operand.func 30), args := #[Operand.tmp 6, Operand.tmp 8], argTypes := #[54, 54] }, type := 4, pos := "geometry.go:488", after := #[{ on := 1, ground := Ground.data }, { on := 3, ground := Ground.data }, { on := 3, ground := Ground.chain }], guard := none }) 4 (by rfl) (by kernel_rfl) (by rfl)  (fun K Q' hK => ?_)
  go_simp
  refine (HC.out _).mono ?_
  rintro e w4 ⟨rfl, hb4⟩
  replace hS := Below.trans hS (hb4.mono hB)
  replace hB := Nat.le_trans hB hb4.size
  clear hC
  refine hK _ _ hS (fun hC => ?_)
  clear hK K
  refine' Reg.val (o := { dst := some 4, op := Op.assign (Operand.tmp 9), type := 4, pos := "geometry.go:488", after := #[{ on := 4, ground := Ground.data }, { on := 4, ground := Ground.chain }, { on := 0, ground := Ground.phase }, { on := 1, ground := Ground.phase }, { on := 2, ground := Ground.phase }, { on := 3, ground := Ground.phase }, { on := 4, ground := Ground.phase }], guard := none }) 5 _ (by rfl) (by kernel_rfl) (by rfl) hC ?hvu5_5 ?_
  case hvu5_5 => intro W _; go_simp <;> (with_reducible rfl)
  simp only [Act.put, List.setIfInBounds_toArray, List.set_cons_zero, List.set_cons_succ]
  refine Reg.end_ (by kernel_rfl) ?_
  have hR := hS
  obtain ⟨hcS, hfS⟩ := bcell hS
  (try simp only [World.size_alloc, World.size_setCell, World.size_drew] at hcS hfS)
  go_wp2
  go_returns
  exact ⟨rfl, Below.trans (by go_grown) (hS.mono (by go_size))⟩
set_option maxHeartbeats 2000000 in
theorem envcontains_yes (a b c d x y : Nat) (w : World) (ha : fin a = true) (hb : fin b = true) (hc : fin c = true) (hd : fin d = true)
    (h1 : isNan x = false) (h2 : isNan y = false) (h3 : isInf x = false) (h4 : isInf y = false)
    (k1 : geb x (fmin a c) = true) (k2 : leb x (fmax a c) = true) (k3 : geb y (fmin b d) = true) (k4 : leb y (fmax b d) = true) :
    Calls Try.prog 13 #[ev true a b c d, xv x y] w fun e w' => e = .returned (.bool true) ∧ Below w.heap.size w w' := by
  have HC := Lib.hid fun W => contains_yes (fmin a c) (fmin b d) (fmax a c) (fmax b d) x y W h1 h2 h3 h4 k1 k2 k3 k4
  clear h1 h2 h3 h4 k1 k2 k3 k4
  go_enter Try.func13, Try.ntmps13
  go_wp2_with fail
  refine Reg.beginB (ops := regAt Try.f13 1) 6 (by kernel_rfl) (by kernel_rfl) (fun wr hS hB hzu6 => ?_)
  have hC := hS
  refine' Reg.val (o := { dst := some 5, op := Op.load 30 (Operand.tmp 2), type := 30, pos := "geometry.go:484", after := #[], guard := none }) 0 _ (by rfl) (by kernel_rfl) (by rfl) hC ?hvu6_0 ?_
  case hvu6_0 => intro W hW; obtain ⟨hcW, hfW⟩ := bcell hW; go_simp <;> (with_reducible rfl)
  simp only [Act.put, List.setIfInBounds_toArray, List.set_cons_zero, List.set_cons_succ]
  refine' Reg.val (o := { dst := some 7, op := Op.load 32 (Operand.tmp 3), type := 32, pos := "geometry.go:484", after := #[], guard := none }) 2 _ (by rfl) (by kernel_rfl) (by rfl) hC ?hvu6_2 ?_
  case hvu6_2 => intro W hW; obtain ⟨hcW, hfW⟩ := bcell hW; go_simp <;> (with_reducible rfl)
  simp only [Act.put, List.setIfInBounds_toArray, List.set_cons_zero, List.set_cons_succ]
  refine Reg.one (o := { dst := some 6, op := Op.call { callee := Callee.value (Operand.func 26), args := #[Operand.tmp 5], argTypes := #[30] }, type := 54, pos := "geometry.go:484", after := #[{ on := 0, ground := Ground.data }], guard := none }) 1 (by rfl) (by kernel_rfl) (by rfl)  (fun K Q' hK => ?_)
  go_simp
  refine (envelope_full _ _ _ _ _ (by assumption) (by assumption) (by assumption) (by assumption)).mono ?_
  rintro e w1 ⟨rfl, hb1⟩
  replace hS := Below.trans hS (hb1.mono hB)
  replace hB := Nat.le_trans hB hb1.size
  clear hC
  refine hK _ _ hS (fun hC => ?_)
  clear hK K
  refine Reg.one (o := { dst := some 8, op := Op.call { callee := Callee.value (Operand.func 29), args := #[Operand.tmp 7], argTypes := #[32] }, type := 52, pos := "geometry.go:484", after := #[{ on := 2, ground := Ground.data }, { on := 1, ground := Ground.chain }], guard := none }) 3 (by rfl) (by kernel_rfl) (by rfl)  (fun K Q' hK => ?_)
  go_simp
  refine (xy_any _ _ _).mono ?_
  rintro e w3 ⟨rfl, hb3⟩
  replace hS := Below.trans hS (hb3.mono hB)
  replace hB := Nat.le_trans hB hb3.size
  clear hC
  refine hK _ _ hS (fun hC => ?_)
  clear hK K
  refine Reg.one (o := { dst := some 9, op := Op.call { callee := Callee.value (Operand.func 28), args := #[Operand.tmp 6, Operand.tmp 8], argTypes := #[54, 52] }, type := 4, pos := "geometry.go:484", after := #[{ on := 1, ground := Ground.data }, { on := 3, ground := Ground.data }, { on := 3, ground := Ground.chain }], guard := none }) 4 (by rfl) (by kernel_rfl) (by rfl)  (fun K Q' hK => ?_)
  go_simp
  refine (HC.out _).mono ?_
  rintro e w4 ⟨rfl, hb4⟩
  replace hS := Below.trans hS (hb4.mono hB)
  replace hB := Nat.le_trans hB hb4.size
  clear hC
  refine hK _ _ hS (fun hC => ?_)
  clear hK K
  refine' Reg.val (o := { dst := some 4, op := Op.assign (Operand.tmp 9), type := 4, pos := "geometry.go:484", after := #[{ on := 4, ground := Ground.data }, { on := 4, ground := Ground.chain }, { on := 0, ground := Ground.phase }, { on := 1, ground := Ground.phase }, { on := 2, ground := Ground.phase }, { on := 3, ground := Ground.phase }, { on := 4, ground := Ground.phase }], guard := none }) 5 _ (by rfl) (by kernel_rfl) (by rfl) hC ?hvu6_5 ?_
  case hvu6_5 => intro W _; go_simp <;> (with_reducible rfl)
  simp only [Act.put, List.setIfInBounds_toArray, List.set_cons_zero, List.set_cons_succ]
  refine Reg.end_ (by kernel_rfl) ?_
  have hR := hS
  obtain ⟨hcS, hfS⟩ := bcell hS
  (try simp only [World.size_alloc, World.size_setCell, World.size_drew] at hcS hfS)
  go_wp2
  go_returns
  exact ⟨rfl, Below.trans (by go_grown) (hS.mono (by go_size))⟩
def fin4 (a b c d : Nat) : Bool := fin a && fin b && fin c && fin d
set_option maxHeartbeats 1000000 in
theorem efinite_any (a b c d : Nat) (w : World) :
    Calls Try.prog 22 #[bx a b c d] w fun e w' => e = .returned (.bool (fin4 a b c d)) ∧ Below w.heap.size w w' := by
  unfold fin4
  cases h1 : fin a <;> cases h2 : fin b <;> cases h3 : fin c <;> cases h4 : fin d
  all_goals
    go_enter Try.func22, Try.ntmps22
    go_wp2_with (go_at_call 6; refine (gfinite_any _ _).mono ?_; rintro e w' ⟨rfl, rfl⟩)
    go_returns
    exact ⟨rfl, by go_grown⟩
set_option maxHeartbeats 1000000 in
theorem ecorners_none (a b c d : Nat) (w : World) :
    Calls Try.prog 24 #[ev false a b c d] w fun e w' => e = .returned (.slice none 0 0) ∧ Below w.heap.size w w' := by
  go_enter Try.func24, Try.ntmps24
  go_wp2
  go_returns
  exact ⟨rfl, by go_grown⟩
set_option maxHeartbeats 1000000 in
theorem ecorners_full (a b c d : Nat) (w : World) :
    Calls Try.prog 24 #[ev true a b c d] w fun e w' => (∃ r, e = .returned (.slice (some ⟨r, 0, none⟩) 2 2) ∧ w.heap.size ≤ r ∧ Blk w' r [fv a, fv b, fv c, fv d] 32) ∧ Below w.heap.size w w' := by
  go_enter Try.func24, Try.ntmps24
  go_wp2
  go_returns
  refine ⟨⟨_, rfl, by simp, ?_⟩, by go_grown⟩
  have := Blk.new (w.alloc (.cells #[.bool true, fv a, fv b, fv c, fv d] 30)) [fv a, fv b, fv c, fv d] 32
  rw [World.size_alloc] at this
  exact this
set_option maxHeartbeats 1000000 in
theorem eof_none (w : World) :
    Calls Try.prog 23 #[.slice none 0 0] w fun e w' => e = .returned (ev false 0 0 0 0) ∧ Below w.heap.size w w' := by
  go_enter Try.func23, Try.ntmps23
  go_wp2_with fail
  go_loopw [8] (fun i wr => i = .int .i64 0 ∧ Below w.heap.size w wr ∧ Blk wr w.heap.size [.bool false, fv 0, fv 0, fv 0, fv 0] 30 ∧ Blk wr (w.heap.size + 1) [.bool false, fv 0, fv 0, fv 0, fv 0] 30)
    (fun i _ => 0)
  case atStart =>
    refine ⟨rfl, by go_grown, Blk.alloc (Blk.new w [.bool false, fv 0, fv 0, fv 0, fv 0] _) _, ?_⟩
    have := Blk.new (w.alloc (.cells [.bool false, fv 0, fv 0, fv 0, fv 0].toArray 30)) [.bool false, fv 0, fv 0, fv 0, fv 0] 30
    rw [World.size_alloc] at this
    exact this
  case round =>
    obtain ⟨rfl, H, R, B⟩ := hrel
    obtain ⟨B0, B1, B2, B3, B4, F0, F1, F2, F3, F4⟩ := B.c5
    obtain ⟨R0, R1, R2, R3, R4, G0, G1, G2, G3, G4⟩ := R.c5
    have hb2 := B.lt
    clear B R
    go_wp2_with fail
    refine bodyPost_ret (v := ev false 0 0 0 0) (by simp [results, Try.results23, go_sem, *]) rfl ⟨rfl, by go_grown⟩
end Go.Proofs.Ytcidgicdeedgfaa
