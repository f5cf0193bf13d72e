/- What two envelopes with finite ends grow together to covers the one and has each place of the other: the last case and the whole. No condition. -/
import Derived.Test.YtcidgicdeedgfaaEnv7
namespace Go.Proofs.Ytcidgicdeedgfaa
open Go.ChangeShapes Go.WideShapes Go.ChangeAt Go.RowKit
open Fl
set_option linter.unusedSimpArgs false
set_option linter.unusedVariables false
attribute [local go_sem] run_store_float run_fadd run_fsub run_fmul run_fdiv run_equalIn_float fmt64

set_option maxHeartbeats 8000000 in
theorem envlaw_yes (a b c d a' b' c' d' x y : Nat) (w : World) (g : fin4 a b c d = true) (g' : fin4 a' b' c' d' = true)
    (hh : (leb (emin a' c') x && leb x (emax a' c') && leb (emin b' d') y && leb y (emax b' d')) = true) :
    Calls Try.prog 4 #[ev true a b c d, ev true a' b' c' d', xv x y] w fun e w' => e = .returned (.bool true) ∧ Below w.heap.size w w' := by
  have HF : ∀ (r : Nat) (W : World), Blk W r [.bool true, fv a, fv b, fv c, fv d, .bool true, fv a', fv b', fv c', fv d'] 30 → Calls Try.prog 9 #[.slice (some ⟨r, 0, none⟩) 2 2] W fun e w' => e = .returned (.bool true) ∧ Below W.heap.size W w' := by
    intro r W hB
    have := efits_two _ _ _ _ _ _ _ _ _ _ _ _ hB
    have q1 : fitB true a b c d = true := by simp [fitB, g]
    have q2 : fitB true a' b' c' d' = true := by simp [fitB, g']
    rw [q1, q2] at this
    exact this
  have HM := Lib.hid (emade_full a' b' c' d')
  have HH : ∀ W, Calls Try.prog 10 #[ev true (emin a' c') (emin b' d') (emax a' c') (emax b' d'), xv x y] W fun e w' => e = .returned (.bool true) ∧ Below W.heap.size W w' := by
    intro W
    have := ehas_full (emin a' c') (emin b' d') (emax a' c') (emax b' d') x y W
    rw [hh] at this
    exact this
  simp only [fin4, Bool.and_eq_true] at g g' hh
  obtain ⟨⟨⟨fa, fb⟩, fc⟩, fd⟩ := g
  obtain ⟨⟨⟨fa', fb'⟩, fc'⟩, fd'⟩ := g'
  obtain ⟨⟨⟨i1, i2⟩, i3⟩, i4⟩ := hh
  obtain ⟨fx, fA, fC, x1, x2, x3, x4, x5, x6⟩ := axis fa fc fa' fc' i1 i2
  obtain ⟨fy, fB, fD, y1, y2, y3, y4, y5, y6⟩ := axis fb fd fb' fd' i3 i4
  have HE := Lib.hid fun W => envexpand_full a b c d a' b' c' d' W fa fb fc fd fa' fb' fc' fd'
  obtain ⟨n1, n2⟩ := not_nan_inf fx
  obtain ⟨n3, n4⟩ := not_nan_inf fy
  have HC1 := Lib.hid fun W => envcontains_yes _ _ _ _ x y W fA fB fC fD n1 n3 n2 n4 x1 x2 y1 y2
  have HV1 : ∀ W, Calls Try.prog 14 #[ev true (fmin (fmin a c) (fmin a' c')) (fmin (fmin b d) (fmin b' d')) (fmax (fmax a c) (fmax a' c')) (fmax (fmax b d) (fmax b' d')), ev true a b c d] W fun e w' => e = .returned (.bool true) ∧ Below W.heap.size W w' := by
    intro W
    have := envcovers_full _ _ _ _ a b c d W fA fB fC fD fa fb fc fd
    rw [show leb _ _ = true from x3, show leb _ _ = true from y3, show geb _ _ = true from x4, show geb _ _ = true from y4] at this
    exact this
  have HV2 := Lib.hid fun W => envcovers_full a b c d _ _ _ _ W fa fb fc fd fA fB fC fD
  have HK : (leb (fmin a c) (fmin (fmin (fmin a c) (fmin a' c')) (fmax (fmax a c) (fmax a' c'))) && leb (fmin b d) (fmin (fmin (fmin b d) (fmin b' d')) (fmax (fmax b d) (fmax b' d'))) &&
      geb (fmax a c) (fmax (fmin (fmin a c) (fmin a' c')) (fmax (fmax a c) (fmax a' c'))) && geb (fmax b d) (fmax (fmin (fmin b d) (fmin b' d')) (fmax (fmax b d) (fmax b' d')))) = true →
      ∀ W, Calls Try.prog 13 #[ev true a b c d, xv x y] W fun e w' => e = .returned (.bool true) ∧ Below W.heap.size W w' := by
    intro hk W
    simp only [Bool.and_eq_true] at hk
    obtain ⟨⟨⟨k1, k2⟩, k3⟩, k4⟩ := hk
    exact envcontains_yes _ _ _ _ x y W fa fb fc fd n1 n3 n2 n4 (x5 k1) (x6 k3) (y5 k2) (y6 k4)
  have HK := Lib.hid HK
  have HV2 := HV2.out
  generalize (leb (fmin a c) (fmin (fmin (fmin a c) (fmin a' c')) (fmax (fmax a c) (fmax a' c'))) && leb (fmin b d) (fmin (fmin (fmin b d) (fmin b' d')) (fmax (fmax b d) (fmax b' d'))) &&
      geb (fmax a c) (fmax (fmin (fmin a c) (fmin a' c')) (fmax (fmax a c) (fmax a' c'))) && geb (fmax b d) (fmax (fmin (fmin b d) (fmin b' d')) (fmax (fmax b d) (fmax b' d')))) = cv at HK HV2
  have HV2 := Lib.hid HV2
  have HV1 := Lib.hid HV1
  clear x1 x2 x3 x4 x5 x6 y1 y2 y3 y4 y5 y6 i1 i2 i3 i4 n1 n2 n3 n4 fx fy fA fB fC fD fa fb fc fd fa' fb' fc' fd'
  generalize fmin (fmin a c) (fmin a' c') = A at HE HC1 HV1 HV2
  generalize fmin (fmin b d) (fmin b' d') = B at HE HC1 HV1 HV2
  generalize fmax (fmax a c) (fmax a' c') = C at HE HC1 HV1 HV2
  generalize fmax (fmax b d) (fmax b' d') = D at HE HC1 HV1 HV2
  have HF := Lib.hid HF
  have HH := Lib.hid HH
  cases cv
  all_goals
    go_enter Try.func4, Try.ntmps4
    go_wp2_with fail
    refine Reg.beginB (ops := regAt Try.f4 1) 17 (by kernel_rfl) (by kernel_rfl) (fun wr hS hB hzu1 => ?_)
    have hC := hS
    have hzr := hzu1
    simp only [World.size_alloc] at hzr
    refine' Reg.val (o := { dst := some 8, op := Op.load 30 (Operand.tmp 3), type := 30, pos := "env.go:206", after := #[], guard := none }) 0 _ (by rfl) (by kernel_rfl) (by rfl) hC ?hvu1_0 ?_
    case hvu1_0 => intro W hW; obtain ⟨hcW, hfW⟩ := bcell hW; go_simp <;> (with_reducible rfl)
    simp only [Act.put, List.setIfInBounds_toArray, List.set_cons_zero, List.set_cons_succ]
    refine' Reg.val (o := { dst := some 9, op := Op.load 30 (Operand.tmp 4), type := 30, pos := "env.go:206", after := #[], guard := none }) 1 _ (by rfl) (by kernel_rfl) (by rfl) hC ?hvu1_1 ?_
    case hvu1_1 => intro W hW; obtain ⟨hcW, hfW⟩ := bcell hW; go_simp <;> (with_reducible rfl)
    simp only [Act.put, List.setIfInBounds_toArray, List.set_cons_zero, List.set_cons_succ]
    refine Reg.new (o := { dst := some 10, op := Op.buildSlice 47 2 #[(0, Operand.tmp 8), (1, Operand.tmp 9)], type := 47, pos := "env.go:206", after := #[{ on := 0, ground := Ground.data }, { on := 1, ground := Ground.data }], guard := none }) 2 (by rfl) (by kernel_rfl) (by rfl) (fun _ hb => (Below.trans hS (hb.mono hB))) (fun K Q' hK => ?_)
    go_simp
    refine hK _ _ (by go_grown) ?_
    clear hK K
    clear hC
    intro hb hN2 hC
    have hBN2 := hB
    have hSb2 := hS
    replace hS := Below.trans hS (hb.mono hB)
    replace hB := Nat.le_trans hB hb.size
    clear hb
    refine Reg.one (o := { dst := some 11, op := Op.call { callee := Callee.value (Operand.func 9), args := #[Operand.tmp 10], argTypes := #[47] }, type := 4, pos := "env.go:206", after := #[{ on := 2, ground := Ground.data }], guard := none }) 3 (by rfl) (by kernel_rfl) (by rfl)  (fun K Q' hK => ?_)
    go_simp
    refine (HF.out _ _ ((Blk.newAt hzr _ _).keep hN2 (by simp only [World.size_alloc]; omega))).mono ?_
    rintro e w3 ⟨rfl, hb3⟩
    replace hS := Below.trans hS (hb3.mono hB)
    replace hB := Nat.le_trans hB hb3.size
    replace hN2 := Below.trans hN2 (hb3.mono hN2.size)
    clear hC
    refine hK _ _ hS (fun hC => ?_)
    clear hK K
    refine' Reg.val (o := { dst := some 12, op := Op.unOp UnOp.not 4 (Operand.tmp 11), type := 4, pos := "env.go:206", after := #[{ on := 3, ground := Ground.data }], guard := none }) 4 _ (by rfl) (by kernel_rfl) (by rfl) hC ?hvu1_4 ?_
    case hvu1_4 => intro W _; go_simp <;> (with_reducible rfl)
    simp only [Act.put, List.setIfInBounds_toArray, List.set_cons_zero, List.set_cons_succ]
    refine' Reg.val (o := { dst := some 13, op := Op.move (Operand.tmp 12), type := 4, pos := "env.go:206", after := #[{ on := 4, ground := Ground.data }, { on := 3, ground := Ground.chain }], guard := none }) 5 _ (by rfl) (by kernel_rfl) (by rfl) hC ?hvu1_5 ?_
    case hvu1_5 => intro W _; go_simp <;> (with_reducible rfl)
    simp only [Act.put, List.setIfInBounds_toArray, List.set_cons_zero, List.set_cons_succ]
    refine' Reg.val (o := { dst := some 14, op := Op.fieldAddr 30 (Operand.tmp 3) 0, type := 0, pos := "env.go:206", after := #[{ on := 5, ground := Ground.guard }], guard := some (5, false) }) 6 _ (by rfl) (by kernel_rfl) (by rfl) hC ?hvu1_6 ?_
    case hvu1_6 => intro W hW; obtain ⟨hcW, hfW⟩ := bcell hW; go_simp <;> (with_reducible rfl)
    simp only [Act.put, List.setIfInBounds_toArray, List.set_cons_zero, List.set_cons_succ]
    refine' Reg.val (o := { dst := some 15, op := Op.load 4 (Operand.tmp 14), type := 4, pos := "env.go:206", after := #[{ on := 6, ground := Ground.data }, { on := 5, ground := Ground.guard }], guard := some (5, false) }) 7 _ (by rfl) (by kernel_rfl) (by rfl) hC ?hvu1_7 ?_
    case hvu1_7 => intro W hW; obtain ⟨hcW, hfW⟩ := bcell hW; go_simp <;> (with_reducible rfl)
    simp only [Act.put, List.setIfInBounds_toArray, List.set_cons_zero, List.set_cons_succ]
    refine' Reg.val (o := { dst := some 16, op := Op.unOp UnOp.not 4 (Operand.tmp 15), type := 4, pos := "env.go:206", after := #[{ on := 7, ground := Ground.data }, { on := 5, ground := Ground.guard }], guard := some (5, false) }) 8 _ (by rfl) (by kernel_rfl) (by rfl) hC ?hvu1_8 ?_
    case hvu1_8 => intro W _; go_simp <;> (with_reducible rfl)
    simp only [Act.put, List.setIfInBounds_toArray, List.set_cons_zero, List.set_cons_succ]
    refine' Reg.val (o := { dst := some 17, op := Op.pick (Operand.tmp 13) (Operand.const (Value.bool true)) (Operand.tmp 16), type := 4, pos := "env.go:206", after := #[{ on := 5, ground := Ground.data }, { on := 8, ground := Ground.data }], guard := none }) 9 _ (by rfl) (by kernel_rfl) (by rfl) hC ?hvu1_9 ?_
    case hvu1_9 => intro W _; go_simp <;> (with_reducible rfl)
    simp only [Act.put, List.setIfInBounds_toArray, List.set_cons_zero, List.set_cons_succ]
    refine' Reg.val (o := { dst := some 18, op := Op.move (Operand.tmp 17), type := 4, pos := "env.go:206", after := #[{ on := 9, ground := Ground.data }, { on := 5, ground := Ground.chain }], guard := none }) 10 _ (by rfl) (by kernel_rfl) (by rfl) hC ?hvu1_10 ?_
    case hvu1_10 => intro W _; go_simp <;> (with_reducible rfl)
    simp only [Act.put, List.setIfInBounds_toArray, List.set_cons_zero, List.set_cons_succ]
    refine' Reg.val (o := { dst := some 19, op := Op.load 30 (Operand.tmp 4), type := 30, pos := "env.go:206", after := #[{ on := 10, ground := Ground.guard }], guard := some (10, false) }) 11 _ (by rfl) (by kernel_rfl) (by rfl) hC ?hvu1_11 ?_
    case hvu1_11 => intro W hW; obtain ⟨hcW, hfW⟩ := bcell hW; go_simp <;> (with_reducible rfl)
    simp only [Act.put, List.setIfInBounds_toArray, List.set_cons_zero, List.set_cons_succ]
    refine' Reg.val (o := { dst := some 21, op := Op.load 32 (Operand.tmp 5), type := 32, pos := "env.go:206", after := #[{ on := 10, ground := Ground.guard }], guard := some (10, false) }) 13 _ (by rfl) (by kernel_rfl) (by rfl) hC ?hvu1_13 ?_
    case hvu1_13 => intro W hW; obtain ⟨hcW, hfW⟩ := bcell hW; go_simp <;> (with_reducible rfl)
    simp only [Act.put, List.setIfInBounds_toArray, List.set_cons_zero, List.set_cons_succ]
    refine Reg.one (o := { dst := some 20, op := Op.call { callee := Callee.value (Operand.func 11), args := #[Operand.tmp 19], argTypes := #[30] }, type := 30, pos := "env.go:206", after := #[{ on := 11, ground := Ground.data }, { on := 10, ground := Ground.chain }, { on := 10, ground := Ground.guard }], guard := some (10, false) }) 12 (by rfl) (by kernel_rfl) (by rfl)  (fun K Q' hK => ?_)
    go_simp
    refine (HM.out _).mono ?_
    rintro e w12 ⟨rfl, hb12⟩
    replace hS := Below.trans hS (hb12.mono hB)
    replace hB := Nat.le_trans hB hb12.size
    replace hN2 := Below.trans hN2 (hb12.mono hN2.size)
    clear hC
    refine hK _ _ hS (fun hC => ?_)
    clear hK K
    refine Reg.one (o := { dst := some 22, op := Op.call { callee := Callee.value (Operand.func 10), args := #[Operand.tmp 20, Operand.tmp 21], argTypes := #[30, 32] }, type := 4, pos := "env.go:206", after := #[{ on := 12, ground := Ground.data }, { on := 13, ground := Ground.data }, { on := 12, ground := Ground.chain }, { on := 10, ground := Ground.guard }], guard := some (10, false) }) 14 (by rfl) (by kernel_rfl) (by rfl)  (fun K Q' hK => ?_)
    go_simp
    refine (HH.out _).mono ?_
    rintro e w14 ⟨rfl, hb14⟩
    replace hS := Below.trans hS (hb14.mono hB)
    replace hB := Nat.le_trans hB hb14.size
    replace hN2 := Below.trans hN2 (hb14.mono hN2.size)
    clear hC
    refine hK _ _ hS (fun hC => ?_)
    clear hK K
    refine' Reg.val (o := { dst := some 23, op := Op.unOp UnOp.not 4 (Operand.tmp 22), type := 4, pos := "env.go:206", after := #[{ on := 14, ground := Ground.data }, { on := 10, ground := Ground.guard }], guard := some (10, false) }) 15 _ (by rfl) (by kernel_rfl) (by rfl) hC ?hvu1_15 ?_
    case hvu1_15 => intro W _; go_simp <;> (with_reducible rfl)
    simp only [Act.put, List.setIfInBounds_toArray, List.set_cons_zero, List.set_cons_succ]
    refine' Reg.val (o := { dst := some 24, op := Op.pick (Operand.tmp 18) (Operand.const (Value.bool true)) (Operand.tmp 23), type := 4, pos := "env.go:206", after := #[{ on := 10, ground := Ground.data }, { on := 15, ground := Ground.data }], guard := none }) 16 _ (by rfl) (by kernel_rfl) (by rfl) hC ?hvu1_16 ?_
    case hvu1_16 => intro W _; go_simp <;> (with_reducible rfl)
    simp only [Act.put, List.setIfInBounds_toArray, List.set_cons_zero, List.set_cons_succ]
    refine Reg.end_ (by kernel_rfl) ?_
    have hR := hS
    obtain ⟨hcS, hfS⟩ := bcell hS
    (try simp only [World.size_alloc, World.size_setCell, World.size_drew] at hcS hfS)
    go_wp2_with (first
      | (go_at_call 12; refine (HE.out _).mono ?_; rintro e w1 ⟨rfl, hb⟩; replace hS := chainB hS (by go_grown) hb; clear hb; clear hcS hfS; have K0 := (((Blk.new w [.bool true, fv a, fv b, fv c, fv d] 30).alloc (.cells #[.bool true, fv a', fv b', fv c', fv d'] 30)).alloc (.cells #[fv x, fv y] 32)).keep hS (by simp only [World.size_alloc]; omega); have K1 := ((Blk.new (w.alloc (.cells #[.bool true, fv a, fv b, fv c, fv d] 30)) [.bool true, fv a', fv b', fv c', fv d'] 30).alloc (.cells #[fv x, fv y] 32)).keep hS (by simp only [World.size_alloc]; omega); have K2 := (Blk.new ((w.alloc (.cells #[.bool true, fv a, fv b, fv c, fv d] 30)).alloc (.cells #[.bool true, fv a', fv b', fv c', fv d'] 30)) [fv x, fv y] 32).keep hS (by simp only [World.size_alloc]; omega); simp only [World.size_alloc] at K1 K2; have L0 := K0.lt; have L1 := K1.lt; have L2 := K2.lt; obtain ⟨x0, x1, x2, x3, x4, y0, y1, y2, y3, y4⟩ := K0.c5; obtain ⟨z0, z1, z2, z3, z4, v0, v1, v2, v3, v4⟩ := K1.c5; obtain ⟨u0, u1, q0, q1⟩ := K2.c2; replace K0 := Lib.hid K0; replace K1 := Lib.hid K1; replace K2 := Lib.hid K2)
      | (go_at_call 13; first | (refine (HC1.out _).mono ?_; rintro e w2 ⟨rfl, hb⟩; replace hS := chainB hS (by go_grown) hb; (first | replace K3 := Lib.hid (K3.out.keep hb K3.out.lt) | have K3 := Lib.hid ((Blk.new w1 [.bool true, fv A, fv B, fv C, fv D] 30).keep hb (by simp only [World.size_alloc]; omega))); (first | (replace K0 := Lib.hid (K0.out.keep hb K0.out.lt); replace K1 := Lib.hid (K1.out.keep hb K1.out.lt); replace K2 := Lib.hid (K2.out.keep hb K2.out.lt)) | (replace K0 := Lib.hid ((K0.out.alloc _).keep hb (K0.out.alloc _).lt); replace K1 := Lib.hid ((K1.out.alloc _).keep hb (K1.out.alloc _).lt); replace K2 := Lib.hid ((K2.out.alloc _).keep hb (K2.out.alloc _).lt))); clear hb x0 x1 x2 x3 x4 y0 y1 y2 y3 y4 z0 z1 z2 z3 z4 v0 v1 v2 v3 v4 u0 u1 q0 q1; obtain ⟨x0, x1, x2, x3, x4, y0, y1, y2, y3, y4⟩ := K0.out.c5; obtain ⟨z0, z1, z2, z3, z4, v0, v1, v2, v3, v4⟩ := K1.out.c5; obtain ⟨u0, u1, q0, q1⟩ := K2.out.c2; (try clear g0 g1 g2 g3 g4); obtain ⟨g0, g1, g2, g3, g4, _, _, _, _, _⟩ := K3.out.c5) | (refine (HK.out (by first | rfl | trivial) _).mono ?_; rintro e w2 ⟨rfl, hb⟩; replace hS := chainB hS (by go_grown) hb; (first | replace K3 := Lib.hid (K3.out.keep hb K3.out.lt) | have K3 := Lib.hid ((Blk.new w1 [.bool true, fv A, fv B, fv C, fv D] 30).keep hb (by simp only [World.size_alloc]; omega))); (first | (replace K0 := Lib.hid (K0.out.keep hb K0.out.lt); replace K1 := Lib.hid (K1.out.keep hb K1.out.lt); replace K2 := Lib.hid (K2.out.keep hb K2.out.lt)) | (replace K0 := Lib.hid ((K0.out.alloc _).keep hb (K0.out.alloc _).lt); replace K1 := Lib.hid ((K1.out.alloc _).keep hb (K1.out.alloc _).lt); replace K2 := Lib.hid ((K2.out.alloc _).keep hb (K2.out.alloc _).lt))); clear hb x0 x1 x2 x3 x4 y0 y1 y2 y3 y4 z0 z1 z2 z3 z4 v0 v1 v2 v3 v4 u0 u1 q0 q1; obtain ⟨x0, x1, x2, x3, x4, y0, y1, y2, y3, y4⟩ := K0.out.c5; obtain ⟨z0, z1, z2, z3, z4, v0, v1, v2, v3, v4⟩ := K1.out.c5; obtain ⟨u0, u1, q0, q1⟩ := K2.out.c2; (try clear g0 g1 g2 g3 g4); obtain ⟨g0, g1, g2, g3, g4, _, _, _, _, _⟩ := K3.out.c5))
      | (go_at_call 14; first | (refine (HV1.out _).mono ?_; rintro e w2 ⟨rfl, hb⟩; replace hS := chainB hS (by go_grown) hb; (first | replace K3 := Lib.hid (K3.out.keep hb K3.out.lt) | have K3 := Lib.hid ((Blk.new w1 [.bool true, fv A, fv B, fv C, fv D] 30).keep hb (by simp only [World.size_alloc]; omega))); (first | (replace K0 := Lib.hid (K0.out.keep hb K0.out.lt); replace K1 := Lib.hid (K1.out.keep hb K1.out.lt); replace K2 := Lib.hid (K2.out.keep hb K2.out.lt)) | (replace K0 := Lib.hid ((K0.out.alloc _).keep hb (K0.out.alloc _).lt); replace K1 := Lib.hid ((K1.out.alloc _).keep hb (K1.out.alloc _).lt); replace K2 := Lib.hid ((K2.out.alloc _).keep hb (K2.out.alloc _).lt))); clear hb x0 x1 x2 x3 x4 y0 y1 y2 y3 y4 z0 z1 z2 z3 z4 v0 v1 v2 v3 v4 u0 u1 q0 q1; obtain ⟨x0, x1, x2, x3, x4, y0, y1, y2, y3, y4⟩ := K0.out.c5; obtain ⟨z0, z1, z2, z3, z4, v0, v1, v2, v3, v4⟩ := K1.out.c5; obtain ⟨u0, u1, q0, q1⟩ := K2.out.c2; (try clear g0 g1 g2 g3 g4); obtain ⟨g0, g1, g2, g3, g4, _, _, _, _, _⟩ := K3.out.c5) | (refine (HV2.out _).mono ?_; rintro e w2 ⟨rfl, hb⟩; replace hS := chainB hS (by go_grown) hb; (first | replace K3 := Lib.hid (K3.out.keep hb K3.out.lt) | have K3 := Lib.hid ((Blk.new w1 [.bool true, fv A, fv B, fv C, fv D] 30).keep hb (by simp only [World.size_alloc]; omega))); (first | (replace K0 := Lib.hid (K0.out.keep hb K0.out.lt); replace K1 := Lib.hid (K1.out.keep hb K1.out.lt); replace K2 := Lib.hid (K2.out.keep hb K2.out.lt)) | (replace K0 := Lib.hid ((K0.out.alloc _).keep hb (K0.out.alloc _).lt); replace K1 := Lib.hid ((K1.out.alloc _).keep hb (K1.out.alloc _).lt); replace K2 := Lib.hid ((K2.out.alloc _).keep hb (K2.out.alloc _).lt))); clear hb x0 x1 x2 x3 x4 y0 y1 y2 y3 y4 z0 z1 z2 z3 z4 v0 v1 v2 v3 v4 u0 u1 q0 q1; obtain ⟨x0, x1, x2, x3, x4, y0, y1, y2, y3, y4⟩ := K0.out.c5; obtain ⟨z0, z1, z2, z3, z4, v0, v1, v2, v3, v4⟩ := K1.out.c5; obtain ⟨u0, u1, q0, q1⟩ := K2.out.c2; (try clear g0 g1 g2 g3 g4); obtain ⟨g0, g1, g2, g3, g4, _, _, _, _, _⟩ := K3.out.c5)))
    go_returns
    exact ⟨rfl, Below.trans (by go_grown) (hS.mono (by go_size))⟩

theorem envlaw_walk (f f' : Bool) (a b c d a' b' c' d' x y : Nat) (w : World) :
    Calls Try.prog 4 #[ev f a b c d, ev f' a' b' c' d', xv x y] w fun e w' => e = .returned (.bool true) ∧ Below w.heap.size w w' := by
  cases h : (fitB f a b c d && fitB f' a' b' c' d') with
  | false => exact envlaw_nofit _ _ _ _ _ _ _ _ _ _ _ _ _ h
  | true =>
    cases f with
    | false => exact envlaw_empty _ _ _ _ _ _ _ _ _ _ _ _ h
    | true =>
      cases f' with
      | false => exact envlaw_no _ _ _ _ _ _ _ _ _ _ _ _ _ _ _ _ h (fun W => emade_none _ _ _ _ W) (fun W => ehas_none _ _ _ _ _ _ W)
      | true =>
        cases hh : (leb (emin a' c') x && leb x (emax a' c') && leb (emin b' d') y && leb y (emax b' d')) with
        | false => exact envlaw_no _ _ _ _ _ _ _ _ _ _ _ _ _ _ _ _ h (fun W => emade_full _ _ _ _ W) (fun W => by
            have := ehas_full (emin a' c') (emin b' d') (emax a' c') (emax b' d') x y W
            rw [hh] at this
            exact this)
        | true =>
          simp only [fitB, Bool.and_eq_true, Bool.true_and, Bool.not_not] at h
          exact envlaw_yes _ _ _ _ _ _ _ _ _ _ _ h.1 h.2 hh

namespace fnEnvCoversAll
theorem own : ownKnob Try.prog.godebug = none := by kernel_rfl
theorem laidOut : laidOutB Try.prog = true := by kernel_rfl
set_option maxRecDepth 100000 in
theorem lifted (os : Os) (started : os.Started) (H : Type) (enc : TypeId × Value → H) :
    ReturnsInHanded {} Try.checked os 4 .any (Rows.fnEnvCoversAllSpec.pre6 enc Try.prog Try.f4 Rows.fnEnvCoversAllRow.domain false) (Rows.fnEnvCoversAllSpec.post enc Try.prog Try.f4 false true false false) := by
  refine returnsInHanded_of_change (C := Try.checked) own started (by kernel_rfl) Try.func4
    (ChangeSpec.witness6 (enc := enc) (C := Try.checked) false ⟨#[], #[.agg #[.bool false, .float .f64 0, .float .f64 0, .float .f64 0, .float .f64 0], .agg #[.bool false, .float .f64 0, .float .f64 0, .float .f64 0, .float .f64 0], .agg #[.float .f64 0, .float .f64 0]], []⟩ 8 (by kernel_rfl) (by kernel_rfl) (by kernel_rfl) (by kernel_rfl)) ?_
  intro W base args ds gs before hval0 hW hcnd _
  have hval : ∀ (j : Nat) t v, Try.f4.params[j]? = some t → args[j]? = some v → Value.okWide Try.prog W .any base t v := hval0
  have hW' := hW
  obtain ⟨p, q, hA0, hV, rfl, hfz, hnd⟩ := hW
  have hA : DataW.TrodAll enc Try.prog W 0 (fun _ => true) true Try.f4.params.toList args.toList ds p := hA0
  rw [Try.params4] at hA hval
  obtain ⟨v0, vs0, d0, ds0, p0, q0, hargs, rfl, rfl, h0, r0⟩ := trodAll_cons hA
  obtain ⟨v1, vs1, d1, ds1, p1, q1, rfl, rfl, rfl, h1, r1⟩ := trodAll_cons r0
  obtain ⟨v2, vs2, d2, ds2, p2, q2, rfl, rfl, rfl, h2, r2⟩ := trodAll_cons r1
  obtain ⟨rfl, rfl, rfl⟩ := trodAll_nil r2
  obtain rfl : args = #[v0, v1, v2] := by cases args; simp_all
  obtain ⟨rfl, rfl⟩ := trodVars_none hV
  have k0 := h0
  have lt0 : ∀ x ∈ p0, x.block < W.heap.size := by obtain ⟨m, hm⟩ := k0; exact DataW.trod_lt m _ _ _ hm
  have k1 := h1
  have lt1 : ∀ x ∈ p1, x.block < W.heap.size := by obtain ⟨m, hm⟩ := k1; exact DataW.trod_lt m _ _ _ hm
  have k2 := h2
  have lt2 : ∀ x ∈ p2, x.block < W.heap.size := by obtain ⟨m, hm⟩ := k2; exact DataW.trod_lt m _ _ _ hm
  obtain ⟨f, a, b, c, d, rfl⟩ := open_bffff Try.underlying30 Try.underlying4 Try.underlying28 Try.underlying22 Try.underlying22 Try.underlying22 Try.underlying22 (by kernel_rfl) (by kernel_rfl) (by kernel_rfl) (by kernel_rfl) (by kernel_rfl) (by kernel_rfl) (hval 0 30 v0 rfl rfl) h0
  obtain ⟨f', a', b', c', d', rfl⟩ := open_bffff Try.underlying30 Try.underlying4 Try.underlying28 Try.underlying22 Try.underlying22 Try.underlying22 Try.underlying22 (by kernel_rfl) (by kernel_rfl) (by kernel_rfl) (by kernel_rfl) (by kernel_rfl) (by kernel_rfl) (hval 1 30 v1 rfl rfl) h1
  obtain ⟨x, y, rfl⟩ := open_ff Try.underlying32 Try.underlying22 Try.underlying22 (by kernel_rfl) (by kernel_rfl) (hval 2 32 v2 rfl rfl) h2
  refine (envlaw_walk f f' a b c d a' b' c' d' x y W).mono fun e W' ⟨he, bel⟩ => ?_
  subst he
  exact ⟨_, rfl, _, _, _, [], _, [], hW', trodAll_mk1 (shut_bool Try.underlying4 _), (trodAll_cons_mk (Below.trod laidOut (by kernel_rfl) (of_decide_eq_true (by kernel_rfl)) k0 bel lt0) (trodAll_cons_mk (Below.trod laidOut (by kernel_rfl) (of_decide_eq_true (by kernel_rfl)) k1 bel lt1) (trodAll_cons_mk (Below.trod laidOut (by kernel_rfl) (of_decide_eq_true (by kernel_rfl)) k2 bel lt2) trodAll_mk0))), rfl, bel.frame _, fun h => by cases h⟩

theorem over : Rows.fnEnvCoversAllRow.holds Try.pinned (OpenSpec.ofChange Rows.fnEnvCoversAllSpec) :=
  OpenClaim.holds_of_wide 4 Try.f4 rfl rfl rfl rfl rfl rfl rfl ⟨rfl, rfl, rfl, rfl, rfl⟩ rfl rfl rfl rfl rfl (by kernel_rfl) Try.func4 (by kernel_rfl)
    (of_decide_eq_true (by kernel_rfl)) (by unfold Func.isWrapper; first | (rw [if_pos (by decide +kernel)]; kernel_rfl) | (rw [if_neg (by decide +kernel)]; exact ⟨rfl, rfl⟩))
    (fun os started H enc _ => lifted os started H enc)

theorem proved : Rows.FnEnvCoversAllSaid := over
#print axioms proved
end fnEnvCoversAll
end Go.Proofs.Ytcidgicdeedgfaa
