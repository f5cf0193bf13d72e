/- The law's helpers on envelopes: eOf, eMade, eHas, eFits. -/
import Derived.Test.YtcidgicdeedgfaaEnv4
import Derived.Deep.DeepCutAuto
namespace Go.Proofs.Ytcidgicdeedgfaa
open Go.ChangeShapes Go.WideShapes Go.ChangeAt Go.RowKit
open Fl
set_option linter.unusedSimpArgs false
set_option linter.unusedVariables false
attribute [local go_sem] run_store_float run_fadd run_fsub run_fmul run_fdiv run_equalIn_float fmt64

def emin (p r : Nat) : Nat := if (Ieee.double.order r p == some .lt) = true then r else p
def emax (p r : Nat) : Nat := if (Ieee.double.order r p == some .gt) = true then r else p
def ecells (p q r s : Nat) : Nat → List Value
  | 0 => [.bool false, fv 0, fv 0, fv 0, fv 0]
  | 1 => [.bool true, fv p, fv q, fv p, fv q]
  | _ => [.bool true, fv (emin p r), fv (emin q s), fv (emax p r), fv (emax q s)]
theorem Blk.as {w : World} {b : Nat} {cs cs' : List Value} {T : TypeId} (h : Blk w b cs T) (e : cs = cs') : Blk w b cs' T := e ▸ h
set_option maxHeartbeats 40000000 in
theorem eof_two (p q r s b : Nat) (w : World) (hB : Blk w b [fv p, fv q, fv r, fv s] 32) :
    Calls Try.prog 23 #[.slice (some ⟨b, 0, none⟩) 2 2] w fun e w' => e = .returned (ev true (emin p r) (emin q s) (emax p r) (emax q s)) ∧ Below w.heap.size w w' := by
  have hbl := hB.lt
  go_enter Try.func23, Try.ntmps23
  go_wp2_with fail
  go_loopw [8] (fun i wr => ∃ k : Nat, k ≤ 2 ∧ i = .int .i64 (k : Int) ∧ Below w.heap.size w wr ∧ Blk wr w.heap.size [.bool false, fv 0, fv 0, fv 0, fv 0] 30 ∧ Blk wr (w.heap.size + 1) (ecells p q r s k) 30)
    (fun i _ => 2 - (intOf i).toNat)
  case atStart =>
    refine ⟨0, Nat.zero_le _, rfl, by go_grown, Blk.alloc (Blk.new w [.bool false, fv 0, fv 0, fv 0, fv 0] _) _, ?_⟩
    have := Blk.new (w.alloc (.cells [.bool false, fv 0, fv 0, fv 0, fv 0].toArray 30)) [.bool false, fv 0, fv 0, fv 0, fv 0] 30
    rw [World.size_alloc] at this
    exact this
  case round =>
    obtain ⟨k, hk, rfl, H, R, B⟩ := hrel
    obtain ⟨c0, c1, c2, c3, d0, d1, d2, d3⟩ := (hB.keep H hbl).c4
    have hb2 := B.lt
    match k, hk, B with
    | 0, _, B =>
      obtain ⟨B0, B1, B2, B3, B4, F0, F1, F2, F3, F4⟩ := Blk.c5 (T := 30) (show Blk wr (w.heap.size + 1) [.bool false, fv 0, fv 0, fv 0, fv 0] 30 from B)
      have HB := Lib.hid B
      have HR := Lib.hid R
      clear B R hB
      go_wp2_with fail
      go_roundw
      case rel =>
        exact ⟨1, by omega, by go_num, (((((H.setCell (p := ⟨w.heap.size + 1, 0, none⟩) (by simp) _).setCell (p := ⟨w.heap.size + 1, 1, none⟩) (by simp) _).setCell (p := ⟨w.heap.size + 1, 2, none⟩) (by simp) _).setCell (p := ⟨w.heap.size + 1, 3, none⟩) (by simp) _).setCell (p := ⟨w.heap.size + 1, 4, none⟩) (by simp) _).alloc (by simp only [World.size_setCell]; exact H.size) _, (((((HR.out.other (p := ⟨w.heap.size + 1, 0, none⟩) (by simp) _).other (p := ⟨w.heap.size + 1, 1, none⟩) (by simp) _).other (p := ⟨w.heap.size + 1, 2, none⟩) (by simp) _).other (p := ⟨w.heap.size + 1, 3, none⟩) (by simp) _).other (p := ⟨w.heap.size + 1, 4, none⟩) (by simp) _).alloc _, (((((HB.out.set 0 _).set 1 _).set 2 _).set 3 _).set 4 _).alloc _⟩
      case measure => simp [intOf]
    | 1, _, B =>
      obtain ⟨B0, B1, B2, B3, B4, F0, F1, F2, F3, F4⟩ := Blk.c5 (T := 30) (show Blk wr (w.heap.size + 1) [.bool true, fv p, fv q, fv p, fv q] 30 from B)
      have HX := Lib.hid (show Below w.heap.size w (wr.alloc (.cells #[fv r, fv s] 32)) ∧ Blk (wr.alloc (.cells #[fv r, fv s] 32)) w.heap.size [.bool false, fv 0, fv 0, fv 0, fv 0] 30 ∧
        Blk (wr.alloc (.cells #[fv r, fv s] 32)) wr.heap.size [fv r, fv s] 32 ∧ Blk (wr.alloc (.cells #[fv r, fv s] 32)) (w.heap.size + 1) [.bool true, fv p, fv q, fv p, fv q] 30 from
        ⟨by go_grown, R.alloc _, Blk.new wr [fv r, fv s] _, B.alloc _⟩)
      have HB := Lib.hid (show Blk wr (w.heap.size + 1) [.bool true, fv p, fv q, fv p, fv q] 30 from B)
      have HR := Lib.hid R
      clear B R hB
      go_upto_if 30 with fail
      go_cut [] (fun wx => Below w.heap.size w wx ∧ Blk wx w.heap.size [.bool false, fv 0, fv 0, fv 0, fv 0] 30 ∧ Blk wx wr.heap.size [fv r, fv s] 32 ∧ Blk wx (w.heap.size + 1) [.bool true, fv (emin p r), fv q, fv p, fv q] 30)
      case first =>
        obtain ⟨X1, X2, X3, X4⟩ := HX.out
        have hne1 : w.heap.size + 1 ≠ w.heap.size := by omega
        have hne2 : w.heap.size + 1 ≠ wr.heap.size := by omega
        cases h1 : (Ieee.double.order r p == some .lt)
        · go_wp2_with fail
          go_meet
          refine ⟨X1, X2, X3, X4.as (by simp only [emin, h1]; rfl)⟩
        · go_wp2_with fail
          go_meet
          have HN := Blk.new (wr.setCell ⟨w.heap.size + 1, 1, none⟩ (fv r)) [fv r, fv s] 32
          rw [World.size_setCell] at HN
          refine ⟨(H.setCell (p := ⟨w.heap.size + 1, 1, none⟩) (by simp) _).alloc (by simp only [World.size_setCell]; exact H.size) _, (HR.out.other (p := ⟨w.heap.size + 1, 1, none⟩) (by simp) _).alloc _, HN, ((HB.out.set 1 _).alloc _).as (by simp only [emin, h1]; rfl)⟩
      clear HX B0 B1 B2 B3 B4 F0 F1 F2 F3 F4
      obtain ⟨X1, X2, X3, X4⟩ := hcut
      have HX := Lib.hid (And.intro X1 (And.intro X2 (And.intro X3 X4)))
      obtain ⟨B0, B1, B2, B3, B4, F0, F1, F2, F3, F4⟩ := X4.c5
      have hzz := X4.lt
      obtain ⟨P0, P1, PF0, PF1⟩ := X3.c2
      clear X1 X2 X3 X4
      go_upto_if 40 with fail
      go_cut [] (fun wx => Below w.heap.size w wx ∧ Blk wx w.heap.size [.bool false, fv 0, fv 0, fv 0, fv 0] 30 ∧ Blk wx wr.heap.size [fv r, fv s] 32 ∧ Blk wx (w.heap.size + 1) [.bool true, fv (emin p r), fv q, fv (emax p r), fv q] 30)
      case first =>
        obtain ⟨X1, X2, X3, X4⟩ := HX.out
        have hne1 : w.heap.size + 1 ≠ w.heap.size := by omega
        have hne2 : w.heap.size + 1 ≠ wr.heap.size := by omega
        cases h1 : (Ieee.double.order r p == some .gt)
        · go_wp2_with fail
          go_meet
          refine ⟨X1, X2, X3, X4.as (by simp only [emax, h1]; rfl)⟩
        · go_wp2_with fail
          go_meet
          refine ⟨X1.setCell (p := ⟨w.heap.size + 1, 3, none⟩) (by simp) _, X2.other (p := ⟨w.heap.size + 1, 3, none⟩) (by simp) _, X3.other (p := ⟨w.heap.size + 1, 3, none⟩) hne2 _, (X4.set 3 _).as (by simp only [emax, h1]; rfl)⟩
      clear HX P0 P1 PF0 PF1 B0 B1 B2 B3 B4 F0 F1 F2 F3 F4
      obtain ⟨X1, X2, X3, X4⟩ := hcut
      have HX := Lib.hid (And.intro X1 (And.intro X2 (And.intro X3 X4)))
      obtain ⟨B0, B1, B2, B3, B4, F0, F1, F2, F3, F4⟩ := X4.c5
      have hzz := X4.lt
      obtain ⟨P0, P1, PF0, PF1⟩ := X3.c2
      clear X1 X2 X3 X4
      go_upto_if 50 with fail
      go_cut [] (fun wx => Below w.heap.size w wx ∧ Blk wx w.heap.size [.bool false, fv 0, fv 0, fv 0, fv 0] 30 ∧ Blk wx wr.heap.size [fv r, fv s] 32 ∧ Blk wx (w.heap.size + 1) [.bool true, fv (emin p r), fv (emin q s), fv (emax p r), fv q] 30)
      case first =>
        obtain ⟨X1, X2, X3, X4⟩ := HX.out
        have hne1 : w.heap.size + 1 ≠ w.heap.size := by omega
        have hne2 : w.heap.size + 1 ≠ wr.heap.size := by omega
        cases h1 : (Ieee.double.order s q == some .lt)
        · go_wp2_with fail
          go_meet
          refine ⟨X1, X2, X3, X4.as (by simp only [emin, h1]; rfl)⟩
        · go_wp2_with fail
          go_meet
          refine ⟨X1.setCell (p := ⟨w.heap.size + 1, 2, none⟩) (by simp) _, X2.other (p := ⟨w.heap.size + 1, 2, none⟩) (by simp) _, X3.other (p := ⟨w.heap.size + 1, 2, none⟩) hne2 _, (X4.set 2 _).as (by simp only [emin, h1]; rfl)⟩
      clear HX P0 P1 PF0 PF1 B0 B1 B2 B3 B4 F0 F1 F2 F3 F4
      obtain ⟨X1, X2, X3, X4⟩ := hcut
      have HX := Lib.hid (And.intro X1 (And.intro X2 (And.intro X3 X4)))
      obtain ⟨B0, B1, B2, B3, B4, F0, F1, F2, F3, F4⟩ := X4.c5
      have hzz := X4.lt
      obtain ⟨P0, P1, PF0, PF1⟩ := X3.c2
      clear X1 X2 X3 X4
      obtain ⟨X1, X2, X3, X4⟩ := HX.out
      have hne1 : w.heap.size + 1 ≠ w.heap.size := by omega
      have X1 := Lib.hid X1
      have X2 := Lib.hid X2
      have X4 := Lib.hid X4
      clear X3 HX
      cases h1 : (Ieee.double.order s q == some .gt)
      · go_wp2_with fail
        go_roundw
        case rel => exact ⟨2, by omega, by go_num, X1.out, X2.out, X4.out.as (by simp only [ecells, emax, h1]; rfl)⟩
        case measure => simp [intOf]
      · go_wp2_with fail
        go_roundw
        case rel =>
          refine ⟨2, by omega, by go_num, X1.out.setCell (p := ⟨w.heap.size + 1, 4, none⟩) (by simp) _, X2.out.other (p := ⟨w.heap.size + 1, 4, none⟩) (by simp) _, (X4.out.set 4 _).as (by simp only [ecells, emax, h1]; rfl)⟩
        case measure => simp [intOf]
    | 2, _, B =>
      obtain ⟨B0, B1, B2, B3, B4, F0, F1, F2, F3, F4⟩ := Blk.c5 (T := 30) (show Blk wr (w.heap.size + 1) [.bool true, fv (emin p r), fv (emin q s), fv (emax p r), fv (emax q s)] 30 from B)
      obtain ⟨R0, R1, R2, R3, R4, G0, G1, G2, G3, G4⟩ := R.c5
      clear B R hB
      go_wp2_with fail
      refine bodyPost_ret (v := ev true (emin p r) (emin q s) (emax p r) (emax q s)) (by simp [results, Try.results23, go_sem, *]) rfl ⟨rfl, by go_grown⟩
    | k + 3, h, _ => omega
theorem emade_none (a b c d : Nat) (w : World) :
    Calls Try.prog 11 #[ev false a b c d] w fun e w' => e = .returned (ev false 0 0 0 0) ∧ Below w.heap.size w w' := by
  go_enter Try.func11, Try.ntmps11
  go_wp2_with (first
    | (go_at_call 24; refine (ecorners_none _ _ _ _ _).mono ?_; rintro e w1 ⟨rfl, hb⟩; (first | (replace hS := chainB hS (by go_grown) hb; clear hb) | (have hS := hb; clear hb)); obtain ⟨hcS, hfS⟩ := bcell hS; (try simp only [World.size_alloc, World.size_setCell, World.size_drew] at hcS hfS))
    | (go_at_call 23; refine (eof_none _).mono ?_; rintro e w1 ⟨rfl, hb⟩; (first | (replace hS := chainB hS (by go_grown) hb; clear hb) | (have hS := hb; clear hb)); obtain ⟨hcS, hfS⟩ := bcell hS; (try simp only [World.size_alloc, World.size_setCell, World.size_drew] at hcS hfS)))
  have HB := Below.trans (B := w.heap.size) (a := w) (by go_grown) (hS.mono (by go_size))
  refine bodyPost_ret (v := ev false 0 0 0 0) (by simp [results, Try.results11, go_sem, *]) rfl ⟨rfl, by go_grown⟩
theorem emade_full (a b c d : Nat) (w : World) :
    Calls Try.prog 11 #[ev true a b c d] w fun e w' => e = .returned (ev true (emin a c) (emin b d) (emax a c) (emax b d)) ∧ Below w.heap.size w w' := by
  go_enter Try.func11, Try.ntmps11
  go_wp2_with fail
  refine (ecorners_full _ _ _ _ _).mono ?_
  rintro e w1 ⟨⟨r, rfl, hr, HB⟩, hb⟩
  have hS := hb
  clear hb
  obtain ⟨hcS, hfS⟩ := bcell hS
  (try simp only [World.size_alloc, World.size_setCell, World.size_drew] at hcS hfS)
  go_wp2_with fail
  refine (eof_two _ _ _ _ _ _ HB).mono ?_
  clear HB
  rintro e w1 ⟨rfl, hb⟩; (first | (replace hS := chainB hS (by go_grown) hb; clear hb) | (have hS := hb; clear hb)); obtain ⟨hcS, hfS⟩ := bcell hS; (try simp only [World.size_alloc, World.size_setCell, World.size_drew] at hcS hfS)
  go_wp2_with fail
  have HB := Below.trans (B := w.heap.size) (a := w) (by go_grown) (hS.mono (by go_size))
  refine bodyPost_ret (v := ev true (emin a c) (emin b d) (emax a c) (emax b d)) (by simp [results, Try.results11, go_sem, *]) rfl ⟨rfl, by go_grown⟩
set_option maxHeartbeats 1000000 in
theorem ehas_none (a b c d x y : Nat) (w : World) :
    Calls Try.prog 10 #[ev false a b c d, xv x y] w fun e w' => e = .returned (.bool false) ∧ Below w.heap.size w w' := by
  go_enter Try.func10, Try.ntmps10
  go_wp2
  go_returns
  exact ⟨rfl, by go_grown⟩
set_option maxHeartbeats 1000000 in
theorem ehas_full (a b c d x y : Nat) (w : World) :
    Calls Try.prog 10 #[ev true a b c d, xv x y] w fun e w' => e = .returned (.bool (leb a x && leb x c && leb b y && leb y d)) ∧ Below w.heap.size w w' := by
  cases k1 : leb a x with
  | false =>
    go_enter Try.func10, Try.ntmps10
    go_wp2
    go_returns
    exact ⟨rfl, by go_grown⟩
  | true =>
  cases k2 : leb x c with
  | false =>
    go_enter Try.func10, Try.ntmps10
    go_wp2
    go_returns
    exact ⟨rfl, by go_grown⟩
  | true =>
  cases k3 : leb b y with
  | false =>
    go_enter Try.func10, Try.ntmps10
    go_wp2
    go_returns
    exact ⟨rfl, by go_grown⟩
  | true =>
    go_enter Try.func10, Try.ntmps10
    go_wp2
    go_returns
    exact ⟨rfl, by go_grown⟩
end Go.Proofs.Ytcidgicdeedgfaa
