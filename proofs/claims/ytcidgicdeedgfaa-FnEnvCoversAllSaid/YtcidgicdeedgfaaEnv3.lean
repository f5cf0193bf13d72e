/- Walks of the envelope functions that FnEnvCoversAll reaches, third part: what answers yes or no. -/
import Derived.Test.YtcidgicdeedgfaaEnv2
namespace Go.Proofs.Ytcidgicdeedgfaa
open Go.ChangeShapes Go.WideShapes Go.ChangeAt Go.RowKit
open Fl
set_option linter.unusedSimpArgs false
set_option linter.unusedVariables false
attribute [local go_sem] run_store_float run_fadd run_fsub run_fmul run_fdiv run_equalIn_float fmt64

abbrev leb (x y : Nat) : Bool := Ieee.double.order x y == some .lt || Ieee.double.order x y == some .eq
abbrev geb (x y : Nat) : Bool := Ieee.double.order x y == some .gt || Ieee.double.order x y == some .eq

set_option maxHeartbeats 1000000 in
theorem validate_fin (x y : Nat) (w : World) (h1 : isNan x = false) (h2 : isNan y = false) (h3 : isInf x = false) (h4 : isInf y = false) :
    Calls Try.prog 41 #[xv x y] w fun e w' => e = .returned .nilIface ∧ Below w.heap.size w w' := by
  go_enter Try.func41, Try.ntmps41
  go_wp2_with (first
    | (go_at_call 17; refine (isnan_any _ _).mono ?_; rintro e w' ⟨rfl, rfl⟩)
    | (go_at_call 18; refine (isinf_any _ _).mono ?_; rintro e w' ⟨rfl, rfl⟩))
  go_returns
  exact ⟨rfl, by go_grown⟩
set_option maxHeartbeats 1000000 in
theorem contains_yes (a b c d x y : Nat) (w : World) (h1 : isNan x = false) (h2 : isNan y = false) (h3 : isInf x = false) (h4 : isInf y = false)
    (k1 : geb x a = true) (k2 : leb x c = true) (k3 : geb y b = true) (k4 : leb y d = true) :
    Calls Try.prog 28 #[gv a b c d true, xv x y] w fun e w' => e = .returned (.bool true) ∧ Below w.heap.size w w' := by
  have hv := fun w => validate_fin x y w h1 h2 h3 h4
  clear h1 h2 h3 h4
  go_enter Try.func28, Try.ntmps28
  go_wp2_with (first
    | (go_at_call 37; refine (isempty_any _ _ _ _ _ _).mono ?_; rintro e w1 ⟨rfl, hb⟩; (first | (replace hS := chainB hS (by go_grown) hb; clear hb) | (have hS := hb; clear hb)); obtain ⟨hcS, hfS⟩ := bcell hS; (try simp only [World.size_alloc, World.size_setCell, World.size_drew] at hcS hfS))
    | (go_at_call 41; refine (hv _).mono ?_; rintro e w1 ⟨rfl, hb⟩; (first | (replace hS := chainB hS (by go_grown) hb; clear hb) | (have hS := hb; clear hb)); obtain ⟨hcS, hfS⟩ := bcell hS; (try simp only [World.size_alloc, World.size_setCell, World.size_drew] at hcS hfS)))
  go_returns
  exact ⟨rfl, Below.trans (by go_grown) (hS.mono (by go_size))⟩
set_option maxHeartbeats 1000000 in
theorem covers_any (a b c d a' b' c' d' : Nat) (w : World) :
    Calls Try.prog 30 #[gv a b c d true, gv a' b' c' d' true] w fun e w' => e = .returned (.bool (leb a a' && leb b b' && geb c c' && geb d d')) ∧ Below w.heap.size w w' := by
  cases k1 : leb a a' with
  | false =>
    go_enter Try.func30, Try.ntmps30
    go_wp2_with (go_at_call 37; refine (isempty_any _ _ _ _ _ _).mono ?_; rintro e w1 ⟨rfl, hb⟩; (first | (replace hS := chainB hS (by go_grown) hb; clear hb) | (have hS := hb; clear hb)); obtain ⟨hcS, hfS⟩ := bcell hS; (try simp only [World.size_alloc, World.size_setCell, World.size_drew] at hcS hfS))
    go_returns
    exact ⟨rfl, Below.trans (by go_grown) (hS.mono (by go_size))⟩
  | true =>
  cases k2 : leb b b' with
  | false =>
    go_enter Try.func30, Try.ntmps30
    go_wp2_with (go_at_call 37; refine (isempty_any _ _ _ _ _ _).mono ?_; rintro e w1 ⟨rfl, hb⟩; (first | (replace hS := chainB hS (by go_grown) hb; clear hb) | (have hS := hb; clear hb)); obtain ⟨hcS, hfS⟩ := bcell hS; (try simp only [World.size_alloc, World.size_setCell, World.size_drew] at hcS hfS))
    go_returns
    exact ⟨rfl, Below.trans (by go_grown) (hS.mono (by go_size))⟩
  | true =>
  cases k3 : geb c c' with
  | false =>
    go_enter Try.func30, Try.ntmps30
    go_wp2_with (go_at_call 37; refine (isempty_any _ _ _ _ _ _).mono ?_; rintro e w1 ⟨rfl, hb⟩; (first | (replace hS := chainB hS (by go_grown) hb; clear hb) | (have hS := hb; clear hb)); obtain ⟨hcS, hfS⟩ := bcell hS; (try simp only [World.size_alloc, World.size_setCell, World.size_drew] at hcS hfS))
    go_returns
    exact ⟨rfl, Below.trans (by go_grown) (hS.mono (by go_size))⟩
  | true =>
    go_enter Try.func30, Try.ntmps30
    go_wp2_with (go_at_call 37; refine (isempty_any _ _ _ _ _ _).mono ?_; rintro e w1 ⟨rfl, hb⟩; (first | (replace hS := chainB hS (by go_grown) hb; clear hb) | (have hS := hb; clear hb)); obtain ⟨hcS, hfS⟩ := bcell hS; (try simp only [World.size_alloc, World.size_setCell, World.size_drew] at hcS hfS))
    go_returns
    exact ⟨rfl, Below.trans (by go_grown) (hS.mono (by go_size))⟩
set_option maxHeartbeats 6000000 in
theorem plainenv_full (a b c d : Nat) (w : World) :
    Calls Try.prog 25 #[gv a b c d true] w fun e w' => e = .returned (ev true a b c d) ∧ Below w.heap.size w w' := by
  go_enter Try.func25, Try.ntmps25
  go_wp2_with fail
  refine (minmax_full _ _ _ _ _).mono ?_
  rintro e w1 ⟨rfl, hb⟩
  have R := (Blk.new (w.alloc (.cells #[fv a, fv b, fv c, fv d, .bool true] 54)) [.bool false, fv 0, fv 0, fv 0, fv 0] 30).keep hb (by simp)
  simp only [World.size_alloc] at R
  have H : Below w.heap.size w w1 := Below.trans (by go_grown) (hb.mono (by go_size))
  have hw1 : w.heap.size + 1 < w1.heap.size := R.lt
  have hw0 : w.heap.size < w1.heap.size := by omega
  obtain ⟨R0, R1, R2, R3, R4, G0, G1, G2, G3, G4⟩ := R.c5
  clear R hb
  go_wp2_with fail
  refine bodyPost_ret (v := ev true a b c d) (by simp [results, Try.results25, go_sem, *]) rfl ⟨rfl, by go_grown⟩
end Go.Proofs.Ytcidgicdeedgfaa
