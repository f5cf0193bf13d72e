/- The law's helper eFits, of two envelopes. -/
import Derived.Test.YtcidgicdeedgfaaEnv4
namespace Go.Proofs.Ytcidgicdeedgfaa
open Go.ChangeShapes Go.WideShapes Go.ChangeAt Go.RowKit
open Fl
set_option linter.unusedSimpArgs false
set_option linter.unusedVariables false
attribute [local go_sem] run_store_float run_fadd run_fsub run_fmul run_fdiv run_equalIn_float fmt64

def fitB (f : Bool) (a b c d : Nat) : Bool := !(f && !fin4 a b c d)
set_option maxHeartbeats 4000000 in
theorem efits_two (f f' : Bool) (a b c d a' b' c' d' r : Nat) (w : World) (hB : Blk w r [.bool f, fv a, fv b, fv c, fv d, .bool f', fv a', fv b', fv c', fv d'] 30) :
    Calls Try.prog 9 #[.slice (some ⟨r, 0, none⟩) 2 2] w fun e w' => e = .returned (.bool (fitB f a b c d && fitB f' a' b' c' d')) ∧ Below w.heap.size w w' := by
  have hbl := hB.lt
  go_enter Try.func9, Try.ntmps9
  go_wp2_with fail
  go_loopw [7] (fun i wr => ∃ k : Nat, k ≤ 2 ∧ i = .int .i64 (k : Int) ∧ Below w.heap.size w wr ∧ (1 ≤ k → fitB f a b c d = true) ∧ (2 ≤ k → fitB f' a' b' c' d' = true))
    (fun i _ => 2 - (intOf i).toNat)
  case atStart =>
    exact ⟨0, Nat.zero_le _, rfl, by go_grown, by omega, by omega⟩
  case round =>
    obtain ⟨k, hk, rfl, hS, q1, q2⟩ := hrel
    have R := hB.keep hS hbl
    have hSz := hS.size
    match k, hk, q1, q2 with
    | 0, _, _, _ =>
      have c0 := R.cell 0
      have c1 := R.cell 1
      have c2 := R.cell 2
      have c3 := R.cell 3
      have c4 := R.cell 4
      simp only [List.getElem?_cons_zero, List.getElem?_cons_succ] at c0 c1 c2 c3 c4
      have hbr := R.lt
      clear R hB q1 q2
      cases h1 : f <;> cases h2 : fin4 a b c d
      all_goals
        subst h1
        go_wp2_with (go_at_call 22; refine (efinite_any _ _ _ _ _).mono ?_; rintro e w1 ⟨rfl, hb⟩; (first | (replace hS := chainB hS (by go_grown) hb; clear hb) | (have hS := hb; clear hb)); obtain ⟨hcS, hfS⟩ := bcell hS; (try simp only [World.size_alloc, World.size_setCell, World.size_drew] at hcS hfS))
        first
        | (go_roundw
           case rel => exact ⟨1, by omega, by go_num, by go_grown, fun _ => by simp [fitB, h2], by omega⟩
           case measure => simp [intOf])
        | (refine bodyPost_ret (v := .bool (fitB true a b c d && fitB f' a' b' c' d')) (by simp [results, Try.results9, go_sem, fitB, h2]) rfl ⟨rfl, by go_grown⟩)
    | 1, _, q1, _ =>
      have c0 := R.cell 5
      have c1 := R.cell 6
      have c2 := R.cell 7
      have c3 := R.cell 8
      have c4 := R.cell 9
      simp only [List.getElem?_cons_zero, List.getElem?_cons_succ] at c0 c1 c2 c3 c4
      have hbr := R.lt
      have p1 := Lib.hid (q1 (by omega))
      clear R hB q1 q2
      cases h1 : f' <;> cases h2 : fin4 a' b' c' d'
      all_goals
        subst h1
        go_wp2_with (go_at_call 22; refine (efinite_any _ _ _ _ _).mono ?_; rintro e w1 ⟨rfl, hb⟩; (first | (replace hS := chainB hS (by go_grown) hb; clear hb) | (have hS := hb; clear hb)); obtain ⟨hcS, hfS⟩ := bcell hS; (try simp only [World.size_alloc, World.size_setCell, World.size_drew] at hcS hfS))
        first
        | (go_roundw
           case rel => exact ⟨2, by omega, by go_num, by go_grown, fun _ => p1.out, fun _ => by simp [fitB, h2]⟩
           case measure => simp [intOf])
        | (refine bodyPost_ret (v := .bool (fitB f a b c d && fitB true a' b' c' d')) (by simp [results, Try.results9, go_sem, fitB, h2]) rfl ⟨rfl, by go_grown⟩)
    | 2, _, q1, q2 =>
      have p1 := Lib.hid (q1 (by omega))
      have p2 := Lib.hid (q2 (by omega))
      clear R hB q1 q2
      go_wp2_with fail
      refine bodyPost_ret (v := .bool true) (by simp [results, Try.results9, go_sem]) rfl ⟨by rw [p1.out, p2.out]; rfl, by go_grown⟩
    | k + 3, h, _, _ => omega
end Go.Proofs.Ytcidgicdeedgfaa
