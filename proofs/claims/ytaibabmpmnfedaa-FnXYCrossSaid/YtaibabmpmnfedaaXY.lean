/- Walks of the functions that FnXYCross reaches: each returns what its float operations give; nothing that existed is changed. Conditions: the operations are valid (finite operands), as each theorem says. -/
import Derived.Test.YtaibabmpmnfedaaBase
import Derived.Handy
namespace Go.Proofs.Ytaibabmpmnfedaa
open Go.ChangeShapes Go.WideShapes Go.ChangeAt Go.RowKit
open Fl
set_option linter.unusedSimpArgs false
set_option linter.unusedVariables false
attribute [local go_sem] run_store_float run_fadd run_fsub run_fmul run_fdiv fmt64

set_option maxHeartbeats 400000 in
theorem xy_any (x y : Nat) (w : World) :
    Calls Try.prog 21 #[.agg #[.float .f64 x, .float .f64 y]] w fun e w' => e = .returned (.agg #[.float .f64 x, .float .f64 y]) ∧ Below w.heap.size w w' := by
  go_enter Try.func21, Try.ntmps21
  go_wp2
  go_returns
  exact ⟨rfl, by go_grown⟩
set_option maxHeartbeats 400000 in
theorem cross_any (a b c d : Nat) (w : World) (h1 : Ieee.double.mul a d = some (fmul a d)) (h2 : Ieee.double.mul b c = some (fmul b c)) (h3 : Ieee.double.sub (fmul a d) (fmul b c) = some (fsub (fmul a d) (fmul b c))) :
    Calls Try.prog 22 #[.agg #[.float .f64 a, .float .f64 b], .agg #[.float .f64 c, .float .f64 d]] w fun e w' => e = .returned (.float .f64 (fsub (fmul a d) (fmul b c))) ∧ Below w.heap.size w w' := by
  go_enter Try.func22, Try.ntmps22
  go_wp2
  go_returns
  exact ⟨rfl, by go_grown⟩
set_option maxHeartbeats 1000000 in
theorem xycross_any (a b c d : Nat) (w : World) (h1 : Ieee.double.mul a d = some (fmul a d)) (h2 : Ieee.double.mul b c = some (fmul b c)) (h3 : Ieee.double.sub (fmul a d) (fmul b c) = some (fsub (fmul a d) (fmul b c))) :
    Calls Try.prog 11 #[.agg #[.float .f64 a, .float .f64 b], .agg #[.float .f64 c, .float .f64 d]] w fun e w' => e = .returned (.float .f64 (fsub (fmul a d) (fmul b c))) ∧ Below w.heap.size w w' := by
  go_enter Try.func11, Try.ntmps11
  go_wp2_with fail
  go_region_held3 (fun w' => Below w.heap.size w w' ∧ w.heap.size + 2 ≤ w'.heap.size ∧ w'.cell? ⟨w.heap.size, 0, none⟩ = some (.float .f64 a) ∧ w'.cell? ⟨w.heap.size, 1, none⟩ = some (.float .f64 b) ∧ w'.cell? ⟨w.heap.size + 1, 0, none⟩ = some (.float .f64 c) ∧ w'.cell? ⟨w.heap.size + 1, 1, none⟩ = some (.float .f64 d))
    (((try go_split_ands); (try have hz := hb.size); (repeat' apply And.intro) <;> first | go_keep | (exact (hb.cell (by (try simp) <;> omega)).trans (by assumption)) | (exact Below.trans (by assumption) (hb.mono (by (try simp) <;> omega))) | (go_grown; done) | omega | ((try simp at hz ⊢) <;> omega)))
    (first
     | (go_at_call 21; refine (xy_any _ _ _).mono ?_; rintro e w' ⟨rfl, hb⟩)
     | (go_at_call 22; refine (cross_any _ _ _ _ _ h1 h2 h3).mono ?_; rintro e w' ⟨rfl, hb⟩))
  go_wp2
  go_returns
  exact ⟨rfl, by go_split_ands; assumption⟩

/-! ### whole numbers -/
theorem arch_call (args : Array Value) (w : World) : (callFunc 38 args).run Try.prog w = (((Extern.MathFloor.toIntegral "math.archTrunc" .zero) args).run Try.prog w).andThen fun v w' => .ok (.value v) w' :=
  run_callFunc_extern Try.func38 (by kernel_rfl) (by kernel_rfl) (by kernel_rfl) (by kernel_rfl) args w
theorem arch_num (x : Nat) (h : isNan x = false) (w : World) : (callFunc 38 #[.float .f64 x]).run Try.prog w = .ok (.value (.float .f64 (truncW x))) w := by
  rw [arch_call]
  unfold truncW
  unfold isNan at h
  show (Sem.run Try.prog (match dec x with | .nan s t => _ | d => _) w).andThen _ = _
  cases hd : dec x with
  | nan s t => rw [hd] at h; simp [Ieee.Datum.isNaN] at h
  | infinity s => rfl
  | number s m e => rfl
theorem arch_nan (x : Nat) (h : isNan x = true) (w : World) : ∃ r w1, (callFunc 38 #[.float .f64 x]).run Try.prog w = .ok (.value (.float .f64 r)) w1 ∧ Below w.heap.size w w1 := by
  unfold isNan at h
  have e : (callFunc 38 #[.float .f64 x]).run Try.prog w = _ := arch_call _ _
  rw [e]
  cases hd : dec x with
  | number s m e => rw [hd] at h; simp [Ieee.Datum.isNaN] at h
  | infinity s => rw [hd] at h; simp [Ieee.Datum.isNaN] at h
  | nan s t =>
    have hd' : FloatKind.f64.decode x = .nan s t := hd
    show ∃ r w1, (Sem.run Try.prog (match FloatKind.f64.decode x with
      | .nan s t => if FloatKind.f64.format.quiet t = t then pure (Value.float .f64 x) else (do
          let kept ← choose (.extern "math.Floor,Ceil,Trunc,RoundToEven.signallingNaN kept" 2)
          pure (Value.float .f64 (if kept == 1 then x else FloatKind.f64.encode (.nan s (FloatKind.f64.format.quiet t)))))
      | d => pure (Value.float .f64 (FloatKind.f64.encode (d.integral .zero)))) w).andThen _ = _ ∧ _
    rw [hd']
    show ∃ r w1, (Sem.run Try.prog (if FloatKind.f64.format.quiet t = t then pure (Value.float .f64 x) else (do
          let kept ← choose (.extern "math.Floor,Ceil,Trunc,RoundToEven.signallingNaN kept" 2)
          pure (Value.float .f64 (if kept == 1 then x else FloatKind.f64.encode (.nan s (FloatKind.f64.format.quiet t)))))) w).andThen _ = _ ∧ _
    by_cases hq : FloatKind.f64.format.quiet t = t
    · rw [if_pos hq]
      exact ⟨x, w, rfl, Below.refl _ _⟩
    · rw [if_neg hq]
      exact ⟨_, w.drew, rfl, (Below.refl _ _).drew⟩
theorem order_nan (x r : Nat) (h : isNan x = true) : Ieee.double.order x r = none := by
  unfold isNan dec at h
  show (Ieee.double.read x).order _ = none
  cases hd : Ieee.double.read x with
  | nan s t => rfl
  | number s m e => rw [hd] at h; simp [Ieee.Datum.isNaN] at h
  | infinity s => rw [hd] at h; simp [Ieee.Datum.isNaN] at h

/-- math.Trunc of a word that is no NaN -/
theorem trunc_num (x : Nat) (h : isNan x = false) (w : World) :
    Calls Try.prog 31 #[.float .f64 x] w fun e w' => e = .returned (.float .f64 (truncW x)) ∧ w = w' := by
  have ha := arch_num x h
  go_enter Try.func31, Try.ntmps31
  go_wp2
  go_returns
  exact ⟨rfl, rfl⟩
def SomeFloat (w : World) (e : Ending) (w' : World) : Prop := ∃ r, e = .returned (.float .f64 r) ∧ Below w.heap.size w w'
theorem trunc_nan (x : Nat) (h : isNan x = true) (w : World) :
    Calls Try.prog 31 #[.float .f64 x] w (SomeFloat w) := by
  obtain ⟨r, w1, ha, hb⟩ := arch_nan x h w
  go_enter Try.func31, Try.ntmps31
  go_wp2
  go_returns
  exact ⟨r, rfl, hb⟩

/-- gWhole, as a test on the word -/
def wholeB (x : Nat) : Bool := wholeIn 13920626448202203136 4697254411347427328 x
set_option maxHeartbeats 400000 in
theorem gwhole_any (x : Nat) (w : World) :
    Calls Try.prog 20 #[.float .f64 x] w fun e w' => e = .returned (.bool (wholeB x)) ∧ Below w.heap.size w w' := by
  cases hn : isNan x with
  | true =>
    have hw : wholeB x = false := by simp [wholeB, wholeIn, hn]
    rw [hw]
    have ho := fun r => order_nan x r hn
    clear hw
    go_enter Try.func20, Try.ntmps20
    go_wp2_with (go_at_call 31; refine (trunc_nan x hn _).mono ?_; rintro e w' ⟨r, rfl, hb⟩)
    go_returns
    exact ⟨rfl, hb⟩
  | false =>
    cases h1 : (Ieee.double.order x (truncW x) == some .eq) with
    | false =>
      have hw : wholeB x = false := by simp [wholeB, wholeIn, hn, h1]
      rw [hw]
      clear hw
      go_enter Try.func20, Try.ntmps20
      go_wp2_with (go_at_call 31; refine (trunc_num x hn _).mono ?_; rintro e w' ⟨rfl, rfl⟩)
      go_returns
      exact ⟨rfl, Below.refl _ _⟩
    | true =>
      cases h2 : (Ieee.double.order x 13920626448202203136 == some .gt || Ieee.double.order x 13920626448202203136 == some .eq) with
      | false =>
        have hw : wholeB x = false := by simp only [wholeB, wholeIn, hn, h1, h2]; simp
        rw [hw]
        clear hw
        go_enter Try.func20, Try.ntmps20
        go_wp2_with (go_at_call 31; refine (trunc_num x hn _).mono ?_; rintro e w' ⟨rfl, rfl⟩)
        go_returns
        exact ⟨rfl, Below.refl _ _⟩
      | true =>
        have hw : wholeB x = (Ieee.double.order x 4697254411347427328 == some .lt || Ieee.double.order x 4697254411347427328 == some .eq) := by simp only [wholeB, wholeIn, hn, h1, h2]; simp
        rw [hw]
        clear hw
        go_enter Try.func20, Try.ntmps20
        go_wp2_with (go_at_call 31; refine (trunc_num x hn _).mono ?_; rintro e w' ⟨rfl, rfl⟩)
        go_returns
        exact ⟨rfl, Below.refl _ _⟩

theorem wholeB_isI {x : Nat} (h : wholeB x = true) : ∃ n : Int, isI x n ∧ -1048576 ≤ n ∧ n ≤ 1048576 :=
  wholeIn_isI isI_neg20 isI_pos20 (by omega) (by omega) h

/-! ### vWhole of two places -/
def whole4 (a b c d : Nat) : Bool := wholeB a && wholeB b && wholeB c && wholeB d
set_option maxHeartbeats 1000000 in
theorem vwhole_two (a b c d k : Nat) (w : World) (c0 : w.cell? ⟨k, 0, none⟩ = some (.float .f64 a)) (c1 : w.cell? ⟨k, 1, none⟩ = some (.float .f64 b)) (c2 : w.cell? ⟨k, 2, none⟩ = some (.float .f64 c)) (c3 : w.cell? ⟨k, 3, none⟩ = some (.float .f64 d)) :
    Calls Try.prog 10 #[.slice (some ⟨k, 0, none⟩) 2 2] w fun e w' => e = .returned (.bool (whole4 a b c d)) ∧ Below w.heap.size w w' := by
  have hk := World.block_lt_of_cell? w _ c0
  simp only at hk
  have hk1 : k < w.heap.size + 1 := by omega
  cases h1 : wholeB a
  · have hw : whole4 a b c d = false := by simp [whole4, h1]
    rw [hw]
    clear hw
    · go_enter Try.func10, Try.ntmps10
      go_wp2_with fail
      refine wp_loop_rounds 3 ?_
      rw [rounds_succ]
      go_wp2_with (go_at_call 20; refine (gwhole_any _ _).mono ?_; rintro e w1 ⟨rfl, hb⟩; have H : Below w.heap.size w w1 := Below.trans (by go_grown) (hb.mono (by go_size)); obtain ⟨hc, hf⟩ := bcell hb; obtain ⟨hcO, hfO⟩ := bcell H; have hz := hb.size; (try simp only [World.size_alloc, World.size_setCell, World.size_drew] at hz hc hf); clear hb)
      go_returns
      exact ⟨rfl, by go_grown⟩
  cases h2 : wholeB b
  · have hw : whole4 a b c d = false := by simp [whole4, h2]
    rw [hw]
    clear hw
    · go_enter Try.func10, Try.ntmps10
      go_wp2_with fail
      refine wp_loop_rounds 3 ?_
      rw [rounds_succ]
      go_wp2_with (go_at_call 20; refine (gwhole_any _ _).mono ?_; rintro e w1 ⟨rfl, hb⟩; have H : Below w.heap.size w w1 := Below.trans (by go_grown) (hb.mono (by go_size)); obtain ⟨hc, hf⟩ := bcell hb; obtain ⟨hcO, hfO⟩ := bcell H; have hz := hb.size; (try simp only [World.size_alloc, World.size_setCell, World.size_drew] at hz hc hf); clear hb)
      go_returns
      exact ⟨rfl, by go_grown⟩
  cases h3 : wholeB c
  · have hw : whole4 a b c d = false := by simp [whole4, h3]
    rw [hw]
    clear hw
    · go_enter Try.func10, Try.ntmps10
      go_wp2_with fail
      refine wp_loop_rounds 3 ?_
      rw [rounds_succ]
      go_wp2_with (go_at_call 20; refine (gwhole_any _ _).mono ?_; rintro e w1 ⟨rfl, hb⟩; have H : Below w.heap.size w w1 := Below.trans (by go_grown) (hb.mono (by go_size)); obtain ⟨hc, hf⟩ := bcell hb; obtain ⟨hcO, hfO⟩ := bcell H; have hz := hb.size; (try simp only [World.size_alloc, World.size_setCell, World.size_drew] at hz hc hf); clear hb)
      rw [rounds_succ]
      go_wp2_with (go_at_call 20; refine (gwhole_any _ _).mono ?_; rintro e w1 ⟨rfl, hb⟩; have H : Below w.heap.size w w1 := Below.trans (by go_grown) (hb.mono (by go_size)); obtain ⟨hc, hf⟩ := bcell hb; obtain ⟨hcO, hfO⟩ := bcell H; have hz := hb.size; (try simp only [World.size_alloc, World.size_setCell, World.size_drew] at hz hc hf); clear hb)
      go_returns
      exact ⟨rfl, by go_grown⟩
  cases h4 : wholeB d
  · have hw : whole4 a b c d = false := by simp [whole4, h4]
    rw [hw]
    clear hw
    · go_enter Try.func10, Try.ntmps10
      go_wp2_with fail
      refine wp_loop_rounds 3 ?_
      rw [rounds_succ]
      go_wp2_with (go_at_call 20; refine (gwhole_any _ _).mono ?_; rintro e w1 ⟨rfl, hb⟩; have H : Below w.heap.size w w1 := Below.trans (by go_grown) (hb.mono (by go_size)); obtain ⟨hc, hf⟩ := bcell hb; obtain ⟨hcO, hfO⟩ := bcell H; have hz := hb.size; (try simp only [World.size_alloc, World.size_setCell, World.size_drew] at hz hc hf); clear hb)
      rw [rounds_succ]
      go_wp2_with (go_at_call 20; refine (gwhole_any _ _).mono ?_; rintro e w1 ⟨rfl, hb⟩; have H : Below w.heap.size w w1 := Below.trans (by go_grown) (hb.mono (by go_size)); obtain ⟨hc, hf⟩ := bcell hb; obtain ⟨hcO, hfO⟩ := bcell H; have hz := hb.size; (try simp only [World.size_alloc, World.size_setCell, World.size_drew] at hz hc hf); clear hb)
      go_returns
      exact ⟨rfl, by go_grown⟩
  · have hw : whole4 a b c d = true := by simp [whole4, h1, h2, h3, h4]
    rw [hw]
    clear hw
    · go_enter Try.func10, Try.ntmps10
      go_wp2_with fail
      refine wp_loop_rounds 3 ?_
      rw [rounds_succ]
      go_wp2_with (go_at_call 20; refine (gwhole_any _ _).mono ?_; rintro e w1 ⟨rfl, hb⟩; have H : Below w.heap.size w w1 := Below.trans (by go_grown) (hb.mono (by go_size)); obtain ⟨hc, hf⟩ := bcell hb; obtain ⟨hcO, hfO⟩ := bcell H; have hz := hb.size; (try simp only [World.size_alloc, World.size_setCell, World.size_drew] at hz hc hf); clear hb)
      rw [rounds_succ]
      go_wp2_with (go_at_call 20; refine (gwhole_any _ _).mono ?_; rintro e w1 ⟨rfl, hb⟩; have H : Below w.heap.size w w1 := Below.trans (by go_grown) (hb.mono (by go_size)); obtain ⟨hc, hf⟩ := bcell hb; obtain ⟨hcO, hfO⟩ := bcell H; have hz := hb.size; (try simp only [World.size_alloc, World.size_setCell, World.size_drew] at hz hc hf); clear hb)
      rw [rounds_succ]
      go_wp2_with (go_at_call 20; refine (gwhole_any _ _).mono ?_; rintro e w1 ⟨rfl, hb⟩; have H : Below w.heap.size w w1 := Below.trans (by go_grown) (hb.mono (by go_size)); obtain ⟨hc, hf⟩ := bcell hb; obtain ⟨hcO, hfO⟩ := bcell H; have hz := hb.size; (try simp only [World.size_alloc, World.size_setCell, World.size_drew] at hz hc hf); clear hb)
      go_returns
      exact ⟨rfl, by go_grown⟩
end Go.Proofs.Ytaibabmpmnfedaa
