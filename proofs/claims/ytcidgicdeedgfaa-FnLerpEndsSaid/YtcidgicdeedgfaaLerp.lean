/- Between two finite numbers from -10^300 to 10^300, 0 stands for the one and 1 for the other: for every two numbers the law returns true. No condition. -/
import Derived.Test.YtcidgicdeedgfaaFin
import Derived.Test.YtcidgicdeedgfaaLerpPlain
namespace Go.Proofs.Ytcidgicdeedgfaa
open Go.ChangeShapes Go.WideShapes Go.ChangeAt Go.RowKit
open Fl
set_option linter.unusedSimpArgs false
set_option linter.unusedVariables false
attribute [local go_sem] run_store_float run_fadd run_fsub run_fmul run_fdiv run_equalIn_float fmt64

/-! ### math.Max, math.Min -/
def pickW (neg : Bool) (win : Ordering) (x y : Nat) : Nat :=
  let a := FloatKind.f64.decode x
  let b := FloatKind.f64.decode y
  if a == .infinity neg || b == .infinity neg then FloatKind.f64.encode (.infinity neg)
  else if a.isNaN || b.isNaN then 0x7FF8000000000001
  else if a.isZero && b.isZero then (if a.neg == neg then x else y)
  else if a.order b == some win then x else y
theorem max_call (x y : Nat) (w : World) : (callFunc 50 #[.float .f64 x, .float .f64 y]).run Try.prog w = .ok (.value (.float .f64 (pickW false .gt x y))) w := by
  rw [run_callFunc_extern (e := Extern.MathDim.pick "math.archMax" false .gt) Try.func50 (by kernel_rfl) (by kernel_rfl) (by kernel_rfl) (by kernel_rfl) _ w]
  rfl
theorem min_call (x y : Nat) (w : World) : (callFunc 52 #[.float .f64 x, .float .f64 y]).run Try.prog w = .ok (.value (.float .f64 (pickW true .lt x y))) w := by
  rw [run_callFunc_extern (e := Extern.MathDim.pick "math.archMin" true .lt) Try.func52 (by kernel_rfl) (by kernel_rfl) (by kernel_rfl) (by kernel_rfl) _ w]
  rfl
theorem zero_q {x : Nat} {s : Bool} {m : Nat} {e : Int} (hd : dec x = .number s m e) (h : (Ieee.Datum.number s m e).isZero = true) : Q x = 0 := by
  have hm : m = 0 := by
    cases m with
    | zero => rfl
    | succ m => simp [Ieee.Datum.isZero] at h
  unfold Q
  rw [hd, hm]
  simp [dq]
theorem pick_q {x y : Nat} (neg : Bool) (win : Ordering) (hx : fin x = true) (hy : fin y = true) :
    fin (pickW neg win x y) = true ∧ ((Q (pickW neg win x y) = Q x ∧ Q x = Q y) ∨ pickW neg win x y = if (Ieee.double.order x y == some win) = true then x else y) := by
  obtain ⟨s, m, e, h1⟩ := fin_iff.1 hx
  obtain ⟨t, n, j, h2⟩ := fin_iff.1 hy
  have d1 : FloatKind.f64.decode x = .number s m e := h1
  have d2 : FloatKind.f64.decode y = .number t n j := h2
  have ho : Ieee.double.order x y = (Ieee.Datum.number s m e).order (.number t n j) := by
    unfold Ieee.Format.order
    unfold dec at h1 h2
    rw [h1, h2]
  unfold pickW
  rw [d1, d2, ho]
  dsimp only
  rw [if_neg (by simp), if_neg (by simp [Ieee.Datum.isNaN])]
  by_cases hz : ((Ieee.Datum.number s m e).isZero && (Ieee.Datum.number t n j).isZero) = true
  · rw [if_pos hz]
    simp only [Bool.and_eq_true] at hz
    have q1 := zero_q h1 hz.1
    have q2 := zero_q h2 hz.2
    by_cases hn : ((Ieee.Datum.number s m e).neg == neg) = true
    · rw [if_pos hn]; exact ⟨hx, .inl ⟨rfl, by rw [q1, q2]⟩⟩
    · rw [if_neg hn]; exact ⟨hy, .inl ⟨by rw [q1, q2], by rw [q1, q2]⟩⟩
  · rw [if_neg hz]
    refine ⟨?_, .inr rfl⟩
    split
    · exact hx
    · exact hy
theorem maxmath_any (x y : Nat) (w : World) :
    Calls Try.prog 45 #[.float .f64 x, .float .f64 y] w fun e w' => e = .returned (.float .f64 (pickW false .gt x y)) ∧ w = w' := by
  have h := max_call x y
  go_enter Try.func45, Try.ntmps45
  go_wp2
  go_returns
  exact ⟨rfl, rfl⟩
theorem minmath_any (x y : Nat) (w : World) :
    Calls Try.prog 46 #[.float .f64 x, .float .f64 y] w fun e w' => e = .returned (.float .f64 (pickW true .lt x y)) ∧ w = w' := by
  have h := min_call x y
  go_enter Try.func46, Try.ntmps46
  go_wp2
  go_returns
  exact ⟨rfl, rfl⟩

/-- a float that is equal to a -/
def Is (a : Nat) (w : World) (e : Ending) (w' : World) : Prop := ∃ r, e = .returned (.float .f64 r) ∧ Ieee.double.order r a = some .eq ∧ w = w'
theorem ord01 : Ieee.double.order 0 oneW = some .lt := by decide +kernel
theorem ord11 : Ieee.double.order oneW oneW = some .eq := by decide +kernel
theorem tri {a b : Nat} (ha : fin a = true) (hb : fin b = true) : Ieee.double.order a b = some .lt ∨ Ieee.double.order a b = some .eq ∨ Ieee.double.order a b = some .gt := by
  obtain ⟨h1, h2, h3⟩ := order_q ha hb
  have : Q a < Q b ∨ Q a = Q b ∨ Q b < Q a := by grind
  rcases this with c | c | c
  · exact .inl (h1 c)
  · exact .inr (.inl (h2 c))
  · exact .inr (.inr (h3 c))

set_option maxHeartbeats 2000000 in
theorem lerp_zero (a b : Nat) (ha : small a) (hb : small b) (w : World) :
    Calls Try.prog 34 #[.float .f64 a, .float .f64 b, .float .f64 0] w (Is a w) := by
  obtain ⟨m1, m2, m3, m4, m5⟩ := lerp_mix0 ha hb.1
  obtain ⟨n1, n2, n3, n4, n5⟩ := lerp_far0 ha hb
  have o1 := ord01
  obtain ⟨f0, z0⟩ := q_zero
  have far : Ieee.double.order b a = some .gt → Ieee.double.order (pickW true .lt b (fadd a (fmul 0 (fsub b a)))) a = some .eq := by
    intro hg
    have h1 := (of_order hb.1 ha.1 hg).2.2 rfl
    obtain ⟨g, hp⟩ := pick_q true .lt hb.1 n4
    refine (order_q g ha.1).2.1 ?_
    rcases hp with ⟨p1, p2⟩ | p1
    · grind
    · rw [p1, if_neg]
      · exact n5
      · intro hl
        have := (order_iff hb.1 n4).1.1 hl
        grind
  have near : Ieee.double.order b a ≠ some .gt → Ieee.double.order (pickW false .gt b (fadd a (fmul 0 (fsub b a)))) a = some .eq := by
    intro hg
    have h1 : ¬ Q a < Q b := fun h => hg ((order_q hb.1 ha.1).2.2 h)
    obtain ⟨g, hp⟩ := pick_q false .gt hb.1 n4
    refine (order_q g ha.1).2.1 ?_
    rcases hp with ⟨p1, p2⟩ | p1
    · grind
    · rw [p1, if_neg]
      · exact n5
      · intro hl
        have := (order_iff hb.1 n4).2.1.1 hl
        grind
  rcases tri ha.1 f0 with c1 | c1 | c1 <;> rcases tri hb.1 f0 with c2 | c2 | c2 <;> rcases tri hb.1 ha.1 with c3 | c3 | c3
  all_goals
    (first
      | (have F := far c3; clear far near)
      | (have F := near (by rw [c3]; simp); clear far near))
    clear ha hb n4 n5 f0 z0
    go_enter Try.func34, Try.ntmps34
    go_wp2_with (first
      | (go_at_call 45; refine (maxmath_any _ _ _).mono ?_; rintro e w' ⟨rfl, rfl⟩)
      | (go_at_call 46; refine (minmath_any _ _ _).mono ?_; rintro e w' ⟨rfl, rfl⟩))
    go_returns
    first
      | exact ⟨_, rfl, m5, rfl⟩
      | exact ⟨_, rfl, F, rfl⟩
theorem order_refl {a : Nat} (ha : fin a = true) : Ieee.double.order a a = some .eq := (order_q ha ha).2.1 rfl
set_option maxHeartbeats 2000000 in
theorem lerp_one (a b : Nat) (ha : small a) (hb : small b) (w : World) :
    Calls Try.prog 34 #[.float .f64 a, .float .f64 b, .float .f64 oneW] w (Is b w) := by
  obtain ⟨m1, m2, m3, m4, m5⟩ := lerp_mix1 ha.1 hb
  have o1 := ord11
  obtain ⟨f0, z0⟩ := q_zero
  have rb := order_refl hb.1
  rcases tri ha.1 f0 with c1 | c1 | c1 <;> rcases tri hb.1 f0 with c2 | c2 | c2
  all_goals
    clear ha hb f0 z0
    go_enter Try.func34, Try.ntmps34
    go_wp2
    go_returns
    first
      | exact ⟨_, rfl, m5, rfl⟩
      | exact ⟨_, rfl, rb, rfl⟩
def IsPost (a : Nat) (w : World) (e : Ending) (w' : World) : Prop := Is a w e w'
theorem lerpdoor_zero (a b : Nat) (ha : small a) (hb : small b) (w : World) :
    Calls Try.prog 8 #[.float .f64 a, .float .f64 b, .float .f64 0] w (Is a w) := by
  go_enter Try.func8, Try.ntmps8
  go_wp2_with (first
    | (go_at_call 21; go_in)
    | (go_at_call 34; refine (lerp_zero a b ha hb _).mono ?_; rintro e w' ⟨r, rfl, hr, rfl⟩))
  go_returns
  exact ⟨_, rfl, hr, rfl⟩
theorem lerpdoor_one (a b : Nat) (ha : small a) (hb : small b) (w : World) :
    Calls Try.prog 8 #[.float .f64 a, .float .f64 b, .float .f64 oneW] w (Is b w) := by
  go_enter Try.func8, Try.ntmps8
  go_wp2_with (first
    | (go_at_call 21; go_in)
    | (go_at_call 34; refine (lerp_one a b ha hb _).mono ?_; rintro e w' ⟨r, rfl, hr, rfl⟩))
  go_returns
  exact ⟨_, rfl, hr, rfl⟩

abbrev big (a : Nat) : Bool := Ieee.double.order (fabs a) 9094988921128908188 == some .gt
set_option maxHeartbeats 1000000 in
theorem lerplaw_walk (a b : Nat) (w : World) :
    Calls Try.prog 3 #[.float .f64 a, .float .f64 b] w fun e w' => e = .returned (.bool true) ∧ Below w.heap.size w w' := by
  by_cases h : fin a = true ∧ fin b = true ∧ big a = false ∧ big b = false
  · obtain ⟨h1, h2, h3, h4⟩ := h
    have s1 := small_of h1 h3
    have s2 := small_of h2 h4
    go_enter Try.func3, Try.ntmps3
    go_wp2_with (first
      | (go_at_call 6; refine (gfinite_any _ _).mono ?_; rintro e w' ⟨rfl, rfl⟩)
      | (go_at_call 7; refine (abs_any _ _).mono ?_; rintro e w' ⟨rfl, rfl⟩))
    refine (lerpdoor_zero a b s1 s2 _).mono ?_
    rintro e w' ⟨r, rfl, hr, rfl⟩
    go_wp2_with fail
    refine (lerpdoor_one a b s1 s2 _).mono ?_
    rintro e w' ⟨r', rfl, hr', rfl⟩
    go_wp2_with fail
    go_returns
    exact ⟨rfl, Below.refl _ _⟩
  · cases h1 : fin a <;> cases h2 : fin b <;> cases h3 : big a <;> cases h4 : big b
    case true.true.false.false => exact absurd ⟨h1, h2, h3, h4⟩ h
    all_goals
      clear h
      go_enter Try.func3, Try.ntmps3
      go_wp2_with (first
        | (go_at_call 6; refine (gfinite_any _ _).mono ?_; rintro e w' ⟨rfl, rfl⟩)
        | (go_at_call 7; refine (abs_any _ _).mono ?_; rintro e w' ⟨rfl, rfl⟩))
      go_returns
      exact ⟨rfl, Below.refl _ _⟩

namespace fnLerpEnds
theorem own : ownKnob Try.prog.godebug = none := by kernel_rfl
theorem laidOut : laidOutB Try.prog = true := by kernel_rfl
set_option maxRecDepth 100000 in
theorem lifted (os : Os) (started : os.Started) (H : Type) (enc : TypeId × Value → H) :
    ReturnsInHanded {} Try.checked os 3 .any (Rows.fnLerpEndsSpec.pre6 enc Try.prog Try.f3 Rows.fnLerpEndsRow.domain false) (Rows.fnLerpEndsSpec.post enc Try.prog Try.f3 false true false false) := by
  refine returnsInHanded_of_change (C := Try.checked) own started (by kernel_rfl) Try.func3
    (ChangeSpec.witness6 (enc := enc) (C := Try.checked) false ⟨#[], #[.float .f64 0, .float .f64 0], []⟩ 8 (by kernel_rfl) (by kernel_rfl) (by kernel_rfl) (by kernel_rfl)) ?_
  intro W base args ds gs before hval0 hW hcnd _
  have hval : ∀ (j : Nat) t v, Try.f3.params[j]? = some t → args[j]? = some v → Value.okWide Try.prog W .any base t v := hval0
  have hW' := hW
  obtain ⟨p, q, hA0, hV, rfl, hfz, hnd⟩ := hW
  have hA : DataW.TrodAll enc Try.prog W 0 (fun _ => true) true Try.f3.params.toList args.toList ds p := hA0
  rw [Try.params3] at hA hval
  obtain ⟨v0, vs0, d0, ds0, p0, q0, hargs, rfl, rfl, h0, r0⟩ := trodAll_cons hA
  obtain ⟨v1, vs1, d1, ds1, p1, q1, rfl, rfl, rfl, h1, r1⟩ := trodAll_cons r0
  obtain ⟨rfl, rfl, rfl⟩ := trodAll_nil r1
  obtain rfl : args = #[v0, v1] := by cases args; simp_all
  obtain ⟨rfl, rfl⟩ := trodVars_none hV
  have k0 := h0
  have lt0 : ∀ x ∈ p0, x.block < W.heap.size := by obtain ⟨m, hm⟩ := k0; exact DataW.trod_lt m _ _ _ hm
  have k1 := h1
  have lt1 : ∀ x ∈ p1, x.block < W.heap.size := by obtain ⟨m, hm⟩ := k1; exact DataW.trod_lt m _ _ _ hm
  obtain ⟨a, rfl, _, _, w0⟩ := open_float Try.underlying22 (hval 0 22 v0 rfl rfl) h0
  obtain ⟨b, rfl, _, _, w1⟩ := open_float Try.underlying22 (hval 1 22 v1 rfl rfl) h1
  refine (lerplaw_walk a b W).mono fun e W' ⟨he, bel⟩ => ?_
  subst he
  exact ⟨_, rfl, _, _, _, [], _, [], hW', trodAll_mk1 (shut_bool Try.underlying4 _), (trodAll_cons_mk (Below.trod laidOut (by kernel_rfl) (of_decide_eq_true (by kernel_rfl)) k0 bel lt0) (trodAll_cons_mk (Below.trod laidOut (by kernel_rfl) (of_decide_eq_true (by kernel_rfl)) k1 bel lt1) trodAll_mk0)), rfl, bel.frame _, fun h => by cases h⟩

theorem over : Rows.fnLerpEndsRow.holds Try.pinned (OpenSpec.ofChange Rows.fnLerpEndsSpec) :=
  OpenClaim.holds_of_wide 3 Try.f3 rfl rfl rfl rfl rfl rfl rfl ⟨rfl, rfl, rfl, rfl, rfl⟩ rfl rfl rfl rfl rfl (by kernel_rfl) Try.func3 (by kernel_rfl)
    (of_decide_eq_true (by kernel_rfl)) (by unfold Func.isWrapper; first | (rw [if_pos (by decide +kernel)]; kernel_rfl) | (rw [if_neg (by decide +kernel)]; exact ⟨rfl, rfl⟩))
    (fun os started H enc _ => lifted os started H enc)

theorem proved : Rows.FnLerpEndsSaid := over
#print axioms proved
end fnLerpEnds
end Go.Proofs.Ytcidgicdeedgfaa
