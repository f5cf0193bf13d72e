/- Plain facts on float64 words for linear interpolation at its two ends: multiplying by 1, by 0, adding nothing. No program in sight. -/
import Derived.Test.YtcidgicdeedgfaaFloat
namespace Go.Proofs.Ytcidgicdeedgfaa.Fl
open Ieee

theorem dec_norm {x : Nat} {s : Bool} {m : Nat} {e : Int} (h : dec x = .number s m e) : e = -1074 ∨ 2 ^ 52 ≤ m := by
  rw [dec_eq] at h
  dsimp only at h
  generalize x % 2 ^ 63 = r at *
  by_cases c1 : r < 2 ^ 52
  · rw [if_pos c1] at h
    injection h with h1 h2 h3
    exact .inl h3.symm
  · by_cases c2 : r < 2047 * 2 ^ 52
    · rw [if_neg c1, if_pos c2] at h
      injection h with h1 h2 h3
      right; omega
    · by_cases c3 : r = 2047 * 2 ^ 52
      · rw [if_neg c1, if_neg c2, if_pos c3] at h; cases h
      · rw [if_neg c1, if_neg c2, if_neg c3] at h; cases h

/-- a word of moderate size is given back by rounding -/
theorem rounds_id {a r : Nat} (ha : fin a = true) (h1 : - p2 1000 ≤ Q a) (h2 : Q a ≤ p2 1000) (h : Rounds (Q a) r) : fin r = true ∧ Q r = Q a := by
  obtain ⟨s, m, e, hd⟩ := fin_iff.1 ha
  have hb := dec_bounds hd
  have hq : Q a = sgn s * (m : Rat) * p2 e := by unfold Q; rw [hd]; rfl
  have hn := q_nonneg m e
  have hle : (m : Rat) * p2 e ≤ p2 1000 := by
    rw [hq] at h1 h2
    cases s <;> simp [sgn] at h1 h2 <;> grind
  have he : e ≤ 960 := by
    rcases dec_norm hd with c | c
    · omega
    · have hm : m ≠ 0 := by omega
      have := log2_le_of hm hle
      have h52 : 52 ≤ m.log2 := by
        rw [Nat.le_log2 hm]; exact c
      omega
  exact rounds_exact h s m e (by omega) hb.2.1 he (by rw [hq]; grind)

def small (a : Nat) : Prop := fin a = true ∧ - p2 998 ≤ Q a ∧ Q a ≤ p2 998
theorem small.up {a : Nat} (h : small a) : - p2 1000 ≤ Q a ∧ Q a ≤ p2 1000 := by
  have : p2 998 ≤ p2 1000 := p2_le (by omega)
  exact ⟨by have := h.2.1; grind, by have := h.2.2; grind⟩
theorem q_zero : fin 0 = true ∧ Q 0 = 0 := by
  have h : dec 0 = .number false 0 (-1074) := by decide +kernel
  refine ⟨fin_iff.2 ⟨_, _, _, h⟩, ?_⟩
  unfold Q
  rw [h]
  simp [dq]
abbrev oneW : Nat := 4607182418800017408
theorem q_one : fin oneW = true ∧ Q oneW = 1 := by
  have h : dec oneW = .number false (2 ^ 52) (-52) := by decide +kernel
  refine ⟨fin_iff.2 ⟨_, _, _, h⟩, ?_⟩
  unfold Q
  rw [h]
  show sgn false * ((2 ^ 52 : Nat) : Rat) * p2 (-52) = 1
  have := p2_neg 52
  simp only [sgn] at *
  have h' : p2 (-52) = p2 (-((52 : Nat) : Int)) := rfl
  rw [h']
  grind

/-- t*b + (1-t)*a at t = 0 -/
theorem lerp_mix0 {a b : Nat} (ha : small a) (hb : fin b = true) :
    double.mul 0 b = some (fmul 0 b) ∧ double.sub oneW 0 = some (fsub oneW 0) ∧ double.mul (fsub oneW 0) a = some (fmul (fsub oneW 0) a) ∧
    double.add (fmul 0 b) (fmul (fsub oneW 0) a) = some (fadd (fmul 0 b) (fmul (fsub oneW 0) a)) ∧
    double.order (fadd (fmul 0 b) (fmul (fsub oneW 0) a)) a = some .eq := by
  obtain ⟨f0, z0⟩ := q_zero
  obtain ⟨f1, z1⟩ := q_one
  obtain ⟨e1, r1⟩ := mul_rounds f0 hb
  have r1' : Rounds 0 (fmul 0 b) := by rw [z0] at r1; simpa using r1
  obtain ⟨g1, q1⟩ := rounds_zero r1'
  obtain ⟨e2, r2⟩ := sub_rounds f1 f0
  have r2' : Rounds ((1 : Int) : Rat) (fsub oneW 0) := by
    rw [z0, z1] at r2
    have : (1 : Rat) - 0 = ((1 : Int) : Rat) := by decide +kernel
    rwa [this] at r2
  obtain ⟨g2, q2⟩ := exactI r2' 1 rfl (by omega)
  obtain ⟨e3, r3⟩ := mul_rounds g2 ha.1
  have r3' : Rounds (Q a) (fmul (fsub oneW 0) a) := by
    rw [q2] at r3
    have : ((1 : Int) : Rat) * Q a = Q a := by have : ((1 : Int) : Rat) = 1 := rfl; grind
    rwa [this] at r3
  obtain ⟨g3, q3⟩ := rounds_id ha.1 ha.up.1 ha.up.2 r3'
  obtain ⟨e4, r4⟩ := add_rounds g1 g3
  have r4' : Rounds (Q a) (fadd (fmul 0 b) (fmul (fsub oneW 0) a)) := by
    rw [q1, q3] at r4
    have : (0 : Rat) + Q a = Q a := by grind
    rwa [this] at r4
  obtain ⟨g4, q4⟩ := rounds_id ha.1 ha.up.1 ha.up.2 r4'
  exact ⟨e1, e2, e3, e4, (order_q g4 ha.1).2.1 q4⟩
/-- t*b + (1-t)*a at t = 1 -/
theorem lerp_mix1 {a b : Nat} (ha : fin a = true) (hb : small b) :
    double.mul oneW b = some (fmul oneW b) ∧ double.sub oneW oneW = some (fsub oneW oneW) ∧ double.mul (fsub oneW oneW) a = some (fmul (fsub oneW oneW) a) ∧
    double.add (fmul oneW b) (fmul (fsub oneW oneW) a) = some (fadd (fmul oneW b) (fmul (fsub oneW oneW) a)) ∧
    double.order (fadd (fmul oneW b) (fmul (fsub oneW oneW) a)) b = some .eq := by
  obtain ⟨f1, z1⟩ := q_one
  obtain ⟨e1, r1⟩ := mul_rounds f1 hb.1
  have r1' : Rounds (Q b) (fmul oneW b) := by
    rw [z1] at r1
    have : (1 : Rat) * Q b = Q b := by grind
    rwa [this] at r1
  obtain ⟨g1, q1⟩ := rounds_id hb.1 hb.up.1 hb.up.2 r1'
  obtain ⟨e2, r2⟩ := sub_rounds f1 f1
  have r2' : Rounds 0 (fsub oneW oneW) := by
    have : Q oneW - Q oneW = 0 := by grind
    rwa [this] at r2
  obtain ⟨g2, q2⟩ := rounds_zero r2'
  obtain ⟨e3, r3⟩ := mul_rounds g2 ha
  have r3' : Rounds 0 (fmul (fsub oneW oneW) a) := by
    rw [q2] at r3
    have : (0 : Rat) * Q a = 0 := by grind
    rwa [this] at r3
  obtain ⟨g3, q3⟩ := rounds_zero r3'
  obtain ⟨e4, r4⟩ := add_rounds g1 g3
  have r4' : Rounds (Q b) (fadd (fmul oneW b) (fmul (fsub oneW oneW) a)) := by
    rw [q1, q3] at r4
    have : Q b + (0 : Rat) = Q b := by grind
    rwa [this] at r4
  obtain ⟨g4, q4⟩ := rounds_id hb.1 hb.up.1 hb.up.2 r4'
  exact ⟨e1, e2, e3, e4, (order_q g4 hb.1).2.1 q4⟩
/-- a + t*(b-a) at t = 0 -/
theorem lerp_far0 {a b : Nat} (ha : small a) (hb : small b) :
    double.sub b a = some (fsub b a) ∧ double.mul 0 (fsub b a) = some (fmul 0 (fsub b a)) ∧
    double.add a (fmul 0 (fsub b a)) = some (fadd a (fmul 0 (fsub b a))) ∧ fin (fadd a (fmul 0 (fsub b a))) = true ∧ Q (fadd a (fmul 0 (fsub b a))) = Q a := by
  obtain ⟨f0, z0⟩ := q_zero
  obtain ⟨e1, r1⟩ := sub_rounds hb.1 ha.1
  have hp : p2 999 = 2 * p2 998 := p2_succ 998
  obtain ⟨g1, _, _⟩ := rounds_err r1 999 (by omega) (by omega) (by have := ha.2; have := hb.2; grind) (by have := ha.2; have := hb.2; grind)
  obtain ⟨e2, r2⟩ := mul_rounds f0 g1
  have r2' : Rounds 0 (fmul 0 (fsub b a)) := by rw [z0] at r2; simpa using r2
  obtain ⟨g2, q2⟩ := rounds_zero r2'
  obtain ⟨e3, r3⟩ := add_rounds ha.1 g2
  have r3' : Rounds (Q a) (fadd a (fmul 0 (fsub b a))) := by
    rw [q2] at r3
    have : Q a + (0 : Rat) = Q a := by grind
    rwa [this] at r3
  obtain ⟨g3, q3⟩ := rounds_id ha.1 ha.up.1 ha.up.2 r3'
  exact ⟨e1, e2, e3, g3, q3⟩

/-- the statements' bound: no amount greater than 10^300 -/
theorem small_of {a : Nat} (ha : fin a = true) (h : (double.order (fabs a) 9094988921128908188 == some .gt) = false) : small a := by
  have hc : dec 9094988921128908188 = .number false 6724873095247260 944 := by decide +kernel
  have fc : fin 9094988921128908188 = true := fin_iff.2 ⟨_, _, _, hc⟩
  have qc : Q 9094988921128908188 ≤ p2 998 := by
    unfold Q
    rw [hc]
    show sgn false * ((6724873095247260 : Nat) : Rat) * p2 944 ≤ p2 998
    have h1 : p2 998 = ((2 ^ 54 : Nat) : Rat) * p2 944 := p2_sub (a := 944) (b := 998) (by omega)
    have h2 : ((6724873095247260 : Nat) : Rat) ≤ ((2 ^ 54 : Nat) : Rat) := by decide +kernel
    have h3 := Rat.mul_le_mul_of_nonneg_right h2 (Rat.le_of_lt (p2_pos 944))
    rw [h1]
    simp only [sgn]
    grind
  obtain ⟨f1, q1, q2⟩ := fabs_q ha
  obtain ⟨o1, o2, o3⟩ := order_iff f1 fc
  have hle : Q (fabs a) ≤ p2 998 := by
    have : ¬ Q 9094988921128908188 < Q (fabs a) := fun hl => by rw [o2.2 hl] at h; cases h
    grind
  refine ⟨ha, ?_, ?_⟩
  · by_cases c : 0 ≤ Q a
    · have := p2_pos 998; grind
    · have := q2 (by grind); grind
  · by_cases c : 0 ≤ Q a
    · have := q1 c; grind
    · have := p2_pos 998; grind
end Go.Proofs.Ytcidgicdeedgfaa.Fl
