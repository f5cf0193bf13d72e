/- Plain facts on float64 words: a finite word stands for a rational number; an operation gives the nearest word to the exact result. No program in sight. -/
import Derived.Laws.FloatArith
namespace Go.Proofs.Ytpbllagjcdcnpaa.Fl
open Ieee

/-! ### powers of two -/
def p2 (e : Int) : Rat := (2 : Rat) ^ e
theorem p2_pos (e : Int) : 0 < p2 e := Rat.zpow_pos (by decide)
theorem p2_ne (e : Int) : p2 e ≠ 0 := by have := p2_pos e; grind
theorem p2_add (a b : Int) : p2 (a + b) = p2 a * p2 b := Rat.zpow_add (by decide) a b
theorem p2_zero : p2 0 = 1 := Rat.zpow_zero 2
theorem p2_nat (n : Nat) : p2 (n : Int) = ((2 ^ n : Nat) : Rat) := by
  unfold p2
  rw [Rat.zpow_natCast, Rat.natCast_pow]
  rfl
theorem p2_sub {a b : Int} (h : a ≤ b) : p2 b = ((2 ^ (b - a).toNat : Nat) : Rat) * p2 a := by
  rw [← p2_nat, ← p2_add]
  congr 1
  omega
theorem p2_le {a b : Int} (h : a ≤ b) : p2 a ≤ p2 b := by
  rw [p2_sub h]
  have h1 := p2_pos a
  have h2 : (1 : Rat) ≤ ((2 ^ (b - a).toNat : Nat) : Rat) := by
    have : 1 ≤ 2 ^ (b - a).toNat := Nat.one_le_two_pow
    exact_mod_cast this
  have := Rat.mul_le_mul_of_nonneg_right h2 (Rat.le_of_lt h1)
  grind
theorem p2_succ (a : Int) : p2 (a + 1) = 2 * p2 a := by
  rw [p2_add]
  have : p2 1 = 2 := Rat.zpow_one 2
  grind
theorem p2_lt {a b : Int} (h : a < b) : p2 a < p2 b := by
  have h1 : p2 (a + 1) ≤ p2 b := p2_le (by omega)
  rw [p2_succ] at h1
  have := p2_pos a
  grind

/-! ### what a word stands for -/
def sgn (s : Bool) : Rat := if s then -1 else 1
def dq : Datum → Rat
  | .number s m e => sgn s * (m : Rat) * p2 e
  | _ => 0
def isNum : Datum → Bool
  | .number .. => true
  | _ => false
def dec (b : Nat) : Datum := double.read b
def Q (b : Nat) : Rat := dq (dec b)
def fin (b : Nat) : Bool := isNum (dec b)
theorem fin_iff {b : Nat} : fin b = true ↔ ∃ s m e, dec b = .number s m e := by
  unfold fin isNum
  cases dec b <;> simp
theorem sgn_mul (s t : Bool) : sgn (s ^^ t) = sgn s * sgn t := by cases s <;> cases t <;> simp [sgn] <;> grind
theorem sgn_not (s : Bool) : sgn (!s) = - sgn s := by cases s <;> simp [sgn]
theorem sgn_sq (s : Bool) : sgn s * sgn s = 1 := by cases s <;> simp [sgn] <;> grind

theorem signed_q (s : Bool) (m up : Nat) : ((signed s m up : Int) : Rat) = sgn s * (m : Rat) * p2 (up : Int) := by
  unfold signed
  rw [p2_nat, Nat.shiftLeft_eq]
  cases s
  · simp [sgn, Rat.intCast_natCast]
  · simp [sgn, Rat.intCast_natCast]
    grind

/-! ### writing and reading -/
theorem read_word (s : Bool) (r : Nat) (h : r < 2 ^ 63) :
    double.read (double.word s r) = if r < 2 ^ 52 then .number s r (-1074)
      else if r < 2047 * 2 ^ 52 then .number s (2 ^ 52 + r % 2 ^ 52) (-1074 + (r / 2 ^ 52 - 1 : Nat))
      else if r = 2047 * 2 ^ 52 then .infinity s else .nan s (r - 2047 * 2 ^ 52) := by
  have e1 : double.signWeight = 2 ^ 63 := rfl
  have e2 : double.binade = 2 ^ 52 := rfl
  have e3 : double.infRung = 2047 * 2 ^ 52 := rfl
  have e4 : double.leastPlace = -1074 := rfl
  unfold Format.read Format.word
  rw [e1, e2, e3, e4]
  cases s
  · have a1 : r / 2 ^ 63 % 2 = 0 := by omega
    have a2 : r % 2 ^ 63 = r := by omega
    simp only [Bool.false_eq_true, if_false, a1, a2]
    rfl
  · have a1 : (2 ^ 63 + r) / 2 ^ 63 % 2 = 1 := by omega
    have a2 : (2 ^ 63 + r) % 2 ^ 63 = r := by omega
    simp only [if_true, a1, a2]
    rfl

/-- a significand of at most 53 digits at a place is read back as it was -/
theorem read_rung (s : Bool) (j kept : Nat) (hk : kept ≤ 2 ^ 53) (hj : j = 0 ∨ 2 ^ 52 ≤ kept) (hi : j * 2 ^ 52 + kept < 2047 * 2 ^ 52) :
    ∃ m e, double.read (double.word s (j * 2 ^ 52 + kept)) = .number s m e ∧ (m : Rat) * p2 e = (kept : Rat) * p2 (-1074 + j) := by
  rw [read_word _ _ (by omega)]
  by_cases h1 : j * 2 ^ 52 + kept < 2 ^ 52
  · rw [if_pos h1]
    have j0 : j = 0 := by omega
    subst j0
    exact ⟨kept, -1074, by simp, by simp⟩
  · rw [if_neg h1, if_pos hi]
    refine ⟨_, _, rfl, ?_⟩
    by_cases h2 : kept = 2 ^ 53
    · subst h2
      have d : (j * 2 ^ 52 + 2 ^ 53) / 2 ^ 52 = j + 2 := by omega
      have r : (j * 2 ^ 52 + 2 ^ 53) % 2 ^ 52 = 0 := by omega
      rw [d, r]
      have : (-1074 + ((j + 2 - 1 : Nat) : Int)) = (-1074 + (j : Int)) + 1 := by omega
      rw [this, p2_succ]
      simp
      grind
    · have d : (j * 2 ^ 52 + kept) / 2 ^ 52 = j + kept / 2 ^ 52 := by omega
      by_cases h3 : kept < 2 ^ 52
      · omega
      · have r : 2 ^ 52 + (j * 2 ^ 52 + kept) % 2 ^ 52 = kept := by omega
        have q1 : kept / 2 ^ 52 = 1 := by omega
        rw [r, d, q1]
        simp


/-! ### cutting off digits -/
theorem cut_even (s : Bool) (n drop : Nat) :
    2 * (Toward.even.cut s n drop * 2 ^ drop) ≤ 2 * n + 2 ^ drop ∧ 2 * n ≤ 2 * (Toward.even.cut s n drop * 2 ^ drop) + 2 ^ drop ∧
      (∀ q, n = q * 2 ^ drop → Toward.even.cut s n drop = q) := by
  unfold Toward.cut
  by_cases hd : drop ≤ n.log2 + 2
  · rw [Nat.min_eq_left hd, Nat.shiftLeft_eq, Nat.one_mul]
    have hp : 0 < 2 ^ drop := Nat.two_pow_pos _
    generalize 2 ^ drop = g at *
    have hdm := Nat.div_add_mod n g
    have hml := Nat.mod_lt n hp
    refine ⟨?_, ?_, ?_⟩
    · dsimp only
      generalize n / g = a at *
      generalize n % g = r at *
      rw [Nat.mul_comm] at hdm
      cases hb : (decide (g < 2 * r) || g == 2 * r && a % 2 == 1) with
      | false => simp; omega
      | true =>
        have : g ≤ 2 * r := by
          simp only [Bool.or_eq_true, decide_eq_true_eq, Bool.and_eq_true, beq_iff_eq] at hb
          omega
        simp [Nat.add_mul]
        omega
    · dsimp only
      generalize n / g = a at *
      generalize n % g = r at *
      rw [Nat.mul_comm] at hdm
      cases hb : (decide (g < 2 * r) || g == 2 * r && a % 2 == 1) with
      | false =>
        have : 2 * r ≤ g := by
          simp only [Bool.or_eq_false_iff, decide_eq_false_iff_not] at hb
          omega
        simp; omega
      | true =>
        simp [Nat.add_mul]
        omega
    · intro q hq
      subst hq
      dsimp only
      rw [Nat.mul_mod_left, Nat.mul_div_cancel _ hp]
      have h1 : ¬ g < 2 * 0 := by omega
      have h2 : ¬ g = 2 * 0 := by omega
      simp [h1, h2]
  · have hlt : n < 2 ^ (n.log2 + 1) := Nat.lt_log2_self
    have hle : 2 ^ (n.log2 + 2) ≤ 2 ^ drop := Nat.pow_le_pow_right (by omega) (by omega)
    have h2 : 2 ^ (n.log2 + 2) = 2 * 2 ^ (n.log2 + 1) := by rw [Nat.pow_succ, Nat.mul_comm]
    rw [Nat.min_eq_right (by omega), Nat.shiftLeft_eq, Nat.one_mul]
    have hdiv : n / 2 ^ (n.log2 + 2) = 0 := Nat.div_eq_of_lt (by omega)
    have hmod : n % 2 ^ (n.log2 + 2) = n := Nat.mod_eq_of_lt (by omega)
    dsimp only
    rw [hdiv, hmod]
    have f1 : ¬ 2 ^ (n.log2 + 2) < 2 * n := by omega
    have : ((decide (2 ^ (n.log2 + 2) < 2 * n) || (2 ^ (n.log2 + 2) == 2 * n && 0 % 2 == 1)) : Bool) = false := by simp [f1]
    rw [this]
    refine ⟨by simp, by simp; omega, fun q hq => ?_⟩
    cases q with
    | zero => rfl
    | succ q =>
      have : 2 ^ drop ≤ n := by rw [hq]; exact Nat.le_mul_of_pos_left _ (by omega)
      omega


/-! ### the nearest word -/
/-- the place of the last digit that is kept -/
def lastP (m : Nat) (e : Int) : Int := max (e + m.log2 - 52) (-1074)

theorem nearest_spec (s : Bool) (m : Nat) (e : Int) (hm : m ≠ 0) :
    ∃ k : Nat, k ≤ 2 ^ 53 ∧ (lastP m e = -1074 ∨ 2 ^ 52 ≤ k) ∧
      2 * ((k : Rat) * p2 (lastP m e)) ≤ 2 * ((m : Rat) * p2 e) + p2 (lastP m e) ∧
      2 * ((m : Rat) * p2 e) ≤ 2 * ((k : Rat) * p2 (lastP m e)) + p2 (lastP m e) ∧
      (∀ q : Nat, (m : Rat) * p2 e = (q : Rat) * p2 (lastP m e) → k = q) ∧
      double.nearest s m e = double.word s (min ((lastP m e + 1074).toNat * 2 ^ 52 + k) (2047 * 2 ^ 52)) := by
  have hL1 : lastP m e ≥ e + m.log2 - 52 := Int.le_max_left _ _
  have hL2 : lastP m e ≥ -1074 := Int.le_max_right _ _
  have hL3 : lastP m e = -1074 ∨ lastP m e = e + m.log2 - 52 := by unfold lastP; omega
  have hdef : double.nearest s m e = double.word s (min ((lastP m e + 1074).toNat * 2 ^ 52 + Toward.even.cut s (m <<< (e - lastP m e).toNat) (lastP m e - e).toNat) (2047 * 2 ^ 52)) := by
    unfold Format.nearest
    rw [if_neg hm]
    have e1 : double.leastPlace = -1074 := rfl
    have e2 : (double.fractionBits : Int) = 52 := rfl
    have e3 : double.infRung = 2047 * 2 ^ 52 := rfl
    have e4 : double.binade = 2 ^ 52 := rfl
    rw [e1, e2, e3, e4]
    show double.word s (min ((lastP m e - -1074).toNat * 2 ^ 52 + _) _) = _
    have : lastP m e - -1074 = lastP m e + 1074 := by omega
    rw [this]
    rfl
  generalize lastP m e = L at *
  obtain ⟨u, hu⟩ : ∃ u, u = (e - L).toNat := ⟨_, rfl⟩
  obtain ⟨d, hd⟩ : ∃ d, d = (L - e).toNat := ⟨_, rfl⟩
  rw [← hu, ← hd, Nat.shiftLeft_eq] at hdef
  have hc := cut_even s (m * 2 ^ u) d
  obtain ⟨c1, c2, c3⟩ := hc
  generalize Toward.even.cut s (m * 2 ^ u) d = k at *
  have hlt : m < 2 ^ (m.log2 + 1) := Nat.lt_log2_self
  have hge : 2 ^ m.log2 ≤ m := Nat.log2_self_le hm
  have hpd : 0 < 2 ^ d := Nat.two_pow_pos _
  have hpu : 0 < 2 ^ u := Nat.two_pow_pos _
  have n_lt : m * 2 ^ u < 2 ^ 53 * 2 ^ d := by
    calc m * 2 ^ u < 2 ^ (m.log2 + 1) * 2 ^ u := Nat.mul_lt_mul_of_pos_right hlt hpu
      _ = 2 ^ (m.log2 + 1 + u) := (Nat.pow_add ..).symm
      _ ≤ 2 ^ (53 + d) := Nat.pow_le_pow_right (by omega) (by omega)
      _ = 2 ^ 53 * 2 ^ d := Nat.pow_add ..
  -- the common base
  have hb1 : (m : Rat) * p2 e = ((m * 2 ^ u : Nat) : Rat) * p2 (min e L) := by
    rw [show p2 e = ((2 ^ u : Nat) : Rat) * p2 (min e L) from by
      rw [p2_sub (a := min e L) (b := e) (by omega)]; congr 3; omega]
    rw [Rat.natCast_mul]
    grind
  have hb2 : p2 L = ((2 ^ d : Nat) : Rat) * p2 (min e L) := by
    rw [p2_sub (a := min e L) (b := L) (by omega)]; congr 3; omega
  have hpb := p2_pos (min e L)
  refine ⟨k, ?_, ?_, ?_, ?_, ?_, hdef⟩
  · by_cases h : k ≤ 2 ^ 53
    · exact h
    · have : (2 ^ 53 + 1) * 2 ^ d ≤ k * 2 ^ d := Nat.mul_le_mul_right _ (by omega)
      rw [Nat.add_mul] at this
      omega
  · rcases hL3 with h | h
    · exact .inl h
    · right
      have n_ge : 2 ^ 52 * 2 ^ d ≤ m * 2 ^ u := by
        calc 2 ^ 52 * 2 ^ d = 2 ^ (52 + d) := (Nat.pow_add ..).symm
          _ = 2 ^ (m.log2 + u) := by congr 1; omega
          _ = 2 ^ m.log2 * 2 ^ u := Nat.pow_add ..
          _ ≤ m * 2 ^ u := Nat.mul_le_mul_right _ hge
      by_cases h : 2 ^ 52 ≤ k
      · exact h
      · have : (k + 1) * 2 ^ d ≤ 2 ^ 52 * 2 ^ d := Nat.mul_le_mul_right _ (by omega)
        rw [Nat.add_mul] at this
        omega
  · rw [hb1, hb2]
    have : ((2 * (k * 2 ^ d) : Nat) : Rat) ≤ ((2 * (m * 2 ^ u) + 2 ^ d : Nat) : Rat) := by exact_mod_cast c1
    have h := Rat.mul_le_mul_of_nonneg_right this (Rat.le_of_lt hpb)
    simp only [Rat.natCast_mul, Rat.natCast_add] at h ⊢
    grind
  · rw [hb1, hb2]
    have : ((2 * (m * 2 ^ u) : Nat) : Rat) ≤ ((2 * (k * 2 ^ d) + 2 ^ d : Nat) : Rat) := by exact_mod_cast c2
    have h := Rat.mul_le_mul_of_nonneg_right this (Rat.le_of_lt hpb)
    simp only [Rat.natCast_mul, Rat.natCast_add] at h ⊢
    grind
  · intro q hq
    refine c3 q ?_
    rw [hb1, hb2, ← Rat.mul_assoc] at hq
    have hne : p2 (min e L) ≠ 0 := p2_ne _
    have h1 : ((m * 2 ^ u : Nat) : Rat) = (q : Rat) * ((2 ^ d : Nat) : Rat) := by grind
    rw [← Rat.natCast_mul] at h1
    exact_mod_cast h1


/-- 'r' is the word nearest to x -/
def Rounds (x : Rat) (r : Nat) : Prop := ∃ (s : Bool) (m : Nat) (e : Int), sgn s * (m : Rat) * p2 e = x ∧ r = double.nearest s m e

theorem word_zero (s : Bool) : double.read (double.word s 0) = .number s 0 (-1074) := by
  rw [read_word _ _ (by omega)]
  simp

/-- what the nearest word stands for, where it is not too great -/
theorem nearest_q (s : Bool) (m : Nat) (e : Int) (hm : m ≠ 0) (hL : lastP m e ≤ 970) :
    ∃ k : Nat, k ≤ 2 ^ 53 ∧ (lastP m e = -1074 ∨ 2 ^ 52 ≤ k) ∧
      2 * ((k : Rat) * p2 (lastP m e)) ≤ 2 * ((m : Rat) * p2 e) + p2 (lastP m e) ∧
      2 * ((m : Rat) * p2 e) ≤ 2 * ((k : Rat) * p2 (lastP m e)) + p2 (lastP m e) ∧
      (∀ q : Nat, (m : Rat) * p2 e = (q : Rat) * p2 (lastP m e) → k = q) ∧
      fin (double.nearest s m e) = true ∧ Q (double.nearest s m e) = sgn s * ((k : Rat) * p2 (lastP m e)) := by
  obtain ⟨k, h1, h2, h3, h4, h5, h6⟩ := nearest_spec s m e hm
  have hL2 : lastP m e ≥ -1074 := Int.le_max_right _ _
  refine ⟨k, h1, h2, h3, h4, h5, ?_⟩
  have hi : (lastP m e + 1074).toNat * 2 ^ 52 + k < 2047 * 2 ^ 52 := by omega
  rw [h6, Nat.min_eq_left (Nat.le_of_lt hi)]
  obtain ⟨m', e', hr, hv⟩ := read_rung s (lastP m e + 1074).toNat k h1 (by omega) hi
  refine ⟨fin_iff.2 ⟨_, _, _, hr⟩, ?_⟩
  have : (-1074 + ((lastP m e + 1074).toNat : Int)) = lastP m e := by omega
  rw [this] at hv
  unfold Q dec
  rw [hr]
  show sgn s * (m' : Rat) * p2 e' = _
  rw [Rat.mul_assoc, hv]

theorem log2_le_of {m : Nat} {e B : Int} (hm : m ≠ 0) (h : (m : Rat) * p2 e ≤ p2 B) : (m.log2 : Int) + e ≤ B := by
  by_cases hc : (m.log2 : Int) + e ≤ B
  · exact hc
  · exfalso
    have hge : 2 ^ m.log2 ≤ m := Nat.log2_self_le hm
    have h1 : p2 (m.log2 : Int) ≤ (m : Rat) := by rw [p2_nat]; exact_mod_cast hge
    have h2 := Rat.mul_le_mul_of_nonneg_right h1 (Rat.le_of_lt (p2_pos e))
    rw [← p2_add] at h2
    have h3 : p2 B < p2 ((m.log2 : Int) + e) := p2_lt (by omega)
    grind

theorem q_nonneg (m : Nat) (e : Int) : 0 ≤ (m : Rat) * p2 e := by
  have h0 : (0 : Rat) ≤ (m : Rat) := by exact_mod_cast Nat.zero_le m
  exact Rat.mul_nonneg h0 (Rat.le_of_lt (p2_pos e))

theorem rounds_zero {r : Nat} (h : Rounds 0 r) : fin r = true ∧ Q r = 0 := by
  obtain ⟨s, m, e, hx, rfl⟩ := h
  have hm : m = 0 := by
    by_cases hm : m = 0
    · exact hm
    · exfalso
      have h1 : (0 : Rat) < (m : Rat) := by exact_mod_cast Nat.pos_of_ne_zero hm
      have h2 := Rat.mul_pos h1 (p2_pos e)
      have h3 := sgn_sq s
      have : (m : Rat) * p2 e = 0 := by
        have : sgn s * (sgn s * (m : Rat) * p2 e) = 0 := by rw [hx]; grind
        grind
      grind
  subst hm
  have : double.nearest s 0 e = double.word s 0 := by simp [Format.nearest]
  rw [this]
  refine ⟨fin_iff.2 ⟨_, _, _, word_zero s⟩, ?_⟩
  unfold Q dec
  rw [word_zero]
  show sgn s * ((0 : Nat) : Rat) * _ = 0
  simp

/-- the error: at most half a unit of the last place of the bound's binade -/
theorem rounds_err {x : Rat} {r : Nat} (h : Rounds x r) (B : Int) (h1 : -1022 ≤ B) (h2 : B ≤ 1022) (hl : - p2 B ≤ x) (hu : x ≤ p2 B) :
    fin r = true ∧ Q r - x ≤ p2 (B - 53) ∧ x - Q r ≤ p2 (B - 53) := by
  by_cases hx0 : x = 0
  · subst hx0
    obtain ⟨f, q⟩ := rounds_zero h
    have := p2_pos (B - 53)
    exact ⟨f, by grind, by grind⟩
  · obtain ⟨s, m, e, hx, rfl⟩ := h
    have hm : m ≠ 0 := by
      rintro rfl
      apply hx0
      rw [← hx]
      simp
    have hn := q_nonneg m e
    have hmB : (m : Rat) * p2 e ≤ p2 B := by
      cases s <;> simp [sgn] at hx <;> grind
    have hlog := log2_le_of hm hmB
    have hL : lastP m e ≤ B - 52 := by unfold lastP; omega
    obtain ⟨k, k1, k2, k3, k4, k5, f, q⟩ := nearest_q s m e hm (by omega)
    have hp : p2 (lastP m e) ≤ 2 * p2 (B - 53) := by
      rw [← p2_succ]
      exact p2_le (by omega)
    refine ⟨f, ?_, ?_⟩ <;> rw [q, ← hx] <;> cases s <;> simp [sgn] <;> grind

/-- exact where the number has at most 53 digits -/
theorem rounds_exact {x : Rat} {r : Nat} (h : Rounds x r) (t : Bool) (k : Nat) (j : Int) (hk : k ≤ 2 ^ 53) (h1 : -1074 ≤ j) (h2 : j ≤ 960) (hx : x = sgn t * ((k : Rat) * p2 j)) :
    fin r = true ∧ Q r = x := by
  by_cases hx0 : x = 0
  · subst hx0
    exact rounds_zero h
  · obtain ⟨s, m, e, hxx, rfl⟩ := h
    have hm : m ≠ 0 := by
      rintro rfl
      apply hx0
      rw [← hxx]
      simp
    have hn := q_nonneg m e
    have hn2 := q_nonneg k j
    have heq : (m : Rat) * p2 e = (k : Rat) * p2 j := by
      rw [hx] at hxx
      cases s <;> cases t <;> simp [sgn] at hxx <;> grind
    have hk53 : (k : Rat) ≤ p2 ((53 : Nat) : Int) := by rw [p2_nat]; exact_mod_cast hk
    have hle : (m : Rat) * p2 e ≤ p2 (53 + j) := by
      rw [heq, p2_add]
      exact Rat.mul_le_mul_of_nonneg_right hk53 (Rat.le_of_lt (p2_pos j))
    have hlog := log2_le_of hm hle
    have hL : lastP m e ≤ 970 := by unfold lastP; omega
    have hL2 : lastP m e ≥ -1074 := Int.le_max_right _ _
    obtain ⟨k', k1, k2, k3, k4, k5, f, q⟩ := nearest_q s m e hm hL
    refine ⟨f, ?_⟩
    have key : ∃ q : Nat, (m : Rat) * p2 e = (q : Rat) * p2 (lastP m e) := by
      by_cases hj : lastP m e ≤ j
      · refine ⟨k * 2 ^ (j - lastP m e).toNat, ?_⟩
        rw [heq, p2_sub hj, Rat.natCast_mul]
        grind
      · -- the number is just 2^53 units
        have hL3 : lastP m e = e + m.log2 - 52 := by unfold lastP at *; omega
        have hj1 : lastP m e = j + 1 := by omega
        have hge : 2 ^ m.log2 ≤ m := Nat.log2_self_le hm
        have g1 : p2 (m.log2 : Int) ≤ (m : Rat) := by rw [p2_nat]; exact_mod_cast hge
        have g2 := Rat.mul_le_mul_of_nonneg_right g1 (Rat.le_of_lt (p2_pos e))
        rw [← p2_add] at g2
        have g3 : ((m.log2 : Int) + e) = 53 + j := by omega
        rw [g3] at g2
        refine ⟨2 ^ 52, ?_⟩
        have g4 : (m : Rat) * p2 e = p2 (53 + j) := by grind
        rw [g4, hj1, ← p2_nat, ← p2_add]
        congr 1
        omega
    obtain ⟨q', hq'⟩ := key
    have := k5 q' hq'
    subst this
    rw [q, ← hq', ← hxx]
    grind


/-! ### the operations -/
def fadd (a b : Nat) : Nat := (double.add a b).getD 0
def fsub (a b : Nat) : Nat := (double.sub a b).getD 0
def fmul (a b : Nat) : Nat := (double.mul a b).getD 0
def fdiv (a b : Nat) : Nat := (double.div a b).getD 0

theorem sum_q (s t : Bool) (m n : Nat) (i j : Int) : ∃ u k e, Datum.sum (.number s m i) (.number t n j) = some (.number u k e) ∧ sgn u * (k : Rat) * p2 e = sgn s * (m : Rat) * p2 i + sgn t * (n : Rat) * p2 j := by
  refine ⟨_, _, _, rfl, ?_⟩
  have hi : p2 i = p2 ((i - min i j).toNat : Int) * p2 (min i j) := by rw [← p2_add]; congr 1; omega
  have hj : p2 j = p2 ((j - min i j).toNat : Int) * p2 (min i j) := by rw [← p2_add]; congr 1; omega
  have e1 := signed_q s m (i - min i j).toNat
  have e2 := signed_q t n (j - min i j).toNat
  generalize signed s m (i - min i j).toNat = x at *
  generalize signed t n (j - min i j).toNat = y at *
  have hs : ∀ z : Int, sgn (if z = 0 then s && t else decide (z < 0)) * ((z.natAbs : Nat) : Rat) = (z : Rat) := by
    intro z
    by_cases h0 : z = 0
    · subst h0; simp
    · rw [if_neg h0]
      by_cases h1 : z < 0
      · have : (z.natAbs : Int) = -z := by omega
        have h2 : ((z.natAbs : Nat) : Rat) = -(z : Rat) := by
          rw [← Rat.intCast_natCast, this, Rat.intCast_neg]
        rw [h2]
        simp [h1, sgn]
        grind
      · have : (z.natAbs : Int) = z := by omega
        have h2 : ((z.natAbs : Nat) : Rat) = (z : Rat) := by
          rw [← Rat.intCast_natCast, this]
        rw [h2]
        simp [h1, sgn]
  rw [hs (x + y), Rat.intCast_add, e1, e2, hi, hj]
  grind

theorem add_rounds {a b : Nat} (ha : fin a = true) (hb : fin b = true) : double.add a b = some (fadd a b) ∧ Rounds (Q a + Q b) (fadd a b) := by
  obtain ⟨s, m, i, h1⟩ := fin_iff.1 ha
  obtain ⟨t, n, j, h2⟩ := fin_iff.1 hb
  obtain ⟨u, k, e, h3, h4⟩ := sum_q s t m n i j
  have : double.add a b = some (double.nearest u k e) := by
    unfold Format.add
    unfold dec at h1 h2
    rw [h1, h2, h3]
    rfl
  unfold fadd
  rw [this]
  refine ⟨rfl, u, k, e, ?_, rfl⟩
  unfold Q
  rw [h1, h2]
  exact h4

theorem sub_rounds {a b : Nat} (ha : fin a = true) (hb : fin b = true) : double.sub a b = some (fsub a b) ∧ Rounds (Q a - Q b) (fsub a b) := by
  obtain ⟨s, m, i, h1⟩ := fin_iff.1 ha
  obtain ⟨t, n, j, h2⟩ := fin_iff.1 hb
  obtain ⟨u, k, e, h3, h4⟩ := sum_q s (!t) m n i j
  have : double.sub a b = some (double.nearest u k e) := by
    unfold Format.sub
    unfold dec at h1 h2
    rw [h1, h2]
    show ((Datum.number s m i).sum (.number (!t) n j)).map _ = _
    rw [h3]
    rfl
  unfold fsub
  rw [this]
  refine ⟨rfl, u, k, e, ?_, rfl⟩
  unfold Q
  rw [h1, h2, h4, sgn_not]
  show _ = sgn s * (m : Rat) * p2 i - sgn t * (n : Rat) * p2 j
  grind

theorem mul_rounds {a b : Nat} (ha : fin a = true) (hb : fin b = true) : double.mul a b = some (fmul a b) ∧ Rounds (Q a * Q b) (fmul a b) := by
  obtain ⟨s, m, i, h1⟩ := fin_iff.1 ha
  obtain ⟨t, n, j, h2⟩ := fin_iff.1 hb
  have : double.mul a b = some (double.nearest (s ^^ t) (m * n) (i + j)) := by
    unfold Format.mul
    unfold dec at h1 h2
    rw [h1, h2]
    rfl
  unfold fmul
  rw [this]
  refine ⟨rfl, s ^^ t, m * n, i + j, ?_, rfl⟩
  unfold Q
  rw [h1, h2, sgn_mul, p2_add, Rat.natCast_mul]
  show _ = (sgn s * (m : Rat) * p2 i) * (sgn t * (n : Rat) * p2 j)
  grind

/-! ### order -/
theorem order_q {a b : Nat} (ha : fin a = true) (hb : fin b = true) :
    (Q a < Q b → double.order a b = some .lt) ∧ (Q a = Q b → double.order a b = some .eq) ∧ (Q b < Q a → double.order a b = some .gt) := by
  obtain ⟨s, m, i, h1⟩ := fin_iff.1 ha
  obtain ⟨t, n, j, h2⟩ := fin_iff.1 hb
  have hi : p2 i = p2 ((i - min i j).toNat : Int) * p2 (min i j) := by rw [← p2_add]; congr 1; omega
  have hj : p2 j = p2 ((j - min i j).toNat : Int) * p2 (min i j) := by rw [← p2_add]; congr 1; omega
  have e1 := signed_q s m (i - min i j).toNat
  have e2 := signed_q t n (j - min i j).toNat
  have hp := p2_pos (min i j)
  have hQa : Q a = ((signed s m (i - min i j).toNat : Int) : Rat) * p2 (min i j) := by
    unfold Q; rw [h1]; show sgn s * (m : Rat) * p2 i = _; rw [e1, hi]; grind
  have hQb : Q b = ((signed t n (j - min i j).toNat : Int) : Rat) * p2 (min i j) := by
    unfold Q; rw [h2]; show sgn t * (n : Rat) * p2 j = _; rw [e2, hj]; grind
  have ho : double.order a b = some (compare (signed s m (i - min i j).toNat) (signed t n (j - min i j).toNat)) := by
    unfold Format.order
    unfold dec at h1 h2
    rw [h1, h2]
    rfl
  rw [ho, hQa, hQb]
  generalize signed s m (i - min i j).toNat = x
  generalize signed t n (j - min i j).toNat = y
  have mono : ∀ u v : Int, u ≤ v → (u : Rat) * p2 (min i j) ≤ (v : Rat) * p2 (min i j) := fun u v h =>
    Rat.mul_le_mul_of_nonneg_right (Rat.intCast_le_intCast.2 h) (Rat.le_of_lt hp)
  refine ⟨fun h => ?_, fun h => ?_, fun h => ?_⟩
  · have : x < y := by
      by_cases c : x < y
      · exact c
      · have := mono y x (by omega); grind
    rw [show compare x y = .lt from Int.compare_eq_lt.2 this]
  · have : x = y := by
      have hne := p2_ne (min i j)
      have : (x : Rat) = (y : Rat) := by grind
      exact_mod_cast this
    rw [show compare x y = .eq from Int.compare_eq_eq.2 this]
  · have : y < x := by
      by_cases c : y < x
      · exact c
      · have := mono x y (by omega); grind
    rw [show compare x y = .gt from Int.compare_eq_gt.2 this]


/-! ### whole numbers -/
theorem cut_zero (s : Bool) (n d : Nat) : Toward.zero.cut s n d = n / 2 ^ d := by
  unfold Toward.cut
  dsimp only
  have : (false : Bool).toNat = 0 := rfl
  rw [this, Nat.add_zero, Nat.shiftLeft_eq, Nat.one_mul]
  by_cases hd : d ≤ n.log2 + 2
  · rw [Nat.min_eq_left hd]
  · have hlt : n < 2 ^ (n.log2 + 1) := Nat.lt_log2_self
    have h1 : 2 ^ (n.log2 + 1) ≤ 2 ^ (n.log2 + 2) := Nat.pow_le_pow_right (by omega) (by omega)
    have h2 : 2 ^ (n.log2 + 2) ≤ 2 ^ d := Nat.pow_le_pow_right (by omega) (by omega)
    rw [Nat.min_eq_right (by omega), Nat.div_eq_of_lt (by omega), Nat.div_eq_of_lt (by omega)]

def ofI (n : Int) : Nat := double.nearest (n < 0) n.natAbs 0
theorem signed_cast (n : Int) : sgn (decide (n < 0)) * ((n.natAbs : Nat) : Rat) = (n : Rat) := by
  by_cases h1 : n < 0
  · have : (n.natAbs : Int) = -n := by omega
    have h2 : ((n.natAbs : Nat) : Rat) = -(n : Rat) := by rw [← Rat.intCast_natCast, this, Rat.intCast_neg]
    rw [h2]
    simp [h1, sgn]
    grind
  · have : (n.natAbs : Int) = n := by omega
    have h2 : ((n.natAbs : Nat) : Rat) = (n : Rat) := by rw [← Rat.intCast_natCast, this]
    rw [h2]
    simp [h1, sgn]
theorem ofI_rounds (n : Int) : Rounds (n : Rat) (ofI n) :=
  ⟨decide (n < 0), n.natAbs, 0, by rw [p2_zero, signed_cast]; grind, rfl⟩

/-- the word stands for a whole number -/
def isI (b : Nat) (n : Int) : Prop := fin b = true ∧ Q b = (n : Rat)
theorem isI.fin {b : Nat} {n : Int} (h : isI b n) : fin b = true := h.1
theorem isI.q {b : Nat} {n : Int} (h : isI b n) : Q b = (n : Rat) := h.2
theorem exactI {x : Rat} {r : Nat} (h : Rounds x r) (n : Int) (hx : x = (n : Rat)) (hn : n.natAbs ≤ 2 ^ 53) : isI r n := by
  have := rounds_exact h (decide (n < 0)) n.natAbs 0 hn (by omega) (by omega) (by rw [hx, p2_zero, ← signed_cast n]; grind)
  exact ⟨this.1, this.2.trans hx⟩
theorem ofI_isI {n : Int} (hn : n.natAbs ≤ 2 ^ 53) : isI (ofI n) n := exactI (ofI_rounds n) n rfl hn
theorem isI.add {a b : Nat} {m n : Int} (ha : isI a m) (hb : isI b n) (h : (m + n).natAbs ≤ 2 ^ 53) : double.add a b = some (fadd a b) ∧ isI (fadd a b) (m + n) := by
  obtain ⟨h1, h2⟩ := add_rounds ha.1 hb.1
  exact ⟨h1, exactI h2 _ (by rw [ha.2, hb.2, Rat.intCast_add]) h⟩
theorem isI.sub {a b : Nat} {m n : Int} (ha : isI a m) (hb : isI b n) (h : (m - n).natAbs ≤ 2 ^ 53) : double.sub a b = some (fsub a b) ∧ isI (fsub a b) (m - n) := by
  obtain ⟨h1, h2⟩ := sub_rounds ha.1 hb.1
  exact ⟨h1, exactI h2 _ (by rw [ha.2, hb.2, Rat.intCast_sub]) h⟩
theorem isI.mul {a b : Nat} {m n : Int} (ha : isI a m) (hb : isI b n) (h : (m * n).natAbs ≤ 2 ^ 53) : double.mul a b = some (fmul a b) ∧ isI (fmul a b) (m * n) := by
  obtain ⟨h1, h2⟩ := mul_rounds ha.1 hb.1
  exact ⟨h1, exactI h2 _ (by rw [ha.2, hb.2, Rat.intCast_mul]) h⟩
theorem isI.order {a b : Nat} {m n : Int} (ha : isI a m) (hb : isI b n) : double.order a b = some (compare m n) := by
  obtain ⟨h1, h2, h3⟩ := order_q ha.1 hb.1
  rw [ha.2, hb.2] at h1 h2 h3
  rcases Int.lt_trichotomy m n with h | h | h
  · rw [h1 (by exact_mod_cast h), show compare m n = .lt from Int.compare_eq_lt.2 h]
  · rw [h2 (by exact_mod_cast h), show compare m n = .eq from Int.compare_eq_eq.2 h]
  · rw [h3 (by exact_mod_cast h), show compare m n = .gt from Int.compare_eq_gt.2 h]

/-- the number as an integer, cut towards zero -/
def truncQ (m : Nat) (e : Int) : Nat := (m <<< e.toNat) / 2 ^ (-e).toNat
theorem toInt_number (s : Bool) (m : Nat) (e : Int) : (Datum.number s m e).toInt .zero = some (if s then -(truncQ m e : Int) else (truncQ m e : Int)) := by
  show some (signed s (Toward.zero.cut s (m <<< e.toNat) (-e).toNat) 0) = _
  rw [cut_zero]
  unfold signed truncQ
  simp [Nat.shiftLeft_eq]
theorem isI.toInt {b : Nat} {n : Int} (h : isI b n) : (dec b).toInt .zero = some n := by
  obtain ⟨hf, hq⟩ := h
  obtain ⟨s, m, e, hd⟩ := fin_iff.1 hf
  unfold Q at hq
  rw [hd] at hq ⊢
  rw [toInt_number]
  congr 1
  have key : m * 2 ^ e.toNat = n.natAbs * 2 ^ (-e).toNat := by
    have h1 : p2 e * p2 ((-e).toNat : Int) = p2 (e.toNat : Int) := by rw [← p2_add]; congr 1; omega
    have h2 : sgn s * (m : Rat) * p2 e = (n : Rat) := hq
    have h3 : (sgn s * (m : Rat)) * p2 (e.toNat : Int) = (n : Rat) * p2 ((-e).toNat : Int) := by rw [← h1, ← h2]; grind
    rw [p2_nat, p2_nat] at h3
    cases s
    · have h4 : ((m * 2 ^ e.toNat : Nat) : Int) = n * ((2 ^ (-e).toNat : Nat) : Int) := by
        have : (((m * 2 ^ e.toNat : Nat) : Int) : Rat) = ((n * ((2 ^ (-e).toNat : Nat) : Int) : Int) : Rat) := by
          rw [Rat.intCast_mul, Rat.intCast_natCast, Rat.intCast_natCast, Rat.natCast_mul, ← h3]
          simp [sgn]
        exact_mod_cast this
      have h5 := congrArg Int.natAbs h4
      rw [Int.natAbs_mul, Int.natAbs_natCast, Int.natAbs_natCast] at h5
      exact h5
    · have h4 : -((m * 2 ^ e.toNat : Nat) : Int) = n * ((2 ^ (-e).toNat : Nat) : Int) := by
        have : ((-((m * 2 ^ e.toNat : Nat) : Int) : Int) : Rat) = ((n * ((2 ^ (-e).toNat : Nat) : Int) : Int) : Rat) := by
          rw [Rat.intCast_neg, Rat.intCast_mul, Rat.intCast_natCast, Rat.intCast_natCast, Rat.natCast_mul, ← h3]
          simp [sgn]
          grind
        exact_mod_cast this
      have h5 := congrArg Int.natAbs h4
      rw [Int.natAbs_neg, Int.natAbs_mul, Int.natAbs_natCast, Int.natAbs_natCast] at h5
      exact h5
  have ht : truncQ m e = n.natAbs := by
    unfold truncQ
    rw [Nat.shiftLeft_eq, key, Nat.mul_div_cancel _ (Nat.two_pow_pos _)]
  have hs : (s = false → 0 ≤ n) ∧ (s = true → n ≤ 0) := by
    have h0 := q_nonneg m e
    have h2 : sgn s * (m : Rat) * p2 e = (n : Rat) := hq
    refine ⟨?_, ?_⟩ <;> rintro rfl
    · have : (0 : Rat) ≤ (n : Rat) := by rw [← h2]; simp [sgn]; exact h0
      exact_mod_cast this
    · have : (n : Rat) ≤ 0 := by rw [← h2]; simp [sgn]; grind
      exact_mod_cast this
  rw [ht]
  cases s
  · simp; have := hs.1 rfl; omega
  · simp; have := hs.2 rfl; omega


/-! ### what a comparison tells -/
theorem of_order {a b : Nat} (ha : fin a = true) (hb : fin b = true) {o : Ordering} (h : double.order a b = some o) :
    (o = .lt → Q a < Q b) ∧ (o = .eq → Q a = Q b) ∧ (o = .gt → Q b < Q a) := by
  obtain ⟨h1, h2, h3⟩ := order_q ha hb
  have tri : Q a < Q b ∨ Q a = Q b ∨ Q b < Q a := by grind
  rcases tri with c | c | c
  · rw [h1 c] at h; cases h; exact ⟨fun _ => c, by simp, by simp⟩
  · rw [h2 c] at h; cases h; exact ⟨by simp, fun _ => c, by simp⟩
  · rw [h3 c] at h; cases h; exact ⟨by simp, by simp, fun _ => c⟩
theorem ge_of {a b : Nat} (ha : fin a = true) (hb : fin b = true) (h : (double.order a b == some .gt || double.order a b == some .eq) = true) : Q b ≤ Q a := by
  rcases ho : double.order a b with _ | o
  · rw [ho] at h; simp at h
  · obtain ⟨h1, h2, h3⟩ := of_order ha hb ho
    rw [ho] at h
    cases o <;> simp at h
    · have := h2 rfl; grind
    · have := h3 rfl; grind
theorem le_of {a b : Nat} (ha : fin a = true) (hb : fin b = true) (h : (double.order a b == some .lt || double.order a b == some .eq) = true) : Q a ≤ Q b := by
  rcases ho : double.order a b with _ | o
  · rw [ho] at h; simp at h
  · obtain ⟨h1, h2, h3⟩ := of_order ha hb ho
    rw [ho] at h
    cases o <;> simp at h
    · have := h1 rfl; grind
    · have := h2 rfl; grind
theorem eq_of {a b : Nat} (ha : fin a = true) (hb : fin b = true) (h : (double.order a b == some .eq) = true) : Q a = Q b := by
  rcases ho : double.order a b with _ | o
  · rw [ho] at h; simp at h
  · obtain ⟨h1, h2, h3⟩ := of_order ha hb ho
    rw [ho] at h
    cases o <;> simp at h
    exact h2 rfl

def isNan (x : Nat) : Bool := (dec x).isNaN
/-- what math.Trunc hands back of a word that is no NaN -/
def truncW (x : Nat) : Nat := double.write ((dec x).integral .zero)
/-- a word that is whole and from lo to hi, as the statements' tests ask it -/
def wholeIn (lo hi x : Nat) : Bool := !isNan x && (double.order x (truncW x) == some .eq) &&
  (double.order x lo == some .gt || double.order x lo == some .eq) && (double.order x hi == some .lt || double.order x hi == some .eq)

theorem wholeIn_isI {lo hi x : Nat} {l h : Int} (hl : isI lo l) (hh : isI hi h) (hl0 : -1048576 ≤ l) (hh0 : h ≤ 1048576) (hx : wholeIn lo hi x = true) : ∃ n : Int, isI x n ∧ l ≤ n ∧ n ≤ h := by
  unfold wholeIn at hx
  simp only [Bool.and_eq_true] at hx
  obtain ⟨⟨⟨h1, h2⟩, h3⟩, h4⟩ := hx
  cases hd : dec x with
  | nan s t => simp [isNan, hd, Datum.isNaN] at h1
  | infinity s =>
    exfalso
    have o1 : ∀ c, fin c = true → double.order x c = some (if s then .lt else .gt) := by
      intro c hc
      obtain ⟨t, n, j, hcd⟩ := fin_iff.1 hc
      unfold Format.order
      unfold dec at hd hcd
      rw [hd, hcd]
      rfl
    rw [o1 _ hl.1] at h3
    rw [o1 _ hh.1] at h4
    cases s <;> simp at h3 h4
  | number s m e =>
    have hf : fin x = true := fin_iff.2 ⟨s, m, e, hd⟩
    have q1 := ge_of hf hl.1 h3
    have q2 := le_of hf hh.1 h4
    rw [hl.2] at q1
    rw [hh.2] at q2
    have hQ : Q x = sgn s * (m : Rat) * p2 e := by unfold Q; rw [hd]; rfl
    have b1 : (-1048576 : Rat) ≤ Q x := by
      have : ((-1048576 : Int) : Rat) ≤ (l : Rat) := Rat.intCast_le_intCast.2 hl0
      have h' : ((-1048576 : Int) : Rat) = (-1048576 : Rat) := rfl
      grind
    have b2 : Q x ≤ (1048576 : Rat) := by
      have : (h : Rat) ≤ ((1048576 : Int) : Rat) := Rat.intCast_le_intCast.2 hh0
      have h' : ((1048576 : Int) : Rat) = (1048576 : Rat) := rfl
      grind
    have hn := q_nonneg m e
    have mB : (m : Rat) * p2 e ≤ 1048576 := by
      rw [hQ] at b1 b2
      cases s <;> simp [sgn] at b1 b2 <;> grind
    -- the whole part is small
    have hq : truncQ m e ≤ 1048576 := by
      have k1 : truncQ m e * 2 ^ (-e).toNat ≤ m * 2 ^ e.toNat := by
        unfold truncQ
        rw [Nat.shiftLeft_eq]
        exact Nat.div_mul_le_self _ _
      have k2 : p2 e * p2 ((-e).toNat : Int) = p2 (e.toNat : Int) := by rw [← p2_add]; congr 1; omega
      have k3 : ((truncQ m e * 2 ^ (-e).toNat : Nat) : Rat) ≤ ((m * 2 ^ e.toNat : Nat) : Rat) := by exact_mod_cast k1
      rw [Rat.natCast_mul, Rat.natCast_mul, ← p2_nat, ← p2_nat, ← k2] at k3
      have k4 := Rat.mul_le_mul_of_nonneg_right mB (Rat.le_of_lt (p2_pos ((-e).toNat : Int)))
      have k5 : (truncQ m e : Rat) * p2 ((-e).toNat : Int) ≤ 1048576 * p2 ((-e).toNat : Int) := by grind
      have k6 := p2_pos ((-e).toNat : Int)
      by_cases c : truncQ m e ≤ 1048576
      · exact c
      · exfalso
        have c1 : ((1048577 : Nat) : Rat) ≤ (truncQ m e : Rat) := by exact_mod_cast (by omega : 1048577 ≤ truncQ m e)
        have c2 := Rat.mul_le_mul_of_nonneg_right c1 (Rat.le_of_lt k6)
        have c3 : ((1048577 : Nat) : Rat) = (1048577 : Rat) := rfl
        grind
    have hw : truncW x = double.nearest s (truncQ m e) 0 := by
      unfold truncW
      rw [hd]
      show double.nearest s (Toward.zero.cut s (m <<< e.toNat) (-e).toNat) 0 = _
      rw [cut_zero]
      rfl
    obtain ⟨n, hnn⟩ : ∃ n : Int, n = if s then -(truncQ m e : Int) else (truncQ m e : Int) := ⟨_, rfl⟩
    have hr : Rounds (n : Rat) (truncW x) := by
      refine ⟨s, truncQ m e, 0, ?_, hw⟩
      rw [p2_zero, hnn]
      cases s
      · simp [sgn, Rat.intCast_natCast]
      · simp [sgn, Rat.intCast_natCast]
        grind
    have hi := exactI hr n rfl (by rw [hnn]; cases s <;> simp only [Bool.false_eq_true, if_false, if_true] <;> omega)
    have e1 := eq_of hf hi.1 h2
    have e2 : Q x = (n : Rat) := e1.trans hi.2
    refine ⟨n, ⟨hf, e2⟩, ?_, ?_⟩
    · rw [e2] at q1; exact_mod_cast q1
    · rw [e2] at q2; exact_mod_cast q2

theorem isI_const {b : Nat} {s : Bool} {m : Nat} {e : Int} {n : Int} (h : dec b = .number s m e) (hq : sgn s * (m : Rat) * p2 e = (n : Rat)) : isI b n :=
  ⟨fin_iff.2 ⟨s, m, e, h⟩, by unfold Q; rw [h]; exact hq⟩
theorem p2_neg (n : Nat) : ((2 ^ n : Nat) : Rat) * p2 (-(n : Int)) = 1 := by
  rw [← p2_nat, ← p2_add, show ((n : Int) + -(n : Int)) = 0 from by omega, p2_zero]
theorem isI_neg20 : isI 13920626448202203136 (-1048576) :=
  isI_const (s := true) (m := 2 ^ 52) (e := -32) (by decide +kernel) (by
    have h := p2_neg 32
    have h2 : ((2 ^ 52 : Nat) : Rat) = 1048576 * ((2 ^ 32 : Nat) : Rat) := by decide +kernel
    rw [h2]
    have : ((-1048576 : Int) : Rat) = -1048576 := rfl
    simp only [sgn, if_true] at *
    rw [this]
    have h' : p2 (-32) = p2 (-((32 : Nat) : Int)) := rfl
    rw [h']
    grind)
theorem isI_pos20 : isI 4697254411347427328 1048576 :=
  isI_const (s := false) (m := 2 ^ 52) (e := -32) (by decide +kernel) (by
    have h := p2_neg 32
    have h2 : ((2 ^ 52 : Nat) : Rat) = 1048576 * ((2 ^ 32 : Nat) : Rat) := by decide +kernel
    rw [h2]
    have : ((1048576 : Int) : Rat) = 1048576 := rfl
    simp only [sgn] at *
    rw [this]
    have h' : p2 (-32) = p2 (-((32 : Nat) : Int)) := rfl
    rw [h']
    grind)


/-! ### the sign taken away; infinities -/
theorem dec_eq (x : Nat) : dec x = (let neg := x / 2 ^ 63 % 2 == 1; let rung := x % 2 ^ 63;
    if rung < 2 ^ 52 then .number neg rung (-1074)
      else if rung < 2047 * 2 ^ 52 then .number neg (2 ^ 52 + rung % 2 ^ 52) (-1074 + (rung / 2 ^ 52 - 1 : Nat))
      else if rung = 2047 * 2 ^ 52 then .infinity neg else .nan neg (rung - 2047 * 2 ^ 52)) := rfl
theorem dec_abs (x : Nat) : dec (x % 2 ^ 63) = match dec x with
    | .number _ m e => .number false m e
    | .infinity _ => .infinity false
    | .nan _ t => .nan false t := by
  rw [dec_eq, dec_eq]
  have h1 : x % 2 ^ 63 / 2 ^ 63 % 2 = 0 := by omega
  have h2 : x % 2 ^ 63 % 2 ^ 63 = x % 2 ^ 63 := by omega
  dsimp only
  rw [h1, h2]
  generalize x % 2 ^ 63 = r
  by_cases c1 : r < 2 ^ 52
  · rw [if_pos c1, if_pos c1]; rfl
  · by_cases c2 : r < 2047 * 2 ^ 52
    · rw [if_neg c1, if_pos c2, if_neg c1, if_pos c2]; rfl
    · by_cases c3 : r = 2047 * 2 ^ 52
      · rw [if_neg c1, if_neg c2, if_pos c3, if_neg c1, if_neg c2, if_pos c3]; rfl
      · rw [if_neg c1, if_neg c2, if_neg c3, if_neg c1, if_neg c2, if_neg c3]; rfl
theorem dec_bounds {x : Nat} {s : Bool} {m : Nat} {e : Int} (h : dec x = .number s m e) : m < 2 ^ 53 ∧ -1074 ≤ e ∧ e ≤ 971 := by
  rw [dec_eq] at h
  dsimp only at h
  have hr : x % 2 ^ 63 < 2 ^ 63 := Nat.mod_lt _ (by omega)
  generalize x % 2 ^ 63 = r at *
  by_cases c1 : r < 2 ^ 52
  · rw [if_pos c1] at h
    injection h with h1 h2 h3
    omega
  · by_cases c2 : r < 2047 * 2 ^ 52
    · rw [if_neg c1, if_pos c2] at h
      injection h with h1 h2 h3
      omega
    · by_cases c3 : r = 2047 * 2 ^ 52
      · rw [if_neg c1, if_neg c2, if_pos c3] at h; cases h
      · rw [if_neg c1, if_neg c2, if_neg c3] at h; cases h
def fabs (x : Nat) : Nat := x % 2 ^ 63
theorem fabs_q {x : Nat} (h : fin x = true) : fin (fabs x) = true ∧ ((0 ≤ Q x → Q (fabs x) = Q x) ∧ (Q x ≤ 0 → Q (fabs x) = - Q x)) := by
  obtain ⟨s, m, e, hd⟩ := fin_iff.1 h
  have ha := dec_abs x
  rw [hd] at ha
  have hn := q_nonneg m e
  refine ⟨fin_iff.2 ⟨_, _, _, ha⟩, ?_⟩
  have q1 : Q (fabs x) = (m : Rat) * p2 e := by unfold Q fabs; rw [ha]; simp [dq, sgn]
  have q2 : Q x = sgn s * (m : Rat) * p2 e := by unfold Q; rw [hd]; rfl
  rw [q1, q2]
  cases s <;> simp only [sgn, Bool.false_eq_true, if_false, if_true] <;> refine ⟨fun _ => ?_, fun _ => ?_⟩ <;> grind
theorem order_self (x : Nat) : (double.order x x != some .eq) = isNan x := by
  unfold Format.order isNan
  show ((dec x).order (dec x) != some .eq) = _
  cases hd : dec x with
  | nan s t => rfl
  | infinity s => simp [Datum.order, Datum.isNaN]
  | number s m e => simp [Datum.order, Datum.isNaN]
/-- what IsInf asks: is the amount greater than the greatest finite number? -/
theorem inf_test (x : Nat) : (double.order (fabs x) 9218868437227405311 == some .gt) = (dec x).isInfinity := by
  have ha := dec_abs x
  have hM : dec 9218868437227405311 = .number false (2 ^ 53 - 1) 971 := by decide +kernel
  cases hd : dec x with
  | nan s t =>
    rw [hd] at ha
    unfold Format.order
    show ((dec (fabs x)).order (dec 9218868437227405311) == some .gt) = _
    unfold fabs
    rw [ha, hM]
    rfl
  | infinity s =>
    rw [hd] at ha
    unfold Format.order
    show ((dec (fabs x)).order (dec 9218868437227405311) == some .gt) = _
    unfold fabs
    rw [ha, hM]
    rfl
  | number s m e =>
    rw [hd] at ha
    have hb := dec_bounds hd
    have hf : fin (fabs x) = true := fin_iff.2 ⟨_, _, _, ha⟩
    have hfM : fin 9218868437227405311 = true := fin_iff.2 ⟨_, _, _, hM⟩
    have q1 : Q (fabs x) = (m : Rat) * p2 e := by unfold Q fabs; rw [ha]; simp [dq, sgn]
    have q2 : Q 9218868437227405311 = ((2 ^ 53 - 1 : Nat) : Rat) * p2 971 := by unfold Q; rw [hM]; simp [dq, sgn]
    have h1 : (m : Rat) ≤ ((2 ^ 53 - 1 : Nat) : Rat) := by exact_mod_cast (by omega : m ≤ 2 ^ 53 - 1)
    have h2 := Rat.mul_le_mul_of_nonneg_right h1 (Rat.le_of_lt (p2_pos e))
    have h3 : p2 e ≤ p2 971 := p2_le hb.2.2
    have h4 : (0 : Rat) ≤ ((2 ^ 53 - 1 : Nat) : Rat) := by exact_mod_cast Nat.zero_le _
    have h5 := Rat.mul_le_mul_of_nonneg_left h3 h4
    have hle : Q (fabs x) ≤ Q 9218868437227405311 := by rw [q1, q2]; grind
    obtain ⟨o1, o2, o3⟩ := order_q hf hfM
    have : Q (fabs x) < Q 9218868437227405311 ∨ Q (fabs x) = Q 9218868437227405311 := by grind
    rcases this with c | c
    · rw [o1 c]; rfl
    · rw [o2 c]; rfl
theorem fin_test (x : Nat) : fin x = (!isNan x && !(dec x).isInfinity) := by
  unfold fin isNan
  cases dec x <;> rfl

/-! ### the least and the greatest of two -/
def fmin (a b : Nat) : Nat := if (double.order a b == some .lt) = true then a else b
def fmax (a b : Nat) : Nat := if (double.order a b == some .gt) = true then a else b
theorem order_iff {a b : Nat} (ha : fin a = true) (hb : fin b = true) :
    ((double.order a b == some .lt) = true ↔ Q a < Q b) ∧ ((double.order a b == some .gt) = true ↔ Q b < Q a) ∧ ((double.order a b == some .eq) = true ↔ Q a = Q b) := by
  obtain ⟨h1, h2, h3⟩ := order_q ha hb
  have tri : Q a < Q b ∨ Q a = Q b ∨ Q b < Q a := by grind
  rcases tri with c | c | c
  · rw [h1 c]; refine ⟨by simp [c], ?_, ?_⟩ <;> simp <;> grind
  · rw [h2 c]; refine ⟨?_, ?_, by simp [c]⟩ <;> simp <;> grind
  · rw [h3 c]; refine ⟨?_, by simp [c], ?_⟩ <;> simp <;> grind
theorem fmin_spec {a b : Nat} (ha : fin a = true) (hb : fin b = true) : fin (fmin a b) = true ∧ Q (fmin a b) ≤ Q a ∧ Q (fmin a b) ≤ Q b ∧ (Q (fmin a b) = Q a ∨ Q (fmin a b) = Q b) := by
  unfold fmin
  obtain ⟨h1, h2, h3⟩ := order_iff ha hb
  by_cases c : (double.order a b == some .lt) = true
  · rw [if_pos c]; have := h1.1 c; exact ⟨ha, by grind, by grind, .inl rfl⟩
  · rw [if_neg c]
    have : ¬ Q a < Q b := fun h => c (h1.2 h)
    exact ⟨hb, by grind, by grind, .inr rfl⟩
theorem fmax_spec {a b : Nat} (ha : fin a = true) (hb : fin b = true) : fin (fmax a b) = true ∧ Q a ≤ Q (fmax a b) ∧ Q b ≤ Q (fmax a b) ∧ (Q (fmax a b) = Q a ∨ Q (fmax a b) = Q b) := by
  unfold fmax
  obtain ⟨h1, h2, h3⟩ := order_iff ha hb
  by_cases c : (double.order a b == some .gt) = true
  · rw [if_pos c]; have := h2.1 c; exact ⟨ha, by grind, by grind, .inl rfl⟩
  · rw [if_neg c]
    have : ¬ Q b < Q a := fun h => c (h2.2 h)
    exact ⟨hb, by grind, by grind, .inr rfl⟩

end Go.Proofs.Ytpbllagjcdcnpaa.Fl
