/- Buckets: a coordinate from -2^20 to 2^20 over the bucket's width, for a unit from 2^-40 to 1, falls into a bucket of int. -/
import Derived.Test.YtcidgicdeedgfaaNodes2
import Derived.Test.YtcidgicdeedgfaaEnvP
namespace Go.Proofs.Ytcidgicdeedgfaa
open Go Fl Ieee

theorem toIntVal_isI {b : Nat} {n : Int} (h : isI b n) (h1 : -9223372036854775808 ≤ n) (h2 : n ≤ 9223372036854775807) : floatToIntVal .f64 b .i64 = some n := by
  unfold floatToIntVal
  have : (FloatKind.f64.decode b).toInt .zero = some n := h.toInt
  rw [this]
  have e1 : IntKind.i64.min = -9223372036854775808 := rfl
  have e2 : IntKind.i64.max = 9223372036854775807 := rfl
  simp only [e1, e2]
  rw [if_pos ⟨h1, h2⟩]
theorem fin_in {lo hi x : Nat} (hl : fin lo = true) (hh : fin hi = true) (h1 : geb' x lo = true) (h2 : leb' x hi = true) : fin x = true := by
  obtain ⟨s, a, i, e1⟩ := fin_iff.1 hl
  obtain ⟨t, b, j, e2⟩ := fin_iff.1 hh
  unfold geb' Ieee.Format.order at h1
  unfold leb' Ieee.Format.order at h2
  change ((dec x).order (dec lo) == some .gt || (dec x).order (dec lo) == some .eq) = true at h1
  change ((dec x).order (dec hi) == some .lt || (dec x).order (dec hi) == some .eq) = true at h2
  unfold fin
  rw [e1] at h1
  rw [e2] at h2
  cases hd : dec x with
  | nan s t => rw [hd] at h1; simp [Datum.order] at h1
  | infinity s => rw [hd] at h1 h2; cases s <;> simp [Datum.order] at h1 h2
  | number s m e => rfl
theorem q_const {b : Nat} {s : Bool} {m : Nat} {e : Int} (h : dec b = .number s m e) : fin b = true ∧ Q b = sgn s * (m : Rat) * p2 e := by
  refine ⟨fin_iff.2 ⟨_, _, _, h⟩, ?_⟩
  unfold Q
  rw [h]
  rfl
def unitIn (u : Nat) : Bool := geb' u 4427038433705197568 && leb' u 4607182418800017408
def coordIn (x : Nat) : Bool := geb' x 13920626448202203136 && leb' x 4697254411347427328
theorem p40 : p2 (-40) * 1099511627776 = 1 := by
  have := p2_neg 40
  rw [show ((2 ^ 40 : Nat) : Rat) = 1099511627776 by rfl] at this
  rw [Rat.mul_comm]
  exact this
theorem unit_q {u : Nat} (h : unitIn u = true) : fin u = true ∧ 1 ≤ Q u * 1099511627776 ∧ Q u ≤ 1 := by
  simp only [unitIn, Bool.and_eq_true] at h
  obtain ⟨f1, q1⟩ := q_const (b := 4427038433705197568) (s := false) (m := 2 ^ 52) (e := -92) (by decide +kernel)
  obtain ⟨f2, q2⟩ := q_const (b := 4607182418800017408) (s := false) (m := 2 ^ 52) (e := -52) (by decide +kernel)
  have fu := fin_in f1 f2 h.1 h.2
  have a1 := (geb_iff fu f1).1 h.1
  have a2 := (leb_iff fu f2).1 h.2
  have e1 : p2 (-92) * ((2 ^ 52 : Nat) : Rat) = p2 (-40) := by rw [← p2_nat, ← p2_add]; rfl
  have e2 : p2 (-52) * ((2 ^ 52 : Nat) : Rat) = 1 := by rw [Rat.mul_comm]; exact p2_neg 52
  have := p40
  rw [q1] at a1
  rw [q2] at a2
  simp only [sgn] at a1 a2
  exact ⟨fu, by grind, by grind⟩
theorem coord_q {x : Nat} (h : coordIn x = true) : fin x = true ∧ -1048576 ≤ Q x ∧ Q x ≤ 1048576 := by
  simp only [coordIn, Bool.and_eq_true] at h
  have i1 := isI_neg20
  have i2 := isI_pos20
  have fx := fin_in i1.fin i2.fin h.1 h.2
  have a1 := (geb_iff fx i1.fin).1 h.1
  have a2 := (leb_iff fx i2.fin).1 h.2
  rw [i1.q] at a1
  rw [i2.q] at a2
  exact ⟨fx, by simpa using a1, by simpa using a2⟩
def width (u : Nat) : Nat := fmul u 4647714815446351872
theorem width_q {u : Nat} (h : unitIn u = true) : double.mul u 4647714815446351872 = some (width u) ∧ fin (width u) = true ∧ 0 < Q (width u) ∧ 1048576 ≤ 3377699720527872 * Q (width u) := by
  obtain ⟨fu, h1, h2⟩ := unit_q h
  obtain ⟨f2, q2⟩ := q_const (b := 4647714815446351872) (s := false) (m := 2 ^ 52) (e := -43) (by decide +kernel)
  have e2 : p2 (-43) * ((2 ^ 52 : Nat) : Rat) = 512 := by
    rw [← p2_nat, ← p2_add]
    exact p2_nat 9
  have q3 : Q 4647714815446351872 = 512 := by rw [q2]; simp only [sgn]; grind
  obtain ⟨m1, m2⟩ := mul_rounds fu f2
  rw [q3] at m2
  have e9 : p2 9 = 512 := p2_nat 9
  obtain ⟨g1, g2, g3⟩ := rounds_err m2 9 (by omega) (by omega) (by rw [e9]; grind) (by rw [e9]; grind)
  have e44 : p2 (9 - 53) * 17592186044416 = 1 := by rw [Rat.mul_comm]; exact p2_neg 44
  unfold width
  exact ⟨m1, g1, by grind, by grind⟩
theorem bkt_of {u x : Nat} (hu : unitIn u = true) (hx : coordIn x = true) : ∃ n, Bkt (width u) x n := by
  obtain ⟨_, fw', w1, w2⟩ := width_q hu
  obtain ⟨fx, x1, x2⟩ := coord_q hx
  obtain ⟨d1, y, d2, d3, d4⟩ := div_bound fx fw' w1 3377699720527872 (by grind) (by grind)
  have e53 : p2 53 = 9007199254740992 := p2_nat 53
  have e0 : p2 (53 - 53) = 1 := p2_nat 0
  obtain ⟨g1, g2, g3⟩ := rounds_err d2 53 (by omega) (by omega) (by rw [e53]; grind) (by rw [e53]; grind)
  rw [e0] at g2 g3
  obtain ⟨n, i1, i2⟩ := floor_isI g1 (by
    have : (((2 ^ 53 - 1 : Nat) : Int) : Rat) = 9007199254740991 := by rfl
    rw [this]; grind) (by
    have : (((2 ^ 53 - 1 : Nat) : Int) : Rat) = 9007199254740991 := by rfl
    rw [this]; grind)
  exact ⟨n, d1, (not_nan_inf g1).1, toIntVal_isI i1 (by omega) (by omega), i2⟩
end Go.Proofs.Ytcidgicdeedgfaa
