/- Quotients of float64 words, bounded; the floor of a word, as a whole number. -/
import Derived.Test.YtcidgicdeedgfaaFloat
namespace Go.Proofs.Ytcidgicdeedgfaa.Fl
open Go Ieee

theorem cut_le (way : Toward) (s : Bool) (n d : Nat) : way.cut s n d ≤ n / 2 ^ d + 1 := by
  have hz := cut_zero s n d
  unfold Toward.cut at hz ⊢
  dsimp only at hz ⊢
  have : (false : Bool).toNat = 0 := rfl
  rw [this, Nat.add_zero] at hz
  have key : ∀ b : Bool, n / (1 <<< min d (n.log2 + 2)) + b.toNat ≤ n / 2 ^ d + 1 := fun b => by
    rw [hz]
    have := Bool.toNat_le b
    omega
  exact key _
theorem truncQ_le (m : Nat) (e : Int) : ((truncQ m e : Nat) : Rat) ≤ (m : Rat) * p2 e := by
  unfold truncQ
  rw [Nat.shiftLeft_eq]
  by_cases he : 0 ≤ e
  · have h1 : (-e).toNat = 0 := by omega
    have h2 : p2 e = ((2 ^ e.toNat : Nat) : Rat) := by rw [← p2_nat]; congr 1; omega
    rw [h1, h2, Nat.pow_zero, Nat.div_one, Rat.natCast_mul]
    grind
  · have h1 : e.toNat = 0 := by omega
    have h2 := p2_neg (-e).toNat
    have h3 : p2 e = p2 (-((-e).toNat : Int)) := by congr 1; omega
    rw [h1, Nat.pow_zero, Nat.mul_one, h3]
    have h4 : m / 2 ^ (-e).toNat * 2 ^ (-e).toNat ≤ m := Nat.div_mul_le_self _ _
    have h5 : ((m / 2 ^ (-e).toNat : Nat) : Rat) * ((2 ^ (-e).toNat : Nat) : Rat) ≤ (m : Rat) := by
      rw [← Rat.natCast_mul]
      exact Rat.natCast_le_natCast.2 h4
    have h6 := p2_pos (-((-e).toNat : Int))
    have h7 := Rat.mul_le_mul_of_nonneg_right h5 (Rat.le_of_lt h6)
    rw [Rat.mul_assoc, h2] at h7
    grind
def floorW (x : Nat) : Nat := double.write ((dec x).integral .down)
theorem floor_isI {x : Nat} (h : fin x = true) (h1 : - (((2 ^ 53 - 1 : Nat) : Int) : Rat) ≤ Q x) (h2 : Q x ≤ (((2 ^ 53 - 1 : Nat) : Int) : Rat)) : ∃ n : Int, isI (floorW x) n ∧ n.natAbs ≤ 2 ^ 53 := by
  obtain ⟨s, m, e, hd⟩ := fin_iff.1 h
  have hk := cut_le .down s (m <<< e.toNat) (-e).toNat
  generalize hkk : Toward.down.cut s (m <<< e.toNat) (-e).toNat = k at hk
  have hw : floorW x = double.nearest s k 0 := by
    unfold floorW
    rw [hd]
    show double.write (.number s (Toward.down.cut s (m <<< e.toNat) (-e).toNat) 0) = _
    rw [hkk]
    rfl
  have ht := truncQ_le m e
  have hm : (m : Rat) * p2 e ≤ (((2 ^ 53 - 1 : Nat) : Int) : Rat) := by
    unfold Q at h1 h2
    rw [hd] at h1 h2
    change _ ≤ sgn s * (m : Rat) * p2 e at h1
    change sgn s * (m : Rat) * p2 e ≤ _ at h2
    cases s <;> simp [sgn] at h1 h2 <;> grind
  have hk2 : k ≤ 2 ^ 53 := by
    have : ((truncQ m e : Nat) : Rat) ≤ ((2 ^ 53 - 1 : Nat) : Rat) := by
      have e1 : (((2 ^ 53 - 1 : Nat) : Int) : Rat) = ((2 ^ 53 - 1 : Nat) : Rat) := rfl
      rw [e1] at hm
      grind
    have := Rat.natCast_le_natCast.1 this
    unfold truncQ at this
    omega
  have hr : Rounds (sgn s * (k : Rat) * p2 0) (floorW x) := ⟨s, k, 0, rfl, hw⟩
  refine ⟨if s then -(k : Int) else (k : Int), exactI hr _ ?_ ?_, ?_⟩
  · rw [p2_zero]
    have e1 : (((k : Int) : Int) : Rat) = (k : Rat) := rfl
    cases s
    · simp only [sgn, Bool.false_eq_true, if_false]
      rw [e1]
      grind
    · simp only [sgn, if_true]
      rw [Rat.intCast_neg, e1]
      grind
  · cases s <;> simp <;> omega
  · cases s <;> simp <;> omega
theorem div_alg {A N E J M P K X : Rat} (h1 : A * N * (E * J) ≤ 4 * (P * M) * (E * J)) (h2 : E * (2 * M * J) = X) (h3 : P * X ≤ K * (N * J)) : (A * E) * (N * J) ≤ (2 * K) * (N * J) := by
  subst h2
  have e1 : 4 * (P * M) * (E * J) = 2 * (P * (E * (2 * M * J))) := by grind
  have e2 : A * N * (E * J) = (A * E) * (N * J) := by grind
  have e3 : (2 * K) * (N * J) = 2 * (K * (N * J)) := by grind
  grind
/-- a quotient, bounded: at most twice what it should be -/
theorem div_bound {a b : Nat} (ha : fin a = true) (hb : fin b = true) (hp : 0 < Q b) (K : Rat) (h1 : Q a ≤ K * Q b) (h2 : - (K * Q b) ≤ Q a) :
    double.div a b = some (fdiv a b) ∧ ∃ y, Rounds y (fdiv a b) ∧ y ≤ 2 * K ∧ - (2 * K) ≤ y := by
  obtain ⟨s, m, i, d1⟩ := fin_iff.1 ha
  obtain ⟨t, n, j, d2⟩ := fin_iff.1 hb
  have hm := (dec_bounds d1).1
  unfold Q at hp h1 h2
  rw [d1] at h1 h2
  rw [d2] at hp h1 h2
  change 0 < sgn t * (n : Rat) * p2 j at hp
  change sgn s * (m : Rat) * p2 i ≤ K * (sgn t * (n : Rat) * p2 j) at h1
  change - (K * (sgn t * (n : Rat) * p2 j)) ≤ sgn s * (m : Rat) * p2 i at h2
  have hn : n ≠ 0 := by
    rintro rfl
    simp at hp
  generalize hmore : 54 + n.log2 - m.log2 = more
  generalize hmag : 2 * ((m <<< more) / n) + ((m <<< more) % n != 0).toNat = mag
  have hq : double.div a b = some (double.nearest (s ^^ t) mag (i - j - more - 1)) := by
    unfold Format.div
    unfold dec at d1 d2
    rw [d1, d2]
    simp only [Datum.quotient, hn, if_false]
    rw [← hmag, ← hmore]
    rfl
  unfold fdiv
  rw [hq]
  refine ⟨rfl, _, ⟨s ^^ t, mag, i - j - more - 1, rfl, rfl⟩, ?_⟩
  have hml : mag * n ≤ 4 * (m <<< more) := by
    have hb1 := Bool.toNat_le ((m <<< more) % n != 0)
    have hd1 : (m <<< more) / n * n ≤ m <<< more := Nat.div_mul_le_self _ _
    by_cases hm0 : m = 0
    · subst hm0
      rw [← hmag]
      simp
    · have : n ≤ m <<< more := by
        rw [Nat.shiftLeft_eq]
        have l1 : n < 2 ^ (n.log2 + 1) := Nat.lt_log2_self
        have l2 : 2 ^ m.log2 ≤ m := Nat.log2_self_le hm0
        have l3 : m.log2 ≤ 52 := by
          have := (Nat.log2_lt hm0).2 hm
          omega
        have l4 : 2 ^ (n.log2 + 1) ≤ 2 ^ m.log2 * 2 ^ more := by
          rw [← Nat.pow_add]
          exact Nat.pow_le_pow_right (by omega) (by omega)
        have l5 : 2 ^ m.log2 * 2 ^ more ≤ m * 2 ^ more := Nat.mul_le_mul_right _ l2
        omega
      rw [← hmag, Nat.add_mul, Nat.mul_assoc]
      have : ((m <<< more) % n != 0).toNat * n ≤ 1 * n := Nat.mul_le_mul_right _ hb1
      omega
  have hml2 : (mag : Rat) * (n : Rat) ≤ 4 * ((m : Rat) * p2 (more : Int)) := by
    rw [p2_nat, ← Rat.natCast_mul, ← Rat.natCast_mul, Nat.shiftLeft_eq] at *
    have := Rat.natCast_le_natCast.2 hml
    rw [Rat.natCast_mul 4] at this
    exact this
  have hs : t = false := by
    cases t with
    | false => rfl
    | true =>
      have := q_nonneg n j
      simp [sgn] at hp
      grind
  subst hs
  have hpj := p2_pos j
  have hpe : p2 (i - j - more - 1) * (2 * p2 (more : Int) * p2 j) = p2 i := by
    have e1 : i = (i - j - more - 1) + (((more : Int) + 1) + j) := by omega
    have e2 := p2_succ (more : Int)
    rw [e1, p2_add, p2_add, e2]
    congr 2
    omega
  have a1 : (m : Rat) * p2 i ≤ K * ((n : Rat) * p2 j) := by cases s <;> simp [sgn] at h1 h2 <;> grind
  have hnj : 0 < (n : Rat) * p2 j := by simp [sgn] at hp; grind
  have hE := p2_pos (i - j - more - 1)
  have hEJ : 0 ≤ p2 (i - j - more - 1) * p2 j := Rat.le_of_lt (Rat.mul_pos hE hpj)
  have a2 := Rat.mul_le_mul_of_nonneg_right hml2 hEJ
  have a3 : ((mag : Rat) * p2 (i - j - more - 1)) * ((n : Rat) * p2 j) ≤ (2 * K) * ((n : Rat) * p2 j) := div_alg a2 hpe a1
  have a4 : (mag : Rat) * p2 (i - j - more - 1) ≤ 2 * K := Rat.le_of_mul_le_mul_right a3 hnj
  have a5 := q_nonneg mag (i - j - more - 1)
  cases s <;> simp [sgn] <;> grind
end Go.Proofs.Ytcidgicdeedgfaa.Fl
