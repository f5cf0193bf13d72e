/- The plain law of FnEnvCoversAll: comparisons of finite numbers alone. -/
import Derived.Test.YtcidgicdeedgfaaFin
namespace Go.Proofs.Ytcidgicdeedgfaa
open Go Fl Ieee

def leb' (x y : Nat) : Bool := Ieee.double.order x y == some .lt || Ieee.double.order x y == some .eq
def geb' (x y : Nat) : Bool := Ieee.double.order x y == some .gt || Ieee.double.order x y == some .eq
theorem leb_iff {a b : Nat} (ha : fin a = true) (hb : fin b = true) : leb' a b = true ↔ Q a ≤ Q b := by
  obtain ⟨h1, h2, h3⟩ := order_iff ha hb
  unfold leb'
  rw [Bool.or_eq_true, h1, h3]
  grind
theorem geb_iff {a b : Nat} (ha : fin a = true) (hb : fin b = true) : geb' a b = true ↔ Q b ≤ Q a := by
  obtain ⟨h1, h2, h3⟩ := order_iff ha hb
  unfold geb'
  rw [Bool.or_eq_true, h2, h3]
  grind
theorem fin_between {m x M : Nat} (hm : fin m = true) (hM : fin M = true) (h1 : leb' m x = true) (h2 : leb' x M = true) : fin x = true := by
  obtain ⟨s, a, i, e1⟩ := fin_iff.1 hm
  obtain ⟨t, b, j, e2⟩ := fin_iff.1 hM
  unfold leb' Ieee.Format.order at h1 h2
  change ((dec m).order (dec x) == some .lt || (dec m).order (dec x) == some .eq) = true at h1
  change ((dec x).order (dec M) == some .lt || (dec x).order (dec M) == some .eq) = true at h2
  unfold fin
  rw [e1] at h1
  rw [e2] at h2
  cases hd : dec x with
  | nan s t => rw [hd] at h1; simp [Datum.order] at h1
  | infinity s => rw [hd] at h1 h2; cases s <;> simp [Datum.order] at h1 h2
  | number s m e => rfl
theorem not_nan_inf {x : Nat} (h : fin x = true) : isNan x = false ∧ isInf x = false := by
  have := fin_test x
  rw [h] at this
  unfold isInf
  cases h1 : isNan x <;> cases h2 : (dec x).isInfinity <;> simp [h1, h2] at this ⊢
def emin' (p r : Nat) : Nat := if (Ieee.double.order r p == some .lt) = true then r else p
def emax' (p r : Nat) : Nat := if (Ieee.double.order r p == some .gt) = true then r else p
theorem emin'_eq (p r : Nat) : emin' p r = fmin r p := rfl
theorem emax'_eq (p r : Nat) : emax' p r = fmax r p := rfl
/-- one axis: e has the ends a, c; o has a', c'; x is a place in o -/
theorem axis {a c a' c' x : Nat} (ha : fin a = true) (hc : fin c = true) (ha' : fin a' = true) (hc' : fin c' = true)
    (h1 : leb' (emin' a' c') x = true) (h2 : leb' x (emax' a' c') = true) :
    fin x = true ∧ fin (fmin (fmin a c) (fmin a' c')) = true ∧ fin (fmax (fmax a c) (fmax a' c')) = true ∧
    geb' x (fmin (fmin (fmin a c) (fmin a' c')) (fmax (fmax a c) (fmax a' c'))) = true ∧ leb' x (fmax (fmin (fmin a c) (fmin a' c')) (fmax (fmax a c) (fmax a' c'))) = true ∧
    leb' (fmin (fmin (fmin a c) (fmin a' c')) (fmax (fmax a c) (fmax a' c'))) (fmin a c) = true ∧ geb' (fmax (fmin (fmin a c) (fmin a' c')) (fmax (fmax a c) (fmax a' c'))) (fmax a c) = true ∧
    (leb' (fmin a c) (fmin (fmin (fmin a c) (fmin a' c')) (fmax (fmax a c) (fmax a' c'))) = true → geb' x (fmin a c) = true) ∧
    (geb' (fmax a c) (fmax (fmin (fmin a c) (fmin a' c')) (fmax (fmax a c) (fmax a' c'))) = true → leb' x (fmax a c) = true) := by
  rw [emin'_eq] at h1
  rw [emax'_eq] at h2
  obtain ⟨f1, l1, l2, o1⟩ := fmin_spec ha hc
  obtain ⟨f2, l3, l4, o2⟩ := fmin_spec ha' hc'
  obtain ⟨f3, l5, l6, o3⟩ := fmax_spec ha hc
  obtain ⟨f4, l7, l8, o4⟩ := fmax_spec ha' hc'
  obtain ⟨f5, l9, l10, o5⟩ := fmin_spec f1 f2
  obtain ⟨f6, l11, l12, o6⟩ := fmax_spec f3 f4
  obtain ⟨f7, l13, l14, o7⟩ := fmin_spec f5 f6
  obtain ⟨f8, l15, l16, o8⟩ := fmax_spec f5 f6
  obtain ⟨f9, l17, l18, o9⟩ := fmin_spec hc' ha'
  obtain ⟨f10, l19, l20, o10⟩ := fmax_spec hc' ha'
  have fx := fin_between f9 f10 h1 h2
  rw [leb_iff f9 fx] at h1
  rw [leb_iff fx f10] at h2
  rw [geb_iff fx f7, leb_iff fx f8, leb_iff f7 f1, geb_iff f8 f3, leb_iff f1 f7, geb_iff fx f1, geb_iff f3 f8, leb_iff fx f3]
  refine ⟨fx, f5, f6, ?_, ?_, ?_, ?_, ?_, ?_⟩ <;> grind
end Go.Proofs.Ytcidgicdeedgfaa
