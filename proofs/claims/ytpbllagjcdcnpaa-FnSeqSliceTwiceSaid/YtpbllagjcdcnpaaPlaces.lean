/- Lists of places in memory: a block whose cells are pairs of words; a slice of places that came in. -/
import Derived.Test.YtpbllagjcdcnpaaBase
import Derived.OwnWalk
import Derived.Deep.SlicePairs
namespace Go.Proofs.Ytpbllagjcdcnpaa
open Go.ChangeShapes Go.WideShapes Go.ChangeAt Go.RowKit
open Fl
set_option linter.unusedSimpArgs false
set_option linter.unusedVariables false
attribute [local go_sem] run_store_float run_fadd run_fsub run_fmul run_fdiv run_equalIn_float fmt64

abbrev fw (x : Nat) : Value := .float .f64 x
def pairs (n : Nat) (f : Nat → Nat × Nat) : List Value := (List.range n).flatMap fun i => [fw (f i).1, fw (f i).2]
def upd (f : Nat → Nat × Nat) (i : Nat) (p : Nat × Nat) : Nat → Nat × Nat := fun j => if j = i then p else f j
theorem pairs_succ (n : Nat) (f : Nat → Nat × Nat) : pairs (n + 1) f = pairs n f ++ [fw (f n).1, fw (f n).2] := by simp [pairs, List.range_succ]
theorem pairs_len (n : Nat) (f : Nat → Nat × Nat) : (pairs n f).length = n * 2 := by
  induction n with
  | zero => rfl
  | succ n ih => rw [pairs_succ, List.length_append, ih]; simp; omega
theorem pairs_cong {n : Nat} {f g : Nat → Nat × Nat} (h : ∀ i, i < n → f i = g i) : pairs n f = pairs n g := by
  induction n with
  | zero => rfl
  | succ n ih => rw [pairs_succ, pairs_succ, ih (fun i hi => h i (by omega)), h n (by omega)]
theorem pairs_at {n : Nat} {f : Nat → Nat × Nat} {i : Nat} (h : i < n) : (pairs n f)[i * 2]? = some (fw (f i).1) ∧ (pairs n f)[i * 2 + 1]? = some (fw (f i).2) := by
  induction n with
  | zero => omega
  | succ n ih =>
    rw [pairs_succ]
    have hl := pairs_len n f
    by_cases hi : i < n
    · rw [List.getElem?_append_left (by omega), List.getElem?_append_left (by omega)]
      exact ih hi
    · have : i = n := by omega
      subst this
      rw [List.getElem?_append_right (by omega), List.getElem?_append_right (by omega), hl, show i * 2 - i * 2 = 0 by omega, show i * 2 + 1 - i * 2 = 1 by omega]
      exact ⟨rfl, rfl⟩
theorem pairs_set {n : Nat} {f : Nat → Nat × Nat} {i : Nat} (h : i < n) (p : Nat × Nat) : ((pairs n f).set (i * 2) (fw p.1)).set (i * 2 + 1) (fw p.2) = pairs n (upd f i p) := by
  induction n with
  | zero => omega
  | succ n ih =>
    rw [pairs_succ, pairs_succ]
    have hl := pairs_len n f
    by_cases hi : i < n
    · have hne : upd f i p n = f n := by simp [upd]; omega
      rw [List.set_append_left _ _ (by omega), List.set_append_left _ _ (by simp; omega), ih hi, hne]
    · have : i = n := by omega
      subst this
      rw [List.set_append_right _ _ (by omega), hl, show i * 2 - i * 2 = 0 by omega, List.set_append_right _ _ (by omega), hl, show i * 2 + 1 - i * 2 = 1 by omega]
      have hc : pairs i (upd f i p) = pairs i f := pairs_cong fun j hj => by simp [upd]; omega
      rw [hc]
      simp [upd]
theorem pairs_zero (n : Nat) : List.replicate (n * 2) (fw 0) = pairs n fun _ => (0, 0) := by
  induction n with
  | zero => rfl
  | succ n ih =>
    rw [pairs_succ, ← ih, show (n + 1) * 2 = n * 2 + 2 by omega, ← List.replicate_append_replicate]
    rfl
/-- a slice value of n places, which reads as f -/
def Places (w : World) (v : Value) (n : Nat) (f : Nat → Nat × Nat) : Prop :=
  (v = .slice none 0 0 ∧ n = 0) ∨ ∃ a c, v = .slice (some a) n c ∧ n ≤ c ∧ c ≤ maxLen ∧ (0 < n → a.block < w.heap.size) ∧ ∀ i, i < n → w.cell? (a.add (i * 2)) = some (fw (f i).1) ∧ w.cell? (a.add (i * 2 + 1)) = some (fw (f i).2)
section
variable {H : Type} {enc : TypeId × Value → H} {P : Program} {w : World} {base : Nat} {held : Bool}
theorem open_places {r : Reach} {b0 : Nat} {t e : TypeId} {f0 f1 : Field} {v : Value} {d : DataW H} {p : List MemPlace} (ht : P.underlying t = some (.slice e)) (he : P.underlying e = some (.struct #[f0, f1]))
    (ce : P.cellsOf e = 2) (o0 : f0.offset = 0) (o1 : f1.offset = 1) (c0 : P.cellsOf f0.type = 1) (c1 : P.cellsOf f1.type = 1) (w0 : P.underlying f0.type = some (.float .f64)) (w1 : P.underlying f1.type = some (.float .f64))
    (hv : Value.okWide P w r b0 t v) (h : DataW.Trod enc P w base (fun _ => true) held t v d p) : ∃ n f, Places w v n f := by
  obtain ⟨a0, len, cap, rfl⟩ := okWide_slice ht hv
  obtain ⟨fuel, hf⟩ := h
  rcases Deep.open_slice_pairs ht he ce o0 o1 c0 c1 hf with ⟨hc, _⟩ | ⟨a, l, c, m, n, V0, V1, D0, D1, P0, P1, hc, _, hl, hm, hmm, _, hx⟩
  · simp [Value.cells] at hc
    obtain ⟨rfl, rfl, rfl⟩ := hc
    exact ⟨0, fun _ => (0, 0), Or.inl ⟨rfl, rfl⟩⟩
  · simp [Value.cells] at hc
    obtain ⟨rfl, rfl, rfl⟩ := hc
    have hlm : len ≤ m := by rw [hmm]; simpa using hl
    have each : ∀ i, i < len → ∃ q : Nat × Nat, w.cell? (a.add (i * 2)) = some (fw q.1) ∧ w.cell? (a.add (i * 2 + 1)) = some (fw q.2) := fun i hi => by
      obtain ⟨x0, x1, x2, x3⟩ := hx i (by omega)
      obtain ⟨q0, e0, _⟩ := trod_float w0 x2
      obtain ⟨q1, e1, _⟩ := trod_float w1 x3
      simp at e0 e1
      rw [e0] at x0
      rw [e1] at x1
      exact ⟨(q0, q1), x0, x1⟩
    obtain ⟨f, hf'⟩ := Deep.choose_lt each
    refine ⟨len, f, Or.inr ⟨a, cap, rfl, hl, hm, fun h0 => ?_, hf'⟩⟩
    have := World.block_lt_of_cell? _ _ (hf' 0 h0).1
    simpa [Addr.add] using this
end
end Go.Proofs.Ytpbllagjcdcnpaa
