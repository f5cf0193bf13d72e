/- When the memory of a world holds a geometry (plain data, of some depth); a geometry that came in, opened. -/
import Derived.Test.YtpbllagjcdcnpaaPlaces
namespace Go.Proofs.Ytpbllagjcdcnpaa
open Go.ChangeShapes Go.WideShapes Go.ChangeAt Go.RowKit
open Fl
set_option linter.unusedSimpArgs false
set_option linter.unusedVariables false
attribute [local go_sem] run_store_float run_fadd run_fsub run_fmul run_fdiv run_equalIn_float fmt64

theorem addBlk (a : Addr) (n : Nat) : (a.add n).block = a.block := by unfold Addr.add; split <;> rfl
theorem addJ (a : Addr) (i j : Nat) : a.add (i + (j + 1)) = ⟨(a.add i).block, (a.add i).off + (j + 1), none⟩ := by
  unfold Addr.add
  rw [if_neg (by omega)]
  split
  · subst_vars; simp
  · simp [Nat.add_assoc]
theorem add0 (b m : Nat) : (⟨b, 0, none⟩ : Addr).add m = ⟨b, m, none⟩ := by
  unfold Addr.add
  split
  · subst_vars; rfl
  · simp
/-- n numbers at A read as f -/
structure Flo (w : World) (A : Option Addr) (n c : Nat) (f : Nat → Nat) : Prop where
  le : n ≤ c
  cap : c ≤ maxLen
  none_ : A = none → n = 0 ∧ c = 0
  cell : ∀ a, A = some a → ∀ i, i < n → w.cell? (a.add i) = some (fw (f i))
theorem Flo.keep {w w' : World} {A : Option Addr} {n c : Nat} {f : Nat → Nat} (h : Flo w A n c f) (hb : Below w.heap.size w w') : Flo w' A n c f :=
  ⟨h.le, h.cap, h.none_, fun a ha i hi => by
    have h1 := h.cell a ha i hi
    exact (hb.cell (World.block_lt_of_cell? w _ h1)).trans h1⟩
theorem Flo.some {w : World} {A : Option Addr} {n c i : Nat} {f : Nat → Nat} (h : Flo w A n c f) (hi : i < n) : ∃ a, A = Option.some a := by
  cases A with
  | none => have := (h.none_ rfl).1; omega
  | some a => exact ⟨a, rfl⟩
theorem Flo.nil (w : World) (f : Nat → Nat) : Flo w none 0 0 f := ⟨Nat.le_refl _, (by unfold maxLen; omega), fun _ => ⟨rfl, rfl⟩, fun a h => by cases h⟩
theorem Flo.other {w : World} {A : Option Addr} {n c : Nat} {f : Nat → Nat} (h : Flo w A n c f) {p : Addr} (hp : ∀ a, A = Option.some a → p.block ≠ a.block) (v : Value) : Flo (w.setCell p v) A n c f :=
  ⟨h.le, h.cap, h.none_, fun a ha i hi => by
    have h1 := h.cell a ha i hi
    have := Below.heap_setCell w p v (a.add i).block (by rw [addBlk]; exact fun e => hp a ha e.symm)
    exact (World.cell?_of_block this).trans h1⟩
def inI (n : Int) : Prop := -9223372036854775808 ≤ n ∧ n ≤ 9223372036854775807
/-- four cells hold a geometry, at most d deep -/
def GD (w : World) : Nat → Value → Value → Value → Value → Prop
  | 0, _, _, _, _ => False
  | d + 1, c0, c1, c2, c3 => ∃ (k m : Int) (A : Option Addr) (n c : Nat) (f : Nat → Nat) (B : Option Addr) (l e : Nat), inI k ∧ inI m ∧ c0 = .int .i64 k ∧ c1 = .int .i64 m ∧ c2 = .slice A n c ∧ Flo w A n c f ∧
      c3 = .slice B l e ∧ l ≤ e ∧ e ≤ maxLen ∧ (B = none → l = 0 ∧ e = 0) ∧
      ∀ b, B = some b → ∀ i, i < l → ∃ q0 q1 q2 q3, w.cell? (b.add (i * 4)) = some q0 ∧ w.cell? ⟨(b.add (i * 4)).block, (b.add (i * 4)).off + 1, none⟩ = some q1 ∧
        w.cell? ⟨(b.add (i * 4)).block, (b.add (i * 4)).off + 2, none⟩ = some q2 ∧ w.cell? ⟨(b.add (i * 4)).block, (b.add (i * 4)).off + 3, none⟩ = some q3 ∧ GD w d q0 q1 q2 q3
theorem GD.keep {w w' : World} (hb : Below w.heap.size w w') : ∀ {d : Nat} {c0 c1 c2 c3 : Value}, GD w d c0 c1 c2 c3 → GD w' d c0 c1 c2 c3
  | 0, _, _, _, _, h => h.elim
  | d + 1, _, _, _, _, ⟨k, m, A, n, c, f, B, l, e, hk, hm, e0, e1, e2, hf, e3, h1, h2, h3, hs⟩ =>
    ⟨k, m, A, n, c, f, B, l, e, hk, hm, e0, e1, e2, hf.keep hb, e3, h1, h2, h3, fun b hbb i hi => by
      obtain ⟨q0, q1, q2, q3, x0, x1, x2, x3, hq⟩ := hs b hbb i hi
      exact ⟨q0, q1, q2, q3, (hb.cell (World.block_lt_of_cell? w _ x0)).trans x0, (hb.cell (World.block_lt_of_cell? w _ x1)).trans x1, (hb.cell (World.block_lt_of_cell? w _ x2)).trans x2,
        (hb.cell (World.block_lt_of_cell? w _ x3)).trans x3, GD.keep hb hq⟩⟩
theorem GD.shape {w : World} : ∀ {d : Nat} {c0 c1 c2 c3 : Value}, GD w d c0 c1 c2 c3 → ∃ (k m : Int) (A B : Option Addr) (n c l e : Nat), c0 = .int .i64 k ∧ c1 = .int .i64 m ∧ c2 = .slice A n c ∧ c3 = .slice B l e
  | 0, _, _, _, _, h => h.elim
  | _ + 1, _, _, _, _, ⟨k, m, A, n, c, _, B, l, e, _, _, e0, e1, e2, _, e3, _⟩ => ⟨k, m, A, B, n, c, l, e, e0, e1, e2, e3⟩
theorem GD.mono {w : World} : ∀ {d d' : Nat} {c0 c1 c2 c3 : Value}, d ≤ d' → GD w d c0 c1 c2 c3 → GD w d' c0 c1 c2 c3
  | 0, _, _, _, _, _, _, h => h.elim
  | d + 1, 0, _, _, _, _, hd, _ => by omega
  | d + 1, d' + 1, _, _, _, _, hd, ⟨k, m, A, n, c, f, B, l, e, hk, hm, e0, e1, e2, hf, e3, h1, h2, h3, hs⟩ =>
    ⟨k, m, A, n, c, f, B, l, e, hk, hm, e0, e1, e2, hf, e3, h1, h2, h3, fun b hbb i hi => by
      obtain ⟨q0, q1, q2, q3, x0, x1, x2, x3, hq⟩ := hs b hbb i hi
      exact ⟨q0, q1, q2, q3, x0, x1, x2, x3, GD.mono (by omega) hq⟩⟩
section
variable {H : Type} {enc : TypeId × Value → H} {P : Program} {w : World} {base : Nat} {held : Bool}
theorem open_flo {t e : TypeId} {fuel : Nat} {cs : List Value} {x : DataW H × List MemPlace} (ht : P.underlying t = some (.slice e)) (ce : P.cellsOf e = 1) (he : P.underlying e = some (.float .f64))
    (h : DataW.trod enc P w base (fun _ => true) held fuel t cs = some x) : ∃ A n c f, cs = [.slice A n c] ∧ Flo w A n c f := by
  rcases Deep.open_slice1 ht ce h with ⟨rfl, _⟩ | ⟨a, len, cap, m, n, V, D, Pl, rfl, _, hl, hm, hmm, _, hx⟩
  · exact ⟨none, 0, 0, fun _ => 0, rfl, Flo.nil w _⟩
  · have hlm : len ≤ m := by rw [hmm]; simpa using hl
    have each : ∀ i, i < len → ∃ q : Nat, w.cell? (a.add i) = some (fw q) := fun i hi => by
      obtain ⟨x0, x1⟩ := hx i (by omega)
      obtain ⟨q0, e0, _⟩ := trod_float he x1
      simp at e0
      rw [e0] at x0
      exact ⟨q0, x0⟩
    obtain ⟨f, hf⟩ := Deep.choose_lt each
    exact ⟨some a, len, cap, f, rfl, ⟨hl, hm, fun h => (by cases h), fun b hb i hi => (by cases hb; exact hf i hi)⟩⟩
theorem trod_gd {t : TypeId} {f0 f1 f2 f3 : Field} {te : TypeId} (ht : P.underlying t = some (.struct #[f0, f1, f2, f3])) (i0 : P.underlying f0.type = some (.int .i64)) (i1 : P.underlying f1.type = some (.int .i64))
    (i2 : P.underlying f2.type = some (.slice te)) (i3 : P.underlying f3.type = some (.slice t)) (he : P.underlying te = some (.float .f64)) (ce : P.cellsOf te = 1) (ct : P.cellsOf t = 4)
    (o0 : f0.offset = 0) (o1 : f1.offset = 1) (o2 : f2.offset = 2) (o3 : f3.offset = 3) (k0 : P.cellsOf f0.type = 1) (k1 : P.cellsOf f1.type = 1) (k2 : P.cellsOf f2.type = 1) (k3 : P.cellsOf f3.type = 1) :
    ∀ (N fuel : Nat), fuel ≤ N → ∀ {cs : List Value} {x : DataW H × List MemPlace}, DataW.trod enc P w base (fun _ => true) held fuel t cs = some x → ∃ d c0 c1 c2 c3, d ≤ N ∧ cs = [c0, c1, c2, c3] ∧ GD w d c0 c1 c2 c3 := by
  intro N
  induction N with
  | zero =>
    intro fuel hfu cs x h
    obtain ⟨xs, n, rfl, _⟩ := DataW.trod_struct ht h
    omega
  | succ N ih =>
    intro fuel hfu cs x h
    obtain ⟨xs, n, rfl, rfl, hl, hlen, hf⟩ := DataW.trod_struct ht h
    rw [ct] at hl
    match cs, hl, xs, hlen with
    | [c0, c1, c2, c3], _, [y0, y1, y2, y3], _ =>
      have g0 := hf 0 f0 rfl
      have g1 := hf 1 f1 rfl
      have g2 := hf 2 f2 rfl
      have g3 := hf 3 f3 rfl
      simp [o0, o1, o2, o3, k0, k1, k2, k3] at g0 g1 g2 g3
      obtain ⟨z0, e0, _, w0⟩ := DataW.trod_int i0 g0
      obtain ⟨z1, e1, _, w1⟩ := DataW.trod_int i1 g1
      obtain ⟨A, m, c, f, e2, hflo⟩ := open_flo i2 ce he g2
      simp at e0 e1 e2
      have wi : ∀ z : Int, (Lit.int .i64 z).wf = true → inI z := fun z hz => by
        simp [Lit.wf, IntKind.min, IntKind.max, IntKind.signed, IntKind.bits] at hz
        unfold inI
        omega
      rcases DataW.trod_slice i3 g3 with ⟨e3, _⟩ | ⟨a, len, cap, elems, rest, n', hn', e3, _, _, hle, hmx, hlen', hel, _⟩
      · simp at e3
        exact ⟨N + 1, c0, c1, c2, c3, Nat.le_refl _, rfl, z0, z1, A, m, c, f, none, 0, 0, wi _ w0, wi _ w1, e0, e1, e2, hflo, e3, Nat.le_refl _, (by unfold maxLen; omega), fun _ => ⟨rfl, rfl⟩, fun b hb => (by cases hb)⟩
      · simp at e3
        refine ⟨N + 1, c0, c1, c2, c3, Nat.le_refl _, rfl, z0, z1, A, m, c, f, some a, len, cap, wi _ w0, wi _ w1, e0, e1, e2, hflo, e3, hle, hmx, fun hb => (by cases hb), fun b hb i hi => ?_⟩
        cases hb
        have h1 := hel i hi
        rw [ct, List.getElem?_eq_getElem (by omega), Option.bind_eq_some_iff] at h1
        obtain ⟨cs', hc', ht'⟩ := h1
        obtain ⟨d, q0, q1, q2, q3, hd, rfl, hq⟩ := ih n' (by omega) ht'
        obtain ⟨_, _, hcell⟩ := World.cells?_some hc'
        have s0 := hcell 0 (by simp)
        have s1 := hcell 1 (by simp)
        have s2 := hcell 2 (by simp)
        have s3 := hcell 3 (by simp)
        rw [Deep.add_add] at s0 s1 s2 s3
        rw [addJ] at s1 s2 s3
        exact ⟨q0, q1, q2, q3, s0, s1, s2, s3, hq.mono hd⟩
end
/-- a geometry at value v, at most d deep -/
def GV (w : World) (d : Nat) (v : Value) : Prop := ∃ c0 c1 c2 c3, v = .agg #[c0, c1, c2, c3] ∧ GD w d c0 c1 c2 c3
theorem GV.keep {w w' : World} {d : Nat} {v : Value} (h : GV w d v) (hb : Below w.heap.size w w') : GV w' d v := by
  obtain ⟨c0, c1, c2, c3, e, h⟩ := h
  exact ⟨c0, c1, c2, c3, e, h.keep hb⟩
section
variable {H : Type} {enc : TypeId × Value → H} {w : World} {base : Nat} {held : Bool}
set_option maxRecDepth 100000 in
theorem open_geom {r : Reach} {b0 : Nat} {v : Value} {dd : DataW H} {p : List MemPlace} (hv : Value.okWide Try.prog w r b0 25 v) (h : DataW.Trod enc Try.prog w base (fun _ => true) held 25 v dd p) : ∃ d, GV w d v := by
  obtain ⟨cs, rfl, hsz⟩ := okWide_struct Try.underlying25 hv
  obtain ⟨fuel, hf⟩ := h
  obtain ⟨d, c0, c1, c2, c3, _, e, hq⟩ := trod_gd (P := Try.prog) Try.underlying25 Try.underlying3 Try.underlying3 Try.underlying22 Try.underlying23 Try.underlying48
    (by kernel_rfl) (by kernel_rfl) (by kernel_rfl) (by kernel_rfl) (by kernel_rfl) (by kernel_rfl) (by kernel_rfl) (by kernel_rfl) (by kernel_rfl) (by kernel_rfl) fuel fuel (Nat.le_refl _) hf
  refine ⟨d, c0, c1, c2, c3, ?_, hq⟩
  congr 1
  exact Array.ext' e
end
end Go.Proofs.Ytpbllagjcdcnpaa
