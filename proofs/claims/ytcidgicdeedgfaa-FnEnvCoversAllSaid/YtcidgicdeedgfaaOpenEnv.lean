/- An argument that is an envelope, opened. -/
import Derived.Test.YtcidgicdeedgfaaBase
namespace Go.Proofs.Ytcidgicdeedgfaa
open Go.ChangeShapes Go.WideShapes Go.ChangeAt Go.RowKit
open Fl
set_option linter.unusedSimpArgs false
set_option linter.unusedVariables false
attribute [local go_sem] run_store_float run_fadd run_fsub run_fmul run_fdiv run_equalIn_float fmt64
open Deep
section
variable {H : Type} {enc : TypeId × Value → H} {P : Program} {w : World} {base : Nat} {spare : Nat → Bool} {held : Bool}
theorem open_bffff {r : Reach} {b0 : Nat} {t : TypeId} {f0 f1 g0 g1 g2 g3 : Field} {v : Value} {d : DataW H} {p : List MemPlace} (hs : P.underlying t = some (.struct #[f0, f1])) (u0 : P.underlying f0.type = some .bool)
    (us : P.underlying f1.type = some (.struct #[g0, g1, g2, g3])) (w0 : P.underlying g0.type = some (.float .f64)) (w1 : P.underlying g1.type = some (.float .f64))
    (w2 : P.underlying g2.type = some (.float .f64)) (w3 : P.underlying g3.type = some (.float .f64))
    (o0 : f0.offset = 0) (k0 : P.cellsOf f0.type = 1) (o1 : f1.offset = 1) (k1 : P.cellsOf f1.type = 4) (hone : oneCellFields P #[g0, g1, g2, g3] = true) (hC : P.cellsOf t = 5)
    (hv : Value.okWide P w r b0 t v) (h : DataW.Trod enc P w base spare held t v d p) :
    ∃ (f : Bool) (a b c e : Nat), v = .agg #[.bool f, .float .f64 a, .float .f64 b, .float .f64 c, .float .f64 e] := by
  obtain ⟨cs, rfl, hsz⟩ := okWide_struct hs hv
  have hsz' := hsz.trans hC
  obtain ⟨l⟩ := cs
  match l, hsz' with
  | [v0, v1, v2, v3, v4], _ =>
    obtain ⟨fuel, hf⟩ := h
    obtain ⟨y0, y1, n, hx, _, h0, h1⟩ := trod_struct2 hs hf
    obtain ⟨z0, z1, z2, z3, m, _, _, q0, q1, q2, q3⟩ := Joins.trod_struct4 us h1
    obtain ⟨p0, s0⟩ := hone_of hone 0 g0 rfl
    obtain ⟨p1, s1⟩ := hone_of hone 1 g1 rfl
    obtain ⟨p2, s2⟩ := hone_of hone 2 g2 rfl
    obtain ⟨p3, s3⟩ := hone_of hone 3 g3 rfl
    obtain ⟨f, e0, _⟩ := DataW.trod_bool u0 h0
    obtain ⟨a, e1, _⟩ := trod_float w0 q0
    obtain ⟨b, e2, _⟩ := trod_float w1 q1
    obtain ⟨c, e3, _⟩ := trod_float w2 q2
    obtain ⟨d, e4, _⟩ := trod_float w3 q3
    simp [Value.cells, o0, k0, o1, k1, p0, p1, p2, p3, s0, s1, s2, s3] at e0 e1 e2 e3 e4
    subst e0 e1 e2 e3 e4
    exact ⟨f, a, b, c, d, rfl⟩
end
end Go.Proofs.Ytcidgicdeedgfaa
