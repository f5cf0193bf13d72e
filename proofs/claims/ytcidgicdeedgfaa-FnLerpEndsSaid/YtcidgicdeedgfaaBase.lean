/- Small facts that the walks of this seat share: stores of floats, float operations by their words, frames. No condition of any law stands here. -/
import Derived.Test.YtcidgicdeedgfaaFloat
import Derived.Test.YtcidgicdeedgfaaRows
import Derived.WalkKit
import Derived.ProofKit
import Derived.OpenShut
import Derived.WalkLawsBesides
import Derived.WalkSpells
import Derived.Laws.Externs
import Derived.Deep.RegionHeld3
import Derived.Deep.DeepMust
import Derived.Lib.Hide
import Derived.Below
import Derived.Lib.SmallJoins
import Derived.ChangeOld
namespace Go.Proofs.Ytcidgicdeedgfaa
open Go.ChangeShapes Go.WideShapes Go.ChangeAt Go.RowKit Go.Joins Go.Deep
open Go.Proofs.Ytcidgicdeedgfaa.Fl

section
variable (P : Program) (w : World)
theorem run_store_float (a : Addr) (m : Mode) (k : FloatKind) (b : Nat) : (store a (.float k b) m).run P w = stored P w a (.float k b) m := run_store P w a _ m rfl
theorem run_fadd (t : TypeId) (a b : Nat) (h : Ieee.double.add a b = some (fadd a b)) : (binOp .add t (.float .f64 a) (.float .f64 b)).run P w = .ok (.float .f64 (fadd a b)) w :=
  run_float_arith w .add t .f64 a b _ h
theorem run_fsub (t : TypeId) (a b : Nat) (h : Ieee.double.sub a b = some (fsub a b)) : (binOp .sub t (.float .f64 a) (.float .f64 b)).run P w = .ok (.float .f64 (fsub a b)) w :=
  run_float_arith w .sub t .f64 a b _ h
theorem run_fmul (t : TypeId) (a b : Nat) (h : Ieee.double.mul a b = some (fmul a b)) : (binOp .mul t (.float .f64 a) (.float .f64 b)).run P w = .ok (.float .f64 (fmul a b)) w :=
  run_float_arith w .mul t .f64 a b _ h
theorem run_fdiv (t : TypeId) (a b : Nat) (h : Ieee.double.div a b = some (fdiv a b)) : (binOp .quo t (.float .f64 a) (.float .f64 b)).run P w = .ok (.float .f64 (fdiv a b)) w :=
  run_float_arith w .quo t .f64 a b _ h
theorem run_equalIn_float (d : Nat) (t : TypeId) (k : FloatKind) (a b : Nat) (h : P.underlying t = some (.float k)) : (Op.equalIn (d + 1) t (.float k a) (.float k b)).run P w = .ok (k.format.order a b == some .eq) w := by
  simp [Op.equalIn, run_underlying h, Op.floatEq]
theorem fmt64 : FloatKind.f64.format = Ieee.double := rfl
end

/-- all old cells and marks read as before -/
theorem bcell {W w1 : World} {B : Nat} (hb : Below B W w1) : (∀ b o, b < B → w1.cell? ⟨b, o, none⟩ = W.cell? ⟨b, o, none⟩) ∧ (∀ b o, b < B → w1.frozen? ⟨b, o, none⟩ = W.frozen? ⟨b, o, none⟩) :=
  ⟨fun b o h => hb.cell (p := ⟨b, o, none⟩) h, fun b o h => hb.frozen (p := ⟨b, o, none⟩) h⟩

theorem chainB {w0 w w' w'' : World} (hS : Below w0.heap.size w0 w) (hg : Below w.heap.size w w') (hb : Below w'.heap.size w' w'') : Below w0.heap.size w0 w'' :=
  hS.trans ((hg.trans (hb.mono hg.size)).mono hS.size)

/-! ### arguments, opened -/
section
variable {H : Type} {enc : TypeId × Value → H} {P : Program} {w : World} {base : Nat} {spare : Nat → Bool} {held : Bool}
theorem trod_float {fuel : Nat} {t : TypeId} {k : FloatKind} {cs : List Value} {x : DataW H × List MemPlace} (ht : P.underlying t = some (.float k)) (h : DataW.trod enc P w base spare held fuel t cs = some x) :
    ∃ b, cs = [.float k b] ∧ x = (.lit (.float k b), []) ∧ (Lit.float k b).wf = true := by
  cases fuel with
  | zero => simp [DataW.trod] at h
  | succ n =>
    unfold DataW.trod at h
    rw [ht] at h
    split at h <;> simp_all
theorem open_ff {r : Reach} {b0 : Nat} {t : TypeId} {f0 f1 : Field} {v : Value} {d : DataW H} {p : List MemPlace} (hs : P.underlying t = some (.struct #[f0, f1])) (u0 : P.underlying f0.type = some (.float .f64)) (u1 : P.underlying f1.type = some (.float .f64))
    (hone : oneCellFields P #[f0, f1] = true) (hC : P.cellsOf t = 2) (hv : Value.okWide P w r b0 t v) (h : DataW.Trod enc P w base spare held t v d p) :
    ∃ a b : Nat, v = .agg #[.float .f64 a, .float .f64 b] := by
  obtain ⟨v0, v1, y0, y1, n, rfl, _, _, h0, h1⟩ := Joins.open_agg2 hs hone hC hv h
  obtain ⟨a, e0, _⟩ := trod_float u0 h0
  obtain ⟨b, e1, _⟩ := trod_float u1 h1
  simp at e0 e1
  subst e0 e1
  exact ⟨a, b, rfl⟩
theorem open_ffff {r : Reach} {b0 : Nat} {t : TypeId} {f0 f1 f2 f3 : Field} {v : Value} {d : DataW H} {p : List MemPlace} (hs : P.underlying t = some (.struct #[f0, f1, f2, f3])) (u0 : P.underlying f0.type = some (.float .f64)) (u1 : P.underlying f1.type = some (.float .f64))
    (u2 : P.underlying f2.type = some (.float .f64)) (u3 : P.underlying f3.type = some (.float .f64))
    (hone : oneCellFields P #[f0, f1, f2, f3] = true) (hC : P.cellsOf t = 4) (hv : Value.okWide P w r b0 t v) (h : DataW.Trod enc P w base spare held t v d p) :
    ∃ a b c e : Nat, v = .agg #[.float .f64 a, .float .f64 b, .float .f64 c, .float .f64 e] := by
  obtain ⟨v0, v1, v2, v3, y0, y1, y2, y3, n, rfl, _, _, h0, h1, h2, h3⟩ := Joins.open_agg4 hs hone hC hv h
  obtain ⟨a, e0, _⟩ := trod_float u0 h0
  obtain ⟨b, e1, _⟩ := trod_float u1 h1
  obtain ⟨c, e2, _⟩ := trod_float u2 h2
  obtain ⟨e, e3, _⟩ := trod_float u3 h3
  simp at e0 e1 e2 e3
  subst e0 e1 e2 e3
  exact ⟨a, b, c, e, rfl⟩
end

end Go.Proofs.Ytcidgicdeedgfaa
