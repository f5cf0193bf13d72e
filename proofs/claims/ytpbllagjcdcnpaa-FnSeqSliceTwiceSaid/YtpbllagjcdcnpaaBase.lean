/- Small facts that the walks of this seat share: stores of floats, float operations by their words, frames. No condition of any law stands here. -/
import Derived.Test.YtpbllagjcdcnpaaFloat
import Derived.Test.YtpbllagjcdcnpaaRows
import Derived.WalkKit
import Derived.ProofKit
import Derived.OpenShut
import Derived.WalkLawsBesides
import Derived.WalkSpells
import Derived.Laws.Externs
import Derived.Deep.RegionHeld3
import Derived.Deep.DeepMust
import Derived.Lib.Hide
import Derived.Below
import Derived.Lib.SmallJoins
import Derived.ChangeOld
namespace Go.Proofs.Ytpbllagjcdcnpaa
open Go.ChangeShapes Go.WideShapes Go.ChangeAt Go.RowKit Go.Joins Go.Deep
open Go.Proofs.Ytpbllagjcdcnpaa.Fl

section
variable (P : Program) (w : World)
theorem run_store_float (a : Addr) (m : Mode) (k : FloatKind) (b : Nat) : (store a (.float k b) m).run P w = stored P w a (.float k b) m := run_store P w a _ m rfl
theorem run_fadd (t : TypeId) (a b : Nat) (h : Ieee.double.add a b = some (fadd a b)) : (binOp .add t (.float .f64 a) (.float .f64 b)).run P w = .ok (.float .f64 (fadd a b)) w :=
  run_float_arith w .add t .f64 a b _ h
theorem run_fsub (t : TypeId) (a b : Nat) (h : Ieee.double.sub a b = some (fsub a b)) : (binOp .sub t (.float .f64 a) (.float .f64 b)).run P w = .ok (.float .f64 (fsub a b)) w :=
  run_float_arith w .sub t .f64 a b _ h
theorem run_fmul (t : TypeId) (a b : Nat) (h : Ieee.double.mul a b = some (fmul a b)) : (binOp .mul t (.float .f64 a) (.float .f64 b)).run P w = .ok (.float .f64 (fmul a b)) w :=
  run_float_arith w .mul t .f64 a b _ h
theorem run_fdiv (t : TypeId) (a b : Nat) (h : Ieee.double.div a b = some (fdiv a b)) : (binOp .quo t (.float .f64 a) (.float .f64 b)).run P w = .ok (.float .f64 (fdiv a b)) w :=
  run_float_arith w .quo t .f64 a b _ h
theorem run_equalIn_float (d : Nat) (t : TypeId) (k : FloatKind) (a b : Nat) (h : P.underlying t = some (.float k)) : (Op.equalIn (d + 1) t (.float k a) (.float k b)).run P w = .ok (k.format.order a b == some .eq) w := by
  simp [Op.equalIn, run_underlying h, Op.floatEq]
theorem fmt64 : FloatKind.f64.format = Ieee.double := rfl
end

/-- all old cells and marks read as before -/
theorem bcell {W w1 : World} {B : Nat} (hb : Below B W w1) : (∀ b o, b < B → w1.cell? ⟨b, o, none⟩ = W.cell? ⟨b, o, none⟩) ∧ (∀ b o, b < B → w1.frozen? ⟨b, o, none⟩ = W.frozen? ⟨b, o, none⟩) :=
  ⟨fun b o h => hb.cell (p := ⟨b, o, none⟩) h, fun b o h => hb.frozen (p := ⟨b, o, none⟩) h⟩

theorem chainB {w0 w w' w'' : World} (hS : Below w0.heap.size w0 w) (hg : Below w.heap.size w w') (hb : Below w'.heap.size w' w'') : Below w0.heap.size w0 w'' :=
  hS.trans ((hg.trans (hb.mono hg.size)).mono hS.size)

/-! ### a block that is known whole -/
def Blk (w : World) (r : Nat) (cs : List Value) (T : TypeId) : Prop := w.heap[r]? = some (.cells cs.toArray T (0, 0))
section
variable {w w' : World} {r : Nat} {cs : List Value} {T : TypeId}
theorem Blk.cell (h : Blk w r cs T) (j : Nat) : w.cell? ⟨r, j, none⟩ = cs[j]? := by simp [World.cell?, show w.heap[r]? = some (.cells cs.toArray T (0, 0)) from h]
theorem Blk.free (h : Blk w r cs T) (j : Nat) : w.frozen? ⟨r, j, none⟩ = false := by simp [World.frozen?, show w.heap[r]? = some (.cells cs.toArray T (0, 0)) from h]
theorem Blk.lt (h : Blk w r cs T) : r < w.heap.size := (Array.getElem?_eq_some_iff.1 h).1
theorem Blk.new (w : World) (cs : List Value) (T : TypeId) : Blk (w.alloc (.cells cs.toArray T)) w.heap.size cs T := heap_alloc_new w _
theorem Blk.alloc (h : Blk w r cs T) (o : Obj) : Blk (w.alloc o) r cs T := (Below.heap_alloc w o r h.lt).trans h
theorem Blk.keep (h : Blk w r cs T) {B : Nat} (hb : Below B w w') (hr : r < B) : Blk w' r cs T := (hb.block r hr).trans h
theorem Blk.set (h : Blk w r cs T) (j : Nat) (v : Value) : Blk (w.setCell ⟨r, j, none⟩ v) r (cs.set j v) T := by
  unfold Blk World.setCell
  simp only [Array.getElem?_modify, if_true]
  rw [show w.heap[r]? = some (.cells cs.toArray T (0, 0)) from h]
  simp
theorem Blk.other (h : Blk w r cs T) {p : Addr} (hp : p.block ≠ r) (v : Value) : Blk (w.setCell p v) r cs T := by
  have := Below.heap_setCell w p v r (Ne.symm hp)
  exact this.trans h
theorem Blk.c1 {v0 : Value} (h : Blk w r [v0] T) : w.cell? ⟨r, 0, none⟩ = some v0 ∧ w.frozen? ⟨r, 0, none⟩ = false :=
  ⟨h.cell 0, h.free 0⟩
theorem Blk.c2 {v0 v1 : Value} (h : Blk w r [v0, v1] T) : w.cell? ⟨r, 0, none⟩ = some v0 ∧ w.cell? ⟨r, 1, none⟩ = some v1 ∧ w.frozen? ⟨r, 0, none⟩ = false ∧ w.frozen? ⟨r, 1, none⟩ = false :=
  ⟨h.cell 0, h.cell 1, h.free 0, h.free 1⟩
theorem Blk.c3 {v0 v1 v2 : Value} (h : Blk w r [v0, v1, v2] T) : w.cell? ⟨r, 0, none⟩ = some v0 ∧ w.cell? ⟨r, 1, none⟩ = some v1 ∧ w.cell? ⟨r, 2, none⟩ = some v2 ∧ w.frozen? ⟨r, 0, none⟩ = false ∧ w.frozen? ⟨r, 1, none⟩ = false ∧ w.frozen? ⟨r, 2, none⟩ = false :=
  ⟨h.cell 0, h.cell 1, h.cell 2, h.free 0, h.free 1, h.free 2⟩
theorem Blk.c4 {v0 v1 v2 v3 : Value} (h : Blk w r [v0, v1, v2, v3] T) : w.cell? ⟨r, 0, none⟩ = some v0 ∧ w.cell? ⟨r, 1, none⟩ = some v1 ∧ w.cell? ⟨r, 2, none⟩ = some v2 ∧ w.cell? ⟨r, 3, none⟩ = some v3 ∧ w.frozen? ⟨r, 0, none⟩ = false ∧ w.frozen? ⟨r, 1, none⟩ = false ∧ w.frozen? ⟨r, 2, none⟩ = false ∧ w.frozen? ⟨r, 3, none⟩ = false :=
  ⟨h.cell 0, h.cell 1, h.cell 2, h.cell 3, h.free 0, h.free 1, h.free 2, h.free 3⟩
theorem Blk.c5 {v0 v1 v2 v3 v4 : Value} (h : Blk w r [v0, v1, v2, v3, v4] T) : w.cell? ⟨r, 0, none⟩ = some v0 ∧ w.cell? ⟨r, 1, none⟩ = some v1 ∧ w.cell? ⟨r, 2, none⟩ = some v2 ∧ w.cell? ⟨r, 3, none⟩ = some v3 ∧ w.cell? ⟨r, 4, none⟩ = some v4 ∧ w.frozen? ⟨r, 0, none⟩ = false ∧ w.frozen? ⟨r, 1, none⟩ = false ∧ w.frozen? ⟨r, 2, none⟩ = false ∧ w.frozen? ⟨r, 3, none⟩ = false ∧ w.frozen? ⟨r, 4, none⟩ = false :=
  ⟨h.cell 0, h.cell 1, h.cell 2, h.cell 3, h.cell 4, h.free 0, h.free 1, h.free 2, h.free 3, h.free 4⟩
theorem Blk.c6 {v0 v1 v2 v3 v4 v5 : Value} (h : Blk w r [v0, v1, v2, v3, v4, v5] T) : w.cell? ⟨r, 0, none⟩ = some v0 ∧ w.cell? ⟨r, 1, none⟩ = some v1 ∧ w.cell? ⟨r, 2, none⟩ = some v2 ∧ w.cell? ⟨r, 3, none⟩ = some v3 ∧ w.cell? ⟨r, 4, none⟩ = some v4 ∧ w.cell? ⟨r, 5, none⟩ = some v5 ∧ w.frozen? ⟨r, 0, none⟩ = false ∧ w.frozen? ⟨r, 1, none⟩ = false ∧ w.frozen? ⟨r, 2, none⟩ = false ∧ w.frozen? ⟨r, 3, none⟩ = false ∧ w.frozen? ⟨r, 4, none⟩ = false ∧ w.frozen? ⟨r, 5, none⟩ = false :=
  ⟨h.cell 0, h.cell 1, h.cell 2, h.cell 3, h.cell 4, h.cell 5, h.free 0, h.free 1, h.free 2, h.free 3, h.free 4, h.free 5⟩
theorem Blk.c7 {v0 v1 v2 v3 v4 v5 v6 : Value} (h : Blk w r [v0, v1, v2, v3, v4, v5, v6] T) : w.cell? ⟨r, 0, none⟩ = some v0 ∧ w.cell? ⟨r, 1, none⟩ = some v1 ∧ w.cell? ⟨r, 2, none⟩ = some v2 ∧ w.cell? ⟨r, 3, none⟩ = some v3 ∧ w.cell? ⟨r, 4, none⟩ = some v4 ∧ w.cell? ⟨r, 5, none⟩ = some v5 ∧ w.cell? ⟨r, 6, none⟩ = some v6 ∧ w.frozen? ⟨r, 0, none⟩ = false ∧ w.frozen? ⟨r, 1, none⟩ = false ∧ w.frozen? ⟨r, 2, none⟩ = false ∧ w.frozen? ⟨r, 3, none⟩ = false ∧ w.frozen? ⟨r, 4, none⟩ = false ∧ w.frozen? ⟨r, 5, none⟩ = false ∧ w.frozen? ⟨r, 6, none⟩ = false :=
  ⟨h.cell 0, h.cell 1, h.cell 2, h.cell 3, h.cell 4, h.cell 5, h.cell 6, h.free 0, h.free 1, h.free 2, h.free 3, h.free 4, h.free 5, h.free 6⟩
theorem Blk.drew (h : Blk w r cs T) : Blk w.drew r cs T := h
end

/-! ### arguments, opened -/
section
variable {H : Type} {enc : TypeId × Value → H} {P : Program} {w : World} {base : Nat} {spare : Nat → Bool} {held : Bool}
theorem trod_float {fuel : Nat} {t : TypeId} {k : FloatKind} {cs : List Value} {x : DataW H × List MemPlace} (ht : P.underlying t = some (.float k)) (h : DataW.trod enc P w base spare held fuel t cs = some x) :
    ∃ b, cs = [.float k b] ∧ x = (.lit (.float k b), []) ∧ (Lit.float k b).wf = true := by
  cases fuel with
  | zero => simp [DataW.trod] at h
  | succ n =>
    unfold DataW.trod at h
    rw [ht] at h
    split at h <;> simp_all
theorem open_ff {r : Reach} {b0 : Nat} {t : TypeId} {f0 f1 : Field} {v : Value} {d : DataW H} {p : List MemPlace} (hs : P.underlying t = some (.struct #[f0, f1])) (u0 : P.underlying f0.type = some (.float .f64)) (u1 : P.underlying f1.type = some (.float .f64))
    (hone : oneCellFields P #[f0, f1] = true) (hC : P.cellsOf t = 2) (hv : Value.okWide P w r b0 t v) (h : DataW.Trod enc P w base spare held t v d p) :
    ∃ a b : Nat, v = .agg #[.float .f64 a, .float .f64 b] := by
  obtain ⟨v0, v1, y0, y1, n, rfl, _, _, h0, h1⟩ := Joins.open_agg2 hs hone hC hv h
  obtain ⟨a, e0, _⟩ := trod_float u0 h0
  obtain ⟨b, e1, _⟩ := trod_float u1 h1
  simp at e0 e1
  subst e0 e1
  exact ⟨a, b, rfl⟩
theorem open_ffff {r : Reach} {b0 : Nat} {t : TypeId} {f0 f1 f2 f3 : Field} {v : Value} {d : DataW H} {p : List MemPlace} (hs : P.underlying t = some (.struct #[f0, f1, f2, f3])) (u0 : P.underlying f0.type = some (.float .f64)) (u1 : P.underlying f1.type = some (.float .f64))
    (u2 : P.underlying f2.type = some (.float .f64)) (u3 : P.underlying f3.type = some (.float .f64))
    (hone : oneCellFields P #[f0, f1, f2, f3] = true) (hC : P.cellsOf t = 4) (hv : Value.okWide P w r b0 t v) (h : DataW.Trod enc P w base spare held t v d p) :
    ∃ a b c e : Nat, v = .agg #[.float .f64 a, .float .f64 b, .float .f64 c, .float .f64 e] := by
  obtain ⟨v0, v1, v2, v3, y0, y1, y2, y3, n, rfl, _, _, h0, h1, h2, h3⟩ := Joins.open_agg4 hs hone hC hv h
  obtain ⟨a, e0, _⟩ := trod_float u0 h0
  obtain ⟨b, e1, _⟩ := trod_float u1 h1
  obtain ⟨c, e2, _⟩ := trod_float u2 h2
  obtain ⟨e, e3, _⟩ := trod_float u3 h3
  simp at e0 e1 e2 e3
  subst e0 e1 e2 e3
  exact ⟨a, b, c, e, rfl⟩
end

end Go.Proofs.Ytpbllagjcdcnpaa
