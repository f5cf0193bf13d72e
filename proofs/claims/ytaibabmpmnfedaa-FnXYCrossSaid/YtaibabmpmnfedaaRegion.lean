/- Laws for regions that draw their order: in a class of worlds (all that was there is as it was), operations that only read may be taken first, and what is left comes up in one order. No program in sight. -/
import Derived.Deep.Quiet
import Derived.OrdersHeld
import Derived.KernelRfl
import Derived.Below
import Derived.Deep.RegionHeld3
namespace Go.Proofs.Ytaibabmpmnfedaa
open Go.RowKit

/-- the operations that have come up -/
def lst (n : Nat) (d : List Nat) : Array Bool := d.foldr (fun i acc => acc.setIfInBounds i true) (Array.replicate n false)

/-- what is left of a region, in the class of the worlds that differ from w0 above block B alone -/
def Reg (P : Program) (ops : Array Oper) (Q : Exit → Act → World → Prop) (B : Nat) (w0 : World) (n fuel : Nat) (d : List Nat) (a : Act) (w : World) : Prop :=
  wpAnyH P .any ops (NoPanic Q) (Below B w0) fuel (lst n d) a w

section
variable {P : Program} {ops : Array Oper} {Q : Exit → Act → World → Prop} {B n fuel : Nat} {w0 w : World} {d : List Nat} {a : Act} {o : Oper}

def okFirst (ops : Array Oper) (n : Nat) (d : List Nat) (i : Nat) : Bool := Region.noSelect ops && Region.free .any ops (lst n d) i && (Region.ready .any ops (lst n d)).contains i

/-- an operation that yields one value in every world of the class -/
theorem Reg.val (i : Nat) (v : Value) (ho : ops[i]? = some o) (hk : okFirst ops n d i = true) (hw : Region.wanted o (yielded ops a.tmps) = true) (hS : Below B w0 w)
    (hv : ∀ w, Below B w0 w → (execOp a.eval o).run P w = .ok (.value v) w) (h : Reg P ops Q B w0 n fuel (i :: d) (a.put o.dst v) w) : Reg P ops Q B w0 n (fuel + 1) d a w := by
  unfold okFirst at hk
  simp only [Bool.and_eq_true] at hk
  exact wpAnyH_take ho hk.1.1 hk.1.2 hk.2 (fun _ _ _ h => h.elim) (.inl ⟨hw, hv⟩) hS h

/-- an operation that is passed over -/
theorem Reg.skp (i : Nat) (ho : ops[i]? = some o) (hk : okFirst ops n d i = true) (hw : Region.wanted o (yielded ops a.tmps) = false) (hS : Below B w0 w)
    (h : Reg P ops Q B w0 n fuel (i :: d) (a.put o.dst undef) w) : Reg P ops Q B w0 n (fuel + 1) d a w := by
  unfold okFirst at hk
  simp only [Bool.and_eq_true] at hk
  exact wpAnyH_take ho hk.1.1 hk.1.2 hk.2 (fun _ _ _ h => h.elim) (.inr ⟨hw, rfl⟩) hS h

/-- the one operation that may come up, what follows behind a variable -/
theorem Reg.one (i : Nat) (ho : ops[i]? = some o) (hr : Region.ready .any ops (lst n d) = [i]) (hw : Region.wanted o (yielded ops a.tmps) = true) (hS : Below B w0 w) (hB : B ≤ w.heap.size)
    (h : ∀ (K : Act → World → Prop) (Q' : Exit → Act → World → Prop), (∀ a' w', Below w.heap.size w w' → (Below B w0 w' → B ≤ w'.heap.size → Reg P ops Q B w0 n fuel (i :: d) a' w') → K a' w') → o.wp P a w K Q') :
    Reg P ops Q B w0 n (fuel + 1) d a w := by
  refine wpAnyH_all hr (by simp) ?_
  intro j hj
  obtain rfl : j = i := by simpa using hj
  unfold wpOp
  simp only [ho, hw, if_true]
  refine .inl (h _ _ fun a' w' hb hk => ?_)
  have h1 : Below B w0 w' := hS.trans (hb.mono hB)
  exact ⟨h1, hk h1 (Nat.le_trans hB hb.size)⟩

theorem Reg.end_ (hr : Region.ready .any ops (lst n d) = []) (h : Q .normal a w) : Reg P ops Q B w0 n fuel d a w :=
  wpAnyH_done hr (NoPanic.normal h) fuel

/-- the beginning -/
theorem Reg.begin_ {id : Nat} (n : Nat) (hn : ops.size = n) (hm : P.follows .mixedOrders = true)
    (h : ∀ w1, Below w.heap.size w w1 → w.heap.size ≤ w1.heap.size → w1.heap.size = w.heap.size → Reg P ops Q w.heap.size w n n [] a w1) : (Code.region id ops true).wp P Q a w := by
  refine wp_region_noPanic (wp_region_held (S := Below w.heap.size w) hm ?_)
  subst hn
  exact h w.drew (Below.refl _ _).drew (Nat.le_refl _) rfl

/-- region k of a piece of code -/
def regOf (k : Nat) : Code → Option (Array Oper)
  | .region id ops _ => if id = k then some ops else none
  | .seq x y => (regOf k x).or (regOf k y)
  | .cond _ x y => (regOf k x).or (regOf k y)
  | .block _ x => regOf k x
  | .loop x => regOf k x
  | .scope x => regOf k x
  | .rangeFunc _ _ x y => (regOf k x).or (regOf k y)
  | _ => none
def regAt (f : Func) (k : Nat) : Array Oper := ((f.body.bind (regOf k)).getD #[])
end
end Go.Proofs.Ytaibabmpmnfedaa
