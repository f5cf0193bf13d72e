/- Laws for regions that draw their order: in a class of worlds (all that was there is as it was), operations that only read may be taken first, and what is left comes up in one order. No program in sight. -/
import Derived.Deep.Quiet
import Derived.OrdersHeld
import Derived.KernelRfl
import Derived.Below
import Derived.Deep.RegionHeld3
namespace Go.Proofs.Ytaibabmpmnfedaa
open Go.RowKit

/-- the operations that have come up -/
def lst (n : Nat) (d : List Nat) : Array Bool := d.foldr (fun i acc => acc.setIfInBounds i true) (Array.replicate n false)

/-- what is left of a region, in a class C of worlds -/
def Reg (P : Program) (ops : Array Oper) (Q : Exit → Act → World → Prop) (C : World → Prop) (n fuel : Nat) (d : List Nat) (a : Act) (w : World) : Prop :=
  wpAnyH P .any ops (NoPanic Q) C fuel (lst n d) a w

section
variable {P : Program} {ops : Array Oper} {Q : Exit → Act → World → Prop} {C : World → Prop} {n fuel : Nat} {w : World} {d : List Nat} {a : Act} {o : Oper}

def okFirst (ops : Array Oper) (n : Nat) (d : List Nat) (i : Nat) : Bool := Region.noSelect ops && Region.free .any ops (lst n d) i && (Region.ready .any ops (lst n d)).contains i

/-- an operation that yields one value in every world of the class -/
theorem Reg.val (i : Nat) (v : Value) (ho : ops[i]? = some o) (hk : okFirst ops n d i = true) (hw : Region.wanted o (yielded ops a.tmps) = true) (hC : C w)
    (hv : ∀ w, C w → (execOp a.eval o).run P w = .ok (.value v) w) (h : Reg P ops Q C n fuel (i :: d) (a.put o.dst v) w) : Reg P ops Q C n (fuel + 1) d a w := by
  unfold okFirst at hk
  simp only [Bool.and_eq_true] at hk
  exact wpAnyH_take ho hk.1.1 hk.1.2 hk.2 (fun _ _ _ h => h.elim) (.inl ⟨hw, hv⟩) hC h

/-- an operation that is passed over -/
theorem Reg.skp (i : Nat) (ho : ops[i]? = some o) (hk : okFirst ops n d i = true) (hw : Region.wanted o (yielded ops a.tmps) = false) (hC : C w)
    (h : Reg P ops Q C n fuel (i :: d) (a.put o.dst undef) w) : Reg P ops Q C n (fuel + 1) d a w := by
  unfold okFirst at hk
  simp only [Bool.and_eq_true] at hk
  exact wpAnyH_take ho hk.1.1 hk.1.2 hk.2 (fun _ _ _ h => h.elim) (.inr ⟨hw, rfl⟩) hC h

/-- the one operation that may come up, what follows behind a variable -/
theorem Reg.one (i : Nat) (ho : ops[i]? = some o) (hr : Region.ready .any ops (lst n d) = [i]) (hw : Region.wanted o (yielded ops a.tmps) = true)
    (h : ∀ (K : Act → World → Prop) (Q' : Exit → Act → World → Prop), (∀ a' w', C w' → Reg P ops Q C n fuel (i :: d) a' w' → K a' w') → o.wp P a w K Q') :
    Reg P ops Q C n (fuel + 1) d a w := by
  refine wpAnyH_all hr (by simp) ?_
  intro j hj
  obtain rfl : j = i := by simpa using hj
  unfold wpOp
  simp only [ho, hw, if_true]
  exact .inl (h _ _ fun a' w' hc hk => ⟨hc, hk⟩)

/-- .. and makes new memory -/
theorem Reg.new (i : Nat) (ho : ops[i]? = some o) (hr : Region.ready .any ops (lst n d) = [i]) (hw : Region.wanted o (yielded ops a.tmps) = true) (hCB : ∀ w', Below w.heap.size w w' → C w')
    (h : ∀ (K : Act → World → Prop) (Q' : Exit → Act → World → Prop), (∀ a' w', Below w.heap.size w w' → (Below w.heap.size w w' → Below w'.heap.size w' w' → Reg P ops Q C n fuel (i :: d) a' w') → K a' w') → o.wp P a w K Q') :
    Reg P ops Q C n (fuel + 1) d a w :=
  Reg.one i ho hr hw fun K Q' hK => h K Q' fun a' w' hb hk => hK a' w' (hCB w' hb) (hk hb (Below.refl _ _))

/-- one of several that may come up -/
def Step1 (P : Program) (ops : Array Oper) (Q : Exit → Act → World → Prop) (C : World → Prop) (n fuel : Nat) (d : List Nat) (a : Act) (w : World) (i : Nat) : Prop :=
  wpOp P ops (NoPanic Q) i (fun a' w' => C w' ∧ wpAnyH P .any ops (NoPanic Q) C fuel ((lst n d).setIfInBounds i true) a' w') a w
theorem Reg.two (i j : Nat) (hr : Region.ready .any ops (lst n d) = [i, j]) (h1 : Step1 P ops Q C n fuel d a w i) (h2 : Step1 P ops Q C n fuel d a w j) : Reg P ops Q C n (fuel + 1) d a w := by
  refine wpAnyH_all hr (by simp) ?_
  intro k hk
  have : k = i ∨ k = j := by simpa using hk
  rcases this with rfl | rfl
  · exact h1
  · exact h2
theorem Reg.three (i j l : Nat) (hr : Region.ready .any ops (lst n d) = [i, j, l]) (h1 : Step1 P ops Q C n fuel d a w i) (h2 : Step1 P ops Q C n fuel d a w j) (h3 : Step1 P ops Q C n fuel d a w l) : Reg P ops Q C n (fuel + 1) d a w := by
  refine wpAnyH_all hr (by simp) ?_
  intro k hk
  have : k = i ∨ k = j ∨ k = l := by simpa using hk
  rcases this with rfl | rfl | rfl
  · exact h1
  · exact h2
  · exact h3
theorem Step1.one {i : Nat} (ho : ops[i]? = some o) (hw : Region.wanted o (yielded ops a.tmps) = true)
    (h : ∀ (K : Act → World → Prop) (Q' : Exit → Act → World → Prop), (∀ a' w', C w' → Reg P ops Q C n fuel (i :: d) a' w' → K a' w') → o.wp P a w K Q') : Step1 P ops Q C n fuel d a w i := by
  unfold Step1 wpOp
  simp only [ho, hw, if_true]
  exact .inl (h _ _ fun a' w' hc hk => ⟨hc, hk⟩)
theorem Step1.new {i : Nat} (ho : ops[i]? = some o) (hw : Region.wanted o (yielded ops a.tmps) = true) (hCB : ∀ w', Below w.heap.size w w' → C w')
    (h : ∀ (K : Act → World → Prop) (Q' : Exit → Act → World → Prop), (∀ a' w', Below w.heap.size w w' → (Below w.heap.size w w' → Below w'.heap.size w' w' → Reg P ops Q C n fuel (i :: d) a' w') → K a' w') → o.wp P a w K Q') : Step1 P ops Q C n fuel d a w i :=
  Step1.one ho hw fun K Q' hK => h K Q' fun a' w' hb hk => hK a' w' (hCB w' hb) (hk hb (Below.refl _ _))

theorem Reg.end_ (hr : Region.ready .any ops (lst n d) = []) (h : Q .normal a w) : Reg P ops Q C n fuel d a w :=
  wpAnyH_done hr (NoPanic.normal h) fuel

/-- the beginning -/
theorem Reg.begin_ {id : Nat} (n : Nat) (C : World → Prop) (hn : ops.size = n) (hm : P.follows .mixedOrders = true)
    (h : ∀ w1, Below w.heap.size w w1 → w.heap.size ≤ w1.heap.size → w1.heap.size = w.heap.size → Reg P ops Q C n n [] a w1) : (Code.region id ops true).wp P Q a w := by
  refine wp_region_noPanic (wp_region_held (S := C) hm ?_)
  subst hn
  exact h w.drew (Below.refl _ _).drew (Nat.le_refl _) rfl

/-- the class in which block r alone may be written -/
def But (B r : Nat) (w0 w : World) : Prop := w0.heap.size = B ∧ w0.grownBy w (some r)
theorem But.of_below {B r : Nat} {w0 w : World} (hB : w0.heap.size = B) (h : Below B w0 w) : But B r w0 w := by
  subst hB
  exact ⟨rfl, h.os, h.tape, h.output, h.size, fun i hi _ => h.block i hi⟩
theorem But.cells {B r : Nat} {w0 w : World} (h : But B r w0 w) : (∀ b o, b < B → b ≠ r → w.cell? ⟨b, o, none⟩ = w0.cell? ⟨b, o, none⟩) :=
  fun b o hb hr => World.cell?_of_block (h.2.block b (by rw [h.1]; exact hb) (fun e => hr (by injection e)))
theorem But.setCell {B r : Nat} {w0 w : World} (h : But B r w0 w) {p : Addr} (hp : p.block = r) (u : Value) : But B r w0 (w.setCell p u) :=
  ⟨h.1, h.2.os, h.2.tape, h.2.output, by simpa [World.setCell] using h.2.size, fun i hi hne => (Below.heap_setCell w p u i (by
    rintro rfl
    exact hne (by rw [hp]))).trans (h.2.block i hi hne)⟩

theorem Reg.beginB {id : Nat} (n : Nat) (hn : ops.size = n) (hm : P.follows .mixedOrders = true)
    (h : ∀ w1, Below w.heap.size w w1 → w.heap.size ≤ w1.heap.size → w1.heap.size = w.heap.size → Reg P ops Q (Below w.heap.size w) n n [] a w1) : (Code.region id ops true).wp P Q a w :=
  Reg.begin_ n _ hn hm h
theorem Reg.beginR {id : Nat} (n r : Nat) (hn : ops.size = n) (hm : P.follows .mixedOrders = true)
    (h : ∀ w1, Below w.heap.size w w1 → w.heap.size ≤ w1.heap.size → w1.heap.size = w.heap.size → Reg P ops Q (But w.heap.size r w) n n [] a w1) : (Code.region id ops true).wp P Q a w :=
  Reg.begin_ n _ hn hm h

/-- region k of a piece of code -/
def regOf (k : Nat) : Code → Option (Array Oper)
  | .region id ops _ => if id = k then some ops else none
  | .seq x y => (regOf k x).or (regOf k y)
  | .cond _ x y => (regOf k x).or (regOf k y)
  | .block _ x => regOf k x
  | .loop x => regOf k x
  | .scope x => regOf k x
  | .rangeFunc _ _ x y => (regOf k x).or (regOf k y)
  | _ => none
def regAt (f : Func) (k : Nat) : Array Oper := ((f.body.bind (regOf k)).getD #[])
end
end Go.Proofs.Ytaibabmpmnfedaa
