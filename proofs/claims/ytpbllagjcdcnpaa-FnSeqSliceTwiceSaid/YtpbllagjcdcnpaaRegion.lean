/- Laws for regions that draw their order: in a class of worlds (all that was there is as it was), operations that only read may be taken first, and what is left comes up in one order. No program in sight. -/
import Derived.Deep.Quiet
import Derived.OrdersHeld
import Derived.KernelRfl
import Derived.Below
import Derived.Deep.RegionHeld3
namespace Go.Proofs.Ytpbllagjcdcnpaa
open Go.RowKit

/-- the operations that have come up -/
def lst (n : Nat) (d : List Nat) : Array Bool := d.foldr (fun i acc => acc.setIfInBounds i true) (Array.replicate n false)

/-- what is left of a region, in a class C of worlds -/
def Reg (P : Program) (ops : Array Oper) (Q : Exit → Act → World → Prop) (C : World → Prop) (n fuel : Nat) (d : List Nat) (a : Act) (w : World) : Prop :=
  wpAnyH P .any ops (NoPanic Q) C fuel (lst n d) a w

section
variable {P : Program} {ops : Array Oper} {Q : Exit → Act → World → Prop} {C : World → Prop} {n fuel : Nat} {w : World} {d : List Nat} {a : Act} {o : Oper}

def okFirst (ops : Array Oper) (n : Nat) (d : List Nat) (i : Nat) : Bool := Region.noSelect ops && Region.free .any ops (lst n d) i && (Region.ready .any ops (lst n d)).contains i

/-- an operation that yields one value in every world of the class -/
theorem Reg.val (i : Nat) (v : Value) (ho : ops[i]? = some o) (hk : okFirst ops n d i = true) (hw : Region.wanted o (yielded ops a.tmps) = true) (hC : C w)
    (hv : ∀ w, C w → (execOp a.eval o).run P w = .ok (.value v) w) (h : Reg P ops Q C n fuel (i :: d) (a.put o.dst v) w) : Reg P ops Q C n (fuel + 1) d a w := by
  unfold okFirst at hk
  simp only [Bool.and_eq_true] at hk
  exact wpAnyH_take ho hk.1.1 hk.1.2 hk.2 (fun _ _ _ h => h.elim) (.inl ⟨hw, hv⟩) hC h

/-- an operation that is passed over -/
theorem Reg.skp (i : Nat) (ho : ops[i]? = some o) (hk : okFirst ops n d i = true) (hw : Region.wanted o (yielded ops a.tmps) = false) (hC : C w)
    (h : Reg P ops Q C n fuel (i :: d) (a.put o.dst undef) w) : Reg P ops Q C n (fuel + 1) d a w := by
  unfold okFirst at hk
  simp only [Bool.and_eq_true] at hk
  exact wpAnyH_take ho hk.1.1 hk.1.2 hk.2 (fun _ _ _ h => h.elim) (.inr ⟨hw, rfl⟩) hC h

/-- the one operation that may come up, what follows behind a variable -/
theorem Reg.one (i : Nat) (ho : ops[i]? = some o) (hr : Region.ready .any ops (lst n d) = [i]) (hw : Region.wanted o (yielded ops a.tmps) = true)
    (h : ∀ (K : Act → World → Prop) (Q' : Exit → Act → World → Prop), (∀ a' w', C w' → (C w' → Reg P ops Q C n fuel (i :: d) a' w') → K a' w') → o.wp P a w K Q') :
    Reg P ops Q C n (fuel + 1) d a w := by
  refine wpAnyH_all hr (by simp) ?_
  intro j hj
  obtain rfl : j = i := by simpa using hj
  unfold wpOp
  simp only [ho, hw, if_true]
  exact .inl (h _ _ fun a' w' hc hk => ⟨hc, hk hc⟩)

/-- .. and makes new memory -/
theorem Reg.new (i : Nat) (ho : ops[i]? = some o) (hr : Region.ready .any ops (lst n d) = [i]) (hw : Region.wanted o (yielded ops a.tmps) = true) (hCB : ∀ w', Below w.heap.size w w' → C w')
    (h : ∀ (K : Act → World → Prop) (Q' : Exit → Act → World → Prop), (∀ a' w', Below w.heap.size w w' → (Below w.heap.size w w' → Below w'.heap.size w' w' → C w' → Reg P ops Q C n fuel (i :: d) a' w') → K a' w') → o.wp P a w K Q') :
    Reg P ops Q C n (fuel + 1) d a w :=
  Reg.one i ho hr hw fun K Q' hK => h K Q' fun a' w' hb hk => hK a' w' (hCB w' hb) fun hC => hk hb (Below.refl _ _) hC

/-- one of several that may come up -/
def Step1 (P : Program) (ops : Array Oper) (Q : Exit → Act → World → Prop) (C : World → Prop) (n fuel : Nat) (d : List Nat) (a : Act) (w : World) (i : Nat) : Prop :=
  wpOp P ops (NoPanic Q) i (fun a' w' => C w' ∧ wpAnyH P .any ops (NoPanic Q) C fuel ((lst n d).setIfInBounds i true) a' w') a w
theorem Reg.two (i j : Nat) (hr : Region.ready .any ops (lst n d) = [i, j]) (h1 : Step1 P ops Q C n fuel d a w i) (h2 : Step1 P ops Q C n fuel d a w j) : Reg P ops Q C n (fuel + 1) d a w := by
  refine wpAnyH_all hr (by simp) ?_
  intro k hk
  have : k = i ∨ k = j := by simpa using hk
  rcases this with rfl | rfl
  · exact h1
  · exact h2
theorem Reg.three (i j l : Nat) (hr : Region.ready .any ops (lst n d) = [i, j, l]) (h1 : Step1 P ops Q C n fuel d a w i) (h2 : Step1 P ops Q C n fuel d a w j) (h3 : Step1 P ops Q C n fuel d a w l) : Reg P ops Q C n (fuel + 1) d a w := by
  refine wpAnyH_all hr (by simp) ?_
  intro k hk
  have : k = i ∨ k = j ∨ k = l := by simpa using hk
  rcases this with rfl | rfl | rfl
  · exact h1
  · exact h2
  · exact h3
theorem Step1.one {i : Nat} (ho : ops[i]? = some o) (hw : Region.wanted o (yielded ops a.tmps) = true)
    (h : ∀ (K : Act → World → Prop) (Q' : Exit → Act → World → Prop), (∀ a' w', C w' → (C w' → Reg P ops Q C n fuel (i :: d) a' w') → K a' w') → o.wp P a w K Q') : Step1 P ops Q C n fuel d a w i := by
  unfold Step1 wpOp
  simp only [ho, hw, if_true]
  exact .inl (h _ _ fun a' w' hc hk => ⟨hc, hk hc⟩)
theorem Step1.new {i : Nat} (ho : ops[i]? = some o) (hw : Region.wanted o (yielded ops a.tmps) = true) (hCB : ∀ w', Below w.heap.size w w' → C w')
    (h : ∀ (K : Act → World → Prop) (Q' : Exit → Act → World → Prop), (∀ a' w', Below w.heap.size w w' → (Below w.heap.size w w' → Below w'.heap.size w' w' → C w' → Reg P ops Q C n fuel (i :: d) a' w') → K a' w') → o.wp P a w K Q') : Step1 P ops Q C n fuel d a w i :=
  Step1.one ho hw fun K Q' hK => h K Q' fun a' w' hb hk => hK a' w' (hCB w' hb) fun hC => hk hb (Below.refl _ _) hC

theorem Reg.end_ (hr : Region.ready .any ops (lst n d) = []) (h : Q .normal a w) : Reg P ops Q C n fuel d a w :=
  wpAnyH_done hr (NoPanic.normal h) fuel

/-- the beginning -/
theorem Reg.begin_ {id : Nat} (n : Nat) (C : World → Prop) (hn : ops.size = n) (hm : P.follows .mixedOrders = true)
    (h : ∀ w1, Below w.heap.size w w1 → w.heap.size ≤ w1.heap.size → w1.heap.size = w.heap.size → Reg P ops Q C n n [] a w1) : (Code.region id ops true).wp P Q a w := by
  refine wp_region_noPanic (wp_region_held (S := C) hm ?_)
  subst hn
  exact h w.drew (Below.refl _ _).drew (Nat.le_refl _) rfl

/-- the class in which the blocks rs alone may be written -/
structure But (B : Nat) (rs : List Nat) (w0 w : World) : Prop where
  hB : w0.heap.size = B
  os : w.os = w0.os
  tape : w.tape = w0.tape
  output : w.output = w0.output
  size : w0.heap.size ≤ w.heap.size
  block : ∀ i, i < B → i ∉ rs → w.heap[i]? = w0.heap[i]?
theorem But.of_below {B : Nat} {rs : List Nat} {w0 w : World} (hB : w0.heap.size = B) (h : Below B w0 w) : But B rs w0 w := by
  subst hB
  exact ⟨rfl, h.os, h.tape, h.output, h.size, fun i hi _ => h.block i hi⟩
theorem But.cells {B : Nat} {rs : List Nat} {w0 w : World} (h : But B rs w0 w) : (∀ b o, b < B → b ∉ rs → w.cell? ⟨b, o, none⟩ = w0.cell? ⟨b, o, none⟩) :=
  fun b _o hb hr => World.cell?_of_block (h.block b hb hr)
theorem But.outer {rs : List Nat} {w0 w1 w : World} (h : But w1.heap.size rs w1 w) (hO : Below w0.heap.size w0 w1) : (∀ b o, b < w0.heap.size → b ∉ rs → w.cell? ⟨b, o, none⟩ = w0.cell? ⟨b, o, none⟩) :=
  fun b o hb hr => (h.cells b o (Nat.lt_of_lt_of_le hb hO.size) hr).trans (hO.cell (p := ⟨b, o, none⟩) hb)
theorem But.setCell {B : Nat} {rs : List Nat} {w0 w : World} (h : But B rs w0 w) {p : Addr} (hp : p.block ∈ rs) (u : Value) : But B rs w0 (w.setCell p u) :=
  ⟨h.hB, h.os, h.tape, h.output, by simpa [World.setCell] using h.size, fun i hi hne => (Below.heap_setCell w p u i (by
    rintro rfl
    exact hne hp)).trans (h.block i hi hne)⟩

theorem Reg.beginB {id : Nat} (n : Nat) (hn : ops.size = n) (hm : P.follows .mixedOrders = true)
    (h : ∀ w1, Below w.heap.size w w1 → w.heap.size ≤ w1.heap.size → w1.heap.size = w.heap.size → Reg P ops Q (Below w.heap.size w) n n [] a w1) : (Code.region id ops true).wp P Q a w :=
  Reg.begin_ n _ hn hm h
theorem Reg.beginR {id : Nat} (n : Nat) (rs : List Nat) (hn : ops.size = n) (hm : P.follows .mixedOrders = true)
    (h : ∀ w1, Below w.heap.size w w1 → w.heap.size ≤ w1.heap.size → w1.heap.size = w.heap.size → Reg P ops Q (But w.heap.size rs w) n n [] a w1) : (Code.region id ops true).wp P Q a w :=
  Reg.begin_ n _ hn hm h

/-- region k of a piece of code -/
def regOf (k : Nat) : Code → Option (Array Oper)
  | .region id ops _ => if id = k then some ops else none
  | .seq x y => (regOf k x).or (regOf k y)
  | .cond _ x y => (regOf k x).or (regOf k y)
  | .block _ x => regOf k x
  | .loop x => regOf k x
  | .scope x => regOf k x
  | .rangeFunc _ _ x y => (regOf k x).or (regOf k y)
  | _ => none
def regAt (f : Func) (k : Nat) : Array Oper := ((f.body.bind (regOf k)).getD #[])
end
end Go.Proofs.Ytpbllagjcdcnpaa
