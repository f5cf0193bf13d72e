/- Maps whose keys are read by the key law and whose values all have a property V: lookups and updates. -/
import Derived.Test.YtcidgicdeedgfaaBase
import Derived.WideKeyElems
import Derived.DeepKeys3
import Derived.Maps.Own
import Derived.Maps.OwnOps
namespace Go.Proofs.Ytcidgicdeedgfaa
open Go.ChangeShapes Go.WideShapes Go.ChangeAt Go.RowKit
open Fl
set_option linter.unusedSimpArgs false
set_option linter.unusedVariables false
attribute [local go_sem] run_store_float run_fadd run_fsub run_fmul run_fdiv run_equalIn_float fmt64
open Go.WideMaps (KeyLaw)
open Go.ChangeMaps (setBlock heap_setBlock_same heap_setBlock_other)

/-- block b is a map, each of whose keys is read and each of whose values has V -/
def MapV (P : Program) (k : TypeId) (V : Value → Prop) (w : World) (b : Nat) : Prop :=
  ∃ es clock, w.heap[b]? = some (.map es clock) ∧ ∀ x ∈ es.toList, (∃ l, keyOf P k x.key = some l) ∧ V x.val
section
variable {P : Program} {k e t : TypeId} {V V' : Value → Prop} {w w' : World} {b : Nat} {key z val : Value} {kl : Lit}
theorem MapV.lt (h : MapV P k V w b) : b < w.heap.size := by
  obtain ⟨es, clock, hb, _⟩ := h
  exact (Array.getElem?_eq_some_iff.1 hb).1
theorem MapV.as (h : MapV P k V w b) (e : w'.heap[b]? = w.heap[b]?) : MapV P k V w' b := by
  obtain ⟨es, clock, hb, hv⟩ := h
  exact ⟨es, clock, e.trans hb, hv⟩
theorem MapV.alloc (h : MapV P k V w b) (o : Obj) : MapV P k V (w.alloc o) b := h.as (Below.heap_alloc w o b h.lt)
theorem MapV.other (h : MapV P k V w b) {p : Addr} (hp : p.block ≠ b) (v : Value) : MapV P k V (w.setCell p v) b := h.as (Below.heap_setCell w p v b (Ne.symm hp))
theorem MapV.keep (h : MapV P k V w b) {B : Nat} (hb : Below B w w') (hr : b < B) : MapV P k V w' b := h.as (hb.block b hr)
theorem MapV.drew (h : MapV P k V w b) : MapV P k V w.drew b := h
theorem MapV.mono (h : MapV P k V w b) (hV : ∀ v, V v → V' v) : MapV P k V' w b := by
  obtain ⟨es, clock, hb, hv⟩ := h
  exact ⟨es, clock, hb, fun x hx => ⟨(hv x hx).1, hV _ (hv x hx).2⟩⟩
theorem MapV.new (w : World) : MapV P k V (w.alloc (.map #[] 0)) w.heap.size := ⟨#[], 0, heap_alloc_new w _, fun x hx => by simp at hx⟩
theorem MapV.look (h : MapV P k V w b) (K : KeyLaw P k) (ht : P.underlying t = some (.map k e)) (hz : (zeroValue e).run P w = .ok z w) (hkey : keyOf P k key = some kl) :
    (Instr.lookup t (.map (some b)) key true).run P w = .ok (.tuple #[z, .bool false]) w ∨ ∃ v, V v ∧ (Instr.lookup t (.map (some b)) key true).run P w = .ok (.tuple #[v, .bool true]) w := by
  obtain ⟨es, clock, hb, hv⟩ := h
  rcases K.find w hkey es.toList (fun x hx => (hv x hx).1) with ⟨h1, h2⟩ | ⟨j, e0, h1, h2, h3⟩
  · exact Or.inl (by simp [Instr.lookup, run_underlying ht, MapKept.run_getObj_map hb, K.check w _ hkey, h1, hz, Result.andThen])
  · exact Or.inr ⟨e0.val, (hv e0 (List.mem_of_getElem? h2)).2, by simp [Instr.lookup, run_underlying ht, MapKept.run_getObj_map hb, K.check w _ hkey, h1, Result.andThen]⟩
theorem MapV.put (h : MapV P k V w b) (K : KeyLaw P k) (ht : P.underlying t = some (.map k e)) (hkey : keyOf P k key = some kl) (hV : V val) :
    ∃ w', (Instr.mapUpdate t (.map (some b)) key val).run P w = .ok () w' ∧ MapV P k V w' b ∧ w'.heap.size = w.heap.size ∧ (∀ r, r ≠ b → w'.heap[r]? = w.heap[r]?) ∧ Below b w w' := by
  obtain ⟨es, clock, hb, hv⟩ := h
  have fin : ∀ o : Obj, (setBlock w b o).heap.size = w.heap.size ∧ (∀ r, r ≠ b → (setBlock w b o).heap[r]? = w.heap[r]?) ∧ Below b w (setBlock w b o) := fun o =>
    ⟨by simp [setBlock], fun r hr => heap_setBlock_other hb o hr, rfl, rfl, rfl, by simp [setBlock], fun r hr => heap_setBlock_other hb o (by omega)⟩
  rcases K.find w hkey es.toList (fun x hx => (hv x hx).1) with ⟨h1, h2⟩ | ⟨j, e0, h1, h2, h3⟩
  · refine ⟨setBlock w b (.map (es.push ⟨key, val, clock⟩) (clock + 1)), ?_, ⟨_, _, heap_setBlock_same hb _, ?_⟩, fin _⟩
    · simp [Instr.mapUpdate, run_underlying ht, MapKept.run_getObj_map hb, K.check w false hkey, h1, MapKept.run_setObj_map _ hb, Result.andThen, setBlock]
    · intro x hx
      simp only [Array.toList_push, List.mem_append, List.mem_singleton] at hx
      rcases hx with hx | rfl
      · exact hv x hx
      · exact ⟨⟨_, hkey⟩, hV⟩
  · have hj : es[j]? = some e0 := by simpa using h2
    refine ⟨setBlock w b (.map (es.modify j (fun e' => { e' with key := key, val := val })) clock), ?_, ⟨_, _, heap_setBlock_same hb _, ?_⟩, fin _⟩
    · simp [Instr.mapUpdate, run_underlying ht, MapKept.run_getObj_map hb, K.check w false hkey, h1, hj, h3, K.stays w hkey, MapKept.run_setObj_map _ hb, Result.andThen, setBlock]
    · intro x hx
      rcases MapFrom.mem_modify hx with hx | ⟨e', _, rfl⟩
      · exact hv x hx
      · exact ⟨⟨_, hkey⟩, hV⟩
end
theorem wpList_lookV {P : Program} (w : World) {ops : Array Oper} {rest : List Oper} {o : Oper} {a : Act} {Q : Exit → Act → World → Prop}
    (hg : o.guard = none) (m x : Operand) (t : TypeId) (hop : o.op = Op.lookup t m x true)
    (k e : TypeId) (K : KeyLaw P k) (ht : P.underlying t = some (.map k e)) (V : Value → Prop) {z : Value} (hz : (zeroValue e).run P w = .ok z w) (b : Nat)
    (hm : a.eval m = .map (some b)) (hown : MapV P k V w b) (key : Value) (kl : Lit) (hx : a.eval x = key) (hkey : keyOf P k key = some kl)
    (hK : ∀ v ok, (ok = false ∧ v = z ∨ ok = true ∧ V v) → wpList P ops Q rest (a.put o.dst (.tuple #[v, .bool ok])) w) :
    wpList P ops Q (o :: rest) a w := by
  refine wpList_plain hg fun K' hK' => ?_
  unfold Oper.wp
  rcases hown.look K ht hz hkey with h | ⟨v, hv, h⟩
  · simp [execOp, hop, hm, hx, h, Result.andThen]
    exact hK' _ _ (hK _ _ (Or.inl ⟨rfl, rfl⟩))
  · simp [execOp, hop, hm, hx, h, Result.andThen]
    exact hK' _ _ (hK _ _ (Or.inr ⟨rfl, hv⟩))
theorem wpList_putV {P : Program} (w : World) {ops : Array Oper} {rest : List Oper} {o : Oper} {a : Act} {Q : Exit → Act → World → Prop}
    (hg : o.guard = none) (m x v : Operand) (t : TypeId) (hop : o.op = Op.mapUpdate t m x v)
    (k e : TypeId) (K : KeyLaw P k) (ht : P.underlying t = some (.map k e)) (V : Value → Prop) (b : Nat)
    (hm : a.eval m = .map (some b)) (hown : MapV P k V w b) (key val : Value) (kl : Lit) (hx : a.eval x = key) (hv : a.eval v = val) (hkey : keyOf P k key = some kl) (hV : V val)
    (hK : ∀ w', MapV P k V w' b → w'.heap.size = w.heap.size → (∀ r, r ≠ b → w'.heap[r]? = w.heap[r]?) → Below b w w' → wpList P ops Q rest (a.put o.dst undef) w') :
    wpList P ops Q (o :: rest) a w := by
  refine wpList_plain hg fun K' hK' => ?_
  obtain ⟨w', hrun, r1, r2, r3, r4⟩ := hown.put K ht hkey hV
  unfold Oper.wp
  simp [execOp, hop, hm, hx, hv, hrun, Result.andThen]
  exact hK' _ _ (hK w' r1 r2 r3 r4)
end Go.Proofs.Ytcidgicdeedgfaa
