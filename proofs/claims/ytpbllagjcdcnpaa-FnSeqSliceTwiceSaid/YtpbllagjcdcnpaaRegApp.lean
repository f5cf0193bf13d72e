/- An append inside a region whose order is drawn; what append onto nil leaves. -/
import Derived.Test.YtpbllagjcdcnpaaRegion
import Derived.Test.YtpbllagjcdcnpaaMem
import Derived.Laws.AppendOwnNone
namespace Go.Proofs.Ytpbllagjcdcnpaa
open Go.ChangeShapes Go.WideShapes Go.ChangeAt Go.RowKit
open Fl
set_option linter.unusedSimpArgs false
set_option linter.unusedVariables false
attribute [local go_sem] run_store_float run_fadd run_fsub run_fmul run_fdiv run_equalIn_float fmt64

theorem But.below {B : Nat} {rs : List Nat} {w0 w w' : World} (h : But B rs w0 w) (hb : Below w.heap.size w w') : But B rs w0 w' :=
  ⟨h.hB, hb.os.trans h.os, hb.tape.trans h.tape, hb.output.trans h.output, Nat.le_trans h.size hb.size, fun i hi hne => (hb.block i (by have := h.hB; have := h.size; omega)).trans (h.block i hi hne)⟩
section
variable {P : Program} {ops : Array Oper} {Q : Exit → Act → World → Prop} {C : World → Prop} {n fuel : Nat} {w : World} {d : List Nat} {a : Act} {o : Oper}
theorem Reg.app (i : Nat) (ho : ops[i]? = some o) (hr : Region.ready .any ops (lst n d) = [i]) (hw : Region.wanted o (yielded ops a.tmps) = true)
    (s x : Operand) (t : TypeId) (hop : o.op = .call { callee := .builtin .append, args := #[s, x], argTypes := #[t, t] }) (hg : o.guard = none) (vs vx : Value) (hs : a.eval s = vs) (hx : a.eval x = vx) {R : Value → World → Prop}
    (hrun : ∃ v' w', (Builtin.append_ #[t, t] o.type #[vs, vx]).run P w = .ok v' w' ∧ R v' w') (hC : ∀ v' w', R v' w' → C w') (h : ∀ v' w', R v' w' → Reg P ops Q C n fuel (i :: d) (a.put o.dst v') w') :
    Reg P ops Q C n (fuel + 1) d a w := by
  refine Reg.one i ho hr hw fun K Q' hK => ?_
  obtain ⟨v', w', hrun, hR⟩ := hrun
  unfold Oper.wp
  simp [execOp, hop, resolve, invoke, builtin, hs, hx, hrun, Result.andThen]
  exact hK _ _ (hC _ _ hR) fun _ => h _ _ hR
end
/-- what append leaves of numbers onto nil -/
theorem flo_append_nil {P : Program} {t ty e : TypeId} (ht : P.underlying t = some (.slice e)) (hi : (P.info? e).map (fun i => (i.zero, i.size, i.bytes)) = some (some (fw 0), 1, 8))
    {w : World} {A : Option Addr} {m c : Nat} {f : Nat → Nat} (hf : Flo w A m c f) (hm : m ≤ 2000) {B0 : Nat} (hB0 : B0 ≤ w.heap.size) :
    ∃ v' w', (Builtin.append_ #[t, t] ty #[.slice none 0 0, .slice A m c]).run P w = .ok v' w' ∧ Below w.heap.size w w' ∧ ∃ A' c', v' = .slice A' m c' ∧ Flo w' A' m c' f ∧ ∀ a, A' = some a → B0 ≤ a.block := by
  obtain ⟨i, hi, hz, hsz, hby⟩ := info_parts hi
  cases A with
  | none =>
    obtain ⟨rfl, rfl⟩ := hf.none_ rfl
    refine ⟨.slice none 0 0, w, run_append_owned_none (P := P) (w := w) w.heap.size t ty e i 1 ht hi (.slice none 0 0) 0 [] (World.ownsRow_nil _ _ _ _), Below.refl _ _, none, 0, rfl, Flo.nil _ _, fun a h => (by cases h)⟩
  | some a =>
    obtain ⟨v', w', hrun, hown, hgr, hnil⟩ := run_append_own (P := P) (w := w) w.heap.size t ty e i (fw 0) 1 8 ht hi hz hsz hby rfl (by omega) (.slice none 0 0) 0 [] (World.ownsRow_nil _ _ _ _) a m c
      ((List.range m).map fun j => fw (f j)) (by simp) (by
        intro j u hj
        rw [List.getElem?_map] at hj
        by_cases hjm : j < m
        · rw [List.getElem?_range hjm] at hj
          simp at hj
          rw [← hj]
          exact hf.cell a rfl j hjm
        · rw [List.getElem?_eq_none (by simp; omega)] at hj
          simp at hj) (by
        intro u hu
        obtain ⟨j, _, rfl⟩ := List.mem_map.1 hu
        rfl) (by unfold maxLen; omega) (by omega) (Nat.le_refl _)
    refine ⟨v', w', hrun, (Below.refl _ _).grown hgr (Nat.le_refl _) (by intro k hk; simp [Value.ownBlock] at hk), ?_⟩
    obtain ⟨hl, h⟩ := hown
    simp only [Nat.zero_add, List.nil_append] at h hl
    rcases h with ⟨rfl, rfl⟩ | ⟨g, cap, cur, rfl, hbg, hg, hle, hmx, hcs, htk⟩
    · exact ⟨none, 0, rfl, Flo.nil _ _, fun a h => (by cases h)⟩
    · refine ⟨some ⟨g, 0, none⟩, cap, rfl, ⟨hle, hmx, fun h => (by cases h), fun b hb i hi => ?_⟩, fun b hb => by cases hb; exact Nat.le_trans hB0 hbg⟩
      cases hb
      rw [add0]
      have h2 : (cur.toList.take (m * 1))[i]? = some (fw (f i)) := by
        rw [htk, List.getElem?_map, List.getElem?_range hi]
        rfl
      rw [List.getElem?_take_of_lt (by omega)] at h2
      simp [World.cell?, hg]
      simpa using h2
end Go.Proofs.Ytpbllagjcdcnpaa
