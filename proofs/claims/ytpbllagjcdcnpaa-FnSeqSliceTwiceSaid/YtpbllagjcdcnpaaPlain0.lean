/- The state of the loop that writes a sequence's numbers into a plain line. -/
import Derived.Test.YtpbllagjcdcnpaaSlice
namespace Go.Proofs.Ytpbllagjcdcnpaa
open Go.ChangeShapes Go.WideShapes Go.ChangeAt Go.RowKit
open Fl
set_option linter.unusedSimpArgs false
set_option linter.unusedVariables false
attribute [local go_sem] run_store_float run_fadd run_fsub run_fmul run_fdiv run_equalIn_float fmt64

theorem flos_push1 (M : Nat) (f : Nat → Nat) : flos M f ++ [fw (f M)] = flos (M + 1) f := by simp [flos, List.range_succ]
theorem flos_push2 (M : Nat) (f : Nat → Nat) : flos M f ++ [fw (f M), fw (f (M + 1))] = flos (M + 2) f := by
  rw [← flos_push1 (M + 1), ← flos_push1 M, List.append_assoc]
  rfl
theorem Blk.grown {w w' : World} {r : Nat} {cs : List Value} {T : TypeId} {row : Option Nat} (h : Blk w r cs T) (hg : w.grownBy w' row) (hr : some r ≠ row) : Blk w' r cs T := (hg.block r h.lt hr).trans h
theorem own_shape {w : World} {base : Nat} {e : TypeId} {size : Nat} {v : Value} {n : Nat} {xs : List Value} (h : w.ownsRow base e size v n xs) : ∃ P c, v = .slice P n c := by
  rcases h.2 with ⟨rfl, rfl⟩ | ⟨g, cap, cur, rfl, _⟩
  · exact ⟨_, _, rfl⟩
  · exact ⟨_, _, rfl⟩
theorem own_other {w : World} {base : Nat} {e T : TypeId} {size : Nat} {v : Value} {n r : Nat} {xs cs : List Value} (h : w.ownsRow base e size v n xs) (hb : Blk w r cs T) (hT : e ≠ T) : ∀ g, v.ownBlock = some g → g ≠ r := by
  rintro g hg rfl
  rcases h.2 with ⟨rfl, rfl⟩ | ⟨g', cap, cur, rfl, _, hh, _⟩
  · cases hg
  · simp only [Value.ownBlock, Option.some.injEq] at hg
    subst hg
    have hb' : w.heap[g']? = some (.cells cs.toArray T (0, 0)) := hb
    rw [hb'] at hh
    injection hh with hh
    injection hh with _ hh
    exact hT hh.symm
theorem Flo.of_own {w : World} {base : Nat} {e : TypeId} {V : Option Addr} {N c : Nat} {f : Nat → Nat} (h : w.ownsRow base e 1 (.slice V N c) N (flos N f)) : Flo w V N c f := by
  rcases h.2 with ⟨h1, rfl⟩ | ⟨g, cap, cur, h1, _, _, h2, h3, _⟩
  · injection h1 with h1 _ h3
    subst h1 h3
    exact Flo.nil w f
  · injection h1 with h1 _ h4
    subst h1 h4
    refine ⟨h2, h3, fun h => (by cases h), fun a ha i hi => ?_⟩
    cases ha
    rw [add0]
    exact (h.cellAt i (by omega)).trans (flos_at hi)
structure PS (w0 w : World) (G : Nat) (D : Int) (A : Option Addr) (N c : Nat) (v : Value) (M : Nat) (f : Nat → Nat) : Prop where
  bel : Below w0.heap.size w0 w
  sq : Blk w w0.heap.size [.int .u8 D, .slice A N c] 68
  rs : Blk w (w0.heap.size + 1) [.int .i64 0, .int .i64 0, .slice none 0 0, .slice none 0 0] 25
  gb : Blk w G [.int .i64 2, .int .i64 D, v, .slice none 0 0] 25
  hG : w0.heap.size + 1 < G
  own : w.ownsRow w0.heap.size 48 1 v M (flos M f)
theorem PS.keep {w0 w w' : World} {G N c M : Nat} {D : Int} {A : Option Addr} {v : Value} {f : Nat → Nat} (h : PS w0 w G D A N c v M f) (hb : Below w.heap.size w w') : PS w0 w' G D A N c v M f :=
  ⟨h.bel.trans (hb.mono h.bel.size), h.sq.keep hb h.sq.lt, h.rs.keep hb h.rs.lt, h.gb.keep hb h.gb.lt, h.hG, keepB h.own hb⟩
theorem PS.push {w0 w w' : World} {G N c M m : Nat} {D : Int} {A : Option Addr} {v v' : Value} {f : Nat → Nat} {news : List Value} (h : PS w0 w G D A N c v M f) (hg : w.grownBy w' v.ownBlock)
    (ho : w'.ownsRow w0.heap.size 48 1 v' (M + m) (flos M f ++ news)) (hn : flos M f ++ news = flos (M + m) f) :
    PS w0 (w'.setCell ⟨G, 2, none⟩ v') G D A N c v' (M + m) f := by
  have n1 := own_other h.own h.sq (by decide)
  have n2 := own_other h.own h.rs (by decide)
  have n3 := own_other h.own h.gb (by decide)
  have s' := h.sq.grown hg (fun e => n1 _ e.symm rfl)
  have r' := h.rs.grown hg (fun e => n2 _ e.symm rfl)
  have g' := h.gb.grown hg (fun e => n3 _ e.symm rfl)
  have n4 := own_other ho g' (by decide)
  have hG := h.hG
  refine ⟨(h.bel.grown hg h.bel.size fun k hk => (h.own.lt k hk).1).setCell (p := ⟨G, 2, none⟩) (by show _ ≤ G; omega) _, s'.other (p := ⟨G, 2, none⟩) (by show G ≠ w0.heap.size; omega) _,
    r'.other (p := ⟨G, 2, none⟩) (by show G ≠ w0.heap.size + 1; omega) _, g'.set 2 v', h.hG, ?_⟩
  rw [hn] at ho
  exact keepC ho n4 _
end Go.Proofs.Ytpbllagjcdcnpaa
