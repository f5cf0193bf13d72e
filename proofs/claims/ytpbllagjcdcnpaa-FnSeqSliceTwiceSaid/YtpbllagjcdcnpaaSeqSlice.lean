/- Walk of the thin package's SeqSlice, which recovers. -/
import Derived.Test.YtpbllagjcdcnpaaPlain
import Derived.Defers
import Derived.Recover
namespace Go.Proofs.Ytpbllagjcdcnpaa
open Go.ChangeShapes Go.WideShapes Go.ChangeAt Go.RowKit
open Fl
set_option linter.unusedSimpArgs false
set_option linter.unusedVariables false
attribute [local go_sem] run_store_float run_fadd run_fsub run_fmul run_fdiv run_equalIn_float fmt64

theorem flo_blk {w : World} {b N : Nat} {f : Nat → Nat} {T : TypeId} (h : Blk w b (flos N f) T) (hN : N ≤ 2000) : Flo w (some ⟨b, 0, none⟩) N N f :=
  ⟨Nat.le_refl _, (by unfold maxLen; omega), fun h => (by cases h), fun a ha i hi => by cases ha; rw [add0]; exact (h.cell i).trans (flos_at hi)⟩
theorem catch_idle (p q : Addr) (w : World) :
    CallsD Try.prog 40 #[.pointer (some p), .pointer (some q)] .returning w fun e u' w' => e = .returned (.tuple #[]) ∧ u' = .returning ∧ w' = w := by
  refine callsD_of_wpS Try.func40 rfl fun c₀ cs hu => ?_
  apply wpS_seq
  apply wpS_region
  simp [wpOpsS, go_sem, recoverD, hu, Try.ntmps40, Exit.thenS]
  refine wpS_cond (t := false) (by simp [Act.eval, Array.replicate]) ?_
  simp only [Bool.false_eq_true, if_false]
  refine wpS_of_wp (wp_skip ?_)
  cases c₀
  simp_all [bodyPostS, results, Try.results40]
/-- what SeqSlice gives -/
def SSR (D : Int) (N : Nat) (f : Nat → Nat) (r : Ending) (w : World) : Prop := ∃ A' c', r = .returned (.tuple #[.agg #[.int .i64 2, .int .i64 D, .slice A' N c', .slice none 0 0], .bool true]) ∧ Flo w A' N c' f
set_option maxRecDepth 20000 in
set_option maxHeartbeats 2000000 in
theorem seqslice_any (m D : Int) (A B : Option Addr) (n c l e i j q : Nat) (f : Nat → Nat) (w : World) (hD : Is4 D) (hmD : bits .and .i64 m 3 = D) (hn : n ≤ 2000) (hf : Flo w A n c f) (hq : q = n / wid D) (hij : i ≤ j) (hjq : j ≤ q) :
    Calls Try.prog 15 #[.agg #[.int .i64 2, .int .i64 m, .slice A n c, .slice B l e], .int .i64 i, .int .i64 j] w fun r w' => SSR D ((j - i) * wid D) (fun x => f (i * wid D + x)) r w' ∧ Below w.heap.size w w' := by
  have hmf : ∀ (fn : Fn) (first cap : Array Value) (w : World), (Instr.makeFunc fn first cap).run Try.prog w = .ok (.func fn first cap) w := fun _ _ _ _ => rfl
  have hNn : n / wid D * wid D ≤ n := Nat.div_mul_le_self _ _
  rw [← hq] at hNn
  obtain ⟨lo, hlo⟩ : ∃ lo, i * wid D = lo := ⟨_, rfl⟩
  obtain ⟨hi, hhi⟩ : ∃ hi, j * wid D = hi := ⟨_, rfl⟩
  obtain ⟨N, hNe⟩ : ∃ N, q * wid D = N := ⟨_, rfl⟩
  obtain ⟨M, hM⟩ : ∃ M, (j - i) * wid D = M := ⟨_, rfl⟩
  have h1 : lo ≤ hi := by rw [← hlo, ← hhi]; exact Nat.mul_le_mul_right _ hij
  have h2 : hi ≤ N := by rw [← hhi, ← hNe]; exact Nat.mul_le_mul_right _ hjq
  have h3 : hi - lo = M := by rw [← hhi, ← hlo, ← hM, Nat.sub_mul]
  have hN2 : N ≤ 2000 := by omega
  rw [hM, hlo]
  have hl : ∀ W, Below w.heap.size w W → Calls Try.prog 38 #[.agg #[.int .i64 2, .int .i64 m, .slice A n c, .slice B l e]] W fun r w' => ∃ b, r = .returned (.agg #[.int .u8 D, .slice (some ⟨b, 0, none⟩) N N]) ∧ Blk w' b (flos N f) 48 ∧ W.heap.size ≤ b ∧ Below W.heap.size W w' := by
    intro W hb
    have := line_any m D A B n c l e f hD hmD hn W (hf.keep hb)
    rw [← hq, hNe] at this
    exact this
  have hsl : ∀ (b : Nat) (A' : Option Addr) W, Blk W b (flos N f) 48 → (if N = lo then some ⟨b, 0, none⟩ else (some (⟨b, 0, none⟩ : Addr)).map (fun x => x.add lo)) = A' → Calls Try.prog 42 #[sq D b N, .int .i64 i, .int .i64 j] W fun r w' => r = .returned (sg D A' M (N - lo)) ∧ Below W.heap.size W w' := by
    intro b A' W hB hA
    have := slice_any D (some ⟨b, 0, none⟩) N N i j lo hi f W hD (flo_blk hB hN2) hN2 hlo.symm hhi.symm h1 h2 A' hA
    rw [h3] at this
    exact this
  have hpl : ∀ (b : Nat) (A' : Option Addr) W, Blk W b (flos N f) 48 → (if N = lo then some ⟨b, 0, none⟩ else (some (⟨b, 0, none⟩ : Addr)).map (fun x => x.add lo)) = A' → Calls Try.prog 41 #[sg D A' M (N - lo)] W fun r w' => PLR D M (fun x => f (lo + x)) r w' W.heap.size ∧ Below W.heap.size W w' := by
    intro b A' W hB hA
    have hc := (flo_blk hB hN2).cut h1 h2
    rw [h3, hA] at hc
    exact plain_any D A' M (N - lo) (j - i) _ W hD hc (by omega) hM.symm
  have hl := Lib.hid hl
  have hsl := Lib.hid hsl
  have hpl := Lib.hid hpl
  clear hf hq h1 h2 h3 hlo hhi hNe hM hNn hmD
  go_enter_defers Try.func15, Try.ntmps15
  go_wp2_with (first
    | (go_at_call 38; refine (hl.out _ (by go_grown)).mono ?_; rintro r w1 ⟨b, rfl, B1, hbb, hb1⟩; have B1 := Lib.hid B1; have hb1 := Lib.hid hb1; clear hbb)
    | (go_at_call 39; refine (coords_any _ _ _ _).mono ?_; rintro r w2 ⟨rfl, hb2⟩; have hb2 := Lib.hid hb2)
    | (go_at_call 42; obtain ⟨A1, hA1⟩ : ∃ A1, (if N = lo then some ⟨b, 0, none⟩ else (some (⟨b, 0, none⟩ : Addr)).map (fun x => x.add lo)) = A1 := ⟨_, rfl⟩; have hA1 := Lib.hid hA1; refine (hsl.out b A1 _ (B1.out.keep hb2.out B1.out.lt) hA1.out).mono ?_; rintro r w3 ⟨rfl, hb3⟩; have hb3 := Lib.hid hb3)
    | (go_at_call 41; have B3 := (B1.out.keep hb2.out B1.out.lt).keep hb3.out (B1.out.keep hb2.out B1.out.lt).lt; refine (hpl.out b A1 _ B3 hA1.out).mono ?_; clear B3; rintro r w4 ⟨⟨A', c', rfl, hF, hfr⟩, hb4⟩; have hF := Lib.hid hF; have hfr := Lib.hid hfr; have hb4 := Lib.hid hb4; have R0 := (Blk.new (w.alloc (.cells #[.int .i64 2, .int .i64 m, .slice A n c, .slice B l e] 25)) [.int .i64 0, .int .i64 0, .slice none 0 0, .slice none 0 0] 25).alloc (.cells #[.bool false] 4); have Q0 := Blk.new ((w.alloc (.cells #[.int .i64 2, .int .i64 m, .slice A n c, .slice B l e] 25)).alloc (.cells #[.int .i64 0, .int .i64 0, .slice none 0 0, .slice none 0 0] 25)) [.bool false] 4; simp only [World.size_alloc] at R0 Q0; have R1 := R0.keep hb1.out (by simp only [World.size_alloc]; omega); have Q1 := Q0.keep hb1.out (by simp only [World.size_alloc]; omega); have R2 := R1.keep hb2.out R1.lt; have Q2 := Q1.keep hb2.out Q1.lt; have R3 := R2.keep hb3.out R2.lt; have Q3 := Q2.keep hb3.out Q2.lt; have hlq := Q3.lt; have R4 := R3.keep hb4.out R3.lt; have Q4 := Q3.keep hb4.out Q3.lt; obtain ⟨x0, x1, x2, x3, y0, y1, y2, y3⟩ := R4.c4; obtain ⟨z0, u0⟩ := Q4.c1; clear R0 Q0 R1 Q1 R2 Q2 R3 Q3 R4 Q4))
  have z1 := hb1.out.size
  have z2 := hb2.out.size
  have z3 := hb3.out.size
  have z4 := hb4.out.size
  simp only [World.size_alloc] at z1
  have H1 : Below w.heap.size w w1 := Below.trans (by go_grown) (hb1.out.mono (by simp only [World.size_alloc]; omega))
  have H4 : Below w.heap.size w w4 := ((H1.trans (hb2.out.mono (by omega))).trans (hb3.out.mono (by omega))).trans (hb4.out.mono (by omega))
  have hn1 : ∀ a, A' = some a → w.heap.size + 1 ≠ a.block := fun a ha => by have := hfr.out a ha; omega
  have hn2 : ∀ a, A' = some a → w.heap.size + 1 + 1 ≠ a.block := fun a ha => by have := hfr.out a ha; omega
  have HF := ((((hF.out.other (p := ⟨w.heap.size + 1, 0, none⟩) hn1 (.int .i64 2)).other (p := ⟨w.heap.size + 1, 1, none⟩) hn1 (.int .i64 D)).other (p := ⟨w.heap.size + 1, 2, none⟩) hn1 (.slice A' M c')).other (p := ⟨w.heap.size + 1, 3, none⟩) hn1 (.slice none 0 0)).other (p := ⟨w.heap.size + 1 + 1, 0, none⟩) hn2 (.bool true)
  have HB := ((((H4.setCell (p := ⟨w.heap.size + 1, 0, none⟩) (by show _ ≤ w.heap.size + 1; omega) (.int .i64 2)).setCell (p := ⟨w.heap.size + 1, 1, none⟩) (by show _ ≤ w.heap.size + 1; omega) (.int .i64 D)).setCell (p := ⟨w.heap.size + 1, 2, none⟩) (by show _ ≤ w.heap.size + 1; omega) (.slice A' M c')).setCell (p := ⟨w.heap.size + 1, 3, none⟩) (by show _ ≤ w.heap.size + 1; omega) (.slice none 0 0)).setCell (p := ⟨w.heap.size + 1 + 1, 0, none⟩) (by show _ ≤ w.heap.size + 1 + 1; omega) (.bool true)
  have HSS := Lib.hid (show SSR D M (fun x => f (lo + x)) (.returned (.tuple #[.agg #[.int .i64 2, .int .i64 D, .slice A' M c', .slice none 0 0], .bool true])) _ from ⟨A', c', rfl, HF⟩)
  have HBB := Lib.hid HB
  clear HF HB H1 H4 hn1 hn2
  refine leaves_cons (f := 40) (args := #[.pointer (some ⟨w.heap.size + 1, 0, none⟩), .pointer (some ⟨w.heap.size + 1 + 1, 0, none⟩)]) (by simp) (by simp [go_sem]) ?_
  refine (catch_idle _ _ _).mono ?_
  rintro e u' w'' ⟨rfl, rfl, rfl⟩
  simp [Leaves, settle, results, Try.results15, go_sem, x0, x1, x2, x3, y0, y1, y2, y3, z0, u0]
  exact ⟨HSS.out, HBB.out⟩
end Go.Proofs.Ytpbllagjcdcnpaa
