/- Walks of zzFits2 and gLine: whether a geometry is a small line, and its places. -/
import Derived.Test.YtpbllagjcdcnpaaSegs
namespace Go.Proofs.Ytpbllagjcdcnpaa
open Go.ChangeShapes Go.WideShapes Go.ChangeAt Go.RowKit
open Fl
set_option linter.unusedSimpArgs false
set_option linter.unusedVariables false
attribute [local go_sem] run_store_float run_fadd run_fsub run_fmul run_fdiv run_equalIn_float fmt64

theorem fits_any (k m : Int) (A B : Option Addr) (n c l e : Nat) (w : World) :
    Calls Try.prog 9 #[.agg #[.int .i64 k, .int .i64 m, .slice A n c, .slice B l e]] w fun r w' => BOk True r ∧ Below w.heap.size w w' := by
  by_cases h1 : 2147483647 < n
  · go_enter Try.func9, Try.ntmps9
    go_wp2_with fail
    go_returns
    exact ⟨⟨false, rfl, fun _ => trivial⟩, by go_grown⟩
  · by_cases h2 : 2147483647 < l
    · go_enter Try.func9, Try.ntmps9
      go_wp2_with fail
      go_returns
      exact ⟨⟨false, rfl, fun _ => trivial⟩, by go_grown⟩
    · go_enter Try.func9, Try.ntmps9
      go_wp2_with fail
      go_returns
      exact ⟨⟨true, rfl, fun _ => trivial⟩, by go_grown⟩
/-- what gLine gives -/
def GLR (k D : Int) (n : Nat) (f : Nat → Nat) (r : Ending) (w : World) : Prop := r = .returned (.tuple #[.slice none 0 0, .bool false]) ∨
  k = 2 ∧ n ≤ 2000 ∧ ∃ P cp g, r = .returned (.tuple #[.slice P (n / wid D) cp, .bool true]) ∧ Quad w P (n / wid D) cp g ∧ ∀ i, i < n / wid D → (g i).1 = f (i * wid D) ∧ (g i).2.1 = f (i * wid D + 1)
set_option maxRecDepth 20000 in
set_option maxHeartbeats 4000000 in
theorem gline_any (d : Nat) (k m D : Int) (A B : Option Addr) (n c l e : Nat) (f : Nat → Nat) (w : World) (hD : Is4 D) (hmD : bits .and .i64 m 3 = D) (hk : inI k) (hm : inI m) (hf : Flo w A n c f) (h1 : l ≤ e) (h2 : e ≤ maxLen) (h3 : B = none → l = 0 ∧ e = 0)
    (hs : ∀ b, B = some b → ∀ i, i < l → ∃ q0 q1 q2 q3, w.cell? (b.add (i * 4)) = some q0 ∧ w.cell? ⟨(b.add (i * 4)).block, (b.add (i * 4)).off + 1, none⟩ = some q1 ∧
        w.cell? ⟨(b.add (i * 4)).block, (b.add (i * 4)).off + 2, none⟩ = some q2 ∧ w.cell? ⟨(b.add (i * 4)).block, (b.add (i * 4)).off + 3, none⟩ = some q3 ∧ GD w d q0 q1 q2 q3) :
    Calls Try.prog 10 #[.agg #[.int .i64 k, .int .i64 m, .slice A n c, .slice B l e]] w fun r w' => GLR k D n f r w' ∧ Below w.heap.size w w' := by
  have hsm := Lib.hid fun (W : World) (r : Nat) (hb : Below w.heap.size w W) (hr : Blk W r [.int .i64 k, .int .i64 m, .slice A n c, .slice B l e] 25) => small_one d k m A B n c l e f W hk hm (hf.keep hb) h1 h2 h3 (fun b hbb i hi => by
    obtain ⟨q0, q1, q2, q3, z0, z1, z2, z3, hq⟩ := hs b hbb i hi
    exact ⟨q0, q1, q2, q3, (hb.cell (World.block_lt_of_cell? w _ z0)).trans z0, (hb.cell (World.block_lt_of_cell? w _ z1)).trans z1, (hb.cell (World.block_lt_of_cell? w _ z2)).trans z2,
      (hb.cell (World.block_lt_of_cell? w _ z3)).trans z3, hq.keep hb⟩) r hr
  have hf := Lib.hid hf
  clear hs h3
  by_cases hk2 : k = 2
  · subst hk2
    go_enter Try.func10, Try.ntmps10
    go_wp2_with (first
      | (go_at_call 34; have hBn := Blk.new (w.alloc (.cells #[.int .i64 2, .int .i64 m, .slice A n c, .slice B l e] 25)) [.int .i64 2, .int .i64 m, .slice A n c, .slice B l e] 25; rw [World.size_alloc] at hBn; refine (hsm.out _ _ (by go_grown) hBn).mono ?_; clear hBn; rintro r w1 ⟨⟨bb, rfl, hbb⟩, hb1⟩; have hbb := Lib.hid hbb; have K := ((Blk.new w [.int .i64 2, .int .i64 m, .slice A n c, .slice B l e] 25).alloc (.cells #[.int .i64 2, .int .i64 m, .slice A n c, .slice B l e] 25)).keep hb1 (by simp only [World.size_alloc]; omega); have hb1 := Lib.hid hb1; obtain ⟨x0, x1, x2, x3, _, _, _, _⟩ := K.c4; have hl0 := K.lt; clear K; cases bb)
      | (go_at_call 25; refine (new_line m D A B n c l e f _ (hf.out.keep (Below.trans (by go_grown) (hb1.out.mono (by simp only [World.size_alloc]; omega)))) (hbb.out (by first | rfl | trivial)) hD hmD).mono ?_; rintro r w2 ⟨⟨A', c', rfl, hf2⟩, hb2⟩; have hf2 := Lib.hid hf2; have hb2 := Lib.hid hb2)
      | (go_at_call 35; refine (places_any D A' (n / wid D * wid D) c' (n / wid D) f _ (hf2.out.keep (by go_grown)) (Nat.le_trans (Nat.div_mul_le_self _ _) (hbb.out (by first | rfl | trivial))) hD rfl).mono ?_; rintro r w3 ⟨⟨P, cp, g, rfl, hQ, hg⟩, hb3⟩; have hQ := Lib.hid hQ; have hg := Lib.hid hg; have hb3 := Lib.hid hb3))
    · go_returns
      exact ⟨Or.inl rfl, Below.trans (by go_grown) (hb1.out.mono (by simp only [World.size_alloc]; omega))⟩
    · go_returns
      have z1 := hb1.out.size
      have z2 := hb2.out.size
      simp only [World.size_alloc] at z1
      have H1 : Below w.heap.size w w1 := Below.trans (by go_grown) (hb1.out.mono (by simp only [World.size_alloc]; omega))
      have H2 := H1.trans (hb2.out.mono (by omega))
      refine ⟨Or.inr ⟨rfl, hbb.out (by first | rfl | trivial), P, cp, g, rfl, hQ.out, hg.out⟩, (H2.alloc H2.size _).trans (hb3.out.mono (by simp only [World.size_alloc]; omega))⟩
  · go_enter Try.func10, Try.ntmps10
    go_wp2_with (go_at_call 34; have hBn := Blk.new (w.alloc (.cells #[.int .i64 k, .int .i64 m, .slice A n c, .slice B l e] 25)) [.int .i64 k, .int .i64 m, .slice A n c, .slice B l e] 25; rw [World.size_alloc] at hBn; refine (hsm.out _ _ (by go_grown) hBn).mono ?_; clear hBn; rintro r w1 ⟨⟨bb, rfl, hbb⟩, hb1⟩; have hbb := Lib.hid hbb; have K := ((Blk.new w [.int .i64 k, .int .i64 m, .slice A n c, .slice B l e] 25).alloc (.cells #[.int .i64 k, .int .i64 m, .slice A n c, .slice B l e] 25)).keep hb1 (by simp only [World.size_alloc]; omega); have hb1 := Lib.hid hb1; obtain ⟨x0, x1, x2, x3, _, _, _, _⟩ := K.c4; have hl0 := K.lt; clear K; cases bb)
    all_goals
      go_returns
      exact ⟨Or.inl rfl, Below.trans (by go_grown) (hb1.out.mono (by simp only [World.size_alloc]; omega))⟩
end Go.Proofs.Ytpbllagjcdcnpaa
