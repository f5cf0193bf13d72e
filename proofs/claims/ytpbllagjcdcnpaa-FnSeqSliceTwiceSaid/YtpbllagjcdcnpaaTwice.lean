/- A slice of a slice of a sequence is one slice of the sequence: for every line of at most 2000 numbers and every four places. No condition. -/
import Derived.Test.YtpbllagjcdcnpaaSame
import Derived.Test.YtpbllagjcdcnpaaFLLaw
namespace Go.Proofs.Ytpbllagjcdcnpaa
open Go.ChangeShapes Go.WideShapes Go.ChangeAt Go.RowKit
open Fl
set_option linter.unusedSimpArgs false
set_option linter.unusedVariables false
attribute [local go_sem] run_store_float run_fadd run_fsub run_fmul run_fdiv run_equalIn_float fmt64

theorem wf_in {z : Int} (hz : (Lit.int .i64 z).wf = true) : inI z := by
  simp [Lit.wf, IntKind.min, IntKind.max, IntKind.signed, IntKind.bits] at hz
  unfold inI
  omega
theorem and3_self {D : Int} (h : Is4 D) : bits .and .i64 D 3 = D := by
  rcases h with rfl | rfl | rfl | rfl <;> decide
set_option maxRecDepth 20000 in
set_option maxHeartbeats 8000000 in
theorem twice_walk (dd : Nat) (v : Value) (a b c d : Int) (w : World) (h : GV w dd v) (ia : inI a) (ib : inI b) (ic : inI c) (id_ : inI d) : Calls Try.prog 4 #[v, .int .i64 a, .int .i64 b, .int .i64 c, .int .i64 d] w fun e w' => e = .returned (.bool true) ∧ Below w.heap.size w w' := by
  obtain ⟨c0, c1, c2, c3, rfl, hd⟩ := h
  cases dd with
  | zero => exact hd.elim
  | succ dd =>
  obtain ⟨k, m, A, n, cp, f, B, l, e, hk, hm, rfl, rfl, rfl, hf, rfl, h1, h2, h3, hs⟩ := hd
  have hD := and3 m
  obtain ⟨D, hmD⟩ : ∃ D, bits .and .i64 m 3 = D := ⟨_, rfl⟩
  rw [hmD] at hD
  unfold inI at ia ib ic id_
  have hgl := Lib.hid fun W (hb : Below w.heap.size w W) => gline_any dd k m D A B n cp l e f W hD hmD hk hm (hf.keep hb) h1 h2 h3 (fun b hbb i hi => by
    obtain ⟨q0, q1, q2, q3, z0, z1, z2, z3, hq⟩ := hs b hbb i hi
    exact ⟨q0, q1, q2, q3, (hb.cell (World.block_lt_of_cell? w _ z0)).trans z0, (hb.cell (World.block_lt_of_cell? w _ z1)).trans z1, (hb.cell (World.block_lt_of_cell? w _ z2)).trans z2,
      (hb.cell (World.block_lt_of_cell? w _ z3)).trans z3, hq.keep hb⟩)
  have hW := wid_le D
  clear hs h3
  by_cases hk2 : k = 2
  · subst hk2
    have fail : (a < 0 ∨ b < a ∨ ((n / wid D : Nat) : Int) < b ∨ c < 0 ∨ d < c ∨ b - a < d) → Calls Try.prog 4 #[.agg #[.int .i64 2, .int .i64 m, .slice A n cp, .slice B l e], .int .i64 a, .int .i64 b, .int .i64 c, .int .i64 d] w fun e w' => e = .returned (.bool true) ∧ Below w.heap.size w w' := by
      clear hf hmD
      obtain ⟨q, hq⟩ : ∃ q, n / wid D = q := ⟨_, rfl⟩
      intro hbad
      rw [hq] at hbad
      have hqh := Lib.hid hq
      have hbad := Lib.hid hbad
      have hqn : q ≤ n := by rw [← hq]; exact Nat.div_le_self _ _
      clear hq
      by_cases e0 : a < 0
      · clear hbad
        go_enter Try.func4, Try.ntmps4
        go_wp2_with (first
          | (go_at_call 9; refine (fits_any _ _ _ _ _ _ _ _ _).mono ?_; rintro r w1 ⟨⟨bb, rfl, _⟩, hb1⟩; have K1 := (Blk.new w [.int .i64 2, .int .i64 m, .slice A n cp, .slice B l e] 25).keep hb1 (by simp only [World.size_alloc]; omega); have H1 : Below w.heap.size w w1 := Below.trans (by go_grown) (hb1.mono (by simp only [World.size_alloc]; omega)); have H1 := Lib.hid H1; clear hb1; obtain ⟨x0, x1, x2, x3, _, _, _, _⟩ := K1.c4; have HK1 := Lib.hid K1; clear K1; cases bb)
          | (go_at_call 10; refine (hgl.out _ H1.out).mono ?_; rintro r w2 ⟨hgr, hb2⟩; have H2 := H1.out.trans (hb2.mono H1.out.size); have K2 := HK1.out.keep hb2 HK1.out.lt; clear x0 x1 x2 x3 hb2; obtain ⟨x0, x1, x2, x3, _, _, _, _⟩ := K2.c4; have HK2 := Lib.hid K2; have H2' := Lib.hid H2; clear K2 H2; rcases hgr with rfl | ⟨_, hn, P, cq, g, rfl, _, _⟩; any_goals (rw [hqh.out])))
        all_goals
          go_returns
          first | exact ⟨rfl, H2'.out⟩ | exact ⟨rfl, H1.out⟩
      by_cases e1 : b < a
      · clear hbad
        go_enter Try.func4, Try.ntmps4
        go_wp2_with (first
          | (go_at_call 9; refine (fits_any _ _ _ _ _ _ _ _ _).mono ?_; rintro r w1 ⟨⟨bb, rfl, _⟩, hb1⟩; have K1 := (Blk.new w [.int .i64 2, .int .i64 m, .slice A n cp, .slice B l e] 25).keep hb1 (by simp only [World.size_alloc]; omega); have H1 : Below w.heap.size w w1 := Below.trans (by go_grown) (hb1.mono (by simp only [World.size_alloc]; omega)); have H1 := Lib.hid H1; clear hb1; obtain ⟨x0, x1, x2, x3, _, _, _, _⟩ := K1.c4; have HK1 := Lib.hid K1; clear K1; cases bb)
          | (go_at_call 10; refine (hgl.out _ H1.out).mono ?_; rintro r w2 ⟨hgr, hb2⟩; have H2 := H1.out.trans (hb2.mono H1.out.size); have K2 := HK1.out.keep hb2 HK1.out.lt; clear x0 x1 x2 x3 hb2; obtain ⟨x0, x1, x2, x3, _, _, _, _⟩ := K2.c4; have HK2 := Lib.hid K2; have H2' := Lib.hid H2; clear K2 H2; rcases hgr with rfl | ⟨_, hn, P, cq, g, rfl, _, _⟩; any_goals (rw [hqh.out])))
        all_goals
          go_returns
          first | exact ⟨rfl, H2'.out⟩ | exact ⟨rfl, H1.out⟩
      by_cases e2 : (q : Int) < b
      · clear hbad
        go_enter Try.func4, Try.ntmps4
        go_wp2_with (first
          | (go_at_call 9; refine (fits_any _ _ _ _ _ _ _ _ _).mono ?_; rintro r w1 ⟨⟨bb, rfl, _⟩, hb1⟩; have K1 := (Blk.new w [.int .i64 2, .int .i64 m, .slice A n cp, .slice B l e] 25).keep hb1 (by simp only [World.size_alloc]; omega); have H1 : Below w.heap.size w w1 := Below.trans (by go_grown) (hb1.mono (by simp only [World.size_alloc]; omega)); have H1 := Lib.hid H1; clear hb1; obtain ⟨x0, x1, x2, x3, _, _, _, _⟩ := K1.c4; have HK1 := Lib.hid K1; clear K1; cases bb)
          | (go_at_call 10; refine (hgl.out _ H1.out).mono ?_; rintro r w2 ⟨hgr, hb2⟩; have H2 := H1.out.trans (hb2.mono H1.out.size); have K2 := HK1.out.keep hb2 HK1.out.lt; clear x0 x1 x2 x3 hb2; obtain ⟨x0, x1, x2, x3, _, _, _, _⟩ := K2.c4; have HK2 := Lib.hid K2; have H2' := Lib.hid H2; clear K2 H2; rcases hgr with rfl | ⟨_, hn, P, cq, g, rfl, _, _⟩; any_goals (rw [hqh.out])))
        all_goals
          go_returns
          first | exact ⟨rfl, H2'.out⟩ | exact ⟨rfl, H1.out⟩
      by_cases e3 : c < 0
      · clear hbad
        go_enter Try.func4, Try.ntmps4
        go_wp2_with (first
          | (go_at_call 9; refine (fits_any _ _ _ _ _ _ _ _ _).mono ?_; rintro r w1 ⟨⟨bb, rfl, _⟩, hb1⟩; have K1 := (Blk.new w [.int .i64 2, .int .i64 m, .slice A n cp, .slice B l e] 25).keep hb1 (by simp only [World.size_alloc]; omega); have H1 : Below w.heap.size w w1 := Below.trans (by go_grown) (hb1.mono (by simp only [World.size_alloc]; omega)); have H1 := Lib.hid H1; clear hb1; obtain ⟨x0, x1, x2, x3, _, _, _, _⟩ := K1.c4; have HK1 := Lib.hid K1; clear K1; cases bb)
          | (go_at_call 10; refine (hgl.out _ H1.out).mono ?_; rintro r w2 ⟨hgr, hb2⟩; have H2 := H1.out.trans (hb2.mono H1.out.size); have K2 := HK1.out.keep hb2 HK1.out.lt; clear x0 x1 x2 x3 hb2; obtain ⟨x0, x1, x2, x3, _, _, _, _⟩ := K2.c4; have HK2 := Lib.hid K2; have H2' := Lib.hid H2; clear K2 H2; rcases hgr with rfl | ⟨_, hn, P, cq, g, rfl, _, _⟩; any_goals (rw [hqh.out])))
        all_goals
          go_returns
          first | exact ⟨rfl, H2'.out⟩ | exact ⟨rfl, H1.out⟩
      by_cases e4 : d < c
      · clear hbad
        go_enter Try.func4, Try.ntmps4
        go_wp2_with (first
          | (go_at_call 9; refine (fits_any _ _ _ _ _ _ _ _ _).mono ?_; rintro r w1 ⟨⟨bb, rfl, _⟩, hb1⟩; have K1 := (Blk.new w [.int .i64 2, .int .i64 m, .slice A n cp, .slice B l e] 25).keep hb1 (by simp only [World.size_alloc]; omega); have H1 : Below w.heap.size w w1 := Below.trans (by go_grown) (hb1.mono (by simp only [World.size_alloc]; omega)); have H1 := Lib.hid H1; clear hb1; obtain ⟨x0, x1, x2, x3, _, _, _, _⟩ := K1.c4; have HK1 := Lib.hid K1; clear K1; cases bb)
          | (go_at_call 10; refine (hgl.out _ H1.out).mono ?_; rintro r w2 ⟨hgr, hb2⟩; have H2 := H1.out.trans (hb2.mono H1.out.size); have K2 := HK1.out.keep hb2 HK1.out.lt; clear x0 x1 x2 x3 hb2; obtain ⟨x0, x1, x2, x3, _, _, _, _⟩ := K2.c4; have HK2 := Lib.hid K2; have H2' := Lib.hid H2; clear K2 H2; rcases hgr with rfl | ⟨_, hn, P, cq, g, rfl, _, _⟩; any_goals (rw [hqh.out])))
        all_goals
          go_returns
          first | exact ⟨rfl, H2'.out⟩ | exact ⟨rfl, H1.out⟩
      have e6 : b - a < d := by
        rcases hbad.out with h | h | h | h | h | h <;> first | exact absurd h e0 | exact absurd h e1 | exact absurd h e2 | exact absurd h e3 | exact absurd h e4 | exact h
      clear hbad
      go_enter Try.func4, Try.ntmps4
      go_wp2_with (first
        | (go_at_call 9; refine (fits_any _ _ _ _ _ _ _ _ _).mono ?_; rintro r w1 ⟨⟨bb, rfl, _⟩, hb1⟩; have K1 := (Blk.new w [.int .i64 2, .int .i64 m, .slice A n cp, .slice B l e] 25).keep hb1 (by simp only [World.size_alloc]; omega); have H1 : Below w.heap.size w w1 := Below.trans (by go_grown) (hb1.mono (by simp only [World.size_alloc]; omega)); have H1 := Lib.hid H1; clear hb1; obtain ⟨x0, x1, x2, x3, _, _, _, _⟩ := K1.c4; have HK1 := Lib.hid K1; clear K1; cases bb)
        | (go_at_call 10; refine (hgl.out _ H1.out).mono ?_; rintro r w2 ⟨hgr, hb2⟩; have H2 := H1.out.trans (hb2.mono H1.out.size); have K2 := HK1.out.keep hb2 HK1.out.lt; clear x0 x1 x2 x3 hb2; obtain ⟨x0, x1, x2, x3, _, _, _, _⟩ := K2.c4; have HK2 := Lib.hid K2; have H2' := Lib.hid H2; clear K2 H2; rcases hgr with rfl | ⟨_, hn, P, cq, g, rfl, _, _⟩; any_goals (rw [hqh.out])))
      all_goals
        go_returns
        first | exact ⟨rfl, H2'.out⟩ | exact ⟨rfl, H1.out⟩
    by_cases hbad : (a < 0 ∨ b < a ∨ ((n / wid D : Nat) : Int) < b ∨ c < 0 ∨ d < c ∨ b - a < d)
    · exact fail hbad
    clear fail
    obtain ⟨a', rfl⟩ : ∃ x : Nat, a = (x : Int) := ⟨a.toNat, by omega⟩
    obtain ⟨b', rfl⟩ : ∃ x : Nat, b = (x : Int) := ⟨b.toNat, by omega⟩
    obtain ⟨c', rfl⟩ : ∃ x : Nat, c = (x : Int) := ⟨c.toNat, by omega⟩
    obtain ⟨d', rfl⟩ : ∃ x : Nat, d = (x : Int) := ⟨d.toNat, by omega⟩
    obtain ⟨q, hq⟩ : ∃ q, n / wid D = q := ⟨_, rfl⟩
    rw [hq] at hbad
    have g1 : a' ≤ b' := by omega
    have g2 : b' ≤ q := by omega
    have g3 : c' ≤ d' := by omega
    have g4 : d' ≤ b' - a' := by omega
    have hqn : q ≤ n := by rw [← hq]; exact Nat.div_le_self _ _
    have hs1 := Lib.hid fun (hn : n ≤ 2000) W (hb : Below w.heap.size w W) => seqslice_any m D A B n cp l e a' b' q f W hD hmD hn (hf.keep hb) hq.symm g1 g2
    have hNl : (b' - a') * wid D ≤ n := by
      have e1 : (b' - a') * wid D ≤ q * wid D := Nat.mul_le_mul_right _ (by omega)
      have e2 : q * wid D ≤ n := by rw [← hq]; exact Nat.div_mul_le_self _ _
      omega
    have hs2 := Lib.hid fun (hn : n ≤ 2000) (A3 : Option Addr) (c3 : Nat) W (hF : Flo W A3 ((b' - a') * wid D) c3 (fun x => f (a' * wid D + x))) => seqslice_any D D A3 none ((b' - a') * wid D) c3 0 0 c' d' (b' - a') _ W hD (and3_self hD) (Nat.le_trans hNl hn) hF (Nat.mul_div_cancel _ (by omega)).symm g3 g4
    have hs3 : ∀ (hn : n ≤ 2000) W, Below w.heap.size w W → Calls Try.prog 15 #[.agg #[.int .i64 2, .int .i64 m, .slice A n cp, .slice B l e], .int .i64 ((a' : Int) + (c' : Int)), .int .i64 ((a' : Int) + (d' : Int))] W fun r w' => SSR D ((d' - c') * wid D) (fun x => f (a' * wid D + (c' * wid D + x))) r w' ∧ Below W.heap.size W w' := by
      intro hn W hb
      have := seqslice_any m D A B n cp l e (a' + c') (a' + d') q f W hD hmD hn (hf.keep hb) hq.symm (by omega) (by omega)
      rw [Int.natCast_add, Int.natCast_add, Nat.add_sub_add_left] at this
      have e : (fun x => f ((a' + c') * wid D + x)) = fun x => f (a' * wid D + (c' * wid D + x)) := by
        funext x
        rw [Nat.add_mul, Nat.add_assoc]
      rw [e] at this
      exact this
    have hs3 := Lib.hid hs3
    have k1 : ¬ (b' : Int) < (a' : Int) := by omega
    have k2 : ¬ (q : Int) < (b' : Int) := by omega
    have k3 : ¬ (d' : Int) < (c' : Int) := by omega
    have k4 : ¬ (b' : Int) - (a' : Int) < (d' : Int) := by omega
    have hqh := Lib.hid hq
    clear hf hmD hbad hNl hq
    go_enter Try.func4, Try.ntmps4
    go_wp2_with (first
      | (go_at_call 9; refine (fits_any _ _ _ _ _ _ _ _ _).mono ?_; rintro r w1 ⟨⟨bb, rfl, _⟩, hb1⟩; have K1 := (Blk.new w [.int .i64 2, .int .i64 m, .slice A n cp, .slice B l e] 25).keep hb1 (by simp only [World.size_alloc]; omega); have H1 : Below w.heap.size w w1 := Below.trans (by go_grown) (hb1.mono (by simp only [World.size_alloc]; omega)); have H1 := Lib.hid H1; clear hb1; obtain ⟨x0, x1, x2, x3, _, _, _, _⟩ := K1.c4; have HK1 := Lib.hid K1; clear K1; cases bb)
      | (go_at_call 10; refine (hgl.out _ H1.out).mono ?_; rintro r w2 ⟨hgr, hb2⟩; have H2 := H1.out.trans (hb2.mono H1.out.size); have K2 := HK1.out.keep hb2 HK1.out.lt; clear x0 x1 x2 x3 hb2; obtain ⟨x0, x1, x2, x3, _, _, _, _⟩ := K2.c4; have HK2 := Lib.hid K2; have H2' := Lib.hid H2; clear K2 H2; rcases hgr with rfl | ⟨_, hn, P, cq, g, rfl, _, _⟩; any_goals (rw [hqh.out]))
      | (go_at_call 16; refine (samegeom_line D A4 A5 ((d' - c') * wid D) c4 c5 _ _ (hF4'.out.keep (by go_grown)) (hF5.out.keep (by go_grown))).mono ?_; rintro r w6 ⟨rfl, hb6⟩; have H6' := Lib.hid ((H5'.out.alloc H5'.out.size _).trans (hb6.mono (by simp only [World.size_alloc]; have := H5'.out.size; omega))); clear hb6)
      | (go_at_call 15; refine (hs3.out hn _ (H4'.out.alloc H4'.out.size _)).mono ?_; rintro r w5 ⟨⟨A5, c5, rfl, hF5⟩, hb5⟩; have H5' := Lib.hid ((H4'.out.alloc H4'.out.size _).trans (hb5.mono (by simp only [World.size_alloc]; have := H4'.out.size; omega))); have KT := (Blk.new w4 [.int .i64 2, .int .i64 D, .slice A4 ((d' - c') * wid D) c4, .slice none 0 0] 25).keep hb5 (by simp only [World.size_alloc]; omega); have hF4' := Lib.hid ((hF4.out.keep (by go_grown)).keep hb5); clear x0 x1 x2 x3 hb5; have hlt := KT.lt; obtain ⟨y0, y1, y2, y3, _, _, _, _⟩ := KT.c4; have hF5 := Lib.hid hF5; clear KT)
      | (go_at_call 15; refine (hs2.out hn A3 c3 _ (hF3.out.keep (by go_grown))).mono ?_; rintro r w4 ⟨⟨A4, c4, rfl, hF4⟩, hb4⟩; have H4' := Lib.hid ((H3'.out.alloc H3'.out.size _).trans (hb4.mono (by simp only [World.size_alloc]; have := H3'.out.size; omega))); have K4 := (HK3.out.alloc (.cells #[.int .i64 2, .int .i64 D, .slice A3 ((b' - a') * wid D) c3, .slice none 0 0] 25)).keep hb4 (HK3.out.alloc _).lt; clear hb4; have hl4 := K4.lt; obtain ⟨x0, x1, x2, x3, _, _, _, _⟩ := K4.c4; have hF4 := Lib.hid hF4; clear K4)
      | (go_at_call 15; refine (hs1.out hn _ H2'.out).mono ?_; rintro r w3 ⟨⟨A3, c3, rfl, hF3⟩, hb3⟩; have H3' := Lib.hid (H2'.out.trans (hb3.mono H2'.out.size)); have K3 := HK2.out.keep hb3 HK2.out.lt; clear x0 x1 x2 x3 hb3; have hl3 := K3.lt; have HK3 := Lib.hid K3; have hF3 := Lib.hid hF3; clear K3))
    all_goals
      go_returns
      first | exact ⟨rfl, H6'.out⟩ | exact ⟨rfl, H2'.out⟩ | exact ⟨rfl, H1.out⟩
  · go_enter Try.func4, Try.ntmps4
    go_wp2_with (first
      | (go_at_call 9; refine (fits_any _ _ _ _ _ _ _ _ _).mono ?_; rintro r w1 ⟨⟨bb, rfl, _⟩, hb1⟩; have K1 := (Blk.new w [.int .i64 k, .int .i64 m, .slice A n cp, .slice B l e] 25).keep hb1 (by simp only [World.size_alloc]; omega); have H1 : Below w.heap.size w w1 := Below.trans (by go_grown) (hb1.mono (by simp only [World.size_alloc]; omega)); have H1 := Lib.hid H1; clear hb1; obtain ⟨x0, x1, x2, x3, _, _, _, _⟩ := K1.c4; have HK1 := Lib.hid K1; clear K1; cases bb)
      | (go_at_call 10; refine (hgl.out _ H1.out).mono ?_; rintro r w2 ⟨hgr, hb2⟩; have H2' := Lib.hid (H1.out.trans (hb2.mono H1.out.size)); clear x0 x1 x2 x3 hb2; rcases hgr with rfl | ⟨hk, _⟩; any_goals (exact absurd hk hk2)))
    all_goals
      go_returns
      first | exact ⟨rfl, H2'.out⟩ | exact ⟨rfl, H1.out⟩

namespace fnSeqSliceTwice
theorem own : ownKnob Try.prog.godebug = none := by kernel_rfl
theorem laidOut : laidOutB Try.prog = true := by kernel_rfl
set_option maxRecDepth 100000 in
theorem lifted (os : Os) (started : os.Started) (H : Type) (enc : TypeId × Value → H) :
    ReturnsInHanded {} Try.checked os 4 .any (Rows.fnSeqSliceTwiceSpec.pre6 enc Try.prog Try.f4 Rows.fnSeqSliceTwiceRow.domain false) (Rows.fnSeqSliceTwiceSpec.post enc Try.prog Try.f4 false true false false) := by
  refine returnsInHanded_of_change (C := Try.checked) own started (by kernel_rfl) Try.func4
    (ChangeSpec.witness6 (enc := enc) (C := Try.checked) false ⟨#[], #[.agg #[.int .i64 0, .int .i64 0, .slice none 0 0, .slice none 0 0], .int .i64 0, .int .i64 0, .int .i64 0, .int .i64 0], []⟩ 8 (by kernel_rfl) (by kernel_rfl) (by kernel_rfl) (by kernel_rfl)) ?_
  intro W base args ds gs before hval0 hW hcnd _
  have hval : ∀ (j : Nat) t v, Try.f4.params[j]? = some t → args[j]? = some v → Value.okWide Try.prog W .any base t v := hval0
  have hW' := hW
  obtain ⟨p, q, hA0, hV, rfl, hfz, hnd⟩ := hW
  have hA : DataW.TrodAll enc Try.prog W 0 (fun _ => true) true Try.f4.params.toList args.toList ds p := hA0
  rw [Try.params4] at hA hval
  obtain ⟨v0, vs0, d0, ds0, p0, q0, hargs, rfl, rfl, h0, r0⟩ := trodAll_cons hA
  obtain ⟨v1, vs1, d1, ds1, p1, q1, rfl, rfl, rfl, h1, r1⟩ := trodAll_cons r0
  obtain ⟨v2, vs2, d2, ds2, p2, q2, rfl, rfl, rfl, h2, r2⟩ := trodAll_cons r1
  obtain ⟨v3, vs3, d3, ds3, p3, q3, rfl, rfl, rfl, h3, r3⟩ := trodAll_cons r2
  obtain ⟨v4, vs4, d4, ds4, p4, q4, rfl, rfl, rfl, h4, r4⟩ := trodAll_cons r3
  obtain ⟨rfl, rfl, rfl⟩ := trodAll_nil r4
  obtain rfl : args = #[v0, v1, v2, v3, v4] := by cases args; simp_all
  obtain ⟨rfl, rfl⟩ := trodVars_none hV
  have k0 := h0
  have lt0 : ∀ x ∈ p0, x.block < W.heap.size := by obtain ⟨m, hm⟩ := k0; exact DataW.trod_lt m _ _ _ hm
  have k1 := h1
  have lt1 : ∀ x ∈ p1, x.block < W.heap.size := by obtain ⟨m, hm⟩ := k1; exact DataW.trod_lt m _ _ _ hm
  have k2 := h2
  have lt2 : ∀ x ∈ p2, x.block < W.heap.size := by obtain ⟨m, hm⟩ := k2; exact DataW.trod_lt m _ _ _ hm
  have k3 := h3
  have lt3 : ∀ x ∈ p3, x.block < W.heap.size := by obtain ⟨m, hm⟩ := k3; exact DataW.trod_lt m _ _ _ hm
  have k4 := h4
  have lt4 : ∀ x ∈ p4, x.block < W.heap.size := by obtain ⟨m, hm⟩ := k4; exact DataW.trod_lt m _ _ _ hm
  obtain ⟨dd, hG⟩ := open_geom (hval 0 25 v0 rfl rfl) h0
  obtain ⟨a, rfl, _, _, w1⟩ := open_int Try.underlying3 (hval 1 3 v1 rfl rfl) h1
  obtain ⟨b, rfl, _, _, w2⟩ := open_int Try.underlying3 (hval 2 3 v2 rfl rfl) h2
  obtain ⟨c, rfl, _, _, w3⟩ := open_int Try.underlying3 (hval 3 3 v3 rfl rfl) h3
  obtain ⟨d, rfl, _, _, w4⟩ := open_int Try.underlying3 (hval 4 3 v4 rfl rfl) h4
  refine (twice_walk dd _ a b c d W hG (wf_in w1) (wf_in w2) (wf_in w3) (wf_in w4)).mono fun e W' ⟨he, bel⟩ => ?_
  subst he
  exact ⟨_, rfl, _, _, _, [], _, [], hW', trodAll_mk1 (shut_bool Try.underlying4 _), (trodAll_cons_mk (Below.trod laidOut (by kernel_rfl) (of_decide_eq_true (by kernel_rfl)) k0 bel lt0) (trodAll_cons_mk (Below.trod laidOut (by kernel_rfl) (of_decide_eq_true (by kernel_rfl)) k1 bel lt1) (trodAll_cons_mk (Below.trod laidOut (by kernel_rfl) (of_decide_eq_true (by kernel_rfl)) k2 bel lt2) (trodAll_cons_mk (Below.trod laidOut (by kernel_rfl) (of_decide_eq_true (by kernel_rfl)) k3 bel lt3) (trodAll_cons_mk (Below.trod laidOut (by kernel_rfl) (of_decide_eq_true (by kernel_rfl)) k4 bel lt4) trodAll_mk0))))), rfl, bel.frame _, fun h => by cases h⟩

theorem over : Rows.fnSeqSliceTwiceRow.holds Try.pinned (OpenSpec.ofChange Rows.fnSeqSliceTwiceSpec) :=
  OpenClaim.holds_of_wide 4 Try.f4 rfl rfl rfl rfl rfl rfl rfl ⟨rfl, rfl, rfl, rfl, rfl⟩ rfl rfl rfl rfl rfl (by kernel_rfl) Try.func4 (by kernel_rfl)
    (of_decide_eq_true (by kernel_rfl)) (by unfold Func.isWrapper; first | (rw [if_pos (by decide +kernel)]; kernel_rfl) | (rw [if_neg (by decide +kernel)]; exact ⟨rfl, rfl⟩))
    (fun os started H enc _ => lifted os started H enc)

theorem proved : Rows.FnSeqSliceTwiceSaid := over
#print axioms proved
end fnSeqSliceTwice
end Go.Proofs.Ytpbllagjcdcnpaa
