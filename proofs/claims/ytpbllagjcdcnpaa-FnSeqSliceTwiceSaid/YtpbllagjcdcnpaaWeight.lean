/- Walks of gWeight and gSmall: some number comes back; where it is 0 or more, the numbers of the geometry itself are few. -/
import Derived.Test.YtpbllagjcdcnpaaMem
import Derived.Test.YtpbllagjcdcnpaaRegion
import Derived.Handy
import Derived.Deep.DeepCutAuto
namespace Go.Proofs.Ytpbllagjcdcnpaa
open Go.ChangeShapes Go.WideShapes Go.ChangeAt Go.RowKit
open Fl
set_option linter.unusedSimpArgs false
set_option linter.unusedVariables false
attribute [local go_sem] run_store_float run_fadd run_fsub run_fmul run_fdiv run_equalIn_float fmt64

def BOk (p : Prop) (e : Ending) : Prop := ∃ b : Bool, e = .returned (.bool b) ∧ (b = true → p)
def WOk (left : Int) (n : Nat) (e : Ending) : Prop := ∃ r : Int, e = .returned (.int .i64 r) ∧ -1 ≤ r ∧ r ≤ 2000 ∧ (0 ≤ r → (n : Int) ≤ left)
set_option maxHeartbeats 4000000 in
theorem weight_step (d : Nat) (ih : ∀ (c0 c1 c2 c3 : Value) (left : Int) (w : World), GD w d c0 c1 c2 c3 → left ≤ 2000 → -1 ≤ left → Calls Try.prog 64 #[.agg #[c0, c1, c2, c3], .int .i64 left] w fun e w' => (∃ r : Int, e = .returned (.int .i64 r) ∧ -1 ≤ r ∧ r ≤ 2000) ∧ Below w.heap.size w w')
    (k m left : Int) (A B : Option Addr) (n c l e : Nat) (w : World) (hl1 : left ≤ 2000) (hl2 : -1 ≤ left) (hn : n ≤ c) (hc : c ≤ maxLen) (hl : l ≤ e) (he : e ≤ maxLen) (hB : B = none → l = 0 ∧ e = 0)
    (hs : ∀ b, B = some b → ∀ i, i < l → ∃ q0 q1 q2 q3, w.cell? (b.add (i * 4)) = some q0 ∧ w.cell? ⟨(b.add (i * 4)).block, (b.add (i * 4)).off + 1, none⟩ = some q1 ∧
        w.cell? ⟨(b.add (i * 4)).block, (b.add (i * 4)).off + 2, none⟩ = some q2 ∧ w.cell? ⟨(b.add (i * 4)).block, (b.add (i * 4)).off + 3, none⟩ = some q3 ∧ GD w d q0 q1 q2 q3) :
    Calls Try.prog 64 #[.agg #[.int .i64 k, .int .i64 m, .slice A n c, .slice B l e], .int .i64 left] w fun e w' => WOk left n e ∧ Below w.heap.size w w' := by
  have hs := Lib.hid hs
  have ih := Lib.hid ih
  have hmx : maxLen = 9223372036854775807 := rfl
  rw [hmx] at hc he
  by_cases h1 : left < 1
  · go_enter Try.func64, Try.ntmps64
    go_wp2_with fail
    go_returns
    exact ⟨⟨-1, rfl, by omega, by omega, by omega⟩, by go_grown⟩
  by_cases h2 : left < n
  · go_enter Try.func64, Try.ntmps64
    go_wp2_with fail
    go_returns
    exact ⟨⟨-1, rfl, by omega, by omega, by omega⟩, by go_grown⟩
  by_cases h3 : left < l
  · go_enter Try.func64, Try.ntmps64
    go_wp2_with fail
    go_returns
    exact ⟨⟨-1, rfl, by omega, by omega, by omega⟩, by go_grown⟩
  go_enter Try.func64, Try.ntmps64
  go_wp2_with fail
  go_loopw [1, 5] (fun lf i wr => ∃ (r : Int) (j : Nat), lf = .int .i64 r ∧ -1 ≤ r ∧ r ≤ 2000 ∧ i = .int .i64 (j : Int) ∧ j ≤ l ∧ Below w.heap.size w wr ∧ Blk wr w.heap.size [.int .i64 k, .int .i64 m, .slice A n c, .slice B l e] 25)
    (fun _ i _ => l - (intOf i).toNat)
  case atStart => exact ⟨left - 1 - n, 0, rfl, by omega, by omega, rfl, Nat.zero_le _, by go_grown, Blk.new w _ _⟩
  case round =>
    obtain ⟨r, j, rfl, hr1, hr2, rfl, hj, H, R⟩ := hrel
    obtain ⟨x0, x1, x2, x3, y0, y1, y2, y3⟩ := R.c4
    have hR := R.lt
    have HR := Lib.hid R
    clear R
    by_cases hjl : j < l
    · by_cases hr0 : 0 ≤ r
      · obtain ⟨b, rfl⟩ : ∃ b, B = some b := by
          cases B with
          | none => have := (hB rfl).1; omega
          | some b => exact ⟨b, rfl⟩
        obtain ⟨q0, q1, q2, q3, z0, z1, z2, z3, hq⟩ := hs.out b rfl j hjl
        have p0 := (H.cell (World.block_lt_of_cell? w _ z0)).trans z0
        have p1 := (H.cell (World.block_lt_of_cell? w _ z1)).trans z1
        have p2 := (H.cell (World.block_lt_of_cell? w _ z2)).trans z2
        have p3 := (H.cell (World.block_lt_of_cell? w _ z3)).trans z3
        clear z0 z1 z2 z3
        have hq := Lib.hid (hq.keep H)
        go_wp2_with (go_at_call 64; refine (ih.out _ _ _ _ _ _ hq.out hr2 hr1).mono ?_; rintro e' w2 ⟨⟨r', rfl, s1, s2⟩, hb2⟩; have hb2 := Lib.hid hb2)
        go_roundw
        case rel => exact ⟨r', j + 1, rfl, s1, s2, by go_num, by omega, H.trans (hb2.out.mono H.size), HR.out.keep hb2.out hR⟩
        case measure => simp [intOf]; omega
      · go_wp2_with fail
        go_returns
        exact ⟨⟨r, rfl, hr1, hr2, by omega⟩, H⟩
    · go_wp2_with fail
      go_returns
      exact ⟨⟨r, rfl, hr1, hr2, by omega⟩, H⟩
theorem weight_some : ∀ (d : Nat) (c0 c1 c2 c3 : Value) (left : Int) (w : World), GD w d c0 c1 c2 c3 → left ≤ 2000 → -1 ≤ left → Calls Try.prog 64 #[.agg #[c0, c1, c2, c3], .int .i64 left] w fun e w' => (∃ r : Int, e = .returned (.int .i64 r) ∧ -1 ≤ r ∧ r ≤ 2000) ∧ Below w.heap.size w w'
  | 0, _, _, _, _, _, _, h, _, _ => h.elim
  | d + 1, _, _, _, _, left, w, ⟨k, m, A, n, c, f, B, l, e, hk, hm, e0, e1, e2, hf, e3, h1, h2, h3, hs⟩, a1, a2 => by
    subst e0 e1 e2 e3
    refine (weight_step d (weight_some d) k m left A B n c l e w a1 a2 hf.le hf.cap h1 h2 h3 hs).mono ?_
    rintro e' w' ⟨⟨r, q1, q2, q3, _⟩, hb⟩
    exact ⟨⟨r, q1, q2, q3⟩, hb⟩
set_option maxHeartbeats 2000000 in
theorem small_one (d : Nat) (k m : Int) (A B : Option Addr) (n c l e : Nat) (f : Nat → Nat) (w : World) (hk : inI k) (hm : inI m) (hf : Flo w A n c f) (h1 : l ≤ e) (h2 : e ≤ maxLen) (h3 : B = none → l = 0 ∧ e = 0)
    (hs : ∀ b, B = some b → ∀ i, i < l → ∃ q0 q1 q2 q3, w.cell? (b.add (i * 4)) = some q0 ∧ w.cell? ⟨(b.add (i * 4)).block, (b.add (i * 4)).off + 1, none⟩ = some q1 ∧
        w.cell? ⟨(b.add (i * 4)).block, (b.add (i * 4)).off + 2, none⟩ = some q2 ∧ w.cell? ⟨(b.add (i * 4)).block, (b.add (i * 4)).off + 3, none⟩ = some q3 ∧ GD w d q0 q1 q2 q3)
    (r : Nat) (hr : Blk w r [.int .i64 k, .int .i64 m, .slice A n c, .slice B l e] 25) :
    Calls Try.prog 34 #[.slice (some ⟨r, 0, none⟩) 1 1] w fun e w' => BOk (n ≤ 2000) e ∧ Below w.heap.size w w' := by
  have hw := Lib.hid fun W (hb : Below w.heap.size w W) => weight_step d (weight_some d) k m 2000 A B n c l e W (by omega) (by omega) hf.le hf.cap h1 h2 h3 (fun b hbb i hi => by
    obtain ⟨q0, q1, q2, q3, z0, z1, z2, z3, hq⟩ := hs b hbb i hi
    exact ⟨q0, q1, q2, q3, (hb.cell (World.block_lt_of_cell? w _ z0)).trans z0, (hb.cell (World.block_lt_of_cell? w _ z1)).trans z1, (hb.cell (World.block_lt_of_cell? w _ z2)).trans z2,
      (hb.cell (World.block_lt_of_cell? w _ z3)).trans z3, hq.keep hb⟩)
  have hrl := hr.lt
  have hr := Lib.hid hr
  clear hs hf
  go_enter Try.func34, Try.ntmps34
  go_wp2_with fail
  go_loopw [3, 4] (fun lf i wr => Below w.heap.size w wr ∧ ((lf = .int .i64 2000 ∧ i = .int .i64 0) ∨ ∃ q : Int, lf = .int .i64 q ∧ i = .int .i64 1 ∧ -1 ≤ q ∧ q ≤ 2000 ∧ (0 ≤ q → n ≤ 2000))) (fun _ i _ => 1 - (intOf i).toNat)
  case atStart => exact ⟨Below.refl _ _, Or.inl ⟨rfl, rfl⟩⟩
  case round =>
    obtain ⟨H, hst⟩ := hrel
    rcases hst with ⟨rfl, rfl⟩ | ⟨q, rfl, rfl, hq1, hq2, hq3⟩
    · obtain ⟨x0, x1, x2, x3, y0, y1, y2, y3⟩ := (hr.out.keep H hrl).c4
      go_wp2_with (go_at_call 64; refine (hw.out _ H).mono ?_; rintro e' w2 ⟨⟨q, rfl, s1, s2, s3⟩, hb2⟩; have hb2 := Lib.hid hb2; have s3 := Lib.hid s3)
      go_roundw
      case rel => exact ⟨H.trans (hb2.out.mono H.size), Or.inr ⟨q, rfl, by go_num, s1, s2, fun h0 => by have := s3.out h0; omega⟩⟩
      case measure => simp [intOf]
    · have hq3 := Lib.hid hq3
      by_cases hq0 : 0 ≤ q
      · go_wp2_with fail
        go_returns
        exact ⟨⟨true, rfl, fun _ => hq3.out hq0⟩, H⟩
      · go_wp2_with fail
        go_returns
        exact ⟨⟨false, rfl, fun h => by cases h⟩, H⟩
end Go.Proofs.Ytpbllagjcdcnpaa
