/- Walk of gAll with the question gFinite: some truth comes back; if it is true then the numbers of the geometry itself are finite. -/
import Derived.Test.YtpbllagjcdcnpaaWeight
import Derived.Test.YtpbllagjcdcnpaaFin
namespace Go.Proofs.Ytpbllagjcdcnpaa
open Go.ChangeShapes Go.WideShapes Go.ChangeAt Go.RowKit
open Fl
set_option linter.unusedSimpArgs false
set_option linter.unusedVariables false
attribute [local go_sem] run_store_float run_fadd run_fsub run_fmul run_fdiv run_equalIn_float fmt64

abbrev FV : Value := .func (.func 12) #[] #[]
set_option maxHeartbeats 4000000 in
theorem all_step (d : Nat) (ih : ∀ (c0 c1 c2 c3 : Value) (w : World), GD w d c0 c1 c2 c3 → Calls Try.prog 11 #[.agg #[c0, c1, c2, c3], FV] w fun e w' => BOk True e ∧ Below w.heap.size w w')
    (k m : Int) (A B : Option Addr) (n c l e : Nat) (f : Nat → Nat) (w : World) (hf : Flo w A n c f) (hl : l ≤ e) (he : e ≤ maxLen) (hB : B = none → l = 0 ∧ e = 0)
    (hs : ∀ b, B = some b → ∀ i, i < l → ∃ q0 q1 q2 q3, w.cell? (b.add (i * 4)) = some q0 ∧ w.cell? ⟨(b.add (i * 4)).block, (b.add (i * 4)).off + 1, none⟩ = some q1 ∧
        w.cell? ⟨(b.add (i * 4)).block, (b.add (i * 4)).off + 2, none⟩ = some q2 ∧ w.cell? ⟨(b.add (i * 4)).block, (b.add (i * 4)).off + 3, none⟩ = some q3 ∧ GD w d q0 q1 q2 q3) :
    Calls Try.prog 11 #[.agg #[.int .i64 k, .int .i64 m, .slice A n c, .slice B l e], FV] w fun e w' => BOk (∀ i, i < n → fin (f i) = true) e ∧ Below w.heap.size w w' := by
  have hs := Lib.hid hs
  have ih := Lib.hid ih
  have hmx : maxLen = 9223372036854775807 := rfl
  have hc := hf.cap
  have hn := hf.le
  rw [hmx] at hc he
  have hf := Lib.hid hf
  go_enter Try.func11, Try.ntmps11
  go_wp2_with fail
  go_loopw [12] (fun i wr => ∃ (j : Nat), i = .int .i64 (j : Int) ∧ j ≤ n ∧ Below w.heap.size w wr ∧ Blk wr w.heap.size [.int .i64 k, .int .i64 m, .slice A n c, .slice B l e] 25 ∧ ∀ i, i < j → fin (f i) = true)
    (fun i _ => n - (intOf i).toNat)
  case atStart => exact ⟨0, rfl, Nat.zero_le _, by go_grown, Blk.new w _ _, fun i hi => by omega⟩
  case round =>
    obtain ⟨j, rfl, hj, H, R, hfin⟩ := hrel
    have hfin := Lib.hid hfin
    obtain ⟨x0, x1, x2, x3, y0, y1, y2, y3⟩ := R.c4
    have hR := R.lt
    have HR := Lib.hid R
    clear R
    by_cases hjn : j < n
    · obtain ⟨a, rfl⟩ := hf.out.some hjn
      have z := hf.out.cell a rfl j hjn
      have p := (H.cell (World.block_lt_of_cell? w _ z)).trans z
      clear z
      cases hF : fin (f j)
      · go_wp2_with (go_at_call 12; refine (gfinite_any _ _).mono ?_; rintro e' w2 ⟨rfl, rfl⟩)
        go_returns
        exact ⟨⟨false, rfl, fun h => (by cases h)⟩, H⟩
      · go_wp2_with (go_at_call 12; refine (gfinite_any _ _).mono ?_; rintro e' w2 ⟨rfl, rfl⟩)
        go_roundw
        case rel =>
          refine ⟨j + 1, by go_num, by omega, H, HR.out, fun i hi => ?_⟩
          by_cases hij : i = j
          · subst hij; exact hF
          · exact hfin.out i (by omega)
        case measure => simp [intOf]; omega
    · have : j = n := by omega
      subst this
      go_wp2_with fail
      go_loopw [24] (fun i wx => ∃ (q : Nat), i = .int .i64 (q : Int) ∧ q ≤ l ∧ Below w.heap.size w wx ∧ Blk wx w.heap.size [.int .i64 k, .int .i64 m, .slice A j c, .slice B l e] 25) (fun i _ => l - (intOf i).toNat)
      case atStart => exact ⟨0, rfl, Nat.zero_le _, H, HR.out⟩
      case round =>
        obtain ⟨q, rfl, hq, HX, RX⟩ := hrel
        obtain ⟨x0, x1, x2, x3, y0, y1, y2, y3⟩ := RX.c4
        have hRX := RX.lt
        have HRX := Lib.hid RX
        clear RX
        by_cases hql : q < l
        · obtain ⟨b, rfl⟩ : ∃ b, B = some b := by
            cases B with
            | none => have := (hB rfl).1; omega
            | some b => exact ⟨b, rfl⟩
          obtain ⟨q0, q1, q2, q3, z0, z1, z2, z3, hq⟩ := hs.out b rfl q hql
          obtain ⟨k', m', A', B', n', c', l', e'', rfl, rfl, rfl, rfl⟩ := hq.shape
          have p0 := (HX.cell (World.block_lt_of_cell? w _ z0)).trans z0
          have p1 := (HX.cell (World.block_lt_of_cell? w _ z1)).trans z1
          have p2 := (HX.cell (World.block_lt_of_cell? w _ z2)).trans z2
          have p3 := (HX.cell (World.block_lt_of_cell? w _ z3)).trans z3
          clear z0 z1 z2 z3
          have hA := HX.alloc HX.size (.cells #[.int .i64 k', .int .i64 m', .slice A' n' c', .slice B' l' e''] 25)
          have hzA := hA.size
          have hq := Lib.hid (hq.keep hA)
          have HA := Lib.hid hA
          clear hA
          go_wp2_with (go_at_call 11; refine (ih.out _ _ _ _ _ hq.out).mono ?_; rintro e' w2 ⟨⟨bb, rfl, _⟩, hb2⟩; have hb2 := Lib.hid hb2; cases bb)
          · go_returns
            exact ⟨⟨false, rfl, fun h => (by cases h)⟩, HA.out.trans (hb2.out.mono hzA)⟩
          · go_roundw
            case rel => exact ⟨q + 1, by go_num, by omega, HA.out.trans (hb2.out.mono hzA), (HRX.out.alloc _).keep hb2.out (HRX.out.alloc _).lt⟩
            case measure => simp [intOf]; omega
        · go_wp2_with fail
          go_returns
          exact ⟨⟨true, rfl, fun _ => hfin.out⟩, HX⟩
theorem all_some : ∀ (d : Nat) (c0 c1 c2 c3 : Value) (w : World), GD w d c0 c1 c2 c3 → Calls Try.prog 11 #[.agg #[c0, c1, c2, c3], FV] w fun e w' => BOk True e ∧ Below w.heap.size w w'
  | 0, _, _, _, _, _, h => h.elim
  | d + 1, _, _, _, _, w, ⟨k, m, A, n, c, f, B, l, e, hk, hm, e0, e1, e2, hf, e3, h1, h2, h3, hs⟩ => by
    subst e0 e1 e2 e3
    refine (all_step d (all_some d) k m A B n c l e f w hf h1 h2 h3 hs).mono ?_
    rintro e' w' ⟨⟨b, q1, _⟩, hb⟩
    exact ⟨⟨b, q1, fun _ => trivial⟩, hb⟩
end Go.Proofs.Ytpbllagjcdcnpaa
