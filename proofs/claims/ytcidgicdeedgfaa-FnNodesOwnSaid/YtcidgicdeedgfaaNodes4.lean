/- For every unit and every list of places: within the ranges each place has a node that is an earlier place, or itself. No condition. -/
import Derived.Test.YtcidgicdeedgfaaNodes3
namespace Go.Proofs.Ytcidgicdeedgfaa
open Go.ChangeShapes Go.WideShapes Go.ChangeAt Go.RowKit
open Fl
set_option linter.unusedSimpArgs false
set_option linter.unusedVariables false
attribute [local go_sem] run_store_float run_fadd run_fsub run_fmul run_fdiv run_equalIn_float fmt64

theorem add0 (b m : Nat) : (⟨b, 0, none⟩ : Addr).add m = ⟨b, m, none⟩ := by
  unfold Addr.add
  split
  · subst_vars; rfl
  · simp
theorem Blk.row {w : World} {b n : Nat} {f : Nat → Nat × Nat} {T : TypeId} (h : Blk w b (pairs n f) T) :
    ∀ i, i < n → w.cell? ((⟨b, 0, none⟩ : Addr).add (i * 2)) = some (fw (f i).1) ∧ w.cell? ((⟨b, 0, none⟩ : Addr).add (i * 2 + 1)) = some (fw (f i).2) := fun i hi => by
  rw [add0, add0]
  exact ⟨(h.cell _).trans (pairs_at hi).1, (h.cell _).trans (pairs_at hi).2⟩
set_option maxHeartbeats 2000000 in
theorem nodes_any (u n : Nat) (v : Value) (f : Nat → Nat × Nat) (w : World) (hu : unitIn u = true) (hf : ∀ i, i < n → coordIn (f i).1 = true ∧ coordIn (f i).2 = true) (hn : n ≤ 200) (hP : Places w v n f) :
    Calls Try.prog 15 #[.float .f64 u, v] w fun e w' => ∃ b g, e = .returned (.slice (some ⟨b, 0, none⟩) n n) ∧ Blk w' b (pairs n g) 32 ∧ (∀ i, i < n → ∃ j, j ≤ i ∧ g i = f j) ∧ Below w.heap.size w w' := by
  have hX := Lib.hid (xys_any hP hn)
  clear hP
  go_enter Try.func15, Try.ntmps15
  go_wp2_with (first
    | (go_at_call 33; refine hX.out.mono ?_; rintro e w1 ⟨rfl, B1, H1⟩; have B1 := Lib.hid B1; have H1 := Lib.hid H1)
    | (go_at_call 32; refine (doorset_any _ _ _ _ _ hu hf hn B1.out).mono ?_; rintro e w2 ⟨b2, g, rfl, B2, hg, H2⟩; have B2 := Lib.hid B2; have H2 := Lib.hid H2; have hg := Lib.hid hg)
    | (go_at_call 31; refine (plainxys_some ⟨b2, 0, none⟩ n n g _ hn (fun _ => B2.out.lt) (Nat.le_refl _) (by unfold maxLen; omega) B2.out.row).mono ?_; rintro e w3 ⟨rfl, B3, H3⟩; have B3 := Lib.hid B3; have H3 := Lib.hid H3))
  go_returns
  exact ⟨_, g, rfl, B3.out, hg.out, (H1.out.trans (H2.out.mono H1.out.size)).trans (H3.out.mono (Nat.le_trans H1.out.size H2.out.size))⟩
set_option maxHeartbeats 2000000 in
theorem has_some (a : Addr) (n c x y : Nat) (f : Nat → Nat × Nat) (w : World) (hn : n ≤ 200) (hb : a.block < w.heap.size) (hc : n ≤ c) (hm : c ≤ maxLen)
    (hp : ∀ i, i < n → w.cell? (a.add (i * 2)) = some (fw (f i).1) ∧ w.cell? (a.add (i * 2 + 1)) = some (fw (f i).2))
    (hx : Ieee.double.order x x = some .eq) (hy : Ieee.double.order y y = some .eq) (hex : ∃ j, j < n ∧ f j = (x, y)) :
    Calls Try.prog 16 #[.slice (some a) n c, .agg #[.float .f64 x, .float .f64 y]] w fun e w' => e = .returned (.bool true) ∧ Below w.heap.size w w' := by
  have hx := Lib.hid hx
  have hy := Lib.hid hy
  have hex := Lib.hid hex
  go_enter Try.func16, Try.ntmps16
  go_wp2_with fail
  go_loopw [9] (fun i wr => ∃ k : Nat, k ≤ n ∧ i = .int .i64 (k : Int) ∧ Below w.heap.size w wr ∧ Blk wr w.heap.size [fw x, fw y] 32 ∧ ∃ j, k ≤ j ∧ j < n ∧ f j = (x, y))
    (fun i _ => n - (intOf i).toNat)
  case atStart =>
    obtain ⟨j, hj, e⟩ := hex.out
    exact ⟨0, Nat.zero_le _, rfl, by go_grown, Blk.new w _ _, j, by omega, hj, e⟩
  case round =>
    obtain ⟨k, hk, rfl, H, R, j, hkj, hjn, hj⟩ := hrel
    have hkn : k < n := by omega
    obtain ⟨q1, q2⟩ := hp k hkn
    have p1 := (H.cell (p := a.add (k * 2)) (by rw [addBlk]; exact hb)).trans q1
    have p2 := (H.cell (p := a.add (k * 2 + 1)) (by rw [addBlk]; exact hb)).trans q2
    rw [addOne] at p2
    clear q1 q2 hp
    obtain ⟨r0, r1, _, _⟩ := R.c2
    have hl := R.lt
    have HR := Lib.hid R
    clear R
    have hne : ((Ieee.double.order x (f k).1 == some .eq) && (Ieee.double.order y (f k).2 == some .eq)) = false → j ≠ k := by
      rintro h rfl
      rw [hj, hx.out, hy.out] at h
      cases h
    have hne := Lib.hid hne
    cases h1 : (Ieee.double.order x (f k).1 == some .eq) <;> cases h2 : (Ieee.double.order y (f k).2 == some .eq)
    rotate_right
    · go_wp2_with fail
      go_returns
      exact ⟨rfl, H.alloc H.size _⟩
    all_goals
      go_wp2_with fail
      have hjk := hne.out (by simp [h1, h2])
      go_roundw
      case rel => exact ⟨k + 1, by omega, by go_num, H.alloc H.size _, HR.out.alloc _, j, by omega, hjn, hj⟩
      case measure => simp [intOf]; omega
theorem order_refl {x : Nat} (h : fin x = true) : Ieee.double.order x x = some .eq := by
  have h1 := order_self x
  rw [(not_nan_inf h).1] at h1
  simpa using h1

end Go.Proofs.Ytcidgicdeedgfaa
