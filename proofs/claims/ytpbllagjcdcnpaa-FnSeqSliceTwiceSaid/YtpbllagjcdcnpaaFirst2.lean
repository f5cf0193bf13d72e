/- Walks of the thin package's FirstLast and of the reference's list of segments. -/
import Derived.Test.YtpbllagjcdcnpaaFirst
namespace Go.Proofs.Ytpbllagjcdcnpaa
open Go.ChangeShapes Go.WideShapes Go.ChangeAt Go.RowKit
open Fl
set_option linter.unusedSimpArgs false
set_option linter.unusedVariables false
attribute [local go_sem] run_store_float run_fadd run_fsub run_fmul run_fdiv run_equalIn_float fmt64

def FLR (X Y : Nat → Nat) (q : Nat) (e : Ending) : Prop := ∃ r1 r2 ok, e = .returned (.tuple #[.int .i64 r1, .int .i64 r2, .bool ok]) ∧ FL X Y q r1 r2 ok
set_option maxHeartbeats 2000000 in
theorem door_any (D : Int) (b N q : Nat) (X Y : Nat → Nat) (w : World) (h : ∀ W, Below w.heap.size w W → Calls Try.prog 66 #[sq D b N] W fun e w' => FLR X Y q e ∧ Below W.heap.size W w') :
    Calls Try.prog 37 #[sq D b N] w fun e w' => FLR X Y q e ∧ Below w.heap.size w w' := by
  have h := Lib.hid h
  go_enter Try.func37, Try.ntmps37
  go_wp2_with (go_at_call 66; refine (h.out _ (by go_grown)).mono ?_; rintro e w1 ⟨⟨r1, r2, ok, rfl, hfl⟩, hb⟩; have hfl := Lib.hid hfl; have hb := Lib.hid hb)
  go_returns
  exact ⟨⟨r1, r2, ok, rfl, hfl.out⟩, Below.trans (by go_grown) (hb.out.mono (by simp only [World.size_alloc]; omega))⟩
theorem coords_any (D : Int) (b N : Nat) (w : World) : Calls Try.prog 39 #[sq D b N] w fun e w' => e = .returned (sq D b N) ∧ Below w.heap.size w w' := by
  go_enter Try.func39, Try.ntmps39
  go_wp2_with fail
  go_returns
  exact ⟨rfl, by go_grown⟩
set_option maxRecDepth 20000 in
set_option maxHeartbeats 4000000 in
theorem firstlast_any (m D : Int) (A B : Option Addr) (n c l e : Nat) (f : Nat → Nat) (hD : Is4 D) (hmD : bits .and .i64 m 3 = D) (hn : n ≤ 2000) (w : World) (hf : Flo w A n c f) :
    Calls Try.prog 13 #[.agg #[.int .i64 2, .int .i64 m, .slice A n c, .slice B l e]] w fun r w' => FLR (fun i => f (i * wid D)) (fun i => f (i * wid D + 1)) (n / wid D) r ∧ Below w.heap.size w w' := by
  have hl := Lib.hid fun W (hb : Below w.heap.size w W) => line_any m D A B n c l e f hD hmD hn W (hf.keep hb)
  have hdo := Lib.hid fun (b : Nat) (W : World) (hb : Blk W b (flos (n / wid D * wid D) f) 48) => door_any D b (n / wid D * wid D) (n / wid D) (fun i => f (i * wid D)) (fun i => f (i * wid D + 1)) W (fun W2 hb2 =>
    (fal_any D b (n / wid D * wid D) (n / wid D) _ _ W2 (by have := Nat.div_le_self n (wid D); omega) (fun W3 => length_any D b _ _ W3 hD (by have := Nat.div_mul_le_self n (wid D); omega) rfl) (fun I i W3 h3 hI hi => by
      subst hI
      have hW := wid_le D
      refine getxy_any D b _ i (i * wid D) f W3 hD ((hb.keep hb2 hb.lt).keep h3 (hb.keep hb2 hb.lt).lt) (by have := Nat.div_mul_le_self n (wid D); omega) rfl ?_
      have : (i + 1) * wid D ≤ n / wid D * wid D := Nat.mul_le_mul_right _ (by omega)
      rw [Nat.add_mul, Nat.one_mul] at this
      omega)).mono fun r w' h => h)
  clear hf
  generalize n / wid D * wid D = N at *
  generalize n / wid D = q at *
  generalize (fun i => f (i * wid D)) = X at *
  generalize (fun i => f (i * wid D + 1)) = Y at *
  go_enter Try.func13, Try.ntmps13
  go_wp2_with (first
    | (go_at_call 38; refine (hl.out _ (by go_grown)).mono ?_; rintro r w1 ⟨b, rfl, B1, hbb, hb1⟩; have B1 := Lib.hid B1; have hb1 := Lib.hid hb1; clear hbb)
    | (go_at_call 39; refine (coords_any _ _ _ _).mono ?_; rintro r w2 ⟨rfl, hb2⟩; have hb2 := Lib.hid hb2)
    | (go_at_call 37; refine (hdo.out _ _ (B1.out.keep hb2.out B1.out.lt)).mono ?_; rintro r w3 ⟨⟨r1, r2, ok, rfl, hfl⟩, hb3⟩; have hfl := Lib.hid hfl; have hb3 := Lib.hid hb3))
  go_returns
  have z1 := hb1.out.size
  have z2 := hb2.out.size
  simp only [World.size_alloc] at z1
  have H1 : Below w.heap.size w w1 := Below.trans (by go_grown) (hb1.out.mono (by simp only [World.size_alloc]; omega))
  exact ⟨⟨r1, r2, ok, rfl, hfl.out⟩, (H1.trans (hb2.out.mono (by omega))).trans (hb3.out.mono (by omega))⟩
end Go.Proofs.Ytpbllagjcdcnpaa
