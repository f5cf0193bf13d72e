/- impl.Nodes: for each place stands one that was put in before, or itself. -/
import Derived.Test.YtcidgicdeedgfaaNodesP
namespace Go.Proofs.Ytcidgicdeedgfaa
open Go.ChangeShapes Go.WideShapes Go.ChangeAt Go.RowKit
open Fl
set_option linter.unusedSimpArgs false
set_option linter.unusedVariables false
attribute [local go_sem] run_store_float run_fadd run_fsub run_fmul run_fdiv run_equalIn_float fmt64
open Go.WideMaps (KeyLaw)

theorem run_makeMap_hint {P : Program} {t kt et : TypeId} (h : P.underlying t = some (.map kt et)) (k : IntKind) (n : Int) (w : World) :
    (Instr.makeMap t (some (.int k n))).run P w = .ok (.map (some w.heap.size)) (w.alloc (.map #[] 0)) := by
  simp [Instr.makeMap, run_underlying h, asInt, asIntOf, Result.andThen]
set_option maxHeartbeats 1000000 in
theorem newset_any (C : Nat → Nat → Prop) (u : Nat) (n : Int) (w : World) (h1 : Ieee.double.mul u 4647714815446351872 = some (fmul u 4647714815446351872)) :
    Calls Try.prog 43 #[.float .f64 u, .int .i64 n] w fun e w' => e = .returned (.agg #[fw (fmul u 4647714815446351872), .map (some (w.heap.size + 1))]) ∧ MapV Try.prog 83 (NV C) w' (w.heap.size + 1) ∧ Below w.heap.size w w' := by
  have hmm := fun W => run_makeMap_hint Try.underlying74 .i64 n W
  go_enter Try.func43, Try.ntmps43
  go_wp2_with fail
  refine bodyPost_ret (v := .agg #[fw (fmul u 4647714815446351872), .map (some (w.heap.size + 1))]) (by simp [results, Try.results43, go_sem, *]) rfl ⟨rfl, ?_, by go_grown⟩
  have := MapV.new (P := Try.prog) (k := 83) (V := NV C) (w.alloc (.cells #[fw (fmul u 4647714815446351872), .map (some (w.heap.size + 1))] 76))
  rw [World.size_alloc] at this
  exact this
theorem upto_upd (k : Nat) (g : Nat → Nat × Nat) (v : Nat × Nat) : upd (upto k g) k v = upto (k + 1) (upd g k v) := by
  funext i
  unfold upd upto
  by_cases h : i = k
  · subst h; simp
  · by_cases h2 : i < k
    · simp [h, h2, show i < k + 1 by omega]
    · simp [h, h2, show ¬ i < k + 1 by omega]
def Earlier (f : Nat → Nat × Nat) (k : Nat) : Nat → Nat → Prop := fun p q => ∃ j, j < k ∧ (p, q) = f j

set_option maxHeartbeats 8000000 in
theorem doorset_any (u b n : Nat) (f : Nat → Nat × Nat) (w : World) (hu : unitIn u = true) (hf : ∀ i, i < n → coordIn (f i).1 = true ∧ coordIn (f i).2 = true) (hn : n ≤ 200) (hB : Blk w b (pairs n f) 52) :
    Calls Try.prog 32 #[.float .f64 u, .slice (some ⟨b, 0, none⟩) n n] w fun e w' => ∃ b' g, e = .returned (.slice (some ⟨b', 0, none⟩) n n) ∧ Blk w' b' (pairs n g) 52 ∧
      (∀ i, i < n → ∃ j, j ≤ i ∧ g i = f j) ∧ Below w.heap.size w w' := by
  obtain ⟨ii, hi1, hi2, hi3, hi4⟩ := info_parts infoXY
  have hm := (width_q hu).1
  have hb := hB.lt
  go_enter Try.func32, Try.ntmps32
  go_wp2_with (first
    | (go_at_call 43; refine (newset_any (Earlier f 0) _ _ _ hm).mono ?_; rintro e w1 ⟨rfl, M1, H1⟩; have hm1 := M1.lt; have M1 := Lib.hid M1; have hz1 := H1.size; have H1 := Lib.hid H1)
    | (at_make; refine wpList_make_blk _ rfl _ _ 61 rfl 52 ii _ 2 (by kernel_rfl) hi1 hi2 hi3 .i64 .i64 _ _ n rfl rfl rfl rfl (by rw [hi4]; omega) (by unfold maxLen; omega) ?_))
  rw [made_pairs n]
  have hW : width u = fmul u 4647714815446351872 := rfl
  go_loopw [18] (fun i wr => ∃ (k : Nat) (g : Nat → Nat × Nat), k ≤ n ∧ i = .int .i64 (k : Int) ∧ Below w.heap.size w wr ∧ Blk wr w1.heap.size [fw (fmul u 4647714815446351872), .map (some (w.heap.size + 1))] 76 ∧
      Blk wr (w1.heap.size + 1) (pairs n (upto k g)) 52 ∧ MapV Try.prog 83 (NV (Earlier f k)) wr (w.heap.size + 1) ∧ ∀ i, i < k → ∃ j, j ≤ i ∧ g i = f j)
    (fun i _ => n - (intOf i).toNat)
  case atStart =>
    have hS := Blk.new w1 [fw (fmul u 4647714815446351872), .map (some (w.heap.size + 1))] 76
    have hO := Blk.new (w1.alloc (.cells #[fw (fmul u 4647714815446351872), .map (some (w.heap.size + 1))] 76)) (pairs n fun _ => (0, 0)) 52
    rw [World.size_alloc] at hO
    refine ⟨0, f, Nat.zero_le _, rfl, (H1.out.alloc H1.out.size _).alloc (by rw [World.size_alloc]; have := H1.out.size; omega) _, hS.alloc _, ?_, (M1.out.alloc _).alloc _, fun i hi => by omega⟩
    rw [upto_zero]
    exact hO
  case round =>
    obtain ⟨k, g, hk, rfl, H, Sb, Ob, M, hg⟩ := hrel
    have hg := Lib.hid hg
    by_cases hkn : k < n
    · have hBr := hB.keep H hb
      have p1 := (hBr.cell (k * 2)).trans (pairs_at hkn).1
      have p2 := (hBr.cell (k * 2 + 1)).trans (pairs_at hkn).2
      obtain ⟨s0, s1, _, _⟩ := Sb.c2
      have hl1 := Sb.lt
      have hl2 := Ob.lt
      have hl3 := M.lt
      have hl4 := hBr.lt
      obtain ⟨nx, hnx⟩ := bkt_of hu (hf k hkn).1
      obtain ⟨ny, hny⟩ := bkt_of hu (hf k hkn).2
      rw [hW] at hnx hny
      have M' := M.mono (V' := NV (Earlier f (k + 1))) (by
        rintro v ⟨p, q, rfl, j, hj, hpq⟩
        exact ⟨p, q, rfl, j, by omega, hpq⟩)
      have hC : Earlier f (k + 1) (f k).1 (f k).2 := ⟨k, by omega, rfl⟩
      have hnx := Lib.hid hnx
      have hny := Lib.hid hny
      have HS := Lib.hid Sb
      have HO := Lib.hid Ob
      have HM := Lib.hid M'
      have hC := Lib.hid hC
      have hf := Lib.hid hf
      clear hBr Sb Ob M M'
      go_wp2_with (go_at_call 44; refine (insert_any _ _ _ _ _ _ _ _ (HM.out.alloc _) hnx.out hny.out hC.out).mono ?_; rintro e w2 ⟨⟨p, q, rfl, hpq⟩, M2, hz2, hb2, ho2⟩; simp only [World.size_alloc] at hz2 ho2; have O2 : Blk w2 (w1.heap.size + 1) (pairs n (upto k g)) 52 := (ho2 _ (by omega) (by omega)).trans (HO.out.alloc _); have S2 : Blk w2 w1.heap.size [fw (fmul u 4647714815446351872), .map (some (w.heap.size + 1))] 76 := (ho2 _ (by omega) (by omega)).trans (HS.out.alloc _); have c1 := (O2.cell (k * 2)).trans (pairs_at hkn).1; have c2 := (O2.cell (k * 2 + 1)).trans (pairs_at hkn).2; have f1 := O2.free (k * 2); have f2 := O2.free (k * 2 + 1); have HO2 := Lib.hid O2; have HS2 := Lib.hid S2; have M2 := Lib.hid M2; have hpq := Lib.hid hpq; have hb2 := Lib.hid hb2; have ho2 := Lib.hid ho2; clear O2 S2)
      go_roundw
      case rel =>
        obtain ⟨j, hj, hpj⟩ := hpq.out
        have H2 : Below w.heap.size w w2 := (H.alloc H.size _).trans (hb2.out.mono (by omega))
        refine ⟨k + 1, upd g k (p, q), by omega, by go_num, (H2.setCell (p := ⟨w1.heap.size + 1, k * 2, none⟩) (by show _ ≤ w1.heap.size + 1; omega) _).setCell (p := ⟨w1.heap.size + 1, k * 2 + 1, none⟩) (by show _ ≤ w1.heap.size + 1; omega) _,
          (HS2.out.other (p := ⟨w1.heap.size + 1, k * 2, none⟩) (by show w1.heap.size + 1 ≠ w1.heap.size; omega) _).other (p := ⟨w1.heap.size + 1, k * 2 + 1, none⟩) (by show w1.heap.size + 1 ≠ w1.heap.size; omega) _, ?_,
          (M2.out.other (p := ⟨w1.heap.size + 1, k * 2, none⟩) (by show w1.heap.size + 1 ≠ w.heap.size + 1; omega) _).other (p := ⟨w1.heap.size + 1, k * 2 + 1, none⟩) (by show w1.heap.size + 1 ≠ w.heap.size + 1; omega) _, ?_⟩
        · have := (HO2.out.set (k * 2) (fw p)).set (k * 2 + 1) (fw q)
          rw [pairs_set hkn (p, q), upto_upd] at this
          exact this
        · intro i hi
          by_cases hik : i = k
          · subst hik
            exact ⟨j, by omega, by simp [upd, hpj]⟩
          · obtain ⟨j', hj', e'⟩ := hg.out i (by omega)
            exact ⟨j', hj', by simp [upd, hik, e']⟩
      case measure => simp [intOf]; omega
    · have : k = n := by omega
      subst this
      have hu2 : pairs k (upto k g) = pairs k g := pairs_cong fun i hi => by simp [upto, hi]
      rw [hu2] at Ob
      go_wp2_with fail
      go_returns
      exact ⟨_, g, rfl, Ob, hg.out, H⟩
end Go.Proofs.Ytcidgicdeedgfaa
