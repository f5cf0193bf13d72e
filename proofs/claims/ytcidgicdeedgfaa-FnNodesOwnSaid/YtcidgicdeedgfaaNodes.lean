/- The set of nodes: each place that stands for another is an earlier one. -/
import Derived.Test.YtcidgicdeedgfaaPlaces
import Derived.Test.YtcidgicdeedgfaaMaps
import Derived.Test.YtcidgicdeedgfaaDiv
import Derived.Handy
import Derived.Deep.DeepCutAuto
namespace Go.Proofs.Ytcidgicdeedgfaa
open Go.ChangeShapes Go.WideShapes Go.ChangeAt Go.RowKit
open Fl
set_option linter.unusedSimpArgs false
set_option linter.unusedVariables false
attribute [local go_sem] run_store_float run_fadd run_fsub run_fmul run_fdiv run_equalIn_float fmt64

theorem wpList_make_blk {P : Program} (w : World) {ops : Array Oper} {rest : List Oper} {o : Oper} {a : Act} {Q : Exit → Act → World → Prop}
    (hg : o.guard = none) (l c : Operand) (t : TypeId) (hop : o.op = Op.makeSlice t l c)
    (e : TypeId) (i : TypeInfo) (z : Value) (size : Nat) (h1 : P.underlying t = some (.slice e)) (h2 : P.info? e = some i) (h3 : i.zero = some z) (h4 : i.size = size)
    (kl kc : IntKind) (L C : Int) (n : Nat) (hl : a.eval l = .int kl L) (hc : a.eval c = .int kc C) (hL : L = (n : Int)) (hC : C = (n : Int)) (b2 : i.bytes * n ≤ 281474976710656) (b3 : n ≤ maxLen)
    (hK : wpList P ops Q rest (a.put o.dst (.slice (some ⟨w.heap.size, 0, none⟩) n n)) (w.alloc (.cells (madeCells z.cells (n * size)) e))) :
    wpList P ops Q (o :: rest) a w := by
  refine wpList_plain hg fun K hK' => ?_
  have h63' : (n : Int) ≤ 9223372036854775807 := by simp [maxLen] at b3; omega
  have hb' : (i.bytes : Int) * (n : Int) ≤ 281474976710656 := by
    have h : ((i.bytes * n : Nat) : Int) ≤ 281474976710656 := by omega
    rwa [Int.natCast_mul] at h
  have hr := run_make (P := P) w t e i z h1 h2 h3 kl kc n n (by omega) (Int.le_refl _) hb' h63'
  subst hL
  subst hC
  subst h4
  simp only [Int.toNat_natCast] at hr
  unfold Oper.wp
  simp [execOp, hop, hl, hc, hr, Result.andThen]
  exact hK' _ _ hK
theorem made_pairs (n : Nat) : madeCells #[fw 0, fw 0] (n * 2) = (pairs n fun _ => (0, 0)).toArray := by
  rw [← pairs_zero]
  apply Array.ext'
  simp only [madeCells, Array.toList_map, Array.toList_range]
  refine List.eq_replicate_iff.2 ⟨by simp, fun v hv => ?_⟩
  obtain ⟨i, _, rfl⟩ := List.mem_map.1 hv
  have : i % 2 = 0 ∨ i % 2 = 1 := by omega
  rcases this with h | h <;> simp [h]
theorem infoXY : (Try.prog.info? 52).map (fun i => (i.zero, i.size, i.bytes)) = some (some (.agg #[fw 0, fw 0]), 2, 16) := by kernel_rfl
theorem infoXY' : (Try.prog.info? 32).map (fun i => (i.zero, i.size, i.bytes)) = some (some (.agg #[fw 0, fw 0]), 2, 16) := by kernel_rfl

theorem addBlk (a : Addr) (n : Nat) : (a.add n).block = a.block := by unfold Addr.add; split <;> rfl
theorem addOne (a : Addr) (i : Nat) : a.add (i + 1) = ⟨(a.add i).block, (a.add i).off + 1, none⟩ := by
  unfold Addr.add
  rw [if_neg (by omega)]
  split
  · subst_vars; rfl
  · simp [Nat.add_assoc]
/-- the first k of f, then nothing -/
def upto (k : Nat) (f : Nat → Nat × Nat) : Nat → Nat × Nat := fun i => if i < k then f i else (0, 0)
theorem upto_zero (f : Nat → Nat × Nat) : upto 0 f = fun _ => (0, 0) := by funext i; simp [upto]
theorem upto_step (k : Nat) (f : Nat → Nat × Nat) : upd (upto k f) k (f k) = upto (k + 1) f := by
  funext i
  unfold upd upto
  by_cases h : i = k
  · subst h; simp
  · by_cases h2 : i < k
    · simp [h, h2, show i < k + 1 by omega]
    · simp [h, h2, show ¬ i < k + 1 by omega]
theorem Places.nil {w : World} {n : Nat} {f : Nat → Nat × Nat} (h : Places w (.slice none 0 0) n f) : n = 0 := by
  rcases h with ⟨_, h⟩ | ⟨a, c, h, _⟩
  · exact h
  · cases h

theorem xy_one (x y : Nat) (w : World) :
    Calls Try.prog 29 #[.agg #[.float .f64 x, .float .f64 y]] w fun e w' => e = .returned (.agg #[.float .f64 x, .float .f64 y]) ∧ Below w.heap.size w w' := by
  go_enter Try.func29, Try.ntmps29
  go_wp2
  go_returns
  exact ⟨rfl, by go_grown⟩
set_option maxHeartbeats 4000000 in
theorem xys_some (a : Addr) (n c : Nat) (f : Nat → Nat × Nat) (w : World) (hn : n ≤ 200) (hb : 0 < n → a.block < w.heap.size) (hc : n ≤ c) (hm : c ≤ maxLen)
    (hp : ∀ i, i < n → w.cell? (a.add (i * 2)) = some (fw (f i).1) ∧ w.cell? (a.add (i * 2 + 1)) = some (fw (f i).2)) :
    Calls Try.prog 33 #[.slice (some a) n c] w fun e w' => e = .returned (.slice (some ⟨w.heap.size, 0, none⟩) n n) ∧ Blk w' w.heap.size (pairs n f) 52 ∧ Below w.heap.size w w' := by
  obtain ⟨ii, hi1, hi2, hi3, hi4⟩ := info_parts infoXY
  go_enter Try.func33, Try.ntmps33
  go_wp2_with (first | (at_make; refine wpList_make_blk _ rfl _ _ 61 rfl 52 ii _ 2 (by kernel_rfl) hi1 hi2 hi3 .i64 .i64 _ _ n rfl rfl rfl rfl (by rw [hi4]; omega) (by unfold maxLen; omega) ?_))
  rw [made_pairs n]
  go_loopw [11] (fun i wr => ∃ k : Nat, k ≤ n ∧ i = .int .i64 (k : Int) ∧ Below w.heap.size w wr ∧ Blk wr w.heap.size (pairs n (upto k f)) 52)
    (fun i _ => n - (intOf i).toNat)
  case atStart =>
    refine ⟨0, Nat.zero_le _, rfl, by go_grown, ?_⟩
    rw [upto_zero]
    exact Blk.new w _ _
  case round =>
    obtain ⟨k, hk, rfl, H, R⟩ := hrel
    have hR := R.lt
    by_cases hkn : k < n
    · obtain ⟨q1, q2⟩ := hp k hkn
      have p1 := (H.cell (p := a.add (k * 2)) (by rw [addBlk]; exact hb (by omega))).trans q1
      have p2 := (H.cell (p := a.add (k * 2 + 1)) (by rw [addBlk]; exact hb (by omega))).trans q2
      rw [addOne] at p2
      clear q1 q2 hp
      have HR := Lib.hid R
      clear R
      go_wp2_with (go_at_call 29; refine (xy_one _ _ _).mono ?_; rintro e w2 ⟨rfl, hb2⟩; have R2 := (HR.out.alloc _).keep hb2 (by simp; omega); have c1 := (R2.cell (k * 2)).trans (pairs_at hkn).1; have c2 := (R2.cell (k * 2 + 1)).trans (pairs_at hkn).2; have f1 := R2.free (k * 2); have f2 := R2.free (k * 2 + 1); have HR2 := Lib.hid R2; have hz2 := hb2.size; clear R2; simp only [World.size_alloc] at hz2)
      go_roundw
      case rel =>
        have H2 : Below w.heap.size w w2 := Below.trans (H.alloc H.size _) (hb2.mono (by simp only [World.size_alloc]; have := H.size; omega))
        refine ⟨k + 1, by omega, by go_num, (H2.setCell (Nat.le_refl _) _).setCell (Nat.le_refl _) _, ?_⟩
        have := (HR2.out.set (k * 2) (fw (f k).1)).set (k * 2 + 1) (fw (f k).2)
        rw [pairs_set hkn (f k), upto_step] at this
        exact this
      case measure => simp [intOf]; omega
    · have : k = n := by omega
      subst this
      go_wp2_with fail
      have hu : pairs k (upto k f) = pairs k f := pairs_cong fun i hi => by simp [upto, hi]
      rw [hu] at R
      go_returns
      exact ⟨rfl, R, H⟩
theorem plainxy_one (x y : Nat) (w : World) :
    Calls Try.prog 42 #[.agg #[.float .f64 x, .float .f64 y]] w fun e w' => e = .returned (.agg #[.float .f64 x, .float .f64 y]) ∧ Below w.heap.size w w' := by
  go_enter Try.func42, Try.ntmps42
  go_wp2
  go_returns
  exact ⟨rfl, by go_grown⟩
set_option maxHeartbeats 4000000 in
theorem plainxys_some (a : Addr) (n c : Nat) (f : Nat → Nat × Nat) (w : World) (hn : n ≤ 200) (hb : 0 < n → a.block < w.heap.size) (hc : n ≤ c) (hm : c ≤ maxLen)
    (hp : ∀ i, i < n → w.cell? (a.add (i * 2)) = some (fw (f i).1) ∧ w.cell? (a.add (i * 2 + 1)) = some (fw (f i).2)) :
    Calls Try.prog 31 #[.slice (some a) n c] w fun e w' => e = .returned (.slice (some ⟨w.heap.size, 0, none⟩) n n) ∧ Blk w' w.heap.size (pairs n f) 32 ∧ Below w.heap.size w w' := by
  obtain ⟨ii, hi1, hi2, hi3, hi4⟩ := info_parts infoXY'
  go_enter Try.func31, Try.ntmps31
  go_wp2_with (first | (at_make; refine wpList_make_blk _ rfl _ _ 39 rfl 32 ii _ 2 (by kernel_rfl) hi1 hi2 hi3 .i64 .i64 _ _ n rfl rfl rfl rfl (by rw [hi4]; omega) (by unfold maxLen; omega) ?_))
  rw [made_pairs n]
  go_loopw [11] (fun i wr => ∃ k : Nat, k ≤ n ∧ i = .int .i64 (k : Int) ∧ Below w.heap.size w wr ∧ Blk wr w.heap.size (pairs n (upto k f)) 32)
    (fun i _ => n - (intOf i).toNat)
  case atStart =>
    refine ⟨0, Nat.zero_le _, rfl, by go_grown, ?_⟩
    rw [upto_zero]
    exact Blk.new w _ _
  case round =>
    obtain ⟨k, hk, rfl, H, R⟩ := hrel
    have hR := R.lt
    by_cases hkn : k < n
    · obtain ⟨q1, q2⟩ := hp k hkn
      have p1 := (H.cell (p := a.add (k * 2)) (by rw [addBlk]; exact hb (by omega))).trans q1
      have p2 := (H.cell (p := a.add (k * 2 + 1)) (by rw [addBlk]; exact hb (by omega))).trans q2
      rw [addOne] at p2
      clear q1 q2 hp
      have HR := Lib.hid R
      clear R
      go_wp2_with (go_at_call 42; refine (plainxy_one _ _ _).mono ?_; rintro e w2 ⟨rfl, hb2⟩; have R2 := (HR.out.alloc _).keep hb2 (by simp; omega); have c1 := (R2.cell (k * 2)).trans (pairs_at hkn).1; have c2 := (R2.cell (k * 2 + 1)).trans (pairs_at hkn).2; have f1 := R2.free (k * 2); have f2 := R2.free (k * 2 + 1); have HR2 := Lib.hid R2; have hz2 := hb2.size; clear R2; simp only [World.size_alloc] at hz2)
      go_roundw
      case rel =>
        have H2 : Below w.heap.size w w2 := Below.trans (H.alloc H.size _) (hb2.mono (by simp only [World.size_alloc]; have := H.size; omega))
        refine ⟨k + 1, by omega, by go_num, (H2.setCell (Nat.le_refl _) _).setCell (Nat.le_refl _) _, ?_⟩
        have := (HR2.out.set (k * 2) (fw (f k).1)).set (k * 2 + 1) (fw (f k).2)
        rw [pairs_set hkn (f k), upto_step] at this
        exact this
      case measure => simp [intOf]; omega
    · have : k = n := by omega
      subst this
      go_wp2_with fail
      have hu : pairs k (upto k f) = pairs k f := pairs_cong fun i hi => by simp [upto, hi]
      rw [hu] at R
      go_returns
      exact ⟨rfl, R, H⟩
set_option maxHeartbeats 4000000 in
theorem xys_nil (f : Nat → Nat × Nat) (w : World) :
    Calls Try.prog 33 #[.slice none 0 0] w fun e w' => e = .returned (.slice (some ⟨w.heap.size, 0, none⟩) 0 0) ∧ Blk w' w.heap.size (pairs 0 f) 52 ∧ Below w.heap.size w w' := by
  obtain ⟨ii, hi1, hi2, hi3, hi4⟩ := info_parts infoXY
  go_enter Try.func33, Try.ntmps33
  go_wp2_with (first | (at_make; refine wpList_make_blk _ rfl _ _ 61 rfl 52 ii _ 2 (by kernel_rfl) hi1 hi2 hi3 .i64 .i64 _ _ 0 rfl rfl rfl rfl (by rw [hi4]; omega) (by unfold maxLen; omega) ?_))
  go_loopw [11] (fun i wr => i = .int .i64 0 ∧ Below w.heap.size w wr ∧ Blk wr w.heap.size (pairs 0 f) 52)
    (fun i _ => 0)
  case atStart =>
    have hb0 : Blk (w.alloc (.cells (madeCells #[fw 0, fw 0] (0 * 2)) 52)) w.heap.size (pairs 0 f) 52 := by
      rw [made_pairs]
      exact Blk.new w _ _
    exact ⟨rfl, by go_grown, hb0⟩
  case round =>
    obtain ⟨rfl, H, R⟩ := hrel
    have hR := R.lt
    go_wp2_with fail
    go_returns
    exact ⟨rfl, R, H⟩
theorem xys_any {v : Value} {n : Nat} {f : Nat → Nat × Nat} {w : World} (h : Places w v n f) (hn : n ≤ 200) :
    Calls Try.prog 33 #[v] w fun e w' => e = .returned (.slice (some ⟨w.heap.size, 0, none⟩) n n) ∧ Blk w' w.heap.size (pairs n f) 52 ∧ Below w.heap.size w w' := by
  rcases h with ⟨rfl, rfl⟩ | ⟨a, c, rfl, h1, h2, h3, h4⟩
  · exact xys_nil f w
  · exact xys_some a n c f w hn h3 h1 h2 h4
end Go.Proofs.Ytcidgicdeedgfaa
