/- Walks of the thin package's line: a line string with its own numbers, whole places alone. -/
import Derived.Test.YtpbllagjcdcnpaaQuads
import Derived.Laws.CopyOwn
namespace Go.Proofs.Ytpbllagjcdcnpaa
open Go.ChangeShapes Go.WideShapes Go.ChangeAt Go.RowKit
open Fl
set_option linter.unusedSimpArgs false
set_option linter.unusedVariables false
attribute [local go_sem] run_store_float run_fadd run_fsub run_fmul run_fdiv run_equalIn_float fmt64

def flos (n : Nat) (f : Nat → Nat) : List Value := (List.range n).map fun i => fw (f i)
theorem flos_len (n : Nat) (f : Nat → Nat) : (flos n f).length = n := by simp [flos]
theorem flos_at {n : Nat} {f : Nat → Nat} {i : Nat} (h : i < n) : (flos n f)[i]? = some (fw (f i)) := by
  simp [flos, h]
theorem made_flos (n : Nat) : madeCells #[fw 0] (n * 1) = (flos n fun _ => 0).toArray := by
  apply Array.ext'
  simp only [madeCells, Array.toList_map, Array.toList_range, flos, Nat.mul_one]
  refine List.map_congr_left fun i _ => ?_
  have : i % 1 = 0 := by omega
  simp [this]
theorem made_flos' (n : Nat) : madeCells #[fw 0] n = (flos n fun _ => 0).toArray := by
  have := made_flos n
  rwa [Nat.mul_one] at this
theorem wpList_make_blk {P : Program} (w : World) {ops : Array Oper} {rest : List Oper} {o : Oper} {a : Act} {Q : Exit → Act → World → Prop}
    (hg : o.guard = none) (l c : Operand) (t : TypeId) (hop : o.op = Op.makeSlice t l c)
    (e : TypeId) (i : TypeInfo) (z : Value) (size : Nat) (h1 : P.underlying t = some (.slice e)) (h2 : P.info? e = some i) (h3 : i.zero = some z) (h4 : i.size = size)
    (kl kc : IntKind) (L C : Int) (n : Nat) (hl : a.eval l = .int kl L) (hc : a.eval c = .int kc C) (hL : L = (n : Int)) (hC : C = (n : Int)) (b2 : i.bytes * n ≤ 281474976710656) (b3 : n ≤ maxLen)
    (hK : wpList P ops Q rest (a.put o.dst (.slice (some ⟨w.heap.size, 0, none⟩) n n)) (w.alloc (.cells (madeCells z.cells (n * size)) e))) :
    wpList P ops Q (o :: rest) a w := by
  refine wpList_plain hg fun K hK' => ?_
  have h63' : (n : Int) ≤ 9223372036854775807 := by simp [maxLen] at b3; omega
  have hb' : (i.bytes : Int) * (n : Int) ≤ 281474976710656 := by
    have h : ((i.bytes * n : Nat) : Int) ≤ 281474976710656 := by omega
    rwa [Int.natCast_mul] at h
  have hr := run_make (P := P) w t e i z h1 h2 h3 kl kc n n (by omega) (Int.le_refl _) hb' h63'
  subst hL
  subst hC
  subst h4
  simp only [Int.toNat_natCast] at hr
  unfold Oper.wp
  simp [execOp, hop, hl, hc, hr, Result.andThen]
  exact hK' _ _ hK
theorem wpList_copy_flo {P : Program} {w : World} {ops : Array Oper} {rest : List Oper} {o : Oper} {a : Act} {Q : Exit → Act → World → Prop} (hgd : o.guard = none) (d s : Operand) (dT sT : TypeId)
    (ho : o.op = .call { callee := .builtin .copy, args := #[d, s], argTypes := #[dT, sT] }) (elem : TypeId) (hu : P.underlying dT = some (.slice elem)) (hsz : (P.info? elem).map (·.size) = some 1)
    (A : Option Addr) (N dc n c : Nat) {g : Nat} (hd : a.eval d = .slice (some ⟨g, 0, none⟩) N dc) (hs : a.eval s = .slice A n c) (g' : Nat) (f : Nat → Nat) (t : TypeId) (hg : Blk w g (flos N fun _ => 0) t) (hf : Flo w A n c f) (hle : N ≤ n)
    (h : ∀ w', Blk w' g (flos N f) t → Below g w w' → wpList P ops Q rest (a.put o.dst (goInt N)) w') : wpList P ops Q (o :: rest) a w := by
  refine wpList_copy_splice hgd d s dT sT ho elem hu hsz (some ⟨g, 0, none⟩) A N dc n c hd hs g 0 (flos N fun _ => 0) t hg (flos N f) (by rw [flos_len]; exact (Nat.min_eq_right hle).symm) ?_ ?_ ?_ g w (Below.refl _ _) (Nat.le_refl _) ?_
  · intro h0
    rw [flos_len] at h0
    obtain ⟨ad, ha⟩ := hf.some (show 0 < n by omega)
    refine ⟨rfl, ad, ha, fun j v hj => ?_⟩
    by_cases hjN : j < N
    · rw [flos_at hjN] at hj
      cases hj
      exact hf.cell ad ha j (by omega)
    · rw [List.getElem?_eq_none (by rw [flos_len]; omega)] at hj
      cases hj
  · simp only [flos_len]; omega
  · intro v hv
    simp only [flos, List.mem_map] at hv
    obtain ⟨i, _, rfl⟩ := hv
    rfl
  · intro w' hw hb
    have e : splice (flos N fun _ => 0) 0 (flos N f) = flos N f := by
      simp [splice, flos_len]
    have hw := hw.out
    rw [e] at hw
    have := h w' hw hb
    rw [← flos_len N f] at this
    simpa only [flos_len] using this
theorem infoF : (Try.prog.info? 48).map (fun i => (i.zero, i.size, i.bytes)) = some (some (fw 0), 1, 8) := by kernel_rfl

theorem dimof_any (m D : Int) (hD : Is4 D) (hmD : bits .and .i64 m 3 = D) (w : World) :
    Calls Try.prog 46 #[.int .i64 m] w fun e w' => e = .returned (.int .u8 D) ∧ Below w.heap.size w w' := by
  have hc : IntKind.u8.wrap D = D := by rcases hD with rfl | rfl | rfl | rfl <;> decide
  go_enter Try.func46, Try.ntmps46
  go_wp2_with fail
  go_returns
  exact ⟨rfl, by go_grown⟩
theorem dimension_any (D : Int) (hD : Is4 D) (w : World) :
    Calls Try.prog 74 #[.int .u8 D] w fun e w' => e = .returned (.int .i64 (wid D)) ∧ Below w.heap.size w w' := by
  have hI : ∀ W, (Instr.index 153 (.agg #[.int .i64 2, .int .i64 3, .int .i64 3, .int .i64 4]) (.int .u8 D)).run Try.prog W = .ok (.int .i64 (wid D)) W := by
    intro W
    rcases hD with rfl | rfl | rfl | rfl <;> simp [Instr.index, run_underlying Try.underlying153, go_sem, wid]
  go_enter Try.func74, Try.ntmps74
  go_wp2_with fail
  go_returns
  exact ⟨rfl, by go_grown⟩
theorem newseq_any (D : Int) (A : Option Addr) (n c q : Nat) (hD : Is4 D) (hq : n = q * wid D) (hn : n ≤ 2000) (w : World) :
    Calls Try.prog 96 #[.slice A n c, .int .u8 D] w fun e w' => e = .returned (.agg #[.int .u8 D, .slice A n c]) ∧ Below w.heap.size w w' := by
  have hW := wid_le D
  have hd := Lib.hid fun W => dimension_any D hD W
  obtain ⟨W, hWd⟩ : ∃ W, wid D = W := ⟨_, rfl⟩
  rw [hWd] at hd hW hq
  have hW0 : ¬ W = 0 := by omega
  have hmod : (n : Int).tmod (W : Int) = 0 := by
    rw [hq, Int.natCast_mul]
    exact Int.mul_tmod_left _ _
  clear hq
  go_enter Try.func96, Try.ntmps96
  go_wp2_with (go_at_call 74; refine (hd.out _).mono ?_; rintro e w1 ⟨rfl, hb⟩; have hl := hb.size; simp only [World.size_alloc] at hl; have HB := Lib.hid hb; have K1 := (Blk.new w [.int .u8 0, .slice none 0 0] 68).keep hb (by simp only [World.size_alloc]; omega); obtain ⟨k0, k1, g0, g1⟩ := K1.c2; clear K1 hb)
  refine bodyPost_ret (v := .agg #[.int .u8 D, .slice A n c]) (by simp [results, Try.results96, go_sem, *]) rfl ⟨rfl, ?_⟩
  have HT : Below w.heap.size w w1 := Below.trans (by go_grown) (HB.out.mono (by simp only [World.size_alloc]; omega))
  exact (HT.setCell (p := ⟨w.heap.size, 0, none⟩) (Nat.le_refl _) _).setCell (p := ⟨w.heap.size, 1, none⟩) (Nat.le_refl _) _
set_option maxRecDepth 20000 in
set_option maxHeartbeats 4000000 in
theorem sequence_any (m D : Int) (A : Option Addr) (n c : Nat) (f : Nat → Nat) (hD : Is4 D) (hmD : bits .and .i64 m 3 = D) (hn : n ≤ 2000) (w : World) (hf : Flo w A n c f) :
    Calls Try.prog 68 #[.slice A n c, .int .i64 m] w fun e w' => ∃ b, e = .returned (.agg #[.int .u8 D, .slice (some ⟨b, 0, none⟩) (n / wid D * wid D) (n / wid D * wid D)]) ∧ Blk w' b (flos (n / wid D * wid D) f) 48 ∧ w.heap.size ≤ b ∧ Below w.heap.size w w' := by
  obtain ⟨ii, hi1, hi2, hi3, hi4⟩ := info_parts infoF
  have hW := wid_le D
  have hd := Lib.hid fun W => dimension_any D hD W
  have hdo := Lib.hid fun W => dimof_any m D hD hmD W
  have hns := Lib.hid fun (q b : Nat) (h : q ≤ n) W => newseq_any D (some ⟨b, 0, none⟩) (n / wid D * wid D) (n / wid D * wid D) (n / wid D) hD rfl (Nat.le_trans (Nat.div_mul_le_self _ _) hn) W
  obtain ⟨W, hWd⟩ : ∃ W, wid D = W := ⟨_, rfl⟩
  rw [hWd] at hd hW hns ⊢
  have hW0 : ¬ W = 0 := by omega
  have hle := Nat.div_mul_le_self n W
  have hmod : (n : Int).tmod (W : Int) = ((n % W : Nat) : Int) := rfl
  have hdm : n % W = n - n / W * W := by have := Nat.div_add_mod n W; rw [Nat.mul_comm] at this; omega
  generalize hN : n / W * W = N at *
  have hf := Lib.hid hf
  go_enter Try.func68, Try.ntmps68
  go_wp2_with (first
    | (go_at_call 46; refine (hdo.out _).mono ?_; rintro e w1 ⟨rfl, hb1⟩; have hb1 := Lib.hid hb1)
    | (go_at_call 74; refine (hd.out _).mono ?_; rintro e w2 ⟨rfl, hb2⟩; have hb2 := Lib.hid hb2)
    | (at_make; refine wpList_make_blk _ rfl _ _ 22 rfl 48 ii _ 1 Try.underlying22 hi1 hi2 hi3 .i64 .i64 _ _ N rfl rfl (by omega) (by omega) (by rw [hi4]; omega) (by unfold maxLen; omega) ?_)
    | (with_reducible refine wpList_copy_flo (P := Try.prog) (w := w2.alloc (.cells (madeCells #[fw 0] N) 48)) rfl _ _ 22 22 rfl 48 Try.underlying22 (by kernel_rfl) A N N n c rfl rfl w2.heap.size f 48 (by rw [made_flos']; exact Blk.new w2 _ _) (hf.out.keep (((Below.trans (by go_grown) ((hb1.out.mono (by simp only [World.size_alloc]; omega)).trans (hb2.out.mono (by have := hb1.out.size; simp only [World.size_alloc] at this; omega))) : Below w.heap.size w w2)).alloc (by have := hb1.out.size; have := hb2.out.size; simp only [World.size_alloc] at *; omega) _)) hle ?_; intro w3 hg3 hb3; have hg3 := Lib.hid hg3; have hb3 := Lib.hid hb3)
    | (go_at_call 96; refine (hns.out 0 w2.heap.size (Nat.zero_le _) _).mono ?_; rintro e w4 ⟨rfl, hb4⟩; have hb4 := Lib.hid hb4; have K1 := (Blk.new w [.int .u8 0, .slice none 0 0] 68).keep hb1.out (by simp only [World.size_alloc]; omega); have K2 := K1.keep hb2.out K1.lt; have hK2 := K2.lt; have K4 := ((K2.alloc (.cells (madeCells #[fw 0] N) 48)).keep hb3.out hK2).keep hb4.out ((K2.alloc (.cells (madeCells #[fw 0] N) 48)).keep hb3.out hK2).lt; obtain ⟨k0, k1, g0, g1⟩ := K4.c2; clear K1 K2 K4))
  have z1 := hb1.out.size
  have z2 := hb2.out.size
  have z3 := hb3.out.size
  have z4 := hb4.out.size
  simp only [World.size_alloc] at z1 z3
  have HT : Below w.heap.size w w2 := Below.trans (by go_grown) ((hb1.out.mono (by simp only [World.size_alloc]; omega)).trans (hb2.out.mono (by omega)))
  have H4 : Below w.heap.size w w4 := ((HT.alloc HT.size _).trans (hb3.out.mono (by omega))).trans (hb4.out.mono (by omega))
  have B4 := hg3.out.keep hb4.out hg3.out.lt
  have B5 := (B4.other (p := ⟨w.heap.size, 0, none⟩) (by show w.heap.size ≠ w2.heap.size; omega) (.int .u8 D)).other (p := ⟨w.heap.size, 1, none⟩) (by show w.heap.size ≠ w2.heap.size; omega) (.slice (some ⟨w2.heap.size, 0, none⟩) N N)
  refine bodyPost_ret (v := .agg #[.int .u8 D, .slice (some ⟨w2.heap.size, 0, none⟩) N N]) (by simp [results, Try.results68, go_sem, *]) rfl ⟨w2.heap.size, rfl, B5, by omega, (H4.setCell (p := ⟨w.heap.size, 0, none⟩) (Nat.le_refl _) _).setCell (p := ⟨w.heap.size, 1, none⟩) (Nat.le_refl _) _⟩
set_option maxHeartbeats 1000000 in
theorem newline_any (v : Value) (D : Int) (A : Option Addr) (n c : Nat) (w : World) (hv : v = .agg #[.int .u8 D, .slice A n c]) :
    Calls Try.prog 67 #[v] w fun e w' => e = .returned v ∧ Below w.heap.size w w' := by
  subst hv
  go_enter Try.func67, Try.ntmps67
  go_wp2_with fail
  go_returns
  exact ⟨rfl, by go_grown⟩
set_option maxRecDepth 20000 in
set_option maxHeartbeats 4000000 in
theorem line_any (m D : Int) (A B : Option Addr) (n c l e : Nat) (f : Nat → Nat) (hD : Is4 D) (hmD : bits .and .i64 m 3 = D) (hn : n ≤ 2000) (w : World) (hf : Flo w A n c f) :
    Calls Try.prog 38 #[.agg #[.int .i64 2, .int .i64 m, .slice A n c, .slice B l e]] w fun r w' => ∃ b, r = .returned (.agg #[.int .u8 D, .slice (some ⟨b, 0, none⟩) (n / wid D * wid D) (n / wid D * wid D)]) ∧ Blk w' b (flos (n / wid D * wid D) f) 48 ∧ w.heap.size ≤ b ∧ Below w.heap.size w w' := by
  have hs := Lib.hid fun W (hb : Below w.heap.size w W) => sequence_any m D A n c f hD hmD hn W (hf.keep hb)
  clear hf
  generalize n / wid D * wid D = N at *
  go_enter Try.func38, Try.ntmps38
  go_wp2_with (first
    | (go_at_call 68; refine (hs.out _ (by go_grown)).mono ?_; rintro r w1 ⟨b, rfl, B1, hbb, hb1⟩; simp only [World.size_alloc] at hbb; have B1 := Lib.hid B1; have hb1 := Lib.hid hb1)
    | (go_at_call 67; refine (newline_any _ _ _ _ _ _ rfl).mono ?_; rintro r w2 ⟨rfl, hb2⟩; have hb2 := Lib.hid hb2; have K1 := Blk.new (w.alloc (.cells #[.int .i64 2, .int .i64 m, .slice A n c, .slice B l e] 25)) [.int .u8 0, .slice none 0 0] 70; simp only [World.size_alloc] at K1; have K2 := K1.keep hb1.out (by simp only [World.size_alloc]; omega); have K4 := K2.keep hb2.out K2.lt; obtain ⟨k0, k1, g0, g1⟩ := K4.c2; clear K1 K2 K4))
  have z1 := hb1.out.size
  have z2 := hb2.out.size
  simp only [World.size_alloc] at z1
  have H1 : Below w.heap.size w w1 := Below.trans (by go_grown) (hb1.out.mono (by simp only [World.size_alloc]; omega))
  have H2 : Below w.heap.size w w2 := H1.trans (hb2.out.mono (by omega))
  have B4 := B1.out.keep hb2.out B1.out.lt
  have B5 := (B4.other (p := ⟨w.heap.size + 1, 0, none⟩) (by show w.heap.size + 1 ≠ b; omega) (.int .u8 D)).other (p := ⟨w.heap.size + 1, 1, none⟩) (by show w.heap.size + 1 ≠ b; omega) (.slice (some ⟨b, 0, none⟩) N N)
  refine bodyPost_ret (v := .agg #[.int .u8 D, .slice (some ⟨b, 0, none⟩) N N]) (by simp [results, Try.results38, go_sem, *]) rfl ⟨b, rfl, B5, by omega, (H2.setCell (p := ⟨w.heap.size + 1, 0, none⟩) (by show _ ≤ w.heap.size + 1; omega) _).setCell (p := ⟨w.heap.size + 1, 1, none⟩) (by show _ ≤ w.heap.size + 1; omega) _⟩
end Go.Proofs.Ytpbllagjcdcnpaa
