/- Walk of the thin package's plain line of a sequence. -/
import Derived.Test.YtpbllagjcdcnpaaPlain0
namespace Go.Proofs.Ytpbllagjcdcnpaa
open Go.ChangeShapes Go.WideShapes Go.ChangeAt Go.RowKit
open Fl
set_option linter.unusedSimpArgs false
set_option linter.unusedVariables false
attribute [local go_sem] run_store_float run_fadd run_fsub run_fmul run_fdiv run_equalIn_float fmt64

set_option maxRecDepth 20000 in
set_option maxHeartbeats 16000000 in
theorem plain_0 (A : Option Addr) (N c q : Nat) (f : Nat → Nat) (w : World) (hf : Flo w A N c f) (hN : N ≤ 2000) (hq : N = q * 2) :
    Calls Try.prog 41 #[sg 0 A N c] w fun e w' => (∃ A' c', e = .returned (.agg #[.int .i64 2, .int .i64 0, .slice A' N c', .slice none 0 0]) ∧ Flo w' A' N c' f ∧ ∀ a, A' = some a → w.heap.size ≤ a.block) ∧ Below w.heap.size w w' := by
  have hD : Is4 0 := by unfold Is4; omega
  have hwd : wid 0 = 2 := by decide
  obtain ⟨ii, hi1, hi2, hi3, hi4⟩ := info_parts infoF
  have hlen := Lib.hid fun W => length_g 0 A N c q W hD hN (by rw [hwd]; exact hq)
  have hget := Lib.hid fun (k : Nat) (hk : k < q) W (hb : Below w.heap.size w W) => get_any 0 A N c k (k * 2) f W hD (hf.keep hb) hN (by rw [hwd]) (by rw [hwd]; omega)
  have hct := Lib.hid fun W => ctype_any 0 A N c W
  have hqN : q ≤ N := by omega
  have hqq := Lib.hid hq
  clear hq hf
  go_enter Try.func41, Try.ntmps41
  go_wp2_with (go_at_call 69; refine (hct.out _).mono ?_; rintro e w1 ⟨rfl, hb⟩; have hb1 := Lib.hid hb; clear hb)
  have G0 := Blk.new w1 [.int .i64 2, .int .i64 0, .slice none 0 0, .slice none 0 0] 25
  have P0 : PS w (w1.alloc (.cells #[.int .i64 2, .int .i64 0, .slice none 0 0, .slice none 0 0] 25)) w1.heap.size 0 A N c (.slice none 0 0) 0 f := by
    have hz := hb1.out.size
    simp only [World.size_alloc] at hz
    have HT : Below w.heap.size w w1 := Below.trans (by go_grown) (hb1.out.mono (by simp only [World.size_alloc]; omega))
    have S0 := ((Blk.new w [.int .u8 0, .slice A N c] 68).alloc (.cells #[.int .i64 0, .int .i64 0, .slice none 0 0, .slice none 0 0] 25)).keep hb1.out (by simp only [World.size_alloc]; omega)
    have R0 := Blk.new (w.alloc (.cells #[.int .u8 0, .slice A N c] 68)) [.int .i64 0, .int .i64 0, .slice none 0 0, .slice none 0 0] 25
    rw [World.size_alloc] at R0
    exact ⟨HT.alloc HT.size _, S0.alloc _, (R0.keep hb1.out (by simp only [World.size_alloc]; omega)).alloc _, G0, by omega, World.ownsRow_nil _ _ _ _⟩
  have P0 := Lib.hid P0
  clear G0
  go_loopw [4] (fun i wr => ∃ (k j : Nat) (v : Value), i = .int .i64 (k : Int) ∧ j = k * 2 ∧ k ≤ q ∧ PS w wr w1.heap.size 0 A N c v j f) (fun i _ => q - (intOf i).toNat)
  case atStart => exact ⟨0, 0, _, rfl, rfl, Nat.zero_le _, P0.out⟩
  case round =>
    obtain ⟨k, j, v, rfl, hj, hk, P⟩ := hrel
    obtain ⟨V, cv, rfl⟩ := own_shape P.own
    have hG := P.hG
    obtain ⟨k0, k1, _, _⟩ := P.sq.c2
    have P := Lib.hid P
    by_cases hkq : k < q
    · have hjN : j + 2 ≤ N := by have := hqq.out; omega
      have hg2 := Lib.hid fun W (hb : Below w.heap.size w W) => hget.out k hkq W hb
      rw [← hj] at hg2
      have hjj := Lib.hid hj
      clear hj
      go_wp2_with (first
        | (go_at_call 73; refine (ism_any 0 hD _).mono ?_; rintro e w7 ⟨rfl, hb⟩; have P7 := P5.out.keep hb; have C7 := C5.out.keep hb C5.out.lt; clear hb a50 a51 a52 a53 e50 e51 e52 e53 c50 c51 c52 c53 c54; obtain ⟨a70, a71, a72, a73, e70, e71, e72, e73⟩ := P7.gb.c4; obtain ⟨c70, c71, c72, c73, c74, _, _, _, _, _⟩ := C7.c5; have hl7 := P7.gb.lt; have hk7 := C7.lt; have hC7 := own_other P7.own C7 (by decide); have hC7 := Lib.hid hC7; have P7 := Lib.hid P7; have C7 := Lib.hid C7)
        | (go_at_call 72; refine (is3d_any 0 hD _).mono ?_; rintro e w5 ⟨rfl, hb⟩; have P5 := P4.out.keep hb; have C5 := C4'.out.keep hb C4'.out.lt; clear hb a40 a41 a42 a43 e40 e41 e42 e43 c40 c41 c42 c43 c44; obtain ⟨a50, a51, a52, a53, e50, e51, e52, e53⟩ := P5.gb.c4; obtain ⟨c50, c51, c52, c53, c54, _, _, _, _, _⟩ := C5.c5; have hl5 := P5.gb.lt; have hk5 := C5.lt; have hC5 := own_other P5.own C5 (by decide); have hC5 := Lib.hid hC5; have P5 := Lib.hid P5; have C5 := Lib.hid C5)
        | (at_builtin; (refine wpList_append_own _ rfl _ _ 22 rfl w.heap.size 48 ii _ 1 8 Try.underlying22 hi1 hi2 hi3 hi4 rfl (by omega) _ (j) (flos (j) f) rfl ((P3.out.own.alloc _).alloc _) ⟨w3.heap.size + 1, 0, none⟩ 2 2 [fw (f j), fw (f (j + 1))] rfl rfl (fun x u hx => by rw [add0]; have := (Blk.new (w3.alloc (.cells #[fw (f j), fw (f (j + 1)), fw (0), fw (0), .int .u8 0] 82)) [fw (f j), fw (f (j + 1))] 48).cell x; (try rw [World.size_alloc] at this); exact this.trans hx) (by intro u hu; simp at hu; first | (subst hu; rfl) | (rcases hu with rfl | rfl <;> rfl)) (by unfold maxLen; omega) (by omega) (by simp only [World.size_alloc]; have := P3.out.bel.size; omega) ?_; intro v4 w4 hown4 hgr4 hnil4; obtain ⟨V4, c4, rfl⟩ := own_shape hown4; have PA := P3.out.keep (((Below.refl w3.heap.size w3).alloc (Nat.le_refl _) (.cells #[fw (f j), fw (f (j + 1)), fw (0), fw (0), .int .u8 0] 82)).alloc (by rw [World.size_alloc]; omega) (.cells #[fw (f j), fw (f (j + 1))] 48)); have C4 := Lib.hid (((Blk.new w3 [fw (f j), fw (f (j + 1)), fw (0), fw (0), .int .u8 0] 82).alloc (.cells #[fw (f j), fw (f (j + 1))] 48)).grown hgr4 (fun e => by have h1 := (P3.out.own.lt _ e.symm).2; omega)); have G4 := PA.gb.grown hgr4 (fun e => own_other PA.own PA.gb (by decide) _ e.symm rfl); have P4 := PA.push hgr4 hown4 (flos_push2 (j) f); have C4' := Lib.hid (C4.out.other (p := ⟨w1.heap.size, 2, none⟩) (by show w1.heap.size ≠ w3.heap.size; omega) (.slice V4 (j + 2) c4)); clear hown4 hgr4 hnil4 PA a30 a31 a32 a33 e30 e31 e32 e33; obtain ⟨a40, a41, a42, a43, e40, e41, e42, e43⟩ := G4.c4; obtain ⟨c40, c41, c42, c43, c44, _, _, _, _, _⟩ := C4.out.c5; have P4 := Lib.hid P4; clear G4))
        | (go_at_call 70; refine (hlen.out _).mono ?_; rintro e w2 ⟨rfl, hb⟩; have P2 := P.out.keep hb; obtain ⟨a20, a21, _, _⟩ := P2.sq.c2; have P2 := Lib.hid P2; clear hb)
        | (go_at_call 71; refine (hg2.out _ P2.out.bel).mono ?_; rintro e w3 ⟨rfl, hb⟩; have P3 := P2.out.keep hb; obtain ⟨a30, a31, a32, a33, e30, e31, e32, e33⟩ := P3.gb.c4; have hl3 := P3.gb.lt; have P3 := Lib.hid P3; clear hb a20 a21))
      go_roundw
      case rel => exact ⟨k + 1, j + 2, _, by go_num, by have := hjj.out; omega, by omega, P7.out⟩
      case measure => simp [intOf]; omega
    · have hjN : j = N := by have := hqq.out; have : k = q := by omega
                             subst this; omega
      clear hj
      subst hjN
      go_wp2_with (go_at_call 70; refine (hlen.out _).mono ?_; rintro e w2 ⟨rfl, hb⟩; have P2 := P.out.keep hb; obtain ⟨a20, a21, a22, a23, e20, e21, e22, e23⟩ := P2.gb.c4; obtain ⟨b20, b21, b22, b23, d20, d21, d22, d23⟩ := P2.rs.c4; have P2 := Lib.hid P2; clear hb)
      have hF := Flo.of_own P2.out.own
      have hno := own_other P2.out.own P2.out.rs (by decide)
      have hb2 := P2.out.bel
      have hne : ∀ a, V = some a → w.heap.size + 1 ≠ a.block := fun a ha => by
        subst ha
        exact fun e => hno a.block rfl e.symm
      have hfr : ∀ a, V = some a → w.heap.size ≤ a.block := fun a ha => by
        subst ha
        exact (P2.out.own.lt a.block rfl).1
      exact bodyPost_ret (v := .agg #[.int .i64 2, .int .i64 0, .slice V j cv, .slice none 0 0]) (by simp [results, Try.results41, go_sem, *]) rfl ⟨⟨V, cv, rfl, (((hF.other (p := ⟨w.heap.size + 1, 0, none⟩) hne _).other (p := ⟨w.heap.size + 1, 1, none⟩) hne _).other (p := ⟨w.heap.size + 1, 2, none⟩) hne _).other (p := ⟨w.heap.size + 1, 3, none⟩) hne _, hfr⟩,
        (((hb2.setCell (p := ⟨w.heap.size + 1, 0, none⟩) (by show _ ≤ w.heap.size + 1; omega) _).setCell (p := ⟨w.heap.size + 1, 1, none⟩) (by show _ ≤ w.heap.size + 1; omega) _).setCell (p := ⟨w.heap.size + 1, 2, none⟩) (by show _ ≤ w.heap.size + 1; omega) _).setCell (p := ⟨w.heap.size + 1, 3, none⟩) (by show _ ≤ w.heap.size + 1; omega) _⟩
set_option maxRecDepth 20000 in
set_option maxHeartbeats 16000000 in
theorem plain_1 (A : Option Addr) (N c q : Nat) (f : Nat → Nat) (w : World) (hf : Flo w A N c f) (hN : N ≤ 2000) (hq : N = q * 3) :
    Calls Try.prog 41 #[sg 1 A N c] w fun e w' => (∃ A' c', e = .returned (.agg #[.int .i64 2, .int .i64 1, .slice A' N c', .slice none 0 0]) ∧ Flo w' A' N c' f ∧ ∀ a, A' = some a → w.heap.size ≤ a.block) ∧ Below w.heap.size w w' := by
  have hD : Is4 1 := by unfold Is4; omega
  have hwd : wid 1 = 3 := by decide
  obtain ⟨ii, hi1, hi2, hi3, hi4⟩ := info_parts infoF
  have hlen := Lib.hid fun W => length_g 1 A N c q W hD hN (by rw [hwd]; exact hq)
  have hget := Lib.hid fun (k : Nat) (hk : k < q) W (hb : Below w.heap.size w W) => get_any 1 A N c k (k * 3) f W hD (hf.keep hb) hN (by rw [hwd]) (by rw [hwd]; omega)
  have hct := Lib.hid fun W => ctype_any 1 A N c W
  have hqN : q ≤ N := by omega
  have hqq := Lib.hid hq
  clear hq hf
  go_enter Try.func41, Try.ntmps41
  go_wp2_with (go_at_call 69; refine (hct.out _).mono ?_; rintro e w1 ⟨rfl, hb⟩; have hb1 := Lib.hid hb; clear hb)
  have G0 := Blk.new w1 [.int .i64 2, .int .i64 1, .slice none 0 0, .slice none 0 0] 25
  have P0 : PS w (w1.alloc (.cells #[.int .i64 2, .int .i64 1, .slice none 0 0, .slice none 0 0] 25)) w1.heap.size 1 A N c (.slice none 0 0) 0 f := by
    have hz := hb1.out.size
    simp only [World.size_alloc] at hz
    have HT : Below w.heap.size w w1 := Below.trans (by go_grown) (hb1.out.mono (by simp only [World.size_alloc]; omega))
    have S0 := ((Blk.new w [.int .u8 1, .slice A N c] 68).alloc (.cells #[.int .i64 0, .int .i64 0, .slice none 0 0, .slice none 0 0] 25)).keep hb1.out (by simp only [World.size_alloc]; omega)
    have R0 := Blk.new (w.alloc (.cells #[.int .u8 1, .slice A N c] 68)) [.int .i64 0, .int .i64 0, .slice none 0 0, .slice none 0 0] 25
    rw [World.size_alloc] at R0
    exact ⟨HT.alloc HT.size _, S0.alloc _, (R0.keep hb1.out (by simp only [World.size_alloc]; omega)).alloc _, G0, by omega, World.ownsRow_nil _ _ _ _⟩
  have P0 := Lib.hid P0
  clear G0
  go_loopw [4] (fun i wr => ∃ (k j : Nat) (v : Value), i = .int .i64 (k : Int) ∧ j = k * 3 ∧ k ≤ q ∧ PS w wr w1.heap.size 1 A N c v j f) (fun i _ => q - (intOf i).toNat)
  case atStart => exact ⟨0, 0, _, rfl, rfl, Nat.zero_le _, P0.out⟩
  case round =>
    obtain ⟨k, j, v, rfl, hj, hk, P⟩ := hrel
    obtain ⟨V, cv, rfl⟩ := own_shape P.own
    have hG := P.hG
    obtain ⟨k0, k1, _, _⟩ := P.sq.c2
    have P := Lib.hid P
    by_cases hkq : k < q
    · have hjN : j + 3 ≤ N := by have := hqq.out; omega
      have hg2 := Lib.hid fun W (hb : Below w.heap.size w W) => hget.out k hkq W hb
      rw [← hj] at hg2
      have hjj := Lib.hid hj
      clear hj
      go_wp2_with (first
        | (go_at_call 73; refine (ism_any 1 hD _).mono ?_; rintro e w7 ⟨rfl, hb⟩; have P7 := P6.out.keep hb; have C7 := C6'.out.keep hb C6'.out.lt; clear hb a60 a61 a62 a63 e60 e61 e62 e63 c60 c61 c62 c63 c64; obtain ⟨a70, a71, a72, a73, e70, e71, e72, e73⟩ := P7.gb.c4; obtain ⟨c70, c71, c72, c73, c74, _, _, _, _, _⟩ := C7.c5; have hl7 := P7.gb.lt; have hk7 := C7.lt; have hC7 := own_other P7.own C7 (by decide); have hC7 := Lib.hid hC7; have P7 := Lib.hid P7; have C7 := Lib.hid C7)
        | (at_builtin; (refine wpList_append_own _ rfl _ _ 22 rfl w.heap.size 48 ii _ 1 8 Try.underlying22 hi1 hi2 hi3 hi4 rfl (by omega) _ (j + 2) (flos (j + 2) f) rfl (P5.out.own.alloc _) ⟨w5.heap.size, 0, none⟩ 1 1 [fw (f (j + 2))] rfl rfl (fun x u hx => by rw [add0]; have := (Blk.new w5 [fw (f (j + 2))] 48).cell x; (try rw [World.size_alloc] at this); exact this.trans hx) (by intro u hu; simp at hu; first | (subst hu; rfl) | (rcases hu with rfl | rfl <;> rfl)) (by unfold maxLen; omega) (by omega) (by simp only [World.size_alloc]; have := P5.out.bel.size; omega) ?_; intro v4 w6 hown4 hgr4 hnil4; obtain ⟨V4, c4, rfl⟩ := own_shape hown4; have PA := P5.out.keep ((Below.refl w5.heap.size w5).alloc (Nat.le_refl _) (.cells #[fw (f (j + 2))] 48)); have C6 := Lib.hid ((C5.out.alloc (.cells #[fw (f (j + 2))] 48)).grown hgr4 (fun e => by have h1 := (P5.out.own.lt _ e.symm).2; exact hC5.out _ e.symm rfl)); have G4 := PA.gb.grown hgr4 (fun e => own_other PA.own PA.gb (by decide) _ e.symm rfl); have P6 := PA.push hgr4 hown4 (flos_push1 (j + 2) f); have C6' := Lib.hid (C6.out.other (p := ⟨w1.heap.size, 2, none⟩) (by show w1.heap.size ≠ w3.heap.size; omega) (.slice V4 (j + 2 + 1) c4)); clear hown4 hgr4 hnil4 PA a50 e50 a51 e51 a52 e52 a53 e53 c50 c51 c52 c53 c54; obtain ⟨a60, a61, a62, a63, e60, e61, e62, e63⟩ := G4.c4; obtain ⟨c60, c61, c62, c63, c64, _, _, _, _, _⟩ := C6.out.c5; have P6 := Lib.hid P6; clear G4))
        | (go_at_call 72; refine (is3d_any 1 hD _).mono ?_; rintro e w5 ⟨rfl, hb⟩; have P5 := P4.out.keep hb; have C5 := C4'.out.keep hb C4'.out.lt; clear hb a40 a41 a42 a43 e40 e41 e42 e43 c40 c41 c42 c43 c44; obtain ⟨a50, a51, a52, a53, e50, e51, e52, e53⟩ := P5.gb.c4; obtain ⟨c50, c51, c52, c53, c54, _, _, _, _, _⟩ := C5.c5; have hl5 := P5.gb.lt; have hk5 := C5.lt; have hC5 := own_other P5.own C5 (by decide); have hC5 := Lib.hid hC5; have P5 := Lib.hid P5; have C5 := Lib.hid C5)
        | (at_builtin; (refine wpList_append_own _ rfl _ _ 22 rfl w.heap.size 48 ii _ 1 8 Try.underlying22 hi1 hi2 hi3 hi4 rfl (by omega) _ (j) (flos (j) f) rfl ((P3.out.own.alloc _).alloc _) ⟨w3.heap.size + 1, 0, none⟩ 2 2 [fw (f j), fw (f (j + 1))] rfl rfl (fun x u hx => by rw [add0]; have := (Blk.new (w3.alloc (.cells #[fw (f j), fw (f (j + 1)), fw (f (j + 2)), fw (0), .int .u8 1] 82)) [fw (f j), fw (f (j + 1))] 48).cell x; (try rw [World.size_alloc] at this); exact this.trans hx) (by intro u hu; simp at hu; first | (subst hu; rfl) | (rcases hu with rfl | rfl <;> rfl)) (by unfold maxLen; omega) (by omega) (by simp only [World.size_alloc]; have := P3.out.bel.size; omega) ?_; intro v4 w4 hown4 hgr4 hnil4; obtain ⟨V4, c4, rfl⟩ := own_shape hown4; have PA := P3.out.keep (((Below.refl w3.heap.size w3).alloc (Nat.le_refl _) (.cells #[fw (f j), fw (f (j + 1)), fw (f (j + 2)), fw (0), .int .u8 1] 82)).alloc (by rw [World.size_alloc]; omega) (.cells #[fw (f j), fw (f (j + 1))] 48)); have C4 := Lib.hid (((Blk.new w3 [fw (f j), fw (f (j + 1)), fw (f (j + 2)), fw (0), .int .u8 1] 82).alloc (.cells #[fw (f j), fw (f (j + 1))] 48)).grown hgr4 (fun e => by have h1 := (P3.out.own.lt _ e.symm).2; omega)); have G4 := PA.gb.grown hgr4 (fun e => own_other PA.own PA.gb (by decide) _ e.symm rfl); have P4 := PA.push hgr4 hown4 (flos_push2 (j) f); have C4' := Lib.hid (C4.out.other (p := ⟨w1.heap.size, 2, none⟩) (by show w1.heap.size ≠ w3.heap.size; omega) (.slice V4 (j + 2) c4)); clear hown4 hgr4 hnil4 PA a30 a31 a32 a33 e30 e31 e32 e33; obtain ⟨a40, a41, a42, a43, e40, e41, e42, e43⟩ := G4.c4; obtain ⟨c40, c41, c42, c43, c44, _, _, _, _, _⟩ := C4.out.c5; have P4 := Lib.hid P4; clear G4))
        | (go_at_call 70; refine (hlen.out _).mono ?_; rintro e w2 ⟨rfl, hb⟩; have P2 := P.out.keep hb; obtain ⟨a20, a21, _, _⟩ := P2.sq.c2; have P2 := Lib.hid P2; clear hb)
        | (go_at_call 71; refine (hg2.out _ P2.out.bel).mono ?_; rintro e w3 ⟨rfl, hb⟩; have P3 := P2.out.keep hb; obtain ⟨a30, a31, a32, a33, e30, e31, e32, e33⟩ := P3.gb.c4; have hl3 := P3.gb.lt; have P3 := Lib.hid P3; clear hb a20 a21))
      go_roundw
      case rel => exact ⟨k + 1, j + 3, _, by go_num, by have := hjj.out; omega, by omega, P7.out⟩
      case measure => simp [intOf]; omega
    · have hjN : j = N := by have := hqq.out; have : k = q := by omega
                             subst this; omega
      clear hj
      subst hjN
      go_wp2_with (go_at_call 70; refine (hlen.out _).mono ?_; rintro e w2 ⟨rfl, hb⟩; have P2 := P.out.keep hb; obtain ⟨a20, a21, a22, a23, e20, e21, e22, e23⟩ := P2.gb.c4; obtain ⟨b20, b21, b22, b23, d20, d21, d22, d23⟩ := P2.rs.c4; have P2 := Lib.hid P2; clear hb)
      have hF := Flo.of_own P2.out.own
      have hno := own_other P2.out.own P2.out.rs (by decide)
      have hb2 := P2.out.bel
      have hne : ∀ a, V = some a → w.heap.size + 1 ≠ a.block := fun a ha => by
        subst ha
        exact fun e => hno a.block rfl e.symm
      have hfr : ∀ a, V = some a → w.heap.size ≤ a.block := fun a ha => by
        subst ha
        exact (P2.out.own.lt a.block rfl).1
      exact bodyPost_ret (v := .agg #[.int .i64 2, .int .i64 1, .slice V j cv, .slice none 0 0]) (by simp [results, Try.results41, go_sem, *]) rfl ⟨⟨V, cv, rfl, (((hF.other (p := ⟨w.heap.size + 1, 0, none⟩) hne _).other (p := ⟨w.heap.size + 1, 1, none⟩) hne _).other (p := ⟨w.heap.size + 1, 2, none⟩) hne _).other (p := ⟨w.heap.size + 1, 3, none⟩) hne _, hfr⟩,
        (((hb2.setCell (p := ⟨w.heap.size + 1, 0, none⟩) (by show _ ≤ w.heap.size + 1; omega) _).setCell (p := ⟨w.heap.size + 1, 1, none⟩) (by show _ ≤ w.heap.size + 1; omega) _).setCell (p := ⟨w.heap.size + 1, 2, none⟩) (by show _ ≤ w.heap.size + 1; omega) _).setCell (p := ⟨w.heap.size + 1, 3, none⟩) (by show _ ≤ w.heap.size + 1; omega) _⟩
set_option maxRecDepth 20000 in
set_option maxHeartbeats 16000000 in
theorem plain_2 (A : Option Addr) (N c q : Nat) (f : Nat → Nat) (w : World) (hf : Flo w A N c f) (hN : N ≤ 2000) (hq : N = q * 3) :
    Calls Try.prog 41 #[sg 2 A N c] w fun e w' => (∃ A' c', e = .returned (.agg #[.int .i64 2, .int .i64 2, .slice A' N c', .slice none 0 0]) ∧ Flo w' A' N c' f ∧ ∀ a, A' = some a → w.heap.size ≤ a.block) ∧ Below w.heap.size w w' := by
  have hD : Is4 2 := by unfold Is4; omega
  have hwd : wid 2 = 3 := by decide
  obtain ⟨ii, hi1, hi2, hi3, hi4⟩ := info_parts infoF
  have hlen := Lib.hid fun W => length_g 2 A N c q W hD hN (by rw [hwd]; exact hq)
  have hget := Lib.hid fun (k : Nat) (hk : k < q) W (hb : Below w.heap.size w W) => get_any 2 A N c k (k * 3) f W hD (hf.keep hb) hN (by rw [hwd]) (by rw [hwd]; omega)
  have hct := Lib.hid fun W => ctype_any 2 A N c W
  have hqN : q ≤ N := by omega
  have hqq := Lib.hid hq
  clear hq hf
  go_enter Try.func41, Try.ntmps41
  go_wp2_with (go_at_call 69; refine (hct.out _).mono ?_; rintro e w1 ⟨rfl, hb⟩; have hb1 := Lib.hid hb; clear hb)
  have G0 := Blk.new w1 [.int .i64 2, .int .i64 2, .slice none 0 0, .slice none 0 0] 25
  have P0 : PS w (w1.alloc (.cells #[.int .i64 2, .int .i64 2, .slice none 0 0, .slice none 0 0] 25)) w1.heap.size 2 A N c (.slice none 0 0) 0 f := by
    have hz := hb1.out.size
    simp only [World.size_alloc] at hz
    have HT : Below w.heap.size w w1 := Below.trans (by go_grown) (hb1.out.mono (by simp only [World.size_alloc]; omega))
    have S0 := ((Blk.new w [.int .u8 2, .slice A N c] 68).alloc (.cells #[.int .i64 0, .int .i64 0, .slice none 0 0, .slice none 0 0] 25)).keep hb1.out (by simp only [World.size_alloc]; omega)
    have R0 := Blk.new (w.alloc (.cells #[.int .u8 2, .slice A N c] 68)) [.int .i64 0, .int .i64 0, .slice none 0 0, .slice none 0 0] 25
    rw [World.size_alloc] at R0
    exact ⟨HT.alloc HT.size _, S0.alloc _, (R0.keep hb1.out (by simp only [World.size_alloc]; omega)).alloc _, G0, by omega, World.ownsRow_nil _ _ _ _⟩
  have P0 := Lib.hid P0
  clear G0
  go_loopw [4] (fun i wr => ∃ (k j : Nat) (v : Value), i = .int .i64 (k : Int) ∧ j = k * 3 ∧ k ≤ q ∧ PS w wr w1.heap.size 2 A N c v j f) (fun i _ => q - (intOf i).toNat)
  case atStart => exact ⟨0, 0, _, rfl, rfl, Nat.zero_le _, P0.out⟩
  case round =>
    obtain ⟨k, j, v, rfl, hj, hk, P⟩ := hrel
    obtain ⟨V, cv, rfl⟩ := own_shape P.own
    have hG := P.hG
    obtain ⟨k0, k1, _, _⟩ := P.sq.c2
    have P := Lib.hid P
    by_cases hkq : k < q
    · have hjN : j + 3 ≤ N := by have := hqq.out; omega
      have hg2 := Lib.hid fun W (hb : Below w.heap.size w W) => hget.out k hkq W hb
      rw [← hj] at hg2
      have hjj := Lib.hid hj
      clear hj
      go_wp2_with (first
        | (at_builtin; (refine wpList_append_own _ rfl _ _ 22 rfl w.heap.size 48 ii _ 1 8 Try.underlying22 hi1 hi2 hi3 hi4 rfl (by omega) _ (j + 2) (flos (j + 2) f) rfl (P7.out.own.alloc _) ⟨w7.heap.size, 0, none⟩ 1 1 [fw (f (j + 2))] rfl rfl (fun x u hx => by rw [add0]; have := (Blk.new w7 [fw (f (j + 2))] 48).cell x; (try rw [World.size_alloc] at this); exact this.trans hx) (by intro u hu; simp at hu; first | (subst hu; rfl) | (rcases hu with rfl | rfl <;> rfl)) (by unfold maxLen; omega) (by omega) (by simp only [World.size_alloc]; have := P7.out.bel.size; omega) ?_; intro v4 w8 hown4 hgr4 hnil4; obtain ⟨V4, c4, rfl⟩ := own_shape hown4; have PA := P7.out.keep ((Below.refl w7.heap.size w7).alloc (Nat.le_refl _) (.cells #[fw (f (j + 2))] 48)); have C8 := Lib.hid ((C7.out.alloc (.cells #[fw (f (j + 2))] 48)).grown hgr4 (fun e => by have h1 := (P7.out.own.lt _ e.symm).2; exact hC7.out _ e.symm rfl)); have G4 := PA.gb.grown hgr4 (fun e => own_other PA.own PA.gb (by decide) _ e.symm rfl); have P8 := PA.push hgr4 hown4 (flos_push1 (j + 2) f); have C8' := Lib.hid (C8.out.other (p := ⟨w1.heap.size, 2, none⟩) (by show w1.heap.size ≠ w3.heap.size; omega) (.slice V4 (j + 2 + 1) c4)); clear hown4 hgr4 hnil4 PA a70 e70 a71 e71 a72 e72 a73 e73 c70 c71 c72 c73 c74; obtain ⟨a80, a81, a82, a83, e80, e81, e82, e83⟩ := G4.c4; obtain ⟨c80, c81, c82, c83, c84, _, _, _, _, _⟩ := C8.out.c5; have P8 := Lib.hid P8; clear G4))
        | (go_at_call 73; refine (ism_any 2 hD _).mono ?_; rintro e w7 ⟨rfl, hb⟩; have P7 := P5.out.keep hb; have C7 := C5.out.keep hb C5.out.lt; clear hb a50 a51 a52 a53 e50 e51 e52 e53 c50 c51 c52 c53 c54; obtain ⟨a70, a71, a72, a73, e70, e71, e72, e73⟩ := P7.gb.c4; obtain ⟨c70, c71, c72, c73, c74, _, _, _, _, _⟩ := C7.c5; have hl7 := P7.gb.lt; have hk7 := C7.lt; have hC7 := own_other P7.own C7 (by decide); have hC7 := Lib.hid hC7; have P7 := Lib.hid P7; have C7 := Lib.hid C7)
        | (go_at_call 72; refine (is3d_any 2 hD _).mono ?_; rintro e w5 ⟨rfl, hb⟩; have P5 := P4.out.keep hb; have C5 := C4'.out.keep hb C4'.out.lt; clear hb a40 a41 a42 a43 e40 e41 e42 e43 c40 c41 c42 c43 c44; obtain ⟨a50, a51, a52, a53, e50, e51, e52, e53⟩ := P5.gb.c4; obtain ⟨c50, c51, c52, c53, c54, _, _, _, _, _⟩ := C5.c5; have hl5 := P5.gb.lt; have hk5 := C5.lt; have hC5 := own_other P5.own C5 (by decide); have hC5 := Lib.hid hC5; have P5 := Lib.hid P5; have C5 := Lib.hid C5)
        | (at_builtin; (refine wpList_append_own _ rfl _ _ 22 rfl w.heap.size 48 ii _ 1 8 Try.underlying22 hi1 hi2 hi3 hi4 rfl (by omega) _ (j) (flos (j) f) rfl ((P3.out.own.alloc _).alloc _) ⟨w3.heap.size + 1, 0, none⟩ 2 2 [fw (f j), fw (f (j + 1))] rfl rfl (fun x u hx => by rw [add0]; have := (Blk.new (w3.alloc (.cells #[fw (f j), fw (f (j + 1)), fw (0), fw (f (j + 2)), .int .u8 2] 82)) [fw (f j), fw (f (j + 1))] 48).cell x; (try rw [World.size_alloc] at this); exact this.trans hx) (by intro u hu; simp at hu; first | (subst hu; rfl) | (rcases hu with rfl | rfl <;> rfl)) (by unfold maxLen; omega) (by omega) (by simp only [World.size_alloc]; have := P3.out.bel.size; omega) ?_; intro v4 w4 hown4 hgr4 hnil4; obtain ⟨V4, c4, rfl⟩ := own_shape hown4; have PA := P3.out.keep (((Below.refl w3.heap.size w3).alloc (Nat.le_refl _) (.cells #[fw (f j), fw (f (j + 1)), fw (0), fw (f (j + 2)), .int .u8 2] 82)).alloc (by rw [World.size_alloc]; omega) (.cells #[fw (f j), fw (f (j + 1))] 48)); have C4 := Lib.hid (((Blk.new w3 [fw (f j), fw (f (j + 1)), fw (0), fw (f (j + 2)), .int .u8 2] 82).alloc (.cells #[fw (f j), fw (f (j + 1))] 48)).grown hgr4 (fun e => by have h1 := (P3.out.own.lt _ e.symm).2; omega)); have G4 := PA.gb.grown hgr4 (fun e => own_other PA.own PA.gb (by decide) _ e.symm rfl); have P4 := PA.push hgr4 hown4 (flos_push2 (j) f); have C4' := Lib.hid (C4.out.other (p := ⟨w1.heap.size, 2, none⟩) (by show w1.heap.size ≠ w3.heap.size; omega) (.slice V4 (j + 2) c4)); clear hown4 hgr4 hnil4 PA a30 a31 a32 a33 e30 e31 e32 e33; obtain ⟨a40, a41, a42, a43, e40, e41, e42, e43⟩ := G4.c4; obtain ⟨c40, c41, c42, c43, c44, _, _, _, _, _⟩ := C4.out.c5; have P4 := Lib.hid P4; clear G4))
        | (go_at_call 70; refine (hlen.out _).mono ?_; rintro e w2 ⟨rfl, hb⟩; have P2 := P.out.keep hb; obtain ⟨a20, a21, _, _⟩ := P2.sq.c2; have P2 := Lib.hid P2; clear hb)
        | (go_at_call 71; refine (hg2.out _ P2.out.bel).mono ?_; rintro e w3 ⟨rfl, hb⟩; have P3 := P2.out.keep hb; obtain ⟨a30, a31, a32, a33, e30, e31, e32, e33⟩ := P3.gb.c4; have hl3 := P3.gb.lt; have P3 := Lib.hid P3; clear hb a20 a21))
      go_roundw
      case rel => exact ⟨k + 1, j + 3, _, by go_num, by have := hjj.out; omega, by omega, P8.out⟩
      case measure => simp [intOf]; omega
    · have hjN : j = N := by have := hqq.out; have : k = q := by omega
                             subst this; omega
      clear hj
      subst hjN
      go_wp2_with (go_at_call 70; refine (hlen.out _).mono ?_; rintro e w2 ⟨rfl, hb⟩; have P2 := P.out.keep hb; obtain ⟨a20, a21, a22, a23, e20, e21, e22, e23⟩ := P2.gb.c4; obtain ⟨b20, b21, b22, b23, d20, d21, d22, d23⟩ := P2.rs.c4; have P2 := Lib.hid P2; clear hb)
      have hF := Flo.of_own P2.out.own
      have hno := own_other P2.out.own P2.out.rs (by decide)
      have hb2 := P2.out.bel
      have hne : ∀ a, V = some a → w.heap.size + 1 ≠ a.block := fun a ha => by
        subst ha
        exact fun e => hno a.block rfl e.symm
      have hfr : ∀ a, V = some a → w.heap.size ≤ a.block := fun a ha => by
        subst ha
        exact (P2.out.own.lt a.block rfl).1
      exact bodyPost_ret (v := .agg #[.int .i64 2, .int .i64 2, .slice V j cv, .slice none 0 0]) (by simp [results, Try.results41, go_sem, *]) rfl ⟨⟨V, cv, rfl, (((hF.other (p := ⟨w.heap.size + 1, 0, none⟩) hne _).other (p := ⟨w.heap.size + 1, 1, none⟩) hne _).other (p := ⟨w.heap.size + 1, 2, none⟩) hne _).other (p := ⟨w.heap.size + 1, 3, none⟩) hne _, hfr⟩,
        (((hb2.setCell (p := ⟨w.heap.size + 1, 0, none⟩) (by show _ ≤ w.heap.size + 1; omega) _).setCell (p := ⟨w.heap.size + 1, 1, none⟩) (by show _ ≤ w.heap.size + 1; omega) _).setCell (p := ⟨w.heap.size + 1, 2, none⟩) (by show _ ≤ w.heap.size + 1; omega) _).setCell (p := ⟨w.heap.size + 1, 3, none⟩) (by show _ ≤ w.heap.size + 1; omega) _⟩
set_option maxRecDepth 20000 in
set_option maxHeartbeats 16000000 in
theorem plain_3 (A : Option Addr) (N c q : Nat) (f : Nat → Nat) (w : World) (hf : Flo w A N c f) (hN : N ≤ 2000) (hq : N = q * 4) :
    Calls Try.prog 41 #[sg 3 A N c] w fun e w' => (∃ A' c', e = .returned (.agg #[.int .i64 2, .int .i64 3, .slice A' N c', .slice none 0 0]) ∧ Flo w' A' N c' f ∧ ∀ a, A' = some a → w.heap.size ≤ a.block) ∧ Below w.heap.size w w' := by
  have hD : Is4 3 := by unfold Is4; omega
  have hwd : wid 3 = 4 := by decide
  obtain ⟨ii, hi1, hi2, hi3, hi4⟩ := info_parts infoF
  have hlen := Lib.hid fun W => length_g 3 A N c q W hD hN (by rw [hwd]; exact hq)
  have hget := Lib.hid fun (k : Nat) (hk : k < q) W (hb : Below w.heap.size w W) => get_any 3 A N c k (k * 4) f W hD (hf.keep hb) hN (by rw [hwd]) (by rw [hwd]; omega)
  have hct := Lib.hid fun W => ctype_any 3 A N c W
  have hqN : q ≤ N := by omega
  have hqq := Lib.hid hq
  clear hq hf
  go_enter Try.func41, Try.ntmps41
  go_wp2_with (go_at_call 69; refine (hct.out _).mono ?_; rintro e w1 ⟨rfl, hb⟩; have hb1 := Lib.hid hb; clear hb)
  have G0 := Blk.new w1 [.int .i64 2, .int .i64 3, .slice none 0 0, .slice none 0 0] 25
  have P0 : PS w (w1.alloc (.cells #[.int .i64 2, .int .i64 3, .slice none 0 0, .slice none 0 0] 25)) w1.heap.size 3 A N c (.slice none 0 0) 0 f := by
    have hz := hb1.out.size
    simp only [World.size_alloc] at hz
    have HT : Below w.heap.size w w1 := Below.trans (by go_grown) (hb1.out.mono (by simp only [World.size_alloc]; omega))
    have S0 := ((Blk.new w [.int .u8 3, .slice A N c] 68).alloc (.cells #[.int .i64 0, .int .i64 0, .slice none 0 0, .slice none 0 0] 25)).keep hb1.out (by simp only [World.size_alloc]; omega)
    have R0 := Blk.new (w.alloc (.cells #[.int .u8 3, .slice A N c] 68)) [.int .i64 0, .int .i64 0, .slice none 0 0, .slice none 0 0] 25
    rw [World.size_alloc] at R0
    exact ⟨HT.alloc HT.size _, S0.alloc _, (R0.keep hb1.out (by simp only [World.size_alloc]; omega)).alloc _, G0, by omega, World.ownsRow_nil _ _ _ _⟩
  have P0 := Lib.hid P0
  clear G0
  go_loopw [4] (fun i wr => ∃ (k j : Nat) (v : Value), i = .int .i64 (k : Int) ∧ j = k * 4 ∧ k ≤ q ∧ PS w wr w1.heap.size 3 A N c v j f) (fun i _ => q - (intOf i).toNat)
  case atStart => exact ⟨0, 0, _, rfl, rfl, Nat.zero_le _, P0.out⟩
  case round =>
    obtain ⟨k, j, v, rfl, hj, hk, P⟩ := hrel
    obtain ⟨V, cv, rfl⟩ := own_shape P.own
    have hG := P.hG
    obtain ⟨k0, k1, _, _⟩ := P.sq.c2
    have P := Lib.hid P
    by_cases hkq : k < q
    · have hjN : j + 4 ≤ N := by have := hqq.out; omega
      have hg2 := Lib.hid fun W (hb : Below w.heap.size w W) => hget.out k hkq W hb
      rw [← hj] at hg2
      have hjj := Lib.hid hj
      clear hj
      go_wp2_with (first
        | (at_builtin; (refine wpList_append_own _ rfl _ _ 22 rfl w.heap.size 48 ii _ 1 8 Try.underlying22 hi1 hi2 hi3 hi4 rfl (by omega) _ (j + 2 + 1) (flos (j + 2 + 1) f) rfl (P7.out.own.alloc _) ⟨w7.heap.size, 0, none⟩ 1 1 [fw (f (j + 3))] rfl rfl (fun x u hx => by rw [add0]; have := (Blk.new w7 [fw (f (j + 3))] 48).cell x; (try rw [World.size_alloc] at this); exact this.trans hx) (by intro u hu; simp at hu; first | (subst hu; rfl) | (rcases hu with rfl | rfl <;> rfl)) (by unfold maxLen; omega) (by omega) (by simp only [World.size_alloc]; have := P7.out.bel.size; omega) ?_; intro v4 w8 hown4 hgr4 hnil4; obtain ⟨V4, c4, rfl⟩ := own_shape hown4; have PA := P7.out.keep ((Below.refl w7.heap.size w7).alloc (Nat.le_refl _) (.cells #[fw (f (j + 3))] 48)); have C8 := Lib.hid ((C7.out.alloc (.cells #[fw (f (j + 3))] 48)).grown hgr4 (fun e => by have h1 := (P7.out.own.lt _ e.symm).2; exact hC7.out _ e.symm rfl)); have G4 := PA.gb.grown hgr4 (fun e => own_other PA.own PA.gb (by decide) _ e.symm rfl); have P8 := PA.push hgr4 hown4 (flos_push1 (j + 2 + 1) f); have C8' := Lib.hid (C8.out.other (p := ⟨w1.heap.size, 2, none⟩) (by show w1.heap.size ≠ w3.heap.size; omega) (.slice V4 (j + 2 + 1 + 1) c4)); clear hown4 hgr4 hnil4 PA a70 e70 a71 e71 a72 e72 a73 e73 c70 c71 c72 c73 c74; obtain ⟨a80, a81, a82, a83, e80, e81, e82, e83⟩ := G4.c4; obtain ⟨c80, c81, c82, c83, c84, _, _, _, _, _⟩ := C8.out.c5; have P8 := Lib.hid P8; clear G4))
        | (go_at_call 73; refine (ism_any 3 hD _).mono ?_; rintro e w7 ⟨rfl, hb⟩; have P7 := P6.out.keep hb; have C7 := C6'.out.keep hb C6'.out.lt; clear hb a60 a61 a62 a63 e60 e61 e62 e63 c60 c61 c62 c63 c64; obtain ⟨a70, a71, a72, a73, e70, e71, e72, e73⟩ := P7.gb.c4; obtain ⟨c70, c71, c72, c73, c74, _, _, _, _, _⟩ := C7.c5; have hl7 := P7.gb.lt; have hk7 := C7.lt; have hC7 := own_other P7.own C7 (by decide); have hC7 := Lib.hid hC7; have P7 := Lib.hid P7; have C7 := Lib.hid C7)
        | (at_builtin; (refine wpList_append_own _ rfl _ _ 22 rfl w.heap.size 48 ii _ 1 8 Try.underlying22 hi1 hi2 hi3 hi4 rfl (by omega) _ (j + 2) (flos (j + 2) f) rfl (P5.out.own.alloc _) ⟨w5.heap.size, 0, none⟩ 1 1 [fw (f (j + 2))] rfl rfl (fun x u hx => by rw [add0]; have := (Blk.new w5 [fw (f (j + 2))] 48).cell x; (try rw [World.size_alloc] at this); exact this.trans hx) (by intro u hu; simp at hu; first | (subst hu; rfl) | (rcases hu with rfl | rfl <;> rfl)) (by unfold maxLen; omega) (by omega) (by simp only [World.size_alloc]; have := P5.out.bel.size; omega) ?_; intro v4 w6 hown4 hgr4 hnil4; obtain ⟨V4, c4, rfl⟩ := own_shape hown4; have PA := P5.out.keep ((Below.refl w5.heap.size w5).alloc (Nat.le_refl _) (.cells #[fw (f (j + 2))] 48)); have C6 := Lib.hid ((C5.out.alloc (.cells #[fw (f (j + 2))] 48)).grown hgr4 (fun e => by have h1 := (P5.out.own.lt _ e.symm).2; exact hC5.out _ e.symm rfl)); have G4 := PA.gb.grown hgr4 (fun e => own_other PA.own PA.gb (by decide) _ e.symm rfl); have P6 := PA.push hgr4 hown4 (flos_push1 (j + 2) f); have C6' := Lib.hid (C6.out.other (p := ⟨w1.heap.size, 2, none⟩) (by show w1.heap.size ≠ w3.heap.size; omega) (.slice V4 (j + 2 + 1) c4)); clear hown4 hgr4 hnil4 PA a50 e50 a51 e51 a52 e52 a53 e53 c50 c51 c52 c53 c54; obtain ⟨a60, a61, a62, a63, e60, e61, e62, e63⟩ := G4.c4; obtain ⟨c60, c61, c62, c63, c64, _, _, _, _, _⟩ := C6.out.c5; have P6 := Lib.hid P6; clear G4))
        | (go_at_call 72; refine (is3d_any 3 hD _).mono ?_; rintro e w5 ⟨rfl, hb⟩; have P5 := P4.out.keep hb; have C5 := C4'.out.keep hb C4'.out.lt; clear hb a40 a41 a42 a43 e40 e41 e42 e43 c40 c41 c42 c43 c44; obtain ⟨a50, a51, a52, a53, e50, e51, e52, e53⟩ := P5.gb.c4; obtain ⟨c50, c51, c52, c53, c54, _, _, _, _, _⟩ := C5.c5; have hl5 := P5.gb.lt; have hk5 := C5.lt; have hC5 := own_other P5.own C5 (by decide); have hC5 := Lib.hid hC5; have P5 := Lib.hid P5; have C5 := Lib.hid C5)
        | (at_builtin; (refine wpList_append_own _ rfl _ _ 22 rfl w.heap.size 48 ii _ 1 8 Try.underlying22 hi1 hi2 hi3 hi4 rfl (by omega) _ (j) (flos (j) f) rfl ((P3.out.own.alloc _).alloc _) ⟨w3.heap.size + 1, 0, none⟩ 2 2 [fw (f j), fw (f (j + 1))] rfl rfl (fun x u hx => by rw [add0]; have := (Blk.new (w3.alloc (.cells #[fw (f j), fw (f (j + 1)), fw (f (j + 2)), fw (f (j + 3)), .int .u8 3] 82)) [fw (f j), fw (f (j + 1))] 48).cell x; (try rw [World.size_alloc] at this); exact this.trans hx) (by intro u hu; simp at hu; first | (subst hu; rfl) | (rcases hu with rfl | rfl <;> rfl)) (by unfold maxLen; omega) (by omega) (by simp only [World.size_alloc]; have := P3.out.bel.size; omega) ?_; intro v4 w4 hown4 hgr4 hnil4; obtain ⟨V4, c4, rfl⟩ := own_shape hown4; have PA := P3.out.keep (((Below.refl w3.heap.size w3).alloc (Nat.le_refl _) (.cells #[fw (f j), fw (f (j + 1)), fw (f (j + 2)), fw (f (j + 3)), .int .u8 3] 82)).alloc (by rw [World.size_alloc]; omega) (.cells #[fw (f j), fw (f (j + 1))] 48)); have C4 := Lib.hid (((Blk.new w3 [fw (f j), fw (f (j + 1)), fw (f (j + 2)), fw (f (j + 3)), .int .u8 3] 82).alloc (.cells #[fw (f j), fw (f (j + 1))] 48)).grown hgr4 (fun e => by have h1 := (P3.out.own.lt _ e.symm).2; omega)); have G4 := PA.gb.grown hgr4 (fun e => own_other PA.own PA.gb (by decide) _ e.symm rfl); have P4 := PA.push hgr4 hown4 (flos_push2 (j) f); have C4' := Lib.hid (C4.out.other (p := ⟨w1.heap.size, 2, none⟩) (by show w1.heap.size ≠ w3.heap.size; omega) (.slice V4 (j + 2) c4)); clear hown4 hgr4 hnil4 PA a30 a31 a32 a33 e30 e31 e32 e33; obtain ⟨a40, a41, a42, a43, e40, e41, e42, e43⟩ := G4.c4; obtain ⟨c40, c41, c42, c43, c44, _, _, _, _, _⟩ := C4.out.c5; have P4 := Lib.hid P4; clear G4))
        | (go_at_call 70; refine (hlen.out _).mono ?_; rintro e w2 ⟨rfl, hb⟩; have P2 := P.out.keep hb; obtain ⟨a20, a21, _, _⟩ := P2.sq.c2; have P2 := Lib.hid P2; clear hb)
        | (go_at_call 71; refine (hg2.out _ P2.out.bel).mono ?_; rintro e w3 ⟨rfl, hb⟩; have P3 := P2.out.keep hb; obtain ⟨a30, a31, a32, a33, e30, e31, e32, e33⟩ := P3.gb.c4; have hl3 := P3.gb.lt; have P3 := Lib.hid P3; clear hb a20 a21))
      go_roundw
      case rel => exact ⟨k + 1, j + 4, _, by go_num, by have := hjj.out; omega, by omega, P8.out⟩
      case measure => simp [intOf]; omega
    · have hjN : j = N := by have := hqq.out; have : k = q := by omega
                             subst this; omega
      clear hj
      subst hjN
      go_wp2_with (go_at_call 70; refine (hlen.out _).mono ?_; rintro e w2 ⟨rfl, hb⟩; have P2 := P.out.keep hb; obtain ⟨a20, a21, a22, a23, e20, e21, e22, e23⟩ := P2.gb.c4; obtain ⟨b20, b21, b22, b23, d20, d21, d22, d23⟩ := P2.rs.c4; have P2 := Lib.hid P2; clear hb)
      have hF := Flo.of_own P2.out.own
      have hno := own_other P2.out.own P2.out.rs (by decide)
      have hb2 := P2.out.bel
      have hne : ∀ a, V = some a → w.heap.size + 1 ≠ a.block := fun a ha => by
        subst ha
        exact fun e => hno a.block rfl e.symm
      have hfr : ∀ a, V = some a → w.heap.size ≤ a.block := fun a ha => by
        subst ha
        exact (P2.out.own.lt a.block rfl).1
      exact bodyPost_ret (v := .agg #[.int .i64 2, .int .i64 3, .slice V j cv, .slice none 0 0]) (by simp [results, Try.results41, go_sem, *]) rfl ⟨⟨V, cv, rfl, (((hF.other (p := ⟨w.heap.size + 1, 0, none⟩) hne _).other (p := ⟨w.heap.size + 1, 1, none⟩) hne _).other (p := ⟨w.heap.size + 1, 2, none⟩) hne _).other (p := ⟨w.heap.size + 1, 3, none⟩) hne _, hfr⟩,
        (((hb2.setCell (p := ⟨w.heap.size + 1, 0, none⟩) (by show _ ≤ w.heap.size + 1; omega) _).setCell (p := ⟨w.heap.size + 1, 1, none⟩) (by show _ ≤ w.heap.size + 1; omega) _).setCell (p := ⟨w.heap.size + 1, 2, none⟩) (by show _ ≤ w.heap.size + 1; omega) _).setCell (p := ⟨w.heap.size + 1, 3, none⟩) (by show _ ≤ w.heap.size + 1; omega) _⟩
/-- what the plain line of a sequence is -/
def PLR (D : Int) (N : Nat) (f : Nat → Nat) (r : Ending) (w : World) (s : Nat) : Prop := ∃ A' c', r = .returned (.agg #[.int .i64 2, .int .i64 D, .slice A' N c', .slice none 0 0]) ∧ Flo w A' N c' f ∧ ∀ a, A' = some a → s ≤ a.block
theorem plain_any (D : Int) (A : Option Addr) (N c q : Nat) (f : Nat → Nat) (w : World) (hD : Is4 D) (hf : Flo w A N c f) (hN : N ≤ 2000) (hq : N = q * wid D) :
    Calls Try.prog 41 #[sg D A N c] w fun e w' => PLR D N f e w' w.heap.size ∧ Below w.heap.size w w' := by
  rcases hD with rfl | rfl | rfl | rfl
  · exact plain_0 A N c q f w hf hN hq
  · exact plain_1 A N c q f w hf hN hq
  · exact plain_2 A N c q f w hf hN hq
  · exact plain_3 A N c q f w hf hN hq
end Go.Proofs.Ytpbllagjcdcnpaa
