/- For every line of at most 2000 finite numbers the first and the last segment that have a length are told by the numbers of the places at which they end, and none if there is none. No condition. -/
import Derived.Test.YtpbllagjcdcnpaaGLine
namespace Go.Proofs.Ytpbllagjcdcnpaa
open Go.ChangeShapes Go.WideShapes Go.ChangeAt Go.RowKit
open Fl
set_option linter.unusedSimpArgs false
set_option linter.unusedVariables false
attribute [local go_sem] run_store_float run_fadd run_fsub run_fmul run_fdiv run_equalIn_float fmt64

theorem segs_stay {X Y : Nat → Nat} {a b : Nat} (hab : a ≤ b) (h : ∀ i, a ≤ i → i < b → sne X Y i = false) : segs X Y b = segs X Y a := by
  induction b with
  | zero => have : a = 0 := by omega
            subst this; rfl
  | succ b ih =>
    by_cases hb : a = b + 1
    · rw [hb]
    · rw [segs_no (h b (by omega) (by omega))]
      exact ih (by omega) fun i h1 h2 => h i h1 (by omega)
theorem segs_none {X Y : Nat → Nat} {q : Nat} (h : ∀ i, 1 ≤ i → i < q → sne X Y i = false) : segs X Y q = [] := by
  by_cases hq : q = 0
  · subst hq; rfl
  · rw [segs_stay (a := 1) (by omega) (fun i h1 h2 => h i h1 h2), segs_one]
theorem segs_head {X Y : Nat → Nat} {i b : Nat} (hi : 1 ≤ i) (hb : i < b) (hs : sne X Y i = true) (h : ∀ j, 1 ≤ j → j < i → sne X Y j = false) : (segs X Y b)[0]? = some i := by
  induction b with
  | zero => omega
  | succ b ih =>
    by_cases hib : i = b
    · subst hib
      rw [segs_yes hi hs, segs_none h]
      rfl
    · have := ih (by omega)
      cases hn : sne X Y b with
      | false => rw [segs_no hn]; exact this
      | true =>
        rw [segs_yes (by omega) hn, List.getElem?_append_left]
        · exact this
        · exact (List.getElem?_eq_some_iff.1 this).1
theorem segs_last {X Y : Nat → Nat} {i b : Nat} (hi : 1 ≤ i) (hb : i < b) (hs : sne X Y i = true) (h : ∀ j, i < j → j < b → sne X Y j = false) : (segs X Y b)[(segs X Y b).length - 1]? = some i := by
  rw [segs_stay (a := i + 1) (by omega) (fun j h1 h2 => h j (by omega) h2), segs_yes hi hs]
  simp
theorem eqb_comm {x y : Nat} (hx : fin x = true) (hy : fin y = true) : eqb x y = eqb y x := by
  obtain ⟨_, _, h1⟩ := order_iff hx hy
  obtain ⟨_, _, h2⟩ := order_iff hy hx
  unfold eqb
  cases h : (Ieee.double.order x y == some .eq)
  · cases h' : (Ieee.double.order y x == some .eq)
    · rfl
    · have := h2.1 h'
      rw [h1.2 this.symm] at h
      cases h
  · rw [h2.2 (h1.1 h).symm]
theorem segs_cong {X Y X' Y' : Nat → Nat} {q : Nat} (hX : ∀ i, i < q → X i = X' i) (hY : ∀ i, i < q → Y i = Y' i) : segs X Y q = segs X' Y' q := by
  unfold segs
  refine List.filter_congr fun i hi => ?_
  have hi := List.mem_range.1 hi
  unfold sne
  rw [hX i hi, hY i hi, hX (i - 1) (by omega), hY (i - 1) (by omega)]
theorem sne_ne {X Y : Nat → Nat} {i : Nat} (h1 : fin (X i) = true) (h2 : fin (Y i) = true) (h3 : fin (X (i - 1)) = true) (h4 : fin (Y (i - 1)) = true) : sne X Y i = ne X Y i := by
  unfold sne ne
  rw [eqb_comm h3 h1, eqb_comm h4 h2]
  cases eqb (X i) (X (i - 1)) <;> cases eqb (Y i) (Y (i - 1)) <;> rfl
/-- what the law compares -/
theorem law_plain {f : Nat → Nat} {g : Nat → Q4} {n W q : Nat} {r1 r2 : Int} {ok : Bool} (hfin : ∀ i, i < n → fin (f i) = true) (hW : 2 ≤ W) (hq : q * W ≤ n) (hg : ∀ i, i < q → (g i).1 = f (i * W) ∧ (g i).2.1 = f (i * W + 1))
    (h : FL (fun i => f (i * W)) (fun i => f (i * W + 1)) q r1 r2 ok) :
    ((segs (fun i => (g i).1) (fun i => (g i).2.1) q).length = 0 ∧ ok = false) ∨ ok = true ∧ 0 < (segs (fun i => (g i).1) (fun i => (g i).2.1) q).length ∧ ∃ i1 i2 : Nat, r1 = i1 ∧ r2 = i2 ∧
      (segs (fun i => (g i).1) (fun i => (g i).2.1) q)[0]? = some i1 ∧ (segs (fun i => (g i).1) (fun i => (g i).2.1) q)[(segs (fun i => (g i).1) (fun i => (g i).2.1) q).length - 1]? = some i2 := by
  have hc : segs (fun i => (g i).1) (fun i => (g i).2.1) q = segs (fun i => f (i * W)) (fun i => f (i * W + 1)) q := segs_cong (fun i hi => (hg i hi).1) (fun i hi => (hg i hi).2)
  rw [hc]
  have hb : ∀ i, i < q → i * W + 1 < n := fun i hi => by
    have : (i + 1) * W ≤ q * W := Nat.mul_le_mul_right _ hi
    rw [Nat.add_mul, Nat.one_mul] at this
    omega
  have hn : ∀ i, 1 ≤ i → i < q → sne (fun i => f (i * W)) (fun i => f (i * W + 1)) i = ne (fun i => f (i * W)) (fun i => f (i * W + 1)) i := fun i h1 h2 =>
    sne_ne (hfin _ (by have := hb i h2; omega)) (hfin _ (hb i h2)) (hfin _ (by have := hb (i - 1) (by omega); omega)) (hfin _ (hb (i - 1) (by omega)))
  rcases h with ⟨_, _, h3, h4⟩ | ⟨i1, i2, e1, e2, e3, p1, p2, p3, n1, n2, a1, a2⟩
  · left
    rw [segs_none fun i h1 h2 => (hn i h1 h2).trans (h4 i h1 h2)]
    exact ⟨rfl, h3⟩
  · right
    have hh := segs_head (b := q) p1 (by omega) ((hn i1 p1 (by omega)).trans n1) (fun j h1 h2 => (hn j h1 (by omega)).trans (a1 j h1 h2))
    exact ⟨e3, (List.getElem?_eq_some_iff.1 hh).1, i1, i2, e1, e2, hh, segs_last (by omega) p3 ((hn i2 (by omega) p3).trans n2) (fun j h1 h2 => (hn j (by omega) h2).trans (a2 j h1 h2))⟩
theorem ints_two {w : World} {P : Option Addr} {L : List Nat} {c i1 i2 : Nat} (h : Ints w P L c) (h0 : 0 < L.length) (h1 : L[0]? = some i1) (h2 : L[L.length - 1]? = some i2) :
    ∃ a, P = some a ∧ w.cell? a = some (iv i1) ∧ w.cell? (a.add (L.length - 1)) = some (iv i2) := by
  cases P with
  | none => have := (h.none_ rfl).1; omega
  | some a =>
    have c0 := h.cell a rfl 0 h0
    have c1 := h.cell a rfl (L.length - 1) (by omega)
    obtain ⟨_, e1⟩ := List.getElem?_eq_some_iff.1 h1
    obtain ⟨_, e2⟩ := List.getElem?_eq_some_iff.1 h2
    rw [e1] at c0
    rw [e2] at c1
    refine ⟨a, rfl, ?_, c1⟩
    simpa [Addr.add] using c0
theorem and3 (m : Int) : Is4 (bits .and .i64 m 3) := by
  show Is4 (IntKind.i64.wrap ((BitVec.ofInt 64 m &&& BitVec.ofInt 64 3).toNat : Int))
  have h3 : (BitVec.ofInt 64 (3 : Int)).toNat = 3 := by decide
  have h : (BitVec.ofInt 64 m &&& BitVec.ofInt 64 3).toNat ≤ 3 := by
    rw [BitVec.toNat_and, h3]
    exact Nat.and_le_right
  generalize (BitVec.ofInt 64 m &&& BitVec.ofInt 64 3).toNat = x at h
  have : x = 0 ∨ x = 1 ∨ x = 2 ∨ x = 3 := by omega
  unfold Is4
  rcases this with rfl | rfl | rfl | rfl <;> decide
set_option maxRecDepth 20000 in
set_option maxHeartbeats 8000000 in
theorem flaw_walk (d : Nat) (v : Value) (w : World) (h : GV w d v) : Calls Try.prog 3 #[v] w fun e w' => e = .returned (.bool true) ∧ Below w.heap.size w w' := by
  obtain ⟨c0, c1, c2, c3, rfl, hd⟩ := h
  cases d with
  | zero => exact hd.elim
  | succ d =>
  obtain ⟨k, m, A, n, c, f, B, l, e, hk, hm, rfl, rfl, rfl, hf, rfl, h1, h2, h3, hs⟩ := hd
  have hD := and3 m
  obtain ⟨D, hmD⟩ : ∃ D, bits .and .i64 m 3 = D := ⟨_, rfl⟩
  rw [hmD] at hD
  have hs' : ∀ W, Below w.heap.size w W → ∀ b, B = some b → ∀ i, i < l → ∃ q0 q1 q2 q3, W.cell? (b.add (i * 4)) = some q0 ∧ W.cell? ⟨(b.add (i * 4)).block, (b.add (i * 4)).off + 1, none⟩ = some q1 ∧
        W.cell? ⟨(b.add (i * 4)).block, (b.add (i * 4)).off + 2, none⟩ = some q2 ∧ W.cell? ⟨(b.add (i * 4)).block, (b.add (i * 4)).off + 3, none⟩ = some q3 ∧ GD W d q0 q1 q2 q3 := fun W hb b hbb i hi => by
    obtain ⟨q0, q1, q2, q3, z0, z1, z2, z3, hq⟩ := hs b hbb i hi
    exact ⟨q0, q1, q2, q3, (hb.cell (World.block_lt_of_cell? w _ z0)).trans z0, (hb.cell (World.block_lt_of_cell? w _ z1)).trans z1, (hb.cell (World.block_lt_of_cell? w _ z2)).trans z2,
      (hb.cell (World.block_lt_of_cell? w _ z3)).trans z3, hq.keep hb⟩
  have hgl := Lib.hid fun W (hb : Below w.heap.size w W) => gline_any d k m D A B n c l e f W hD hmD hk hm (hf.keep hb) h1 h2 h3 (hs' W hb)
  have hall := Lib.hid fun W (hb : Below w.heap.size w W) => all_step d (all_some d) k m A B n c l e f W (hf.keep hb) h1 h2 h3 (hs' W hb)
  have hW := wid_le D
  clear hs hs' h3
  by_cases hk2 : k = 2
  · subst hk2
    have hfl := Lib.hid fun (hn : n ≤ 2000) W (hb : Below w.heap.size w W) => firstlast_any m D A B n c l e f hD hmD hn W (hf.keep hb)
    clear hf
    go_enter Try.func3, Try.ntmps3
    go_wp2_with (first
      | (go_at_call 9; refine (fits_any _ _ _ _ _ _ _ _ _).mono ?_; rintro r w1 ⟨⟨bb, rfl, _⟩, hb1⟩; have K1 := (Blk.new w [.int .i64 2, .int .i64 m, .slice A n c, .slice B l e] 25).keep hb1 (by simp only [World.size_alloc]; omega); have H1 : Below w.heap.size w w1 := Below.trans (by go_grown) (hb1.mono (by simp only [World.size_alloc]; omega)); have H1 := Lib.hid H1; clear hb1; obtain ⟨x0, x1, x2, x3, _, _, _, _⟩ := K1.c4; have HK1 := Lib.hid K1; clear K1; cases bb)
      | (go_at_call 10; refine (hgl.out _ H1.out).mono ?_; rintro r w2 ⟨hgr, hb2⟩; have H2 := H1.out.trans (hb2.mono H1.out.size); have K2 := HK1.out.keep hb2 HK1.out.lt; clear x0 x1 x2 x3 hb2; obtain ⟨x0, x1, x2, x3, _, _, _, _⟩ := K2.c4; have HK2 := Lib.hid K2; have H2' := Lib.hid H2; clear K2 H2; rcases hgr with rfl | ⟨_, hn, P, cp, g, rfl, hQ, hg⟩)
      | (go_at_call 11; refine (hall.out _ H2'.out).mono ?_; rintro r w3 ⟨⟨bb, rfl, hfin⟩, hb3⟩; have H3 := H2'.out.trans (hb3.mono H2'.out.size); have K3 := HK2.out.keep hb3 HK2.out.lt; clear x0 x1 x2 x3; have hb3 := Lib.hid hb3; obtain ⟨x0, x1, x2, x3, _, _, _, _⟩ := K3.c4; have HK3 := Lib.hid K3; have H3' := Lib.hid H3; clear K3 H3; have hfin := Lib.hid hfin; cases bb)
      | (go_at_call 13; refine (hfl.out hn _ H3'.out).mono ?_; rintro r w4 ⟨⟨r1, r2, ok, rfl, hfal⟩, hb4⟩; have H4 := H3'.out.trans (hb4.mono H3'.out.size); have K4 := HK3.out.keep hb4 HK3.out.lt; clear x0 x1 x2 x3; have hb4 := Lib.hid hb4; obtain ⟨x0, x1, x2, x3, _, _, _, _⟩ := K4.c4; have HK4 := Lib.hid K4; have H4' := Lib.hid H4; clear K4 H4; have hfal := Lib.hid hfal)
      | (go_at_call 14; refine (segs_any P (n / wid D) cp g _ ((hQ.keep hb3.out).keep hb4.out) (by have := Nat.div_le_self n (wid D); omega)).mono ?_; rintro r w5 ⟨⟨P', c', rfl, hI⟩, hb5⟩; have H5 := Lib.hid (H4'.out.trans (hb5.mono H4'.out.size)); clear x0 x1 x2 x3 hb5; have hpl := law_plain (hfin.out (by first | rfl | trivial)) hW.1 (Nat.div_mul_le_self n (wid D)) hg hfal.out; generalize (segs (fun i => (g i).1) (fun i => (g i).2.1) (n / wid D)) = L at hpl hI ⊢; have hI := Lib.hid hI; rcases hpl with ⟨hL0, rfl⟩ | hpl2; any_goals (obtain ⟨rfl, hLp, i1, i2, rfl, rfl, hd1, hd2⟩ := hpl2; obtain ⟨a, rfl, hc0, hc1⟩ := ints_two hI.out hLp hd1 hd2; have hLm : L.length ≤ 9223372036854775807 := Nat.le_trans hI.out.le hI.out.cap; clear hd1 hd2; generalize L.length = len at hLp hc0 hc1 hLm ⊢; have hl0 : ¬ len = 0 := by omega)))
    · go_returns
      exact ⟨rfl, H1.out⟩
    · go_returns
      exact ⟨rfl, H2'.out⟩
    · go_returns
      exact ⟨rfl, H3'.out⟩
    · go_returns
      exact ⟨rfl, H5.out⟩
    · go_returns
      exact ⟨rfl, H5.out⟩
  · clear hf hall
    go_enter Try.func3, Try.ntmps3
    go_wp2_with (first
      | (go_at_call 9; refine (fits_any _ _ _ _ _ _ _ _ _).mono ?_; rintro r w1 ⟨⟨bb, rfl, _⟩, hb1⟩; have K1 := (Blk.new w [.int .i64 k, .int .i64 m, .slice A n c, .slice B l e] 25).keep hb1 (by simp only [World.size_alloc]; omega); have H1 : Below w.heap.size w w1 := Below.trans (by go_grown) (hb1.mono (by simp only [World.size_alloc]; omega)); have H1 := Lib.hid H1; clear hb1; obtain ⟨x0, x1, x2, x3, _, _, _, _⟩ := K1.c4; have HK1 := Lib.hid K1; clear K1; cases bb)
      | (go_at_call 10; refine (hgl.out _ H1.out).mono ?_; rintro r w2 ⟨hgr, hb2⟩; have H2' := Lib.hid (H1.out.trans (hb2.mono H1.out.size)); clear x0 x1 x2 x3 hb2; rcases hgr with rfl | ⟨hk, _⟩; any_goals (exact absurd hk hk2)))
    · go_returns
      exact ⟨rfl, H1.out⟩
    · go_returns
      exact ⟨rfl, H2'.out⟩

namespace fnFirstLast
theorem own : ownKnob Try.prog.godebug = none := by kernel_rfl
theorem laidOut : laidOutB Try.prog = true := by kernel_rfl
set_option maxRecDepth 100000 in
theorem lifted (os : Os) (started : os.Started) (H : Type) (enc : TypeId × Value → H) :
    ReturnsInHanded {} Try.checked os 3 .any (Rows.fnFirstLastSpec.pre6 enc Try.prog Try.f3 Rows.fnFirstLastRow.domain false) (Rows.fnFirstLastSpec.post enc Try.prog Try.f3 false true false false) := by
  refine returnsInHanded_of_change (C := Try.checked) own started (by kernel_rfl) Try.func3
    (ChangeSpec.witness6 (enc := enc) (C := Try.checked) false ⟨#[], #[.agg #[.int .i64 0, .int .i64 0, .slice none 0 0, .slice none 0 0]], []⟩ 8 (by kernel_rfl) (by kernel_rfl) (by kernel_rfl) (by kernel_rfl)) ?_
  intro W base args ds gs before hval0 hW hcnd _
  have hval : ∀ (j : Nat) t v, Try.f3.params[j]? = some t → args[j]? = some v → Value.okWide Try.prog W .any base t v := hval0
  have hW' := hW
  obtain ⟨p, q, hA0, hV, rfl, hfz, hnd⟩ := hW
  have hA : DataW.TrodAll enc Try.prog W 0 (fun _ => true) true Try.f3.params.toList args.toList ds p := hA0
  rw [Try.params3] at hA hval
  obtain ⟨v0, vs0, d0, ds0, p0, q0, hargs, rfl, rfl, h0, r0⟩ := trodAll_cons hA
  obtain ⟨rfl, rfl, rfl⟩ := trodAll_nil r0
  obtain rfl : args = #[v0] := by cases args; simp_all
  obtain ⟨rfl, rfl⟩ := trodVars_none hV
  have k0 := h0
  have lt0 : ∀ x ∈ p0, x.block < W.heap.size := by obtain ⟨m, hm⟩ := k0; exact DataW.trod_lt m _ _ _ hm
  obtain ⟨d, hG⟩ := open_geom (hval 0 25 v0 rfl rfl) h0
  refine (flaw_walk d _ W hG).mono fun e W' ⟨he, bel⟩ => ?_
  subst he
  exact ⟨_, rfl, _, _, _, [], _, [], hW', trodAll_mk1 (shut_bool Try.underlying4 _), (trodAll_cons_mk (Below.trod laidOut (by kernel_rfl) (of_decide_eq_true (by kernel_rfl)) k0 bel lt0) trodAll_mk0), rfl, bel.frame _, fun h => by cases h⟩

theorem over : Rows.fnFirstLastRow.holds Try.pinned (OpenSpec.ofChange Rows.fnFirstLastSpec) :=
  OpenClaim.holds_of_wide 3 Try.f3 rfl rfl rfl rfl rfl rfl rfl ⟨rfl, rfl, rfl, rfl, rfl⟩ rfl rfl rfl rfl rfl (by kernel_rfl) Try.func3 (by kernel_rfl)
    (of_decide_eq_true (by kernel_rfl)) (by unfold Func.isWrapper; first | (rw [if_pos (by decide +kernel)]; kernel_rfl) | (rw [if_neg (by decide +kernel)]; exact ⟨rfl, rfl⟩))
    (fun os started H enc _ => lifted os started H enc)

theorem proved : Rows.FnFirstLastSaid := over
#print axioms proved
end fnFirstLast
end Go.Proofs.Ytpbllagjcdcnpaa
