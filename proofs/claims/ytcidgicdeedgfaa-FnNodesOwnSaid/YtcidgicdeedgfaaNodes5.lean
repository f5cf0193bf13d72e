/- For every unit and every list of places: within the ranges each place has a node that is an earlier place, or itself. No condition. -/
import Derived.Test.YtcidgicdeedgfaaNodes4
namespace Go.Proofs.Ytcidgicdeedgfaa
open Go.ChangeShapes Go.WideShapes Go.ChangeAt Go.RowKit
open Fl
set_option linter.unusedSimpArgs false
set_option linter.unusedVariables false
attribute [local go_sem] run_store_float run_fadd run_fsub run_fmul run_fdiv run_equalIn_float fmt64

def Cs (w w' : World) (a : Addr) : Prop := ∀ m, w'.cell? (a.add m) = w.cell? (a.add m)
set_option maxHeartbeats 4000000 in
theorem own_some (u n c : Nat) (a : Addr) (f : Nat → Nat × Nat) (w : World) (hb : 0 < n → a.block < w.heap.size) (hc : n ≤ c) (hm : c ≤ maxLen)
    (hp : ∀ i, i < n → w.cell? (a.add (i * 2)) = some (fw (f i).1) ∧ w.cell? (a.add (i * 2 + 1)) = some (fw (f i).2)) :
    Calls Try.prog 5 #[.float .f64 u, .slice (some a) n c] w fun e w' => e = .returned (.bool true) ∧ Below w.heap.size w w' := by
  have hp := Lib.hid hp
  by_cases hbig : 2147483647 < n
  · go_enter Try.func5, Try.ntmps5
    go_wp2_with fail
    go_returns
    exact ⟨rfl, by go_grown⟩
  cases h1 : (Ieee.double.order u 4427038433705197568 == some .gt || Ieee.double.order u 4427038433705197568 == some .eq)
  · go_enter Try.func5, Try.ntmps5
    go_wp2_with fail
    go_returns
    exact ⟨rfl, by go_grown⟩
  cases h2 : (Ieee.double.order u 4607182418800017408 == some .lt || Ieee.double.order u 4607182418800017408 == some .eq)
  · go_enter Try.func5, Try.ntmps5
    go_wp2_with fail
    go_returns
    exact ⟨rfl, by go_grown⟩
  by_cases hn : 200 < n
  · go_enter Try.func5, Try.ntmps5
    go_wp2_with fail
    go_returns
    exact ⟨rfl, by go_grown⟩
  have hu : unitIn u = true := by
    simp only [unitIn, geb', leb', h1, h2, Bool.and_self]
  have hu := Lib.hid hu
  go_enter Try.func5, Try.ntmps5
  go_wp2_with fail
  go_loopw [27] (fun i wr => ∃ k : Nat, k ≤ n ∧ i = .int .i64 (k : Int) ∧ Below w.heap.size w wr ∧ ∀ j, j < k → coordIn (f j).1 = true ∧ coordIn (f j).2 = true)
    (fun i _ => n - (intOf i).toNat)
  case atStart => exact ⟨0, Nat.zero_le _, rfl, by go_grown, fun j hj => by omega⟩
  case round =>
    obtain ⟨k, hk, rfl, H, hco⟩ := hrel
    have hco := Lib.hid hco
    have hzr := H.size
    by_cases hkn : k < n
    · obtain ⟨q1, q2⟩ := hp.out k hkn
      have p1 := (H.cell (p := a.add (k * 2)) (by rw [addBlk]; exact hb (by omega))).trans q1
      have p2 := (H.cell (p := a.add (k * 2 + 1)) (by rw [addBlk]; exact hb (by omega))).trans q2
      rw [addOne] at p2
      clear q1 q2
      cases c1 : (Ieee.double.order (f k).1 13920626448202203136 == some .gt || Ieee.double.order (f k).1 13920626448202203136 == some .eq)
      · go_wp2_with fail
        go_returns
        exact ⟨rfl, H.alloc H.size _⟩
      cases c2 : (Ieee.double.order (f k).1 4697254411347427328 == some .lt || Ieee.double.order (f k).1 4697254411347427328 == some .eq)
      · go_wp2_with fail
        go_returns
        exact ⟨rfl, H.alloc H.size _⟩
      cases c3 : (Ieee.double.order (f k).2 13920626448202203136 == some .gt || Ieee.double.order (f k).2 13920626448202203136 == some .eq)
      · go_wp2_with fail
        go_returns
        exact ⟨rfl, H.alloc H.size _⟩
      cases c4 : (Ieee.double.order (f k).2 4697254411347427328 == some .lt || Ieee.double.order (f k).2 4697254411347427328 == some .eq)
      · go_wp2_with fail
        go_returns
        exact ⟨rfl, H.alloc H.size _⟩
      go_wp2_with fail
      go_roundw
      case rel =>
        refine ⟨k + 1, by omega, by go_num, H.alloc H.size _, fun j hj => ?_⟩
        by_cases hjk : j = k
        · subst hjk
          simp only [coordIn, geb', leb', c1, c2, c3, c4, Bool.and_self, and_self]
        · exact hco.out j (by omega)
      case measure => simp [intOf]; omega
    · have : k = n := by omega
      subst this
      have hP : Places wr (.slice (some a) k c) k f := Or.inr ⟨a, c, rfl, hc, hm, fun h0 => by have := hb h0; omega, fun i hi => by
        obtain ⟨q1, q2⟩ := hp.out i hi
        exact ⟨(H.cell (p := a.add (i * 2)) (by rw [addBlk]; exact hb (by omega))).trans q1, (H.cell (p := a.add (i * 2 + 1)) (by rw [addBlk]; exact hb (by omega))).trans q2⟩⟩
      have hP := Lib.hid hP
      have hn' : k ≤ 200 := by omega
      go_wp2_with (go_at_call 15; refine (nodes_any _ _ _ f _ hu.out hco.out hn' hP.out).mono ?_; rintro e w2 ⟨b, g, rfl, B2, hg, H2⟩; have B2 := Lib.hid B2; have hg := Lib.hid hg; have hz2 := H2.size; have H2 := Lib.hid H2)
      have hbase : 0 < k → ∀ o, w2.cell? (a.add o) = w.cell? (a.add o) := fun h0 o => have hbk := hb h0; (H2.out.cell (by rw [addBlk]; omega)).trans (H.cell (by rw [addBlk]; omega))
      have hbase := Lib.hid hbase
      have Hend := H.trans (H2.out.mono H.size)
      have hzend := Hend.size
      have Hend := Lib.hid Hend
      go_loopw [61] (fun i wx => ∃ m : Nat, m ≤ k ∧ i = .int .i64 (m : Int) ∧ Below w2.heap.size w2 wx) (fun i _ => k - (intOf i).toNat)
      case atStart => exact ⟨0, Nat.zero_le _, rfl, Below.refl _ _⟩
      case round =>
        obtain ⟨m, hm', rfl, HX⟩ := hrel
        have hzx := HX.size
        by_cases hmk : m < k
        · have hbk := hb (by omega)
          have Bx := B2.out.keep HX B2.out.lt
          have p1 := (Bx.cell (m * 2)).trans (pairs_at hmk).1
          have p2 := (Bx.cell (m * 2 + 1)).trans (pairs_at hmk).2
          have hl := Bx.lt
          clear Bx
          obtain ⟨j, hj, hgj⟩ := hg.out m hmk
          have hfx := order_refl (coord_q (hco.out j (by omega)).1).1
          have hfy := order_refl (coord_q (hco.out j (by omega)).2).1
          have hex : ∃ j', j' < m + 1 ∧ f j' = ((g m).1, (g m).2) := ⟨j, by omega, hgj.symm⟩
          rw [← hgj] at hfx hfy
          have hfx := Lib.hid hfx
          have hfy := Lib.hid hfy
          have hex := Lib.hid hex
          clear hgj
          have hq : ∀ i, i < m + 1 → wr.cell? (a.add (i * 2)) = some (fw (f i).1) ∧ wr.cell? (a.add (i * 2 + 1)) = some (fw (f i).2) := fun i hi => by
            obtain ⟨q1, q2⟩ := hp.out i (by omega)
            exact ⟨((HX.cell (by rw [addBlk]; omega)).trans (hbase.out (by omega) _)).trans q1, ((HX.cell (by rw [addBlk]; omega)).trans (hbase.out (by omega) _)).trans q2⟩
          have hq1 : ∀ i, i < m + 1 → (wr.alloc (.cells #[fw (g m).1, fw (g m).2] 32)).cell? (a.add (i * 2)) = some (fw (f i).1) ∧ (wr.alloc (.cells #[fw (g m).1, fw (g m).2] 32)).cell? (a.add (i * 2 + 1)) = some (fw (f i).2) := fun i hi => by
            have hA := (Below.refl wr.heap.size wr).alloc (Nat.le_refl _) (.cells #[fw (g m).1, fw (g m).2] 32)
            exact ⟨(hA.cell (by rw [addBlk]; omega)).trans (hq i hi).1, (hA.cell (by rw [addBlk]; omega)).trans (hq i hi).2⟩
          clear hq
          have hq := Lib.hid hq1
          clear hq1
          go_wp2_with fail
          have hwr : IntKind.i64.wrap ((m : Int) + 1) = (m : Int) + 1 := by rw [IntKind.wrap_i64]; omega
          have hge : (0 : Int) ≤ (m : Int) + 1 := by omega
          have hle : (m : Int) + 1 ≤ (c : Int) := by omega
          have htn : ((m : Int) + 1).toNat = m + 1 := by omega
          refine Reg.beginB (ops := regAt Try.f5 17) 7 (by kernel_rfl) (by kernel_rfl) (fun wr hS hB hzu2 => ?_)
          have hC := hS
          refine' Reg.val (o := { dst := some 66, op := Op.move (Operand.tmp 1), type := 39, pos := "cut.go:39", after := #[], guard := none }) 0 _ (by rfl) (by kernel_rfl) (by rfl) hC ?hvu2_0 ?_
          case hvu2_0 => intro W _; go_simp <;> (with_reducible rfl)
          simp only [Act.put, List.setIfInBounds_toArray, List.set_cons_zero, List.set_cons_succ]
          refine' Reg.val (o := { dst := some 67, op := Op.move (Operand.tmp 8), type := 3, pos := "cut.go:39", after := #[], guard := none }) 1 _ (by rfl) (by kernel_rfl) (by rfl) hC ?hvu2_1 ?_
          case hvu2_1 => intro W _; go_simp <;> (with_reducible rfl)
          simp only [Act.put, List.setIfInBounds_toArray, List.set_cons_zero, List.set_cons_succ]
          refine' Reg.val (o := { dst := some 68, op := Op.binOp BinOp.add 3 (Operand.tmp 67) (Operand.const (Value.int IntKind.i64 1)) 3, type := 3, pos := "cut.go:39", after := #[{ on := 1, ground := Ground.data }], guard := none }) 2 _ (by rfl) (by kernel_rfl) (by rfl) hC ?hvu2_2 ?_
          case hvu2_2 => intro W hW; obtain ⟨hcW, hfW⟩ := bcell hW; go_simp <;> (with_reducible rfl)
          simp only [Act.put, List.setIfInBounds_toArray, List.set_cons_zero, List.set_cons_succ]
          refine' Reg.val (o := { dst := some 69, op := Op.slice 39 (Operand.tmp 66) none (some (Operand.tmp 68)) none, type := 39, pos := "cut.go:39", after := #[{ on := 0, ground := Ground.data }, { on := 2, ground := Ground.data }], guard := none }) 3 _ (by rfl) (by kernel_rfl) (by rfl) hC ?hvu2_3 ?_
          case hvu2_3 => intro W hW; obtain ⟨hcW, hfW⟩ := bcell hW; go_simp <;> (with_reducible rfl)
          simp only [Act.put, List.setIfInBounds_toArray, List.set_cons_zero, List.set_cons_succ]
          refine' Reg.val (o := { dst := some 70, op := Op.load 32 (Operand.tmp 9), type := 32, pos := "cut.go:39", after := #[], guard := none }) 4 _ (by rfl) (by kernel_rfl) (by rfl) hC ?hvu2_4 ?_
          case hvu2_4 => intro W hW; obtain ⟨hcW, hfW⟩ := bcell hW; go_simp <;> (with_reducible rfl)
          simp only [Act.put, List.setIfInBounds_toArray, List.set_cons_zero, List.set_cons_succ]
          refine Reg.one (o := { dst := some 71, op := Op.call { callee := Callee.value (Operand.func 16), args := #[Operand.tmp 69, Operand.tmp 70], argTypes := #[39, 32] }, type := 4, pos := "cut.go:39", after := #[{ on := 3, ground := Ground.data }, { on := 4, ground := Ground.data }], guard := none }) 5 (by rfl) (by kernel_rfl) (by rfl)  (fun K Q' hK => ?_)
          go_simp
          refine (has_some a (m + 1) c _ _ f _ (by omega) (by have := hS.size; rw [World.size_alloc] at this; omega) (by omega) hm (fun i hi => ⟨(hS.cell (by rw [addBlk, World.size_alloc]; omega)).trans (hq.out i hi).1, (hS.cell (by rw [addBlk, World.size_alloc]; omega)).trans (hq.out i hi).2⟩) hfx.out hfy.out hex.out).mono ?_
          rintro e w5 ⟨rfl, hb5⟩
          replace hS := Below.trans hS (hb5.mono hB)
          replace hB := Nat.le_trans hB hb5.size
          clear hC
          refine hK _ _ hS (fun hC => ?_)
          clear hK K
          refine' Reg.val (o := { dst := some 72, op := Op.unOp UnOp.not 4 (Operand.tmp 71), type := 4, pos := "cut.go:39", after := #[{ on := 5, ground := Ground.data }], guard := none }) 6 _ (by rfl) (by kernel_rfl) (by rfl) hC ?hvu2_6 ?_
          case hvu2_6 => intro W _; go_simp <;> (with_reducible rfl)
          simp only [Act.put, List.setIfInBounds_toArray, List.set_cons_zero, List.set_cons_succ]
          refine Reg.end_ (by kernel_rfl) ?_
          have hR := hS
          obtain ⟨hcS, hfS⟩ := bcell hS
          (try simp only [World.size_alloc, World.size_setCell, World.size_drew] at hcS hfS)
          go_wp2_with fail
          go_roundw
          case rel => exact ⟨m + 1, by omega, by go_num, (HX.alloc HX.size _).trans (hS.mono (by rw [World.size_alloc]; omega))⟩
          case measure => simp [intOf]; omega
        · have : m = k := by omega
          subst this
          go_wp2_with fail
          go_returns
          exact ⟨rfl, Hend.out.trans (HX.mono hzend)⟩

set_option maxHeartbeats 4000000 in
theorem own_nil (u : Nat) (w : World) :
    Calls Try.prog 5 #[.float .f64 u, .slice none 0 0] w fun e w' => e = .returned (.bool true) ∧ Below w.heap.size w w' := by
  cases h1 : (Ieee.double.order u 4427038433705197568 == some .gt || Ieee.double.order u 4427038433705197568 == some .eq)
  · go_enter Try.func5, Try.ntmps5
    go_wp2_with fail
    go_returns
    exact ⟨rfl, by go_grown⟩
  cases h2 : (Ieee.double.order u 4607182418800017408 == some .lt || Ieee.double.order u 4607182418800017408 == some .eq)
  · go_enter Try.func5, Try.ntmps5
    go_wp2_with fail
    go_returns
    exact ⟨rfl, by go_grown⟩
  have hu : unitIn u = true := by
    simp only [unitIn, geb', leb', h1, h2, Bool.and_self]
  have hu := Lib.hid hu
  have hP : ∀ W : World, Places W (.slice none 0 0) 0 (fun _ => (0, 0)) := fun W => Or.inl ⟨rfl, rfl⟩
  have hP := Lib.hid hP
  go_enter Try.func5, Try.ntmps5
  go_wp2_with fail
  go_loopw [27] (fun i wr => i = .int .i64 0 ∧ Below w.heap.size w wr) (fun i _ => 0)
  case atStart => exact ⟨rfl, by go_grown⟩
  case round =>
    obtain ⟨rfl, H⟩ := hrel
    go_wp2_with (go_at_call 15; refine (nodes_any _ 0 _ (fun _ => (0, 0)) _ hu.out (fun i hi => by omega) (by omega) (hP.out _)).mono ?_; rintro e w2 ⟨b, g, rfl, B2, hg, H2⟩; have B2 := Lib.hid B2; have hg := Lib.hid hg; have hz2 := H2.size; have H2 := Lib.hid H2)
    have Hend := H.trans (H2.out.mono H.size)
    have hzend := Hend.size
    have Hend := Lib.hid Hend
    go_loopw [61] (fun i wx => i = .int .i64 0 ∧ Below w2.heap.size w2 wx) (fun i _ => 0)
    case atStart => exact ⟨rfl, Below.refl _ _⟩
    case round =>
      obtain ⟨rfl, HX⟩ := hrel
      go_wp2_with fail
      go_returns
      exact ⟨rfl, Hend.out.trans (HX.mono hzend)⟩
theorem own_walk (u n : Nat) (v : Value) (f : Nat → Nat × Nat) (w : World) (hP : Places w v n f) :
    Calls Try.prog 5 #[.float .f64 u, v] w fun e w' => e = .returned (.bool true) ∧ Below w.heap.size w w' := by
  rcases hP with ⟨rfl, rfl⟩ | ⟨a, c, rfl, h1, h2, h3, h4⟩
  · exact own_nil u w
  · exact own_some u n c a f w h3 h1 h2 h4

namespace fnNodesOwn
theorem own : ownKnob Try.prog.godebug = none := by kernel_rfl
theorem laidOut : laidOutB Try.prog = true := by kernel_rfl
set_option maxRecDepth 100000 in
theorem lifted (os : Os) (started : os.Started) (H : Type) (enc : TypeId × Value → H) :
    ReturnsInHanded {} Try.checked os 5 .any (Rows.fnNodesOwnSpec.pre6 enc Try.prog Try.f5 Rows.fnNodesOwnRow.domain false) (Rows.fnNodesOwnSpec.post enc Try.prog Try.f5 false true false false) := by
  refine returnsInHanded_of_change (C := Try.checked) own started (by kernel_rfl) Try.func5
    (ChangeSpec.witness6 (enc := enc) (C := Try.checked) false ⟨#[], #[.float .f64 0, .slice none 0 0], []⟩ 8 (by kernel_rfl) (by kernel_rfl) (by kernel_rfl) (by kernel_rfl)) ?_
  intro W base args ds gs before hval0 hW hcnd _
  have hval : ∀ (j : Nat) t v, Try.f5.params[j]? = some t → args[j]? = some v → Value.okWide Try.prog W .any base t v := hval0
  have hW' := hW
  obtain ⟨p, q, hA0, hV, rfl, hfz, hnd⟩ := hW
  have hA : DataW.TrodAll enc Try.prog W 0 (fun _ => true) true Try.f5.params.toList args.toList ds p := hA0
  rw [Try.params5] at hA hval
  obtain ⟨v0, vs0, d0, ds0, p0, q0, hargs, rfl, rfl, h0, r0⟩ := trodAll_cons hA
  obtain ⟨v1, vs1, d1, ds1, p1, q1, rfl, rfl, rfl, h1, r1⟩ := trodAll_cons r0
  obtain ⟨rfl, rfl, rfl⟩ := trodAll_nil r1
  obtain rfl : args = #[v0, v1] := by cases args; simp_all
  obtain ⟨rfl, rfl⟩ := trodVars_none hV
  have k0 := h0
  have lt0 : ∀ x ∈ p0, x.block < W.heap.size := by obtain ⟨m, hm⟩ := k0; exact DataW.trod_lt m _ _ _ hm
  have k1 := h1
  have lt1 : ∀ x ∈ p1, x.block < W.heap.size := by obtain ⟨m, hm⟩ := k1; exact DataW.trod_lt m _ _ _ hm
  obtain ⟨u, rfl, _, _, w0⟩ := open_float Try.underlying22 (hval 0 22 v0 rfl rfl) h0
  obtain ⟨n, f, hP⟩ := open_places Try.underlying39 Try.underlying32 (by kernel_rfl) (by kernel_rfl) (by kernel_rfl) (by kernel_rfl) (by kernel_rfl) Try.underlying22 Try.underlying22 (hval 1 39 v1 rfl rfl) h1
  refine (own_walk u n _ f W hP).mono fun e W' ⟨he, bel⟩ => ?_
  subst he
  exact ⟨_, rfl, _, _, _, [], _, [], hW', trodAll_mk1 (shut_bool Try.underlying4 _), (trodAll_cons_mk (Below.trod laidOut (by kernel_rfl) (of_decide_eq_true (by kernel_rfl)) k0 bel lt0) (trodAll_cons_mk (Below.trod laidOut (by kernel_rfl) (of_decide_eq_true (by kernel_rfl)) k1 bel lt1) trodAll_mk0)), rfl, bel.frame _, fun h => by cases h⟩

theorem over : Rows.fnNodesOwnRow.holds Try.pinned (OpenSpec.ofChange Rows.fnNodesOwnSpec) :=
  OpenClaim.holds_of_wide 5 Try.f5 rfl rfl rfl rfl rfl rfl rfl ⟨rfl, rfl, rfl, rfl, rfl⟩ rfl rfl rfl rfl rfl (by kernel_rfl) Try.func5 (by kernel_rfl)
    (of_decide_eq_true (by kernel_rfl)) (by unfold Func.isWrapper; first | (rw [if_pos (by decide +kernel)]; kernel_rfl) | (rw [if_neg (by decide +kernel)]; exact ⟨rfl, rfl⟩))
    (fun os started H enc _ => lifted os started H enc)

theorem proved : Rows.FnNodesOwnSaid := over
#print axioms proved
end fnNodesOwn
end Go.Proofs.Ytcidgicdeedgfaa
