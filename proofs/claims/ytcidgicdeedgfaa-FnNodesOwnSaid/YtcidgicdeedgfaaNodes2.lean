/- Inserting a place into a set of nodes: the place that comes back is one that the map held, or the place itself. -/
import Derived.Test.YtcidgicdeedgfaaNodes
import Derived.Test.YtcidgicdeedgfaaRegion
namespace Go.Proofs.Ytcidgicdeedgfaa
open Go.ChangeShapes Go.WideShapes Go.ChangeAt Go.RowKit
open Fl
set_option linter.unusedSimpArgs false
set_option linter.unusedVariables false
attribute [local go_sem] run_store_float run_fadd run_fsub run_fmul run_fdiv run_equalIn_float fmt64
open Go.WideMaps (KeyLaw)

theorem arch_floor (args : Array Value) (w : World) : (callFunc 54 args).run Try.prog w = (((Extern.MathFloor.toIntegral "math.archFloor" .down) args).run Try.prog w).andThen fun v w' => .ok (.value v) w' :=
  run_callFunc_extern Try.func54 (by kernel_rfl) (by kernel_rfl) (by kernel_rfl) (by kernel_rfl) args w
theorem floor_num' (x : Nat) (h : isNan x = false) (w : World) : (callFunc 54 #[.float .f64 x]).run Try.prog w = .ok (.value (.float .f64 (floorW x))) w := by
  rw [arch_floor]
  unfold floorW
  unfold isNan at h
  show (Sem.run Try.prog (match dec x with | .nan s t => _ | d => _) w).andThen _ = _
  cases hd : dec x with
  | nan s t => rw [hd] at h; simp [Ieee.Datum.isNaN] at h
  | infinity s => rfl
  | number s m e => rfl
theorem floor_any (x : Nat) (h : isNan x = false) (w : World) :
    Calls Try.prog 49 #[.float .f64 x] w fun e w' => e = .returned (.float .f64 (floorW x)) ∧ Below w.heap.size w w' := by
  have ha := floor_num' x h
  go_enter Try.func49, Try.ntmps49
  go_wp2
  go_returns
  exact ⟨rfl, Below.refl _ _⟩
/-- x over the bucket's width u falls into bucket n -/
def Bkt (u x : Nat) (n : Int) : Prop := Ieee.double.div x u = some (fdiv x u) ∧ isNan (fdiv x u) = false ∧ floatToIntVal .f64 (floorW (fdiv x u)) .i64 = some n ∧ n.natAbs ≤ 2 ^ 53
theorem conv_int (x : Nat) (n : Int) (w : World) (h : floatToIntVal .f64 x .i64 = some n) : (convert 22 3 (.float .f64 x)).run Try.prog w = .ok (.int .i64 n) w :=
  run_convert_float_int w 22 3 .f64 .i64 x n (by kernel_rfl) Try.underlying3 h

theorem bucket_law : KeyLaw Try.prog 83 := deep_law (m := 3) (by omega) (by kernel_rfl) (by kernel_rfl) (by kernel_rfl)
theorem bucket_key (a b : Int) (ha : a.natAbs ≤ 2 ^ 53 + 1) (hb : b.natAbs ≤ 2 ^ 53 + 1) : ∃ l, keyOf Try.prog 83 (.agg #[.int .i64 a, .int .i64 b]) = some l := by
  have hu := Try.underlying83
  have hi := Try.underlying3
  have hk : Try.prog.keyType 83 = true := by kernel_rfl
  have hc : Try.prog.cellsOf 83 = 2 := by kernel_rfl
  have hc1 : Try.prog.cellsOf 3 = 1 := by kernel_rfl
  have wa : (Lit.int .i64 a).wf = true := WalkArith.wf_i64 (by omega)
  have wb : (Lit.int .i64 b).wf = true := WalkArith.wf_i64 (by omega)
  have hl : ∃ L, Try.prog.keyLits (Try.prog.types.size + 1) 83 [.int .i64 a, .int .i64 b] = some L := by
    have h0 : decide (0 < Try.prog.types.size) = true := by kernel_rfl
    have h0 := of_decide_eq_true h0
    obtain ⟨d, hd⟩ : ∃ d, Try.prog.types.size = d + 1 := ⟨Try.prog.types.size - 1, by omega⟩
    rw [hd]
    simp [Program.keyLits, hu, hi, hc, hc1, wa, wb, List.mapM_cons, List.mapM_nil]
  have hf : (Value.agg #[.int .i64 a, .int .i64 b]).formed Try.prog 83 = true := by
    simp only [Value.formed, hu, hc]
    rfl
  obtain ⟨L, hl⟩ := hl
  refine ⟨.string (keyBytes L), ?_⟩
  unfold keyOf
  rw [hu]
  simp only [hk, hf, Bool.and_self, if_true]
  show (Try.prog.keyLits (Try.prog.types.size + 1) 83 [.int .i64 a, .int .i64 b]).map _ = _
  rw [hl]
  rfl
theorem array_at (n m : Int) (hn : n.natAbs ≤ 2 ^ 53) (hm : m.natAbs ≤ 2 ^ 53) (k : Nat) (hk : k < 9) : ∃ a b : Int, a.natAbs ≤ 2 ^ 53 + 1 ∧ b.natAbs ≤ 2 ^ 53 + 1 ∧
    ∀ W, (Instr.index 84 (.agg #[.int .i64 n, .int .i64 m, .int .i64 (n - 1), .int .i64 (m - 1), .int .i64 (n - 1), .int .i64 m, .int .i64 (n - 1), .int .i64 (m + 1), .int .i64 n, .int .i64 (m - 1), .int .i64 n, .int .i64 (m + 1),
      .int .i64 (n + 1), .int .i64 (m - 1), .int .i64 (n + 1), .int .i64 m, .int .i64 (n + 1), .int .i64 (m + 1)]) (.int .i64 k)).run Try.prog W = .ok (.agg #[.int .i64 a, .int .i64 b]) W := by
  have : k = 0 ∨ k = 1 ∨ k = 2 ∨ k = 3 ∨ k = 4 ∨ k = 5 ∨ k = 6 ∨ k = 7 ∨ k = 8 := by omega
  rcases this with rfl | rfl | rfl | rfl | rfl | rfl | rfl | rfl | rfl
  · exact ⟨n, m, by omega, by omega, fun W => by simp [Instr.index, run_underlying Try.underlying84, go_sem]⟩
  · exact ⟨n - 1, m - 1, by omega, by omega, fun W => by simp [Instr.index, run_underlying Try.underlying84, go_sem]⟩
  · exact ⟨n - 1, m, by omega, by omega, fun W => by simp [Instr.index, run_underlying Try.underlying84, go_sem]⟩
  · exact ⟨n - 1, m + 1, by omega, by omega, fun W => by simp [Instr.index, run_underlying Try.underlying84, go_sem]⟩
  · exact ⟨n, m - 1, by omega, by omega, fun W => by simp [Instr.index, run_underlying Try.underlying84, go_sem]⟩
  · exact ⟨n, m + 1, by omega, by omega, fun W => by simp [Instr.index, run_underlying Try.underlying84, go_sem]⟩
  · exact ⟨n + 1, m - 1, by omega, by omega, fun W => by simp [Instr.index, run_underlying Try.underlying84, go_sem]⟩
  · exact ⟨n + 1, m, by omega, by omega, fun W => by simp [Instr.index, run_underlying Try.underlying84, go_sem]⟩
  · exact ⟨n + 1, m + 1, by omega, by omega, fun W => by simp [Instr.index, run_underlying Try.underlying84, go_sem]⟩
theorem zeroXY (W : World) : (zeroValue 52).run Try.prog W = .ok (.agg #[fw 0, fw 0]) W := by
  go_simp
def NV (C : Nat → Nat → Prop) : Value → Prop := fun v => ∃ p q, v = .agg #[fw p, fw q] ∧ C p q

set_option maxHeartbeats 4000000 in
set_option maxRecDepth 20000 in
theorem insert_any (u x y mb : Nat) (C : Nat → Nat → Prop) (n m : Int) (w : World) (hM : MapV Try.prog 83 (NV C) w mb) (hx : Bkt u x n) (hy : Bkt u y m) (hC : C x y) :
    Calls Try.prog 44 #[.agg #[.float .f64 u, .map (some mb)], .agg #[.float .f64 x, .float .f64 y]] w fun e w' => (∃ p q, e = .returned (.agg #[fw p, fw q]) ∧ C p q) ∧
      MapV Try.prog 83 (NV C) w' mb ∧ w.heap.size ≤ w'.heap.size ∧ Below mb w w' ∧ ∀ r, r < w.heap.size → r ≠ mb → w'.heap[r]? = w.heap[r]? := by
  obtain ⟨d1, d2, d3, d4⟩ := hx
  obtain ⟨e1, e2, e3, e4⟩ := hy
  have t1 := fun W => conv_int _ _ W d3
  have t2 := fun W => conv_int _ _ W e3
  have hmb := hM.lt
  have HM := Lib.hid hM
  clear hM d3 e3
  have d4 := Lib.hid d4
  have e4 := Lib.hid e4
  have hC := Lib.hid hC
  go_enter Try.func44, Try.ntmps44
  go_wp2_with fail
  go_cut [5] (fun s5 wx => ∃ g : Nat, s5 = .pointer (some ⟨g, 0, none⟩) ∧ wx.cell? ⟨g, 0, none⟩ = some (.int .i64 n) ∧ wx.cell? ⟨g, 1, none⟩ = some (.int .i64 m) ∧ Below (((w.alloc (.cells #[.float .f64 u, .map (some mb)] 76)).alloc (.cells #[.float .f64 x, .float .f64 y] 52)).alloc (.cells #[.float .f64 0, .float .f64 0] 52)).heap.size (((w.alloc (.cells #[.float .f64 u, .map (some mb)] 76)).alloc (.cells #[.float .f64 x, .float .f64 y] 52)).alloc (.cells #[.float .f64 0, .float .f64 0] 52)) wx)
  case first =>
    refine Reg.beginB (ops := regAt Try.f44 1) 17 (by kernel_rfl) (by kernel_rfl) (fun wr hS hB hzu1 => ?_)
    have hC := hS
    refine' Reg.val (o := { dst := some 10, op := Op.fieldAddr 52 (Operand.tmp 3) 0, type := 0, pos := "dcel_node_set.go:30", after := #[], guard := none }) 0 _ (by rfl) (by kernel_rfl) (by rfl) hC ?hvu1_0 ?_
    case hvu1_0 => intro W hW; obtain ⟨hcW, hfW⟩ := bcell hW; go_simp <;> (with_reducible rfl)
    simp only [Act.put, List.setIfInBounds_toArray, List.set_cons_zero, List.set_cons_succ]
    refine' Reg.val (o := { dst := some 11, op := Op.load 22 (Operand.tmp 10), type := 22, pos := "dcel_node_set.go:30", after := #[{ on := 0, ground := Ground.data }], guard := none }) 1 _ (by rfl) (by kernel_rfl) (by rfl) hC ?hvu1_1 ?_
    case hvu1_1 => intro W hW; obtain ⟨hcW, hfW⟩ := bcell hW; go_simp <;> (with_reducible rfl)
    simp only [Act.put, List.setIfInBounds_toArray, List.set_cons_zero, List.set_cons_succ]
    refine' Reg.val (o := { dst := some 12, op := Op.fieldAddr 76 (Operand.tmp 2) 0, type := 0, pos := "dcel_node_set.go:30", after := #[], guard := none }) 2 _ (by rfl) (by kernel_rfl) (by rfl) hC ?hvu1_2 ?_
    case hvu1_2 => intro W hW; obtain ⟨hcW, hfW⟩ := bcell hW; go_simp <;> (with_reducible rfl)
    simp only [Act.put, List.setIfInBounds_toArray, List.set_cons_zero, List.set_cons_succ]
    refine' Reg.val (o := { dst := some 13, op := Op.load 22 (Operand.tmp 12), type := 22, pos := "dcel_node_set.go:30", after := #[{ on := 2, ground := Ground.data }], guard := none }) 3 _ (by rfl) (by kernel_rfl) (by rfl) hC ?hvu1_3 ?_
    case hvu1_3 => intro W hW; obtain ⟨hcW, hfW⟩ := bcell hW; go_simp <;> (with_reducible rfl)
    simp only [Act.put, List.setIfInBounds_toArray, List.set_cons_zero, List.set_cons_succ]
    refine' Reg.val (o := { dst := some 14, op := Op.binOp BinOp.quo 22 (Operand.tmp 11) (Operand.tmp 13) 22, type := 22, pos := "dcel_node_set.go:30", after := #[{ on := 1, ground := Ground.data }, { on := 3, ground := Ground.data }], guard := none }) 4 _ (by rfl) (by kernel_rfl) (by rfl) hC ?hvu1_4 ?_
    case hvu1_4 => intro W hW; obtain ⟨hcW, hfW⟩ := bcell hW; go_simp <;> (with_reducible rfl)
    simp only [Act.put, List.setIfInBounds_toArray, List.set_cons_zero, List.set_cons_succ]
    refine' Reg.val (o := { dst := some 17, op := Op.fieldAddr 52 (Operand.tmp 3) 1, type := 0, pos := "dcel_node_set.go:30", after := #[], guard := none }) 7 _ (by rfl) (by kernel_rfl) (by rfl) hC ?hvu1_7 ?_
    case hvu1_7 => intro W hW; obtain ⟨hcW, hfW⟩ := bcell hW; go_simp <;> (with_reducible rfl)
    simp only [Act.put, List.setIfInBounds_toArray, List.set_cons_zero, List.set_cons_succ]
    refine' Reg.val (o := { dst := some 18, op := Op.load 22 (Operand.tmp 17), type := 22, pos := "dcel_node_set.go:30", after := #[{ on := 7, ground := Ground.data }], guard := none }) 8 _ (by rfl) (by kernel_rfl) (by rfl) hC ?hvu1_8 ?_
    case hvu1_8 => intro W hW; obtain ⟨hcW, hfW⟩ := bcell hW; go_simp <;> (with_reducible rfl)
    simp only [Act.put, List.setIfInBounds_toArray, List.set_cons_zero, List.set_cons_succ]
    refine' Reg.val (o := { dst := some 19, op := Op.fieldAddr 76 (Operand.tmp 2) 0, type := 0, pos := "dcel_node_set.go:30", after := #[], guard := none }) 9 _ (by rfl) (by kernel_rfl) (by rfl) hC ?hvu1_9 ?_
    case hvu1_9 => intro W hW; obtain ⟨hcW, hfW⟩ := bcell hW; go_simp <;> (with_reducible rfl)
    simp only [Act.put, List.setIfInBounds_toArray, List.set_cons_zero, List.set_cons_succ]
    refine' Reg.val (o := { dst := some 20, op := Op.load 22 (Operand.tmp 19), type := 22, pos := "dcel_node_set.go:30", after := #[{ on := 9, ground := Ground.data }], guard := none }) 10 _ (by rfl) (by kernel_rfl) (by rfl) hC ?hvu1_10 ?_
    case hvu1_10 => intro W hW; obtain ⟨hcW, hfW⟩ := bcell hW; go_simp <;> (with_reducible rfl)
    simp only [Act.put, List.setIfInBounds_toArray, List.set_cons_zero, List.set_cons_succ]
    refine' Reg.val (o := { dst := some 21, op := Op.binOp BinOp.quo 22 (Operand.tmp 18) (Operand.tmp 20) 22, type := 22, pos := "dcel_node_set.go:30", after := #[{ on := 8, ground := Ground.data }, { on := 10, ground := Ground.data }], guard := none }) 11 _ (by rfl) (by kernel_rfl) (by rfl) hC ?hvu1_11 ?_
    case hvu1_11 => intro W hW; obtain ⟨hcW, hfW⟩ := bcell hW; go_simp <;> (with_reducible rfl)
    simp only [Act.put, List.setIfInBounds_toArray, List.set_cons_zero, List.set_cons_succ]
    refine Reg.two 5 15 (by kernel_rfl) ?_ ?_
    · refine Step1.one (o := { dst := some 15, op := Op.call { callee := Callee.value (Operand.func 49), args := #[Operand.tmp 14], argTypes := #[22] }, type := 22, pos := "dcel_node_set.go:31", after := #[{ on := 4, ground := Ground.data }], guard := none }) (by rfl) (by rfl)  (fun K Q' hK => ?_)
      go_simp
      first | (refine (floor_any _ d2 _).mono ?_) | (refine (floor_any _ e2 _).mono ?_)
      rintro e w5 ⟨rfl, hb5⟩
      replace hS := Below.trans hS (hb5.mono hB)
      replace hB := Nat.le_trans hB hb5.size
      clear hC
      refine hK _ _ hS (fun hC => ?_)
      clear hK K
      refine' Reg.val (o := { dst := some 16, op := Op.convert 22 3 (Operand.tmp 15), type := 3, pos := "dcel_node_set.go:30", after := #[{ on := 5, ground := Ground.data }], guard := none }) 6 _ (by rfl) (by kernel_rfl) (by rfl) hC ?hvu1a_6 ?_
      case hvu1a_6 => intro W hW; obtain ⟨hcW, hfW⟩ := bcell hW; go_simp <;> (with_reducible rfl)
      simp only [Act.put, List.setIfInBounds_toArray, List.set_cons_zero, List.set_cons_succ]
      refine Reg.two 12 15 (by kernel_rfl) ?_ ?_
      · refine Step1.one (o := { dst := some 22, op := Op.call { callee := Callee.value (Operand.func 49), args := #[Operand.tmp 21], argTypes := #[22] }, type := 22, pos := "dcel_node_set.go:32", after := #[{ on := 11, ground := Ground.data }, { on := 5, ground := Ground.chain }], guard := none }) (by rfl) (by rfl)  (fun K Q' hK => ?_)
        go_simp
        first | (refine (floor_any _ d2 _).mono ?_) | (refine (floor_any _ e2 _).mono ?_)
        rintro e w12 ⟨rfl, hb12⟩
        replace hS := Below.trans hS (hb12.mono hB)
        replace hB := Nat.le_trans hB hb12.size
        clear hC
        refine hK _ _ hS (fun hC => ?_)
        clear hK K
        refine' Reg.val (o := { dst := some 23, op := Op.convert 22 3 (Operand.tmp 22), type := 3, pos := "dcel_node_set.go:30", after := #[{ on := 12, ground := Ground.data }], guard := none }) 13 _ (by rfl) (by kernel_rfl) (by rfl) hC ?hvu1aa_13 ?_
        case hvu1aa_13 => intro W hW; obtain ⟨hcW, hfW⟩ := bcell hW; go_simp <;> (with_reducible rfl)
        simp only [Act.put, List.setIfInBounds_toArray, List.set_cons_zero, List.set_cons_succ]
        refine' Reg.val (o := { dst := some 24, op := Op.build 83 #[(0, Operand.tmp 16), (1, Operand.tmp 23)], type := 83, pos := "dcel_node_set.go:30", after := #[{ on := 6, ground := Ground.data }, { on := 13, ground := Ground.data }], guard := none }) 14 _ (by rfl) (by kernel_rfl) (by rfl) hC ?hvu1aa_14 ?_
        case hvu1aa_14 => intro W hW; obtain ⟨hcW, hfW⟩ := bcell hW; go_simp <;> (with_reducible rfl)
        simp only [Act.put, List.setIfInBounds_toArray, List.set_cons_zero, List.set_cons_succ]
        refine Reg.new (o := { dst := some 5, op := Op.alloc 83, type := 0, pos := "dcel_node_set.go:30", after := #[], guard := none }) 15 (by rfl) (by kernel_rfl) (by rfl) (fun _ hb => (Below.trans hS (hb.mono hB))) (fun K Q' hK => ?_)
        go_simp
        refine hK _ _ (by go_grown) ?_
        clear hK K
        clear hC
        intro hb hN15 hC
        have hBN15 := hB
        have hSb15 := hS
        replace hS := Below.trans hS (hb.mono hB)
        replace hB := Nat.le_trans hB hb.size
        clear hb
        refine Reg.one (o := { dst := none, op := Op.store 83 (Operand.tmp 5) (Operand.tmp 24), type := 0, pos := "dcel_node_set.go:30", after := #[{ on := 15, ground := Ground.data }, { on := 14, ground := Ground.data }, { on := 12, ground := Ground.chain }, { on := 0, ground := Ground.phase }, { on := 1, ground := Ground.phase }, { on := 2, ground := Ground.phase }, { on := 3, ground := Ground.phase }, { on := 4, ground := Ground.phase }, { on := 5, ground := Ground.phase }, { on := 6, ground := Ground.phase }, { on := 7, ground := Ground.phase }, { on := 8, ground := Ground.phase }, { on := 9, ground := Ground.phase }, { on := 10, ground := Ground.phase }, { on := 11, ground := Ground.phase }, { on := 12, ground := Ground.phase }, { on := 13, ground := Ground.phase }, { on := 14, ground := Ground.phase }, { on := 15, ground := Ground.phase }], guard := none }) 16 (by rfl) (by kernel_rfl) (by rfl)  (fun K Q' hK => ?_)
        obtain ⟨hcR, hfR⟩ := bcell hS
        obtain ⟨hcN15, hfN15⟩ := bcell hN15
        (try simp only [World.size_alloc, World.size_setCell, World.size_drew] at hcN15 hfN15)
        go_simp
        refine hK _ _ (by repeat (first | exact hS | assumption | exact But.of_below rfl hS | exact hC | refine But.setCell ?_ (by simp) _ | refine Below.setCell ?_ ?_ _ | refine Below.alloc ?_ ?_ _ | go_size)) (fun hC' => ?_)
        clear hK K
        clear hC
        have hC := hC'
        clear hC'
        refine Reg.end_ (by kernel_rfl) ?_
        have hR := hS
        obtain ⟨hcS, hfS⟩ := bcell hS
        (try simp only [World.size_alloc, World.size_setCell, World.size_drew] at hcS hfS)
        (go_wp2_with fail; go_meet; refine ⟨_, rfl, ?_, ?_, ?_⟩; all_goals first | (go_simp; done) | (repeat (first | exact hS | exact hR | refine Below.setCell ?_ ?_ _ | refine Below.alloc ?_ ?_ _ | (simp only [World.size_alloc] at *; omega))))
      · refine Step1.new (o := { dst := some 5, op := Op.alloc 83, type := 0, pos := "dcel_node_set.go:30", after := #[], guard := none }) (by rfl) (by rfl) (fun _ hb => (Below.trans hS (hb.mono hB))) (fun K Q' hK => ?_)
        go_simp
        refine hK _ _ (by go_grown) ?_
        clear hK K
        clear hC
        intro hb hN15 hC
        have hBN15 := hB
        have hSb15 := hS
        replace hS := Below.trans hS (hb.mono hB)
        replace hB := Nat.le_trans hB hb.size
        clear hb
        refine Reg.one (o := { dst := some 22, op := Op.call { callee := Callee.value (Operand.func 49), args := #[Operand.tmp 21], argTypes := #[22] }, type := 22, pos := "dcel_node_set.go:32", after := #[{ on := 11, ground := Ground.data }, { on := 5, ground := Ground.chain }], guard := none }) 12 (by rfl) (by kernel_rfl) (by rfl)  (fun K Q' hK => ?_)
        go_simp
        first | (refine (floor_any _ d2 _).mono ?_) | (refine (floor_any _ e2 _).mono ?_)
        rintro e w12 ⟨rfl, hb12⟩
        replace hS := Below.trans hS (hb12.mono hB)
        replace hB := Nat.le_trans hB hb12.size
        replace hN15 := Below.trans hN15 (hb12.mono hN15.size)
        clear hC
        refine hK _ _ hS (fun hC => ?_)
        clear hK K
        refine' Reg.val (o := { dst := some 23, op := Op.convert 22 3 (Operand.tmp 22), type := 3, pos := "dcel_node_set.go:30", after := #[{ on := 12, ground := Ground.data }], guard := none }) 13 _ (by rfl) (by kernel_rfl) (by rfl) hC ?hvu1ab_13 ?_
        case hvu1ab_13 => intro W hW; obtain ⟨hcW, hfW⟩ := bcell hW; go_simp <;> (with_reducible rfl)
        simp only [Act.put, List.setIfInBounds_toArray, List.set_cons_zero, List.set_cons_succ]
        refine' Reg.val (o := { dst := some 24, op := Op.build 83 #[(0, Operand.tmp 16), (1, Operand.tmp 23)], type := 83, pos := "dcel_node_set.go:30", after := #[{ on := 6, ground := Ground.data }, { on := 13, ground := Ground.data }], guard := none }) 14 _ (by rfl) (by kernel_rfl) (by rfl) hC ?hvu1ab_14 ?_
        case hvu1ab_14 => intro W hW; obtain ⟨hcW, hfW⟩ := bcell hW; go_simp <;> (with_reducible rfl)
        simp only [Act.put, List.setIfInBounds_toArray, List.set_cons_zero, List.set_cons_succ]
        refine Reg.one (o := { dst := none, op := Op.store 83 (Operand.tmp 5) (Operand.tmp 24), type := 0, pos := "dcel_node_set.go:30", after := #[{ on := 15, ground := Ground.data }, { on := 14, ground := Ground.data }, { on := 12, ground := Ground.chain }, { on := 0, ground := Ground.phase }, { on := 1, ground := Ground.phase }, { on := 2, ground := Ground.phase }, { on := 3, ground := Ground.phase }, { on := 4, ground := Ground.phase }, { on := 5, ground := Ground.phase }, { on := 6, ground := Ground.phase }, { on := 7, ground := Ground.phase }, { on := 8, ground := Ground.phase }, { on := 9, ground := Ground.phase }, { on := 10, ground := Ground.phase }, { on := 11, ground := Ground.phase }, { on := 12, ground := Ground.phase }, { on := 13, ground := Ground.phase }, { on := 14, ground := Ground.phase }, { on := 15, ground := Ground.phase }], guard := none }) 16 (by rfl) (by kernel_rfl) (by rfl)  (fun K Q' hK => ?_)
        obtain ⟨hcR, hfR⟩ := bcell hS
        obtain ⟨hcN15, hfN15⟩ := bcell hN15
        (try simp only [World.size_alloc, World.size_setCell, World.size_drew] at hcN15 hfN15)
        go_simp
        refine hK _ _ (by repeat (first | exact hS | assumption | exact But.of_below rfl hS | exact hC | refine But.setCell ?_ (by simp) _ | refine Below.setCell ?_ ?_ _ | refine Below.alloc ?_ ?_ _ | go_size)) (fun hC' => ?_)
        clear hK K
        clear hC
        have hC := hC'
        clear hC'
        refine Reg.end_ (by kernel_rfl) ?_
        have hR := hS
        obtain ⟨hcS, hfS⟩ := bcell hS
        (try simp only [World.size_alloc, World.size_setCell, World.size_drew] at hcS hfS)
        (go_wp2_with fail; go_meet; refine ⟨_, rfl, ?_, ?_, ?_⟩; all_goals first | (go_simp; done) | (repeat (first | exact hS | exact hR | refine Below.setCell ?_ ?_ _ | refine Below.alloc ?_ ?_ _ | (simp only [World.size_alloc] at *; omega))))
    · refine Step1.new (o := { dst := some 5, op := Op.alloc 83, type := 0, pos := "dcel_node_set.go:30", after := #[], guard := none }) (by rfl) (by rfl) (fun _ hb => (Below.trans hS (hb.mono hB))) (fun K Q' hK => ?_)
      go_simp
      refine hK _ _ (by go_grown) ?_
      clear hK K
      clear hC
      intro hb hN15 hC
      have hBN15 := hB
      have hSb15 := hS
      replace hS := Below.trans hS (hb.mono hB)
      replace hB := Nat.le_trans hB hb.size
      clear hb
      refine Reg.one (o := { dst := some 15, op := Op.call { callee := Callee.value (Operand.func 49), args := #[Operand.tmp 14], argTypes := #[22] }, type := 22, pos := "dcel_node_set.go:31", after := #[{ on := 4, ground := Ground.data }], guard := none }) 5 (by rfl) (by kernel_rfl) (by rfl)  (fun K Q' hK => ?_)
      go_simp
      first | (refine (floor_any _ d2 _).mono ?_) | (refine (floor_any _ e2 _).mono ?_)
      rintro e w5 ⟨rfl, hb5⟩
      replace hS := Below.trans hS (hb5.mono hB)
      replace hB := Nat.le_trans hB hb5.size
      replace hN15 := Below.trans hN15 (hb5.mono hN15.size)
      clear hC
      refine hK _ _ hS (fun hC => ?_)
      clear hK K
      refine' Reg.val (o := { dst := some 16, op := Op.convert 22 3 (Operand.tmp 15), type := 3, pos := "dcel_node_set.go:30", after := #[{ on := 5, ground := Ground.data }], guard := none }) 6 _ (by rfl) (by kernel_rfl) (by rfl) hC ?hvu1b_6 ?_
      case hvu1b_6 => intro W hW; obtain ⟨hcW, hfW⟩ := bcell hW; go_simp <;> (with_reducible rfl)
      simp only [Act.put, List.setIfInBounds_toArray, List.set_cons_zero, List.set_cons_succ]
      refine Reg.one (o := { dst := some 22, op := Op.call { callee := Callee.value (Operand.func 49), args := #[Operand.tmp 21], argTypes := #[22] }, type := 22, pos := "dcel_node_set.go:32", after := #[{ on := 11, ground := Ground.data }, { on := 5, ground := Ground.chain }], guard := none }) 12 (by rfl) (by kernel_rfl) (by rfl)  (fun K Q' hK => ?_)
      go_simp
      first | (refine (floor_any _ d2 _).mono ?_) | (refine (floor_any _ e2 _).mono ?_)
      rintro e w12 ⟨rfl, hb12⟩
      replace hS := Below.trans hS (hb12.mono hB)
      replace hB := Nat.le_trans hB hb12.size
      replace hN15 := Below.trans hN15 (hb12.mono hN15.size)
      clear hC
      refine hK _ _ hS (fun hC => ?_)
      clear hK K
      refine' Reg.val (o := { dst := some 23, op := Op.convert 22 3 (Operand.tmp 22), type := 3, pos := "dcel_node_set.go:30", after := #[{ on := 12, ground := Ground.data }], guard := none }) 13 _ (by rfl) (by kernel_rfl) (by rfl) hC ?hvu1b_13 ?_
      case hvu1b_13 => intro W hW; obtain ⟨hcW, hfW⟩ := bcell hW; go_simp <;> (with_reducible rfl)
      simp only [Act.put, List.setIfInBounds_toArray, List.set_cons_zero, List.set_cons_succ]
      refine' Reg.val (o := { dst := some 24, op := Op.build 83 #[(0, Operand.tmp 16), (1, Operand.tmp 23)], type := 83, pos := "dcel_node_set.go:30", after := #[{ on := 6, ground := Ground.data }, { on := 13, ground := Ground.data }], guard := none }) 14 _ (by rfl) (by kernel_rfl) (by rfl) hC ?hvu1b_14 ?_
      case hvu1b_14 => intro W hW; obtain ⟨hcW, hfW⟩ := bcell hW; go_simp <;> (with_reducible rfl)
      simp only [Act.put, List.setIfInBounds_toArray, List.set_cons_zero, List.set_cons_succ]
      refine Reg.one (o := { dst := none, op := Op.store 83 (Operand.tmp 5) (Operand.tmp 24), type := 0, pos := "dcel_node_set.go:30", after := #[{ on := 15, ground := Ground.data }, { on := 14, ground := Ground.data }, { on := 12, ground := Ground.chain }, { on := 0, ground := Ground.phase }, { on := 1, ground := Ground.phase }, { on := 2, ground := Ground.phase }, { on := 3, ground := Ground.phase }, { on := 4, ground := Ground.phase }, { on := 5, ground := Ground.phase }, { on := 6, ground := Ground.phase }, { on := 7, ground := Ground.phase }, { on := 8, ground := Ground.phase }, { on := 9, ground := Ground.phase }, { on := 10, ground := Ground.phase }, { on := 11, ground := Ground.phase }, { on := 12, ground := Ground.phase }, { on := 13, ground := Ground.phase }, { on := 14, ground := Ground.phase }, { on := 15, ground := Ground.phase }], guard := none }) 16 (by rfl) (by kernel_rfl) (by rfl)  (fun K Q' hK => ?_)
      obtain ⟨hcR, hfR⟩ := bcell hS
      obtain ⟨hcN15, hfN15⟩ := bcell hN15
      (try simp only [World.size_alloc, World.size_setCell, World.size_drew] at hcN15 hfN15)
      go_simp
      refine hK _ _ (by repeat (first | exact hS | assumption | exact But.of_below rfl hS | exact hC | refine But.setCell ?_ (by simp) _ | refine Below.setCell ?_ ?_ _ | refine Below.alloc ?_ ?_ _ | go_size)) (fun hC' => ?_)
      clear hK K
      clear hC
      have hC := hC'
      clear hC'
      refine Reg.end_ (by kernel_rfl) ?_
      have hR := hS
      obtain ⟨hcS, hfS⟩ := bcell hS
      (try simp only [World.size_alloc, World.size_setCell, World.size_drew] at hcS hfS)
      (go_wp2_with fail; go_meet; refine ⟨_, rfl, ?_, ?_, ?_⟩; all_goals first | (go_simp; done) | (repeat (first | exact hS | exact hR | refine Below.setCell ?_ ?_ _ | refine Below.alloc ?_ ?_ _ | (simp only [World.size_alloc] at *; omega))))
  case rest =>
    obtain ⟨g, rfl, g0, g1, hS⟩ := hcut
    have hz := hS.size
    simp only [World.size_alloc] at hz
    have HS := Lib.hid hS
    have hn := d4.out
    have hm := e4.out
    clear hS
    go_wp2_with fail
    have ha := Lib.hid (array_at n m hn hm)
    have hmb3 : mb < (((w.alloc (.cells #[.float .f64 u, .map (some mb)] 76)).alloc (.cells #[.float .f64 x, .float .f64 y] 52)).alloc (.cells #[.float .f64 0, .float .f64 0] 52)).heap.size := by simp only [World.size_alloc]; omega
    have HMc := Lib.hid (((HM.out.alloc _).alloc _).alloc _ |>.keep HS.out hmb3)
    clear hmb3
    have B0 := Lib.hid ((Blk.new w [.float .f64 u, .map (some mb)] 76).alloc (.cells #[.float .f64 x, .float .f64 y] 52) |>.alloc (.cells #[.float .f64 0, .float .f64 0] 52) |>.keep HS.out (by simp only [World.size_alloc]; omega))
    have B2 := Blk.new ((w.alloc (.cells #[.float .f64 u, .map (some mb)] 76)).alloc (.cells #[.float .f64 x, .float .f64 y] 52)) [.float .f64 0, .float .f64 0] 52
    simp only [World.size_alloc] at B2
    have B2 := Lib.hid (B2.keep HS.out (by simp only [World.size_alloc]; omega))
    clear d4 e4
    go_loopw [79] (fun i wr => ∃ k : Nat, k ≤ 9 ∧ i = .int .i64 (k : Int) ∧ Below wc.heap.size wc wr) (fun i _ => 9 - (intOf i).toNat)
    case atStart => exact ⟨0, by omega, rfl, Below.refl _ _⟩
    case round =>
      obtain ⟨k, hk, rfl, H⟩ := hrel
      by_cases hk9 : k < 9
      · obtain ⟨p, q, hp, hq, hI⟩ := ha.out k hk9
        obtain ⟨l, hl⟩ := bucket_key p q hp hq
        have M := (HMc.out).keep H HMc.out.lt
        obtain ⟨c0, c1, f0, f1⟩ := (B0.out.keep H B0.out.lt).c2
        obtain ⟨r0, r1, e0, e1'⟩ := (B2.out.keep H B2.out.lt).c2
        have hl0 := (B0.out.keep H B0.out.lt).lt
        have hl2 := (B2.out.keep H B2.out.lt).lt
        have hl3 : w.heap.size + 1 < wr.heap.size := by omega
        have HM' := Lib.hid M
        have hmw := M.lt
        have hHz := H.size
        have hcw := M.lt
        clear M
        go_wp2_with (at_lookup; refine wpList_lookV _ rfl _ _ 74 rfl 83 52 bucket_law Try.underlying74 (NV C) (zeroXY _) mb rfl (HM'.out.alloc _) _ _ rfl hl ?_; intro v ok hvok; obtain ⟨v0, v1, rfl, hCv⟩ : ∃ v0 v1, v = .agg #[fw v0, fw v1] ∧ (ok = true → Hid (C v0 v1)) := (by
          rcases hvok with ⟨rfl, rfl⟩ | ⟨rfl, v0, v1, rfl, hc⟩
          · exact ⟨0, 0, rfl, fun h => by cases h⟩
          · exact ⟨v0, v1, rfl, fun _ => Lib.hid hc⟩); clear hvok; cases ok)
        · go_roundw
          case rel => exact ⟨k + 1, by omega, by go_num, (H.alloc H.size _).alloc (by simp only [World.size_alloc]; have := H.size; omega) _⟩
          case measure => simp [intOf]; omega
        · have hc := hCv (by first | rfl | trivial)
          have HT : Below w.heap.size w wr := Below.trans (by go_grown) ((HS.out.mono (by simp only [World.size_alloc]; omega)).trans (H.mono (by omega)))
          have H5 := (((HT.setCell (p := ⟨w.heap.size + 1 + 1, 0, none⟩) (by show _ ≤ w.heap.size + 1 + 1; omega) (fw v0)).setCell (p := ⟨w.heap.size + 1 + 1, 1, none⟩) (by show _ ≤ w.heap.size + 1 + 1; omega) (fw v1)).alloc (by simp only [World.size_setCell]; omega) (.cells #[.int .i64 p, .int .i64 q] 83)).alloc (by simp only [World.size_alloc, World.size_setCell]; omega) (.cells #[.float .f64 v0, .float .f64 v1] 52)
          have M5 := ((HM'.out.other (p := ⟨w.heap.size + 1 + 1, 0, none⟩) (by show w.heap.size + 1 + 1 ≠ mb; omega) (fw v0)).other (p := ⟨w.heap.size + 1 + 1, 1, none⟩) (by show w.heap.size + 1 + 1 ≠ mb; omega) (fw v1)).alloc (.cells #[.int .i64 p, .int .i64 q] 83) |>.alloc (.cells #[.float .f64 v0, .float .f64 v1] 52)
          refine bodyPost_ret (v := .agg #[fw v0, fw v1]) (by simp [results, Try.results44, go_sem, *]) rfl ⟨⟨v0, v1, rfl, hc⟩, M5, H5.size, H5.mono (by omega), fun r hr _ => H5.block r hr⟩
      · have : k = 9 := by omega
        subst this
        have B1 := Blk.new (w.alloc (.cells #[.float .f64 u, .map (some mb)] 76)) [.float .f64 x, .float .f64 y] 52
        simp only [World.size_alloc] at B1
        have B1 := (((B1.alloc (.cells #[.float .f64 0, .float .f64 0] 52)).keep HS.out (by simp only [World.size_alloc]; omega)).keep H (by omega))
        have B2' := B2.out.keep H B2.out.lt
        have M := (HMc.out).keep H HMc.out.lt
        obtain ⟨c0, c1, f0, f1⟩ := (B0.out.keep H B0.out.lt).c2
        obtain ⟨s0, s1, _, _⟩ := B1.c2
        have hgl := World.block_lt_of_cell? _ _ g0
        simp only at hgl
        have g0' := (H.cell (p := ⟨g, 0, none⟩) hgl).trans g0
        have g1' := (H.cell (p := ⟨g, 1, none⟩) hgl).trans g1
        obtain ⟨l, hl⟩ := bucket_key n m (by omega) (by omega)
        have hNV : NV C (.agg #[.float .f64 x, .float .f64 y]) := ⟨x, y, rfl, hC.out⟩
        have HM' := Lib.hid M
        have HB1 := Lib.hid B1
        have HB2 := Lib.hid B2'
        clear M B1 B2' g0 g1
        go_wp2_with (at_mapUpdate; refine wpList_putV _ rfl _ _ _ 74 rfl 83 52 bucket_law Try.underlying74 (NV C) mb rfl HM'.out (.agg #[.int .i64 n, .int .i64 m]) (.agg #[.float .f64 x, .float .f64 y]) l rfl rfl hl hNV ?_; intro w5 M5 hz5 ho5 hb5; obtain ⟨t0, t1', _, _⟩ := Blk.c2 (show Blk w5 (w.heap.size + 1) [.float .f64 x, .float .f64 y] 52 from (ho5 _ (by omega)).trans HB1.out); obtain ⟨q0, q1, q2, q3⟩ := Blk.c2 (show Blk w5 (w.heap.size + 1 + 1) [.float .f64 0, .float .f64 0] 52 from (ho5 _ (by omega)).trans HB2.out); have hl2 : w.heap.size + 1 + 1 < w5.heap.size := (by rw [hz5]; exact HB2.out.lt); have M5 := Lib.hid M5; have ho5 := Lib.hid ho5; have hb5 := Lib.hid hb5)
        have HT : Below w.heap.size w wr := Below.trans (by go_grown) ((HS.out.mono (by simp only [World.size_alloc]; omega)).trans (H.mono (by omega)))
        have hTz := HT.size
        have H6 : Below mb wr ((w5.setCell ⟨w.heap.size + 1 + 1, 0, none⟩ (fw x)).setCell ⟨w.heap.size + 1 + 1, 1, none⟩ (fw y)) := (hb5.out.setCell (p := ⟨w.heap.size + 1 + 1, 0, none⟩) (by show mb ≤ w.heap.size + 1 + 1; omega) (fw x)).setCell (p := ⟨w.heap.size + 1 + 1, 1, none⟩) (by show mb ≤ w.heap.size + 1 + 1; omega) (fw y)
        have M6 := (M5.out.other (p := ⟨w.heap.size + 1 + 1, 0, none⟩) (by show w.heap.size + 1 + 1 ≠ mb; omega) (fw x)).other (p := ⟨w.heap.size + 1 + 1, 1, none⟩) (by show w.heap.size + 1 + 1 ≠ mb; omega) (fw y)
        have K6 : ∀ r, r < w.heap.size → r ≠ mb → ((w5.setCell ⟨w.heap.size + 1 + 1, 0, none⟩ (fw x)).setCell ⟨w.heap.size + 1 + 1, 1, none⟩ (fw y)).heap[r]? = w.heap[r]? := fun r hr hne => by
          rw [Below.heap_setCell _ _ _ r (by show r ≠ w.heap.size + 1 + 1; omega), Below.heap_setCell _ _ _ r (by show r ≠ w.heap.size + 1 + 1; omega), ho5.out r hne]
          exact HT.block r hr
        refine bodyPost_ret (v := .agg #[fw x, fw y]) (by simp [results, Try.results44, go_sem, *]) rfl ⟨⟨x, y, rfl, hC.out⟩, M6, ?_, (HT.mono (by omega)).trans H6, K6⟩
        exact Nat.le_trans hTz H6.size
end Go.Proofs.Ytcidgicdeedgfaa
