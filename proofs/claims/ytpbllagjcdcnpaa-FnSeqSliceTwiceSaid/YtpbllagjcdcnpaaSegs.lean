/- Walk of the reference's list of the segments that have a length. -/
import Derived.Test.YtpbllagjcdcnpaaFirst2
namespace Go.Proofs.Ytpbllagjcdcnpaa
open Go.ChangeShapes Go.WideShapes Go.ChangeAt Go.RowKit
open Fl
set_option linter.unusedSimpArgs false
set_option linter.unusedVariables false
attribute [local go_sem] run_store_float run_fadd run_fsub run_fmul run_fdiv run_equalIn_float fmt64

def sne (X Y : Nat → Nat) (i : Nat) : Bool := !(eqb (X (i - 1)) (X i)) || !(eqb (Y (i - 1)) (Y i))
def segs (X Y : Nat → Nat) (q : Nat) : List Nat := (List.range q).filter fun i => decide (1 ≤ i) && sne X Y i
theorem segs_one (X Y : Nat → Nat) : segs X Y 1 = [] := by simp [segs, List.range_succ]
theorem segs_zero (X Y : Nat → Nat) : segs X Y 0 = [] := rfl
theorem segs_yes {X Y : Nat → Nat} {k : Nat} (hk : 1 ≤ k) (h : sne X Y k = true) : segs X Y (k + 1) = segs X Y k ++ [k] := by
  simp [segs, List.range_succ, List.filter_append, hk, h]
theorem segs_no {X Y : Nat → Nat} {k : Nat} (h : sne X Y k = false) : segs X Y (k + 1) = segs X Y k := by
  simp [segs, List.range_succ, List.filter_append, h]
theorem segs_len (X Y : Nat → Nat) (k : Nat) : (segs X Y k).length ≤ k := by
  have := List.length_filter_le (fun i => decide (1 ≤ i) && sne X Y i) (List.range k)
  simpa [segs] using this
abbrev iv (n : Nat) : Value := .int .i64 (n : Int)
/-- whole numbers in a slice -/
structure Ints (w : World) (P : Option Addr) (L : List Nat) (c : Nat) : Prop where
  le : L.length ≤ c
  cap : c ≤ maxLen
  none_ : P = none → L.length = 0 ∧ c = 0
  cell : ∀ a, P = some a → ∀ i (h : i < L.length), w.cell? (a.add i) = some (iv (L[i]))
theorem Ints.of_owns {w : World} {base : Nat} {e : TypeId} {v : Value} {L : List Nat} (h : w.ownsRow base e 1 v L.length (L.map iv)) : ∃ P c, v = .slice P L.length c ∧ Ints w P L c := by
  rcases h.2 with ⟨rfl, h0⟩ | ⟨b, cap, cur, rfl, _, _, h1, h2, _⟩
  · exact ⟨none, 0, by rw [h0], by omega, by unfold maxLen; omega, fun _ => ⟨h0, rfl⟩, fun a h => (by cases h)⟩
  · refine ⟨some ⟨b, 0, none⟩, cap, rfl, h1, h2, fun h => (by cases h), fun a ha i hi => ?_⟩
    cases ha
    rw [add0]
    refine (h.cellAt i (by omega)).trans ?_
    simp [hi]
theorem infoI : (Try.prog.info? 3).map (fun i => (i.zero, i.size, i.bytes)) = some (some (.int .i64 0), 1, 8) := by kernel_rfl
set_option maxRecDepth 20000 in
set_option maxHeartbeats 8000000 in
theorem segs_any (P : Option Addr) (q c : Nat) (g : Nat → Q4) (w : World) (hQ : Quad w P q c g) (hq2 : q ≤ 2000) :
    Calls Try.prog 14 #[.slice P q c] w fun e w' => (∃ P' c', e = .returned (.slice P' (segs (fun i => (g i).1) (fun i => (g i).2.1) q).length c') ∧ Ints w' P' (segs (fun i => (g i).1) (fun i => (g i).2.1) q) c') ∧ Below w.heap.size w w' := by
  obtain ⟨ii, hi1, hi2, hi3, hi4⟩ := info_parts infoI
  have hQ := Lib.hid hQ
  generalize hX : (fun i => (g i).1) = X
  generalize hY : (fun i => (g i).2.1) = Y
  go_enter Try.func14, Try.ntmps14
  go_wp2_with fail
  go_loopw [3, 4] (fun v i wr => ∃ k : Nat, i = .int .i64 (k : Int) ∧ 1 ≤ k ∧ (k ≤ q ∨ k = 1) ∧ Below w.heap.size w wr ∧ wr.ownsRow w.heap.size 3 1 v (segs X Y k).length ((segs X Y k).map iv))
    (fun _ i _ => q - (intOf i).toNat)
  case atStart => exact ⟨1, rfl, Nat.le_refl _, Or.inr rfl, Below.refl _ _, by rw [segs_one]; exact World.ownsRow_nil _ _ _ _⟩
  case round =>
    obtain ⟨k, rfl, hk1, hkq, H, hown⟩ := hrel
    have hoo := Lib.hid hown
    clear hown
    by_cases hk : k < q
    · obtain ⟨a, rfl⟩ : ∃ a, P = some a := by
        cases P with
        | none => have := (hQ.out.none_ rfl).1; omega
        | some a => exact ⟨a, rfl⟩
      obtain ⟨z0, z1⟩ := hQ.out.cell a rfl k hk
      obtain ⟨y0, y1⟩ := hQ.out.cell a rfl (k - 1) (by omega)
      have hab : a.block < wr.heap.size := by have := World.block_lt_of_cell? w _ z0; rw [addBlk] at this; have := H.size; omega
      have p0 := (H.cell (World.block_lt_of_cell? w _ z0)).trans z0
      have p1 := (H.cell (World.block_lt_of_cell? w _ z1)).trans z1
      have r0 := (H.cell (World.block_lt_of_cell? w _ y0)).trans y0
      have r1 := (H.cell (World.block_lt_of_cell? w _ y1)).trans y1
      have hb0 : (a.add (k * 4)).block < wr.heap.size := by rw [addBlk]; exact hab
      have hb1 : (a.add ((k - 1) * 4)).block < wr.heap.size := by rw [addBlk]; exact hab
      have eX : (g k).1 = X k := by rw [← hX]
      have eY : (g k).2.1 = Y k := by rw [← hY]
      have eX' : (g (k - 1)).1 = X (k - 1) := by rw [← hX]
      have eY' : (g (k - 1)).2.1 = Y (k - 1) := by rw [← hY]
      rw [eX] at p0
      rw [eY] at p1
      rw [eX'] at r0
      rw [eY'] at r1
      clear eX eY eX' eY' z0 z1 y0 y1
      have hwk : IntKind.i64.wrap ((k : Int) - 1) = (k : Int) - 1 := by rw [IntKind.wrap_i64]; omega
      have hgk : 0 ≤ (k : Int) - 1 := by omega
      have hlk : (k : Int) - 1 < (q : Int) := by omega
      have htk : ((k : Int) - 1).toNat = k - 1 := by omega
      have hk1i : (1 : Int) ≤ (k : Int) := by omega
      obtain ⟨w4, rfl⟩ : ∃ w4, w4 = wr := ⟨_, rfl⟩
      cases g1 : (Ieee.double.order (X (k - 1)) (X k) == some .eq)
      · have h1 : (Ieee.double.order (X (k - 1)) (X k) != some .eq) = true := by simp [bne, g1]
        have g1 := Lib.hid g1
        go_wp2_with fail
        refine Reg.beginB (ops := regAt Try.f14 5) 26 (by kernel_rfl) (by kernel_rfl) (fun wr hS hB hzu1 => ?_)
        have hC := hS
        refine' Reg.val (o := { dst := some 11, op := Op.move (Operand.tmp 0), type := 27, pos := "small.go:242", after := #[], guard := none }) 0 _ (by rfl) (by kernel_rfl) (by rfl) hC ?hvu1_0 ?_
        case hvu1_0 => intro W _; go_simp <;> (with_reducible rfl)
        simp only [Act.put, List.setIfInBounds_toArray, List.set_cons_zero, List.set_cons_succ]
        refine' Reg.val (o := { dst := some 12, op := Op.move (Operand.tmp 4), type := 3, pos := "small.go:242", after := #[], guard := none }) 1 _ (by rfl) (by kernel_rfl) (by rfl) hC ?hvu1_1 ?_
        case hvu1_1 => intro W _; go_simp <;> (with_reducible rfl)
        simp only [Act.put, List.setIfInBounds_toArray, List.set_cons_zero, List.set_cons_succ]
        refine' Reg.val (o := { dst := some 13, op := Op.binOp BinOp.sub 3 (Operand.tmp 12) (Operand.const (Value.int IntKind.i64 1)) 3, type := 3, pos := "small.go:242", after := #[{ on := 1, ground := Ground.data }], guard := none }) 2 _ (by rfl) (by kernel_rfl) (by rfl) hC ?hvu1_2 ?_
        case hvu1_2 => intro W hW; obtain ⟨hcW, hfW⟩ := bcell hW; have hgW := fun (p : Addr) (hp : p.block < _) => hW.cell (p := p) hp; (try simp only [World.size_alloc, World.size_setCell, World.size_drew] at hgW); go_simp <;> (with_reducible rfl)
        simp only [Act.put, List.setIfInBounds_toArray, List.set_cons_zero, List.set_cons_succ]
        refine' Reg.val (o := { dst := some 14, op := Op.indexAddr 27 (Operand.tmp 11) (Operand.tmp 13), type := 0, pos := "small.go:242", after := #[{ on := 0, ground := Ground.data }, { on := 2, ground := Ground.data }], guard := none }) 3 _ (by rfl) (by kernel_rfl) (by rfl) hC ?hvu1_3 ?_
        case hvu1_3 => intro W hW; obtain ⟨hcW, hfW⟩ := bcell hW; have hgW := fun (p : Addr) (hp : p.block < _) => hW.cell (p := p) hp; (try simp only [World.size_alloc, World.size_setCell, World.size_drew] at hgW); go_simp <;> (with_reducible rfl)
        simp only [Act.put, List.setIfInBounds_toArray, List.set_cons_zero, List.set_cons_succ]
        refine' Reg.val (o := { dst := some 15, op := Op.fieldAddr 74 (Operand.tmp 14) 0, type := 0, pos := "small.go:242", after := #[{ on := 3, ground := Ground.data }], guard := none }) 4 _ (by rfl) (by kernel_rfl) (by rfl) hC ?hvu1_4 ?_
        case hvu1_4 => intro W hW; obtain ⟨hcW, hfW⟩ := bcell hW; have hgW := fun (p : Addr) (hp : p.block < _) => hW.cell (p := p) hp; (try simp only [World.size_alloc, World.size_setCell, World.size_drew] at hgW); go_simp <;> (with_reducible rfl)
        simp only [Act.put, List.setIfInBounds_toArray, List.set_cons_zero, List.set_cons_succ]
        refine' Reg.val (o := { dst := some 16, op := Op.load 48 (Operand.tmp 15), type := 48, pos := "small.go:242", after := #[{ on := 4, ground := Ground.data }], guard := none }) 5 _ (by rfl) (by kernel_rfl) (by rfl) hC ?hvu1_5 ?_
        case hvu1_5 => intro W hW; obtain ⟨hcW, hfW⟩ := bcell hW; have hgW := fun (p : Addr) (hp : p.block < _) => hW.cell (p := p) hp; (try simp only [World.size_alloc, World.size_setCell, World.size_drew] at hgW); go_simp <;> (with_reducible rfl)
        simp only [Act.put, List.setIfInBounds_toArray, List.set_cons_zero, List.set_cons_succ]
        refine' Reg.val (o := { dst := some 17, op := Op.move (Operand.tmp 0), type := 27, pos := "small.go:242", after := #[], guard := none }) 6 _ (by rfl) (by kernel_rfl) (by rfl) hC ?hvu1_6 ?_
        case hvu1_6 => intro W _; go_simp <;> (with_reducible rfl)
        simp only [Act.put, List.setIfInBounds_toArray, List.set_cons_zero, List.set_cons_succ]
        refine' Reg.val (o := { dst := some 18, op := Op.move (Operand.tmp 4), type := 3, pos := "small.go:242", after := #[], guard := none }) 7 _ (by rfl) (by kernel_rfl) (by rfl) hC ?hvu1_7 ?_
        case hvu1_7 => intro W _; go_simp <;> (with_reducible rfl)
        simp only [Act.put, List.setIfInBounds_toArray, List.set_cons_zero, List.set_cons_succ]
        refine' Reg.val (o := { dst := some 19, op := Op.indexAddr 27 (Operand.tmp 17) (Operand.tmp 18), type := 0, pos := "small.go:242", after := #[{ on := 6, ground := Ground.data }, { on := 7, ground := Ground.data }], guard := none }) 8 _ (by rfl) (by kernel_rfl) (by rfl) hC ?hvu1_8 ?_
        case hvu1_8 => intro W hW; obtain ⟨hcW, hfW⟩ := bcell hW; have hgW := fun (p : Addr) (hp : p.block < _) => hW.cell (p := p) hp; (try simp only [World.size_alloc, World.size_setCell, World.size_drew] at hgW); go_simp <;> (with_reducible rfl)
        simp only [Act.put, List.setIfInBounds_toArray, List.set_cons_zero, List.set_cons_succ]
        refine' Reg.val (o := { dst := some 20, op := Op.fieldAddr 74 (Operand.tmp 19) 0, type := 0, pos := "small.go:242", after := #[{ on := 8, ground := Ground.data }], guard := none }) 9 _ (by rfl) (by kernel_rfl) (by rfl) hC ?hvu1_9 ?_
        case hvu1_9 => intro W hW; obtain ⟨hcW, hfW⟩ := bcell hW; have hgW := fun (p : Addr) (hp : p.block < _) => hW.cell (p := p) hp; (try simp only [World.size_alloc, World.size_setCell, World.size_drew] at hgW); go_simp <;> (with_reducible rfl)
        simp only [Act.put, List.setIfInBounds_toArray, List.set_cons_zero, List.set_cons_succ]
        refine' Reg.val (o := { dst := some 21, op := Op.load 48 (Operand.tmp 20), type := 48, pos := "small.go:242", after := #[{ on := 9, ground := Ground.data }], guard := none }) 10 _ (by rfl) (by kernel_rfl) (by rfl) hC ?hvu1_10 ?_
        case hvu1_10 => intro W hW; obtain ⟨hcW, hfW⟩ := bcell hW; have hgW := fun (p : Addr) (hp : p.block < _) => hW.cell (p := p) hp; (try simp only [World.size_alloc, World.size_setCell, World.size_drew] at hgW); go_simp <;> (with_reducible rfl)
        simp only [Act.put, List.setIfInBounds_toArray, List.set_cons_zero, List.set_cons_succ]
        refine' Reg.val (o := { dst := some 22, op := Op.binOp BinOp.neq 48 (Operand.tmp 16) (Operand.tmp 21) 48, type := 4, pos := "small.go:242", after := #[{ on := 5, ground := Ground.data }, { on := 10, ground := Ground.data }], guard := none }) 11 _ (by rfl) (by kernel_rfl) (by rfl) hC ?hvu1_11 ?_
        case hvu1_11 => intro W hW; obtain ⟨hcW, hfW⟩ := bcell hW; have hgW := fun (p : Addr) (hp : p.block < _) => hW.cell (p := p) hp; (try simp only [World.size_alloc, World.size_setCell, World.size_drew] at hgW); go_simp <;> (with_reducible rfl)
        simp only [Act.put, List.setIfInBounds_toArray, List.set_cons_zero, List.set_cons_succ]
        refine' Reg.val (o := { dst := some 23, op := Op.move (Operand.tmp 22), type := 4, pos := "small.go:242", after := #[{ on := 11, ground := Ground.data }], guard := none }) 12 _ (by rfl) (by kernel_rfl) (by rfl) hC ?hvu1_12 ?_
        case hvu1_12 => intro W _; go_simp <;> (with_reducible rfl)
        simp only [Act.put, List.setIfInBounds_toArray, List.set_cons_zero, List.set_cons_succ]
        refine Reg.skp (o := { dst := some 24, op := Op.move (Operand.tmp 0), type := 27, pos := "small.go:242", after := #[{ on := 12, ground := Ground.guard }], guard := some (12, false) }) 13 (by rfl) (by kernel_rfl) (by rfl) hC ?_
        simp only [Act.put, List.setIfInBounds_toArray, List.set_cons_zero, List.set_cons_succ]
        refine Reg.skp (o := { dst := some 25, op := Op.move (Operand.tmp 4), type := 3, pos := "small.go:242", after := #[{ on := 12, ground := Ground.guard }], guard := some (12, false) }) 14 (by rfl) (by kernel_rfl) (by rfl) hC ?_
        simp only [Act.put, List.setIfInBounds_toArray, List.set_cons_zero, List.set_cons_succ]
        refine Reg.skp (o := { dst := some 26, op := Op.binOp BinOp.sub 3 (Operand.tmp 25) (Operand.const (Value.int IntKind.i64 1)) 3, type := 3, pos := "small.go:242", after := #[{ on := 14, ground := Ground.data }, { on := 12, ground := Ground.guard }], guard := some (12, false) }) 15 (by rfl) (by kernel_rfl) (by rfl) hC ?_
        simp only [Act.put, List.setIfInBounds_toArray, List.set_cons_zero, List.set_cons_succ]
        refine Reg.skp (o := { dst := some 27, op := Op.indexAddr 27 (Operand.tmp 24) (Operand.tmp 26), type := 0, pos := "small.go:242", after := #[{ on := 13, ground := Ground.data }, { on := 15, ground := Ground.data }, { on := 12, ground := Ground.guard }], guard := some (12, false) }) 16 (by rfl) (by kernel_rfl) (by rfl) hC ?_
        simp only [Act.put, List.setIfInBounds_toArray, List.set_cons_zero, List.set_cons_succ]
        refine Reg.skp (o := { dst := some 28, op := Op.fieldAddr 74 (Operand.tmp 27) 1, type := 0, pos := "small.go:242", after := #[{ on := 16, ground := Ground.data }, { on := 12, ground := Ground.guard }], guard := some (12, false) }) 17 (by rfl) (by kernel_rfl) (by rfl) hC ?_
        simp only [Act.put, List.setIfInBounds_toArray, List.set_cons_zero, List.set_cons_succ]
        refine Reg.skp (o := { dst := some 29, op := Op.load 48 (Operand.tmp 28), type := 48, pos := "small.go:242", after := #[{ on := 17, ground := Ground.data }, { on := 12, ground := Ground.guard }], guard := some (12, false) }) 18 (by rfl) (by kernel_rfl) (by rfl) hC ?_
        simp only [Act.put, List.setIfInBounds_toArray, List.set_cons_zero, List.set_cons_succ]
        refine Reg.skp (o := { dst := some 30, op := Op.move (Operand.tmp 0), type := 27, pos := "small.go:242", after := #[{ on := 12, ground := Ground.guard }], guard := some (12, false) }) 19 (by rfl) (by kernel_rfl) (by rfl) hC ?_
        simp only [Act.put, List.setIfInBounds_toArray, List.set_cons_zero, List.set_cons_succ]
        refine Reg.skp (o := { dst := some 31, op := Op.move (Operand.tmp 4), type := 3, pos := "small.go:242", after := #[{ on := 12, ground := Ground.guard }], guard := some (12, false) }) 20 (by rfl) (by kernel_rfl) (by rfl) hC ?_
        simp only [Act.put, List.setIfInBounds_toArray, List.set_cons_zero, List.set_cons_succ]
        refine Reg.skp (o := { dst := some 32, op := Op.indexAddr 27 (Operand.tmp 30) (Operand.tmp 31), type := 0, pos := "small.go:242", after := #[{ on := 19, ground := Ground.data }, { on := 20, ground := Ground.data }, { on := 12, ground := Ground.guard }], guard := some (12, false) }) 21 (by rfl) (by kernel_rfl) (by rfl) hC ?_
        simp only [Act.put, List.setIfInBounds_toArray, List.set_cons_zero, List.set_cons_succ]
        refine Reg.skp (o := { dst := some 33, op := Op.fieldAddr 74 (Operand.tmp 32) 1, type := 0, pos := "small.go:242", after := #[{ on := 21, ground := Ground.data }, { on := 12, ground := Ground.guard }], guard := some (12, false) }) 22 (by rfl) (by kernel_rfl) (by rfl) hC ?_
        simp only [Act.put, List.setIfInBounds_toArray, List.set_cons_zero, List.set_cons_succ]
        refine Reg.skp (o := { dst := some 34, op := Op.load 48 (Operand.tmp 33), type := 48, pos := "small.go:242", after := #[{ on := 22, ground := Ground.data }, { on := 12, ground := Ground.guard }], guard := some (12, false) }) 23 (by rfl) (by kernel_rfl) (by rfl) hC ?_
        simp only [Act.put, List.setIfInBounds_toArray, List.set_cons_zero, List.set_cons_succ]
        refine Reg.skp (o := { dst := some 35, op := Op.binOp BinOp.neq 48 (Operand.tmp 29) (Operand.tmp 34) 48, type := 4, pos := "small.go:242", after := #[{ on := 18, ground := Ground.data }, { on := 23, ground := Ground.data }, { on := 12, ground := Ground.guard }], guard := some (12, false) }) 24 (by rfl) (by kernel_rfl) (by rfl) hC ?_
        simp only [Act.put, List.setIfInBounds_toArray, List.set_cons_zero, List.set_cons_succ]
        refine' Reg.val (o := { dst := some 36, op := Op.pick (Operand.tmp 23) (Operand.const (Value.bool true)) (Operand.tmp 35), type := 4, pos := "small.go:242", after := #[{ on := 12, ground := Ground.data }, { on := 24, ground := Ground.data }], guard := none }) 25 _ (by rfl) (by kernel_rfl) (by rfl) hC ?hvu1_25 ?_
        case hvu1_25 => intro W _; go_simp <;> (with_reducible rfl)
        simp only [Act.put, List.setIfInBounds_toArray, List.set_cons_zero, List.set_cons_succ]
        refine Reg.end_ (by kernel_rfl) ?_
        have hR := hS
        obtain ⟨hcS, hfS⟩ := bcell hS
        (try simp only [World.size_alloc, World.size_setCell, World.size_drew] at hcS hfS)
        have hz4 : wr.heap.size = w4.heap.size := by omega
        have O5 := Lib.hid (keepB hoo.out hR)
        have hno : ∀ g, u3.ownBlock = some g → w.heap.size ≤ g := fun g hg => (hoo.out.lt g hg).1
        have hno := Lib.hid hno
        have HR := Lib.hid hR
        have hlen := segs_len X Y k
        have hzr := hR.size
        have hzw := H.size
        have hs := Lib.hid (show sne X Y k = true by simp [sne, eqb, g1.out])
        clear hS hB hC hR hcS hfS
        go_wp2_with (at_builtin; (refine wpList_append_own _ rfl _ _ 34 rfl w.heap.size 3 ii _ 1 8 Try.underlying34 hi1 hi2 hi3 hi4 rfl (by omega) _ (segs X Y k).length ((segs X Y k).map iv) rfl (O5.out.alloc _) ⟨w4.heap.size, 0, none⟩ 1 1 [iv k] rfl rfl (fun x u hx => by rw [add0, ← hz4]; exact ((Blk.new wr [iv k] 3).cell x).trans hx) (by intro u hu; simp at hu; subst hu; rfl) (by unfold maxLen; omega) (by omega) (by simp only [World.size_alloc]; omega) ?_; intro v1 w5 hown5 hgr5 hnil5; have hown5 := Lib.hid hown5; have hgr5 := Lib.hid hgr5; clear hnil5))
        go_roundw
        case rel =>
          have HT := H.trans (HR.out.mono hzw)
          have ho := hown5.out
          refine ⟨k + 1, by go_num, by omega, Or.inl (by omega), (HT.alloc HT.size _).grown hgr5.out (by simp only [World.size_alloc]; exact Nat.le_succ_of_le HT.size) hno.out, ?_⟩
          rw [segs_yes hk1 hs.out, List.length_append, List.map_append]
          exact ho
        case measure => simp [intOf]; omega
      · have h1 : (Ieee.double.order (X (k - 1)) (X k) != some .eq) = false := by simp [bne, g1]
        have g1 := Lib.hid g1
        cases g2 : (Ieee.double.order (Y (k - 1)) (Y k) == some .eq)
        · have h2 : (Ieee.double.order (Y (k - 1)) (Y k) != some .eq) = true := by simp [bne, g2]
          have g2 := Lib.hid g2
          go_wp2_with fail
          refine Reg.beginB (ops := regAt Try.f14 5) 26 (by kernel_rfl) (by kernel_rfl) (fun wr hS hB hzu2 => ?_)
          have hC := hS
          refine' Reg.val (o := { dst := some 11, op := Op.move (Operand.tmp 0), type := 27, pos := "small.go:242", after := #[], guard := none }) 0 _ (by rfl) (by kernel_rfl) (by rfl) hC ?hvu2_0 ?_
          case hvu2_0 => intro W _; go_simp <;> (with_reducible rfl)
          simp only [Act.put, List.setIfInBounds_toArray, List.set_cons_zero, List.set_cons_succ]
          refine' Reg.val (o := { dst := some 12, op := Op.move (Operand.tmp 4), type := 3, pos := "small.go:242", after := #[], guard := none }) 1 _ (by rfl) (by kernel_rfl) (by rfl) hC ?hvu2_1 ?_
          case hvu2_1 => intro W _; go_simp <;> (with_reducible rfl)
          simp only [Act.put, List.setIfInBounds_toArray, List.set_cons_zero, List.set_cons_succ]
          refine' Reg.val (o := { dst := some 13, op := Op.binOp BinOp.sub 3 (Operand.tmp 12) (Operand.const (Value.int IntKind.i64 1)) 3, type := 3, pos := "small.go:242", after := #[{ on := 1, ground := Ground.data }], guard := none }) 2 _ (by rfl) (by kernel_rfl) (by rfl) hC ?hvu2_2 ?_
          case hvu2_2 => intro W hW; obtain ⟨hcW, hfW⟩ := bcell hW; have hgW := fun (p : Addr) (hp : p.block < _) => hW.cell (p := p) hp; (try simp only [World.size_alloc, World.size_setCell, World.size_drew] at hgW); go_simp <;> (with_reducible rfl)
          simp only [Act.put, List.setIfInBounds_toArray, List.set_cons_zero, List.set_cons_succ]
          refine' Reg.val (o := { dst := some 14, op := Op.indexAddr 27 (Operand.tmp 11) (Operand.tmp 13), type := 0, pos := "small.go:242", after := #[{ on := 0, ground := Ground.data }, { on := 2, ground := Ground.data }], guard := none }) 3 _ (by rfl) (by kernel_rfl) (by rfl) hC ?hvu2_3 ?_
          case hvu2_3 => intro W hW; obtain ⟨hcW, hfW⟩ := bcell hW; have hgW := fun (p : Addr) (hp : p.block < _) => hW.cell (p := p) hp; (try simp only [World.size_alloc, World.size_setCell, World.size_drew] at hgW); go_simp <;> (with_reducible rfl)
          simp only [Act.put, List.setIfInBounds_toArray, List.set_cons_zero, List.set_cons_succ]
          refine' Reg.val (o := { dst := some 15, op := Op.fieldAddr 74 (Operand.tmp 14) 0, type := 0, pos := "small.go:242", after := #[{ on := 3, ground := Ground.data }], guard := none }) 4 _ (by rfl) (by kernel_rfl) (by rfl) hC ?hvu2_4 ?_
          case hvu2_4 => intro W hW; obtain ⟨hcW, hfW⟩ := bcell hW; have hgW := fun (p : Addr) (hp : p.block < _) => hW.cell (p := p) hp; (try simp only [World.size_alloc, World.size_setCell, World.size_drew] at hgW); go_simp <;> (with_reducible rfl)
          simp only [Act.put, List.setIfInBounds_toArray, List.set_cons_zero, List.set_cons_succ]
          refine' Reg.val (o := { dst := some 16, op := Op.load 48 (Operand.tmp 15), type := 48, pos := "small.go:242", after := #[{ on := 4, ground := Ground.data }], guard := none }) 5 _ (by rfl) (by kernel_rfl) (by rfl) hC ?hvu2_5 ?_
          case hvu2_5 => intro W hW; obtain ⟨hcW, hfW⟩ := bcell hW; have hgW := fun (p : Addr) (hp : p.block < _) => hW.cell (p := p) hp; (try simp only [World.size_alloc, World.size_setCell, World.size_drew] at hgW); go_simp <;> (with_reducible rfl)
          simp only [Act.put, List.setIfInBounds_toArray, List.set_cons_zero, List.set_cons_succ]
          refine' Reg.val (o := { dst := some 17, op := Op.move (Operand.tmp 0), type := 27, pos := "small.go:242", after := #[], guard := none }) 6 _ (by rfl) (by kernel_rfl) (by rfl) hC ?hvu2_6 ?_
          case hvu2_6 => intro W _; go_simp <;> (with_reducible rfl)
          simp only [Act.put, List.setIfInBounds_toArray, List.set_cons_zero, List.set_cons_succ]
          refine' Reg.val (o := { dst := some 18, op := Op.move (Operand.tmp 4), type := 3, pos := "small.go:242", after := #[], guard := none }) 7 _ (by rfl) (by kernel_rfl) (by rfl) hC ?hvu2_7 ?_
          case hvu2_7 => intro W _; go_simp <;> (with_reducible rfl)
          simp only [Act.put, List.setIfInBounds_toArray, List.set_cons_zero, List.set_cons_succ]
          refine' Reg.val (o := { dst := some 19, op := Op.indexAddr 27 (Operand.tmp 17) (Operand.tmp 18), type := 0, pos := "small.go:242", after := #[{ on := 6, ground := Ground.data }, { on := 7, ground := Ground.data }], guard := none }) 8 _ (by rfl) (by kernel_rfl) (by rfl) hC ?hvu2_8 ?_
          case hvu2_8 => intro W hW; obtain ⟨hcW, hfW⟩ := bcell hW; have hgW := fun (p : Addr) (hp : p.block < _) => hW.cell (p := p) hp; (try simp only [World.size_alloc, World.size_setCell, World.size_drew] at hgW); go_simp <;> (with_reducible rfl)
          simp only [Act.put, List.setIfInBounds_toArray, List.set_cons_zero, List.set_cons_succ]
          refine' Reg.val (o := { dst := some 20, op := Op.fieldAddr 74 (Operand.tmp 19) 0, type := 0, pos := "small.go:242", after := #[{ on := 8, ground := Ground.data }], guard := none }) 9 _ (by rfl) (by kernel_rfl) (by rfl) hC ?hvu2_9 ?_
          case hvu2_9 => intro W hW; obtain ⟨hcW, hfW⟩ := bcell hW; have hgW := fun (p : Addr) (hp : p.block < _) => hW.cell (p := p) hp; (try simp only [World.size_alloc, World.size_setCell, World.size_drew] at hgW); go_simp <;> (with_reducible rfl)
          simp only [Act.put, List.setIfInBounds_toArray, List.set_cons_zero, List.set_cons_succ]
          refine' Reg.val (o := { dst := some 21, op := Op.load 48 (Operand.tmp 20), type := 48, pos := "small.go:242", after := #[{ on := 9, ground := Ground.data }], guard := none }) 10 _ (by rfl) (by kernel_rfl) (by rfl) hC ?hvu2_10 ?_
          case hvu2_10 => intro W hW; obtain ⟨hcW, hfW⟩ := bcell hW; have hgW := fun (p : Addr) (hp : p.block < _) => hW.cell (p := p) hp; (try simp only [World.size_alloc, World.size_setCell, World.size_drew] at hgW); go_simp <;> (with_reducible rfl)
          simp only [Act.put, List.setIfInBounds_toArray, List.set_cons_zero, List.set_cons_succ]
          refine' Reg.val (o := { dst := some 22, op := Op.binOp BinOp.neq 48 (Operand.tmp 16) (Operand.tmp 21) 48, type := 4, pos := "small.go:242", after := #[{ on := 5, ground := Ground.data }, { on := 10, ground := Ground.data }], guard := none }) 11 _ (by rfl) (by kernel_rfl) (by rfl) hC ?hvu2_11 ?_
          case hvu2_11 => intro W hW; obtain ⟨hcW, hfW⟩ := bcell hW; have hgW := fun (p : Addr) (hp : p.block < _) => hW.cell (p := p) hp; (try simp only [World.size_alloc, World.size_setCell, World.size_drew] at hgW); go_simp <;> (with_reducible rfl)
          simp only [Act.put, List.setIfInBounds_toArray, List.set_cons_zero, List.set_cons_succ]
          refine' Reg.val (o := { dst := some 23, op := Op.move (Operand.tmp 22), type := 4, pos := "small.go:242", after := #[{ on := 11, ground := Ground.data }], guard := none }) 12 _ (by rfl) (by kernel_rfl) (by rfl) hC ?hvu2_12 ?_
          case hvu2_12 => intro W _; go_simp <;> (with_reducible rfl)
          simp only [Act.put, List.setIfInBounds_toArray, List.set_cons_zero, List.set_cons_succ]
          refine' Reg.val (o := { dst := some 24, op := Op.move (Operand.tmp 0), type := 27, pos := "small.go:242", after := #[{ on := 12, ground := Ground.guard }], guard := some (12, false) }) 13 _ (by rfl) (by kernel_rfl) (by rfl) hC ?hvu2_13 ?_
          case hvu2_13 => intro W _; go_simp <;> (with_reducible rfl)
          simp only [Act.put, List.setIfInBounds_toArray, List.set_cons_zero, List.set_cons_succ]
          refine' Reg.val (o := { dst := some 25, op := Op.move (Operand.tmp 4), type := 3, pos := "small.go:242", after := #[{ on := 12, ground := Ground.guard }], guard := some (12, false) }) 14 _ (by rfl) (by kernel_rfl) (by rfl) hC ?hvu2_14 ?_
          case hvu2_14 => intro W _; go_simp <;> (with_reducible rfl)
          simp only [Act.put, List.setIfInBounds_toArray, List.set_cons_zero, List.set_cons_succ]
          refine' Reg.val (o := { dst := some 26, op := Op.binOp BinOp.sub 3 (Operand.tmp 25) (Operand.const (Value.int IntKind.i64 1)) 3, type := 3, pos := "small.go:242", after := #[{ on := 14, ground := Ground.data }, { on := 12, ground := Ground.guard }], guard := some (12, false) }) 15 _ (by rfl) (by kernel_rfl) (by rfl) hC ?hvu2_15 ?_
          case hvu2_15 => intro W hW; obtain ⟨hcW, hfW⟩ := bcell hW; have hgW := fun (p : Addr) (hp : p.block < _) => hW.cell (p := p) hp; (try simp only [World.size_alloc, World.size_setCell, World.size_drew] at hgW); go_simp <;> (with_reducible rfl)
          simp only [Act.put, List.setIfInBounds_toArray, List.set_cons_zero, List.set_cons_succ]
          refine' Reg.val (o := { dst := some 27, op := Op.indexAddr 27 (Operand.tmp 24) (Operand.tmp 26), type := 0, pos := "small.go:242", after := #[{ on := 13, ground := Ground.data }, { on := 15, ground := Ground.data }, { on := 12, ground := Ground.guard }], guard := some (12, false) }) 16 _ (by rfl) (by kernel_rfl) (by rfl) hC ?hvu2_16 ?_
          case hvu2_16 => intro W hW; obtain ⟨hcW, hfW⟩ := bcell hW; have hgW := fun (p : Addr) (hp : p.block < _) => hW.cell (p := p) hp; (try simp only [World.size_alloc, World.size_setCell, World.size_drew] at hgW); go_simp <;> (with_reducible rfl)
          simp only [Act.put, List.setIfInBounds_toArray, List.set_cons_zero, List.set_cons_succ]
          refine' Reg.val (o := { dst := some 28, op := Op.fieldAddr 74 (Operand.tmp 27) 1, type := 0, pos := "small.go:242", after := #[{ on := 16, ground := Ground.data }, { on := 12, ground := Ground.guard }], guard := some (12, false) }) 17 _ (by rfl) (by kernel_rfl) (by rfl) hC ?hvu2_17 ?_
          case hvu2_17 => intro W hW; obtain ⟨hcW, hfW⟩ := bcell hW; have hgW := fun (p : Addr) (hp : p.block < _) => hW.cell (p := p) hp; (try simp only [World.size_alloc, World.size_setCell, World.size_drew] at hgW); go_simp <;> (with_reducible rfl)
          simp only [Act.put, List.setIfInBounds_toArray, List.set_cons_zero, List.set_cons_succ]
          refine' Reg.val (o := { dst := some 29, op := Op.load 48 (Operand.tmp 28), type := 48, pos := "small.go:242", after := #[{ on := 17, ground := Ground.data }, { on := 12, ground := Ground.guard }], guard := some (12, false) }) 18 _ (by rfl) (by kernel_rfl) (by rfl) hC ?hvu2_18 ?_
          case hvu2_18 => intro W hW; obtain ⟨hcW, hfW⟩ := bcell hW; have hgW := fun (p : Addr) (hp : p.block < _) => hW.cell (p := p) hp; (try simp only [World.size_alloc, World.size_setCell, World.size_drew] at hgW); go_simp <;> (with_reducible rfl)
          simp only [Act.put, List.setIfInBounds_toArray, List.set_cons_zero, List.set_cons_succ]
          refine' Reg.val (o := { dst := some 30, op := Op.move (Operand.tmp 0), type := 27, pos := "small.go:242", after := #[{ on := 12, ground := Ground.guard }], guard := some (12, false) }) 19 _ (by rfl) (by kernel_rfl) (by rfl) hC ?hvu2_19 ?_
          case hvu2_19 => intro W _; go_simp <;> (with_reducible rfl)
          simp only [Act.put, List.setIfInBounds_toArray, List.set_cons_zero, List.set_cons_succ]
          refine' Reg.val (o := { dst := some 31, op := Op.move (Operand.tmp 4), type := 3, pos := "small.go:242", after := #[{ on := 12, ground := Ground.guard }], guard := some (12, false) }) 20 _ (by rfl) (by kernel_rfl) (by rfl) hC ?hvu2_20 ?_
          case hvu2_20 => intro W _; go_simp <;> (with_reducible rfl)
          simp only [Act.put, List.setIfInBounds_toArray, List.set_cons_zero, List.set_cons_succ]
          refine' Reg.val (o := { dst := some 32, op := Op.indexAddr 27 (Operand.tmp 30) (Operand.tmp 31), type := 0, pos := "small.go:242", after := #[{ on := 19, ground := Ground.data }, { on := 20, ground := Ground.data }, { on := 12, ground := Ground.guard }], guard := some (12, false) }) 21 _ (by rfl) (by kernel_rfl) (by rfl) hC ?hvu2_21 ?_
          case hvu2_21 => intro W hW; obtain ⟨hcW, hfW⟩ := bcell hW; have hgW := fun (p : Addr) (hp : p.block < _) => hW.cell (p := p) hp; (try simp only [World.size_alloc, World.size_setCell, World.size_drew] at hgW); go_simp <;> (with_reducible rfl)
          simp only [Act.put, List.setIfInBounds_toArray, List.set_cons_zero, List.set_cons_succ]
          refine' Reg.val (o := { dst := some 33, op := Op.fieldAddr 74 (Operand.tmp 32) 1, type := 0, pos := "small.go:242", after := #[{ on := 21, ground := Ground.data }, { on := 12, ground := Ground.guard }], guard := some (12, false) }) 22 _ (by rfl) (by kernel_rfl) (by rfl) hC ?hvu2_22 ?_
          case hvu2_22 => intro W hW; obtain ⟨hcW, hfW⟩ := bcell hW; have hgW := fun (p : Addr) (hp : p.block < _) => hW.cell (p := p) hp; (try simp only [World.size_alloc, World.size_setCell, World.size_drew] at hgW); go_simp <;> (with_reducible rfl)
          simp only [Act.put, List.setIfInBounds_toArray, List.set_cons_zero, List.set_cons_succ]
          refine' Reg.val (o := { dst := some 34, op := Op.load 48 (Operand.tmp 33), type := 48, pos := "small.go:242", after := #[{ on := 22, ground := Ground.data }, { on := 12, ground := Ground.guard }], guard := some (12, false) }) 23 _ (by rfl) (by kernel_rfl) (by rfl) hC ?hvu2_23 ?_
          case hvu2_23 => intro W hW; obtain ⟨hcW, hfW⟩ := bcell hW; have hgW := fun (p : Addr) (hp : p.block < _) => hW.cell (p := p) hp; (try simp only [World.size_alloc, World.size_setCell, World.size_drew] at hgW); go_simp <;> (with_reducible rfl)
          simp only [Act.put, List.setIfInBounds_toArray, List.set_cons_zero, List.set_cons_succ]
          refine' Reg.val (o := { dst := some 35, op := Op.binOp BinOp.neq 48 (Operand.tmp 29) (Operand.tmp 34) 48, type := 4, pos := "small.go:242", after := #[{ on := 18, ground := Ground.data }, { on := 23, ground := Ground.data }, { on := 12, ground := Ground.guard }], guard := some (12, false) }) 24 _ (by rfl) (by kernel_rfl) (by rfl) hC ?hvu2_24 ?_
          case hvu2_24 => intro W hW; obtain ⟨hcW, hfW⟩ := bcell hW; have hgW := fun (p : Addr) (hp : p.block < _) => hW.cell (p := p) hp; (try simp only [World.size_alloc, World.size_setCell, World.size_drew] at hgW); go_simp <;> (with_reducible rfl)
          simp only [Act.put, List.setIfInBounds_toArray, List.set_cons_zero, List.set_cons_succ]
          refine' Reg.val (o := { dst := some 36, op := Op.pick (Operand.tmp 23) (Operand.const (Value.bool true)) (Operand.tmp 35), type := 4, pos := "small.go:242", after := #[{ on := 12, ground := Ground.data }, { on := 24, ground := Ground.data }], guard := none }) 25 _ (by rfl) (by kernel_rfl) (by rfl) hC ?hvu2_25 ?_
          case hvu2_25 => intro W _; go_simp <;> (with_reducible rfl)
          simp only [Act.put, List.setIfInBounds_toArray, List.set_cons_zero, List.set_cons_succ]
          refine Reg.end_ (by kernel_rfl) ?_
          have hR := hS
          obtain ⟨hcS, hfS⟩ := bcell hS
          (try simp only [World.size_alloc, World.size_setCell, World.size_drew] at hcS hfS)
          have hz4 : wr.heap.size = w4.heap.size := by omega
          have O5 := Lib.hid (keepB hoo.out hR)
          have hno : ∀ g, u3.ownBlock = some g → w.heap.size ≤ g := fun g hg => (hoo.out.lt g hg).1
          have hno := Lib.hid hno
          have HR := Lib.hid hR
          have hlen := segs_len X Y k
          have hzr := hR.size
          have hzw := H.size
          have hs := Lib.hid (show sne X Y k = true by simp [sne, eqb, g1.out, g2.out])
          clear hS hB hC hR hcS hfS
          go_wp2_with (at_builtin; (refine wpList_append_own _ rfl _ _ 34 rfl w.heap.size 3 ii _ 1 8 Try.underlying34 hi1 hi2 hi3 hi4 rfl (by omega) _ (segs X Y k).length ((segs X Y k).map iv) rfl (O5.out.alloc _) ⟨w4.heap.size, 0, none⟩ 1 1 [iv k] rfl rfl (fun x u hx => by rw [add0, ← hz4]; exact ((Blk.new wr [iv k] 3).cell x).trans hx) (by intro u hu; simp at hu; subst hu; rfl) (by unfold maxLen; omega) (by omega) (by simp only [World.size_alloc]; omega) ?_; intro v1 w5 hown5 hgr5 hnil5; have hown5 := Lib.hid hown5; have hgr5 := Lib.hid hgr5; clear hnil5))
          go_roundw
          case rel =>
            have HT := H.trans (HR.out.mono hzw)
            have ho := hown5.out
            refine ⟨k + 1, by go_num, by omega, Or.inl (by omega), (HT.alloc HT.size _).grown hgr5.out (by simp only [World.size_alloc]; exact Nat.le_succ_of_le HT.size) hno.out, ?_⟩
            rw [segs_yes hk1 hs.out, List.length_append, List.map_append]
            exact ho
          case measure => simp [intOf]; omega
        · have h2 : (Ieee.double.order (Y (k - 1)) (Y k) != some .eq) = false := by simp [bne, g2]
          have g2 := Lib.hid g2
          go_wp2_with fail
          refine Reg.beginB (ops := regAt Try.f14 5) 26 (by kernel_rfl) (by kernel_rfl) (fun wr hS hB hzu3 => ?_)
          have hC := hS
          refine' Reg.val (o := { dst := some 11, op := Op.move (Operand.tmp 0), type := 27, pos := "small.go:242", after := #[], guard := none }) 0 _ (by rfl) (by kernel_rfl) (by rfl) hC ?hvu3_0 ?_
          case hvu3_0 => intro W _; go_simp <;> (with_reducible rfl)
          simp only [Act.put, List.setIfInBounds_toArray, List.set_cons_zero, List.set_cons_succ]
          refine' Reg.val (o := { dst := some 12, op := Op.move (Operand.tmp 4), type := 3, pos := "small.go:242", after := #[], guard := none }) 1 _ (by rfl) (by kernel_rfl) (by rfl) hC ?hvu3_1 ?_
          case hvu3_1 => intro W _; go_simp <;> (with_reducible rfl)
          simp only [Act.put, List.setIfInBounds_toArray, List.set_cons_zero, List.set_cons_succ]
          refine' Reg.val (o := { dst := some 13, op := Op.binOp BinOp.sub 3 (Operand.tmp 12) (Operand.const (Value.int IntKind.i64 1)) 3, type := 3, pos := "small.go:242", after := #[{ on := 1, ground := Ground.data }], guard := none }) 2 _ (by rfl) (by kernel_rfl) (by rfl) hC ?hvu3_2 ?_
          case hvu3_2 => intro W hW; obtain ⟨hcW, hfW⟩ := bcell hW; have hgW := fun (p : Addr) (hp : p.block < _) => hW.cell (p := p) hp; (try simp only [World.size_alloc, World.size_setCell, World.size_drew] at hgW); go_simp <;> (with_reducible rfl)
          simp only [Act.put, List.setIfInBounds_toArray, List.set_cons_zero, List.set_cons_succ]
          refine' Reg.val (o := { dst := some 14, op := Op.indexAddr 27 (Operand.tmp 11) (Operand.tmp 13), type := 0, pos := "small.go:242", after := #[{ on := 0, ground := Ground.data }, { on := 2, ground := Ground.data }], guard := none }) 3 _ (by rfl) (by kernel_rfl) (by rfl) hC ?hvu3_3 ?_
          case hvu3_3 => intro W hW; obtain ⟨hcW, hfW⟩ := bcell hW; have hgW := fun (p : Addr) (hp : p.block < _) => hW.cell (p := p) hp; (try simp only [World.size_alloc, World.size_setCell, World.size_drew] at hgW); go_simp <;> (with_reducible rfl)
          simp only [Act.put, List.setIfInBounds_toArray, List.set_cons_zero, List.set_cons_succ]
          refine' Reg.val (o := { dst := some 15, op := Op.fieldAddr 74 (Operand.tmp 14) 0, type := 0, pos := "small.go:242", after := #[{ on := 3, ground := Ground.data }], guard := none }) 4 _ (by rfl) (by kernel_rfl) (by rfl) hC ?hvu3_4 ?_
          case hvu3_4 => intro W hW; obtain ⟨hcW, hfW⟩ := bcell hW; have hgW := fun (p : Addr) (hp : p.block < _) => hW.cell (p := p) hp; (try simp only [World.size_alloc, World.size_setCell, World.size_drew] at hgW); go_simp <;> (with_reducible rfl)
          simp only [Act.put, List.setIfInBounds_toArray, List.set_cons_zero, List.set_cons_succ]
          refine' Reg.val (o := { dst := some 16, op := Op.load 48 (Operand.tmp 15), type := 48, pos := "small.go:242", after := #[{ on := 4, ground := Ground.data }], guard := none }) 5 _ (by rfl) (by kernel_rfl) (by rfl) hC ?hvu3_5 ?_
          case hvu3_5 => intro W hW; obtain ⟨hcW, hfW⟩ := bcell hW; have hgW := fun (p : Addr) (hp : p.block < _) => hW.cell (p := p) hp; (try simp only [World.size_alloc, World.size_setCell, World.size_drew] at hgW); go_simp <;> (with_reducible rfl)
          simp only [Act.put, List.setIfInBounds_toArray, List.set_cons_zero, List.set_cons_succ]
          refine' Reg.val (o := { dst := some 17, op := Op.move (Operand.tmp 0), type := 27, pos := "small.go:242", after := #[], guard := none }) 6 _ (by rfl) (by kernel_rfl) (by rfl) hC ?hvu3_6 ?_
          case hvu3_6 => intro W _; go_simp <;> (with_reducible rfl)
          simp only [Act.put, List.setIfInBounds_toArray, List.set_cons_zero, List.set_cons_succ]
          refine' Reg.val (o := { dst := some 18, op := Op.move (Operand.tmp 4), type := 3, pos := "small.go:242", after := #[], guard := none }) 7 _ (by rfl) (by kernel_rfl) (by rfl) hC ?hvu3_7 ?_
          case hvu3_7 => intro W _; go_simp <;> (with_reducible rfl)
          simp only [Act.put, List.setIfInBounds_toArray, List.set_cons_zero, List.set_cons_succ]
          refine' Reg.val (o := { dst := some 19, op := Op.indexAddr 27 (Operand.tmp 17) (Operand.tmp 18), type := 0, pos := "small.go:242", after := #[{ on := 6, ground := Ground.data }, { on := 7, ground := Ground.data }], guard := none }) 8 _ (by rfl) (by kernel_rfl) (by rfl) hC ?hvu3_8 ?_
          case hvu3_8 => intro W hW; obtain ⟨hcW, hfW⟩ := bcell hW; have hgW := fun (p : Addr) (hp : p.block < _) => hW.cell (p := p) hp; (try simp only [World.size_alloc, World.size_setCell, World.size_drew] at hgW); go_simp <;> (with_reducible rfl)
          simp only [Act.put, List.setIfInBounds_toArray, List.set_cons_zero, List.set_cons_succ]
          refine' Reg.val (o := { dst := some 20, op := Op.fieldAddr 74 (Operand.tmp 19) 0, type := 0, pos := "small.go:242", after := #[{ on := 8, ground := Ground.data }], guard := none }) 9 _ (by rfl) (by kernel_rfl) (by rfl) hC ?hvu3_9 ?_
          case hvu3_9 => intro W hW; obtain ⟨hcW, hfW⟩ := bcell hW; have hgW := fun (p : Addr) (hp : p.block < _) => hW.cell (p := p) hp; (try simp only [World.size_alloc, World.size_setCell, World.size_drew] at hgW); go_simp <;> (with_reducible rfl)
          simp only [Act.put, List.setIfInBounds_toArray, List.set_cons_zero, List.set_cons_succ]
          refine' Reg.val (o := { dst := some 21, op := Op.load 48 (Operand.tmp 20), type := 48, pos := "small.go:242", after := #[{ on := 9, ground := Ground.data }], guard := none }) 10 _ (by rfl) (by kernel_rfl) (by rfl) hC ?hvu3_10 ?_
          case hvu3_10 => intro W hW; obtain ⟨hcW, hfW⟩ := bcell hW; have hgW := fun (p : Addr) (hp : p.block < _) => hW.cell (p := p) hp; (try simp only [World.size_alloc, World.size_setCell, World.size_drew] at hgW); go_simp <;> (with_reducible rfl)
          simp only [Act.put, List.setIfInBounds_toArray, List.set_cons_zero, List.set_cons_succ]
          refine' Reg.val (o := { dst := some 22, op := Op.binOp BinOp.neq 48 (Operand.tmp 16) (Operand.tmp 21) 48, type := 4, pos := "small.go:242", after := #[{ on := 5, ground := Ground.data }, { on := 10, ground := Ground.data }], guard := none }) 11 _ (by rfl) (by kernel_rfl) (by rfl) hC ?hvu3_11 ?_
          case hvu3_11 => intro W hW; obtain ⟨hcW, hfW⟩ := bcell hW; have hgW := fun (p : Addr) (hp : p.block < _) => hW.cell (p := p) hp; (try simp only [World.size_alloc, World.size_setCell, World.size_drew] at hgW); go_simp <;> (with_reducible rfl)
          simp only [Act.put, List.setIfInBounds_toArray, List.set_cons_zero, List.set_cons_succ]
          refine' Reg.val (o := { dst := some 23, op := Op.move (Operand.tmp 22), type := 4, pos := "small.go:242", after := #[{ on := 11, ground := Ground.data }], guard := none }) 12 _ (by rfl) (by kernel_rfl) (by rfl) hC ?hvu3_12 ?_
          case hvu3_12 => intro W _; go_simp <;> (with_reducible rfl)
          simp only [Act.put, List.setIfInBounds_toArray, List.set_cons_zero, List.set_cons_succ]
          refine' Reg.val (o := { dst := some 24, op := Op.move (Operand.tmp 0), type := 27, pos := "small.go:242", after := #[{ on := 12, ground := Ground.guard }], guard := some (12, false) }) 13 _ (by rfl) (by kernel_rfl) (by rfl) hC ?hvu3_13 ?_
          case hvu3_13 => intro W _; go_simp <;> (with_reducible rfl)
          simp only [Act.put, List.setIfInBounds_toArray, List.set_cons_zero, List.set_cons_succ]
          refine' Reg.val (o := { dst := some 25, op := Op.move (Operand.tmp 4), type := 3, pos := "small.go:242", after := #[{ on := 12, ground := Ground.guard }], guard := some (12, false) }) 14 _ (by rfl) (by kernel_rfl) (by rfl) hC ?hvu3_14 ?_
          case hvu3_14 => intro W _; go_simp <;> (with_reducible rfl)
          simp only [Act.put, List.setIfInBounds_toArray, List.set_cons_zero, List.set_cons_succ]
          refine' Reg.val (o := { dst := some 26, op := Op.binOp BinOp.sub 3 (Operand.tmp 25) (Operand.const (Value.int IntKind.i64 1)) 3, type := 3, pos := "small.go:242", after := #[{ on := 14, ground := Ground.data }, { on := 12, ground := Ground.guard }], guard := some (12, false) }) 15 _ (by rfl) (by kernel_rfl) (by rfl) hC ?hvu3_15 ?_
          case hvu3_15 => intro W hW; obtain ⟨hcW, hfW⟩ := bcell hW; have hgW := fun (p : Addr) (hp : p.block < _) => hW.cell (p := p) hp; (try simp only [World.size_alloc, World.size_setCell, World.size_drew] at hgW); go_simp <;> (with_reducible rfl)
          simp only [Act.put, List.setIfInBounds_toArray, List.set_cons_zero, List.set_cons_succ]
          refine' Reg.val (o := { dst := some 27, op := Op.indexAddr 27 (Operand.tmp 24) (Operand.tmp 26), type := 0, pos := "small.go:242", after := #[{ on := 13, ground := Ground.data }, { on := 15, ground := Ground.data }, { on := 12, ground := Ground.guard }], guard := some (12, false) }) 16 _ (by rfl) (by kernel_rfl) (by rfl) hC ?hvu3_16 ?_
          case hvu3_16 => intro W hW; obtain ⟨hcW, hfW⟩ := bcell hW; have hgW := fun (p : Addr) (hp : p.block < _) => hW.cell (p := p) hp; (try simp only [World.size_alloc, World.size_setCell, World.size_drew] at hgW); go_simp <;> (with_reducible rfl)
          simp only [Act.put, List.setIfInBounds_toArray, List.set_cons_zero, List.set_cons_succ]
          refine' Reg.val (o := { dst := some 28, op := Op.fieldAddr 74 (Operand.tmp 27) 1, type := 0, pos := "small.go:242", after := #[{ on := 16, ground := Ground.data }, { on := 12, ground := Ground.guard }], guard := some (12, false) }) 17 _ (by rfl) (by kernel_rfl) (by rfl) hC ?hvu3_17 ?_
          case hvu3_17 => intro W hW; obtain ⟨hcW, hfW⟩ := bcell hW; have hgW := fun (p : Addr) (hp : p.block < _) => hW.cell (p := p) hp; (try simp only [World.size_alloc, World.size_setCell, World.size_drew] at hgW); go_simp <;> (with_reducible rfl)
          simp only [Act.put, List.setIfInBounds_toArray, List.set_cons_zero, List.set_cons_succ]
          refine' Reg.val (o := { dst := some 29, op := Op.load 48 (Operand.tmp 28), type := 48, pos := "small.go:242", after := #[{ on := 17, ground := Ground.data }, { on := 12, ground := Ground.guard }], guard := some (12, false) }) 18 _ (by rfl) (by kernel_rfl) (by rfl) hC ?hvu3_18 ?_
          case hvu3_18 => intro W hW; obtain ⟨hcW, hfW⟩ := bcell hW; have hgW := fun (p : Addr) (hp : p.block < _) => hW.cell (p := p) hp; (try simp only [World.size_alloc, World.size_setCell, World.size_drew] at hgW); go_simp <;> (with_reducible rfl)
          simp only [Act.put, List.setIfInBounds_toArray, List.set_cons_zero, List.set_cons_succ]
          refine' Reg.val (o := { dst := some 30, op := Op.move (Operand.tmp 0), type := 27, pos := "small.go:242", after := #[{ on := 12, ground := Ground.guard }], guard := some (12, false) }) 19 _ (by rfl) (by kernel_rfl) (by rfl) hC ?hvu3_19 ?_
          case hvu3_19 => intro W _; go_simp <;> (with_reducible rfl)
          simp only [Act.put, List.setIfInBounds_toArray, List.set_cons_zero, List.set_cons_succ]
          refine' Reg.val (o := { dst := some 31, op := Op.move (Operand.tmp 4), type := 3, pos := "small.go:242", after := #[{ on := 12, ground := Ground.guard }], guard := some (12, false) }) 20 _ (by rfl) (by kernel_rfl) (by rfl) hC ?hvu3_20 ?_
          case hvu3_20 => intro W _; go_simp <;> (with_reducible rfl)
          simp only [Act.put, List.setIfInBounds_toArray, List.set_cons_zero, List.set_cons_succ]
          refine' Reg.val (o := { dst := some 32, op := Op.indexAddr 27 (Operand.tmp 30) (Operand.tmp 31), type := 0, pos := "small.go:242", after := #[{ on := 19, ground := Ground.data }, { on := 20, ground := Ground.data }, { on := 12, ground := Ground.guard }], guard := some (12, false) }) 21 _ (by rfl) (by kernel_rfl) (by rfl) hC ?hvu3_21 ?_
          case hvu3_21 => intro W hW; obtain ⟨hcW, hfW⟩ := bcell hW; have hgW := fun (p : Addr) (hp : p.block < _) => hW.cell (p := p) hp; (try simp only [World.size_alloc, World.size_setCell, World.size_drew] at hgW); go_simp <;> (with_reducible rfl)
          simp only [Act.put, List.setIfInBounds_toArray, List.set_cons_zero, List.set_cons_succ]
          refine' Reg.val (o := { dst := some 33, op := Op.fieldAddr 74 (Operand.tmp 32) 1, type := 0, pos := "small.go:242", after := #[{ on := 21, ground := Ground.data }, { on := 12, ground := Ground.guard }], guard := some (12, false) }) 22 _ (by rfl) (by kernel_rfl) (by rfl) hC ?hvu3_22 ?_
          case hvu3_22 => intro W hW; obtain ⟨hcW, hfW⟩ := bcell hW; have hgW := fun (p : Addr) (hp : p.block < _) => hW.cell (p := p) hp; (try simp only [World.size_alloc, World.size_setCell, World.size_drew] at hgW); go_simp <;> (with_reducible rfl)
          simp only [Act.put, List.setIfInBounds_toArray, List.set_cons_zero, List.set_cons_succ]
          refine' Reg.val (o := { dst := some 34, op := Op.load 48 (Operand.tmp 33), type := 48, pos := "small.go:242", after := #[{ on := 22, ground := Ground.data }, { on := 12, ground := Ground.guard }], guard := some (12, false) }) 23 _ (by rfl) (by kernel_rfl) (by rfl) hC ?hvu3_23 ?_
          case hvu3_23 => intro W hW; obtain ⟨hcW, hfW⟩ := bcell hW; have hgW := fun (p : Addr) (hp : p.block < _) => hW.cell (p := p) hp; (try simp only [World.size_alloc, World.size_setCell, World.size_drew] at hgW); go_simp <;> (with_reducible rfl)
          simp only [Act.put, List.setIfInBounds_toArray, List.set_cons_zero, List.set_cons_succ]
          refine' Reg.val (o := { dst := some 35, op := Op.binOp BinOp.neq 48 (Operand.tmp 29) (Operand.tmp 34) 48, type := 4, pos := "small.go:242", after := #[{ on := 18, ground := Ground.data }, { on := 23, ground := Ground.data }, { on := 12, ground := Ground.guard }], guard := some (12, false) }) 24 _ (by rfl) (by kernel_rfl) (by rfl) hC ?hvu3_24 ?_
          case hvu3_24 => intro W hW; obtain ⟨hcW, hfW⟩ := bcell hW; have hgW := fun (p : Addr) (hp : p.block < _) => hW.cell (p := p) hp; (try simp only [World.size_alloc, World.size_setCell, World.size_drew] at hgW); go_simp <;> (with_reducible rfl)
          simp only [Act.put, List.setIfInBounds_toArray, List.set_cons_zero, List.set_cons_succ]
          refine' Reg.val (o := { dst := some 36, op := Op.pick (Operand.tmp 23) (Operand.const (Value.bool true)) (Operand.tmp 35), type := 4, pos := "small.go:242", after := #[{ on := 12, ground := Ground.data }, { on := 24, ground := Ground.data }], guard := none }) 25 _ (by rfl) (by kernel_rfl) (by rfl) hC ?hvu3_25 ?_
          case hvu3_25 => intro W _; go_simp <;> (with_reducible rfl)
          simp only [Act.put, List.setIfInBounds_toArray, List.set_cons_zero, List.set_cons_succ]
          refine Reg.end_ (by kernel_rfl) ?_
          have hR := hS
          obtain ⟨hcS, hfS⟩ := bcell hS
          (try simp only [World.size_alloc, World.size_setCell, World.size_drew] at hcS hfS)
          have hs : sne X Y k = false := by simp [sne, eqb, g1.out, g2.out]
          have hzw := H.size
          have O5 := Lib.hid (keepB hoo.out hR)
          go_wp2_with fail
          go_roundw
          case rel =>
            refine ⟨k + 1, by go_num, by omega, Or.inl (by omega), H.trans (hR.mono hzw), ?_⟩
            rw [segs_no hs]
            exact O5.out
          case measure => simp [intOf]; omega
    · have hkk : segs X Y k = segs X Y q := by
        rcases hkq with h | h
        · rw [show k = q by omega]
        · subst h
          have : q = 0 ∨ q = 1 := by omega
          rcases this with rfl | rfl
          · rw [segs_one, segs_zero]
          · rfl
      rw [hkk] at hoo
      obtain ⟨P', c', rfl, hI⟩ := Ints.of_owns hoo.out
      have hI := Lib.hid hI
      clear hkk hoo
      go_wp2_with fail
      go_returns
      exact ⟨⟨P', c', rfl, hI.out⟩, H⟩
end Go.Proofs.Ytpbllagjcdcnpaa
