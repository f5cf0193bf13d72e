/- Walks of a sequence's Get and Slice, for each type of coordinates. -/
import Derived.Test.YtpbllagjcdcnpaaGLine
namespace Go.Proofs.Ytpbllagjcdcnpaa
open Go.ChangeShapes Go.WideShapes Go.ChangeAt Go.RowKit
open Fl
set_option linter.unusedSimpArgs false
set_option linter.unusedVariables false
attribute [local go_sem] run_store_float run_fadd run_fsub run_fmul run_fdiv run_equalIn_float fmt64

theorem But.gen {B : Nat} {rs : List Nat} {w0 w : World} (h : But B rs w0 w) : ∀ p : Addr, p.block < B → p.block ∉ rs → w.cell? p = w0.cell? p := fun p hb hr => World.cell?_of_block (h.block p.block hb hr)
abbrev sg (D : Int) (A : Option Addr) (N c : Nat) : Value := .agg #[.int .u8 D, .slice A N c]
def zOf (D : Int) (f : Nat → Nat) (j : Nat) : Nat := if D = 1 ∨ D = 3 then f (j + 2) else 0
def mOf (D : Int) (f : Nat → Nat) (j : Nat) : Nat := if D = 2 then f (j + 2) else if D = 3 then f (j + 3) else 0
abbrev co (D : Int) (x y z m : Nat) : Value := .agg #[fw x, fw y, fw z, fw m, .int .u8 D]
set_option maxRecDepth 20000 in
set_option maxHeartbeats 8000000 in
theorem get_0 (A : Option Addr) (N c i j : Nat) (f : Nat → Nat) (w : World) (hf : Flo w A N c f) (hN : N ≤ 2000) (hj : j = i * 2) (hjN : j + 2 ≤ N) :
    Calls Try.prog 71 #[sg 0 A N c, .int .i64 i] w fun e w' => e = .returned (co 0 (f j) (f (j + 1)) (0) (0)) ∧ Below w.heap.size w w' := by
  have hd := Lib.hid fun W => dimension_any 0 (by unfold Is4; omega) W
  have hwd : wid 0 = 2 := by decide
  rw [hwd] at hd
  have hij : (i : Int) * 2 = (j : Int) := by rw [hj, Int.natCast_mul]; rfl
  have hj0 : j < N := by omega
  have hw0 : IntKind.i64.wrap (j : Int) = (j : Int) := by rw [IntKind.wrap_i64]; omega
  obtain ⟨a, rfl⟩ := hf.some hj0
  clear hj
  have hfh := Lib.hid hf
  clear hf
  go_enter Try.func71, Try.ntmps71
  go_wp2_with (go_at_call 74; refine (hd.out _).mono ?_; rintro e w1 ⟨rfl, hb⟩; have hb1 := Lib.hid hb; clear hb)
  have hf := hfh.out
  have hz1 := hb1.out.size
  simp only [World.size_alloc] at hz1
  have K0 := ((Blk.new w [.int .u8 0, .slice (some a) N c] 68).alloc (.cells #[fw 0, fw 0, fw 0, fw 0, .int .u8 0] 82)).keep hb1.out (by simp only [World.size_alloc]; omega)
  have K1 := (Blk.new (w.alloc (.cells #[.int .u8 0, .slice (some a) N c] 68)) [fw 0, fw 0, fw 0, fw 0, .int .u8 0] 82).keep hb1.out (by simp only [World.size_alloc]; omega)
  simp only [World.size_alloc] at K1
  have L0 := K0.lt
  have L1 := K1.lt
  obtain ⟨k0, k1, g0, g1⟩ := K0.c2
  have HT : Below w.heap.size w w1 := Below.trans (by go_grown) (hb1.out.mono (by simp only [World.size_alloc]; omega))
  have z0 := hf.cell a rfl j (by omega)
  have p0 := (HT.cell (World.block_lt_of_cell? w _ z0)).trans z0
  have z1 := hf.cell a rfl (j + 1) (by omega)
  have p1 := (HT.cell (World.block_lt_of_cell? w _ z1)).trans z1
  have hab : a.block < w1.heap.size := by have := World.block_lt_of_cell? w _ z0; rw [addBlk] at this; have := HT.size; omega
  have hab0 : (a.add j).block < w1.heap.size := by rw [addBlk]; exact hab
  have p1' : w1.cell? ⟨a.block, a.off + (j + 1), none⟩ = some (fw (f (j + 1))) := by rw [← p1]; rfl
  have hw1 : IntKind.i64.wrap ((j : Int) + 1) = (j : Int) + 1 := by rw [IntKind.wrap_i64]; omega
  have hge1 : 0 ≤ (j : Int) + 1 := by omega
  have hlt1 : (j : Int) + 1 < (N : Int) := by omega
  have htn1 : ((j : Int) + 1).toNat = j + 1 := by omega
  have HT := Lib.hid HT
  have HK0 := Lib.hid K0
  have HK1 := Lib.hid K1
  clear K0 K1 hf z0 z1
  obtain ⟨w4, rfl⟩ : ∃ w4, w4 = w1 := ⟨_, rfl⟩
  refine Reg.beginB (ops := regAt Try.f71 2) 21 (by kernel_rfl) (by kernel_rfl) (fun wr hS hB hzu1 => ?_)
  have hC := hS
  refine' Reg.val (o := { dst := some 10, op := Op.fieldAddr 68 (Operand.tmp 2) 1, type := 0, pos := "type_sequence.go:62", after := #[], guard := none }) 0 _ (by rfl) (by kernel_rfl) (by rfl) hC ?hvu1_0 ?_
  case hvu1_0 => intro W hW; obtain ⟨hcW, hfW⟩ := bcell hW; have hgW := fun (p : Addr) (hp : p.block < _) => hW.cell (p := p) hp; (try simp only [World.size_alloc, World.size_setCell, World.size_drew] at hgW); go_simp <;> (with_reducible rfl)
  simp only [Act.put, List.setIfInBounds_toArray, List.set_cons_zero, List.set_cons_succ]
  refine' Reg.val (o := { dst := some 11, op := Op.load 22 (Operand.tmp 10), type := 22, pos := "type_sequence.go:62", after := #[{ on := 0, ground := Ground.data }], guard := none }) 1 _ (by rfl) (by kernel_rfl) (by rfl) hC ?hvu1_1 ?_
  case hvu1_1 => intro W hW; obtain ⟨hcW, hfW⟩ := bcell hW; have hgW := fun (p : Addr) (hp : p.block < _) => hW.cell (p := p) hp; (try simp only [World.size_alloc, World.size_setCell, World.size_drew] at hgW); go_simp <;> (with_reducible rfl)
  simp only [Act.put, List.setIfInBounds_toArray, List.set_cons_zero, List.set_cons_succ]
  refine' Reg.val (o := { dst := some 12, op := Op.move (Operand.tmp 1), type := 3, pos := "type_sequence.go:62", after := #[], guard := none }) 2 _ (by rfl) (by kernel_rfl) (by rfl) hC ?hvu1_2 ?_
  case hvu1_2 => intro W _; go_simp <;> (with_reducible rfl)
  simp only [Act.put, List.setIfInBounds_toArray, List.set_cons_zero, List.set_cons_succ]
  refine' Reg.val (o := { dst := some 13, op := Op.move (Operand.tmp 5), type := 3, pos := "type_sequence.go:62", after := #[], guard := none }) 3 _ (by rfl) (by kernel_rfl) (by rfl) hC ?hvu1_3 ?_
  case hvu1_3 => intro W _; go_simp <;> (with_reducible rfl)
  simp only [Act.put, List.setIfInBounds_toArray, List.set_cons_zero, List.set_cons_succ]
  refine' Reg.val (o := { dst := some 14, op := Op.binOp BinOp.mul 3 (Operand.tmp 12) (Operand.tmp 13) 3, type := 3, pos := "type_sequence.go:62", after := #[{ on := 2, ground := Ground.data }, { on := 3, ground := Ground.data }], guard := none }) 4 _ (by rfl) (by kernel_rfl) (by rfl) hC ?hvu1_4 ?_
  case hvu1_4 => intro W hW; obtain ⟨hcW, hfW⟩ := bcell hW; have hgW := fun (p : Addr) (hp : p.block < _) => hW.cell (p := p) hp; (try simp only [World.size_alloc, World.size_setCell, World.size_drew] at hgW); go_simp <;> (with_reducible rfl)
  simp only [Act.put, List.setIfInBounds_toArray, List.set_cons_zero, List.set_cons_succ]
  refine' Reg.val (o := { dst := some 15, op := Op.indexAddr 22 (Operand.tmp 11) (Operand.tmp 14), type := 0, pos := "type_sequence.go:62", after := #[{ on := 1, ground := Ground.data }, { on := 4, ground := Ground.data }], guard := none }) 5 _ (by rfl) (by kernel_rfl) (by rfl) hC ?hvu1_5 ?_
  case hvu1_5 => intro W hW; obtain ⟨hcW, hfW⟩ := bcell hW; have hgW := fun (p : Addr) (hp : p.block < _) => hW.cell (p := p) hp; (try simp only [World.size_alloc, World.size_setCell, World.size_drew] at hgW); go_simp <;> (with_reducible rfl)
  simp only [Act.put, List.setIfInBounds_toArray, List.set_cons_zero, List.set_cons_succ]
  refine' Reg.val (o := { dst := some 16, op := Op.load 48 (Operand.tmp 15), type := 48, pos := "type_sequence.go:62", after := #[{ on := 5, ground := Ground.data }], guard := none }) 6 _ (by rfl) (by kernel_rfl) (by rfl) hC ?hvu1_6 ?_
  case hvu1_6 => intro W hW; obtain ⟨hcW, hfW⟩ := bcell hW; have hgW := fun (p : Addr) (hp : p.block < _) => hW.cell (p := p) hp; (try simp only [World.size_alloc, World.size_setCell, World.size_drew] at hgW); go_simp <;> (with_reducible rfl)
  simp only [Act.put, List.setIfInBounds_toArray, List.set_cons_zero, List.set_cons_succ]
  refine' Reg.val (o := { dst := some 17, op := Op.fieldAddr 68 (Operand.tmp 2) 1, type := 0, pos := "type_sequence.go:62", after := #[], guard := none }) 7 _ (by rfl) (by kernel_rfl) (by rfl) hC ?hvu1_7 ?_
  case hvu1_7 => intro W hW; obtain ⟨hcW, hfW⟩ := bcell hW; have hgW := fun (p : Addr) (hp : p.block < _) => hW.cell (p := p) hp; (try simp only [World.size_alloc, World.size_setCell, World.size_drew] at hgW); go_simp <;> (with_reducible rfl)
  simp only [Act.put, List.setIfInBounds_toArray, List.set_cons_zero, List.set_cons_succ]
  refine' Reg.val (o := { dst := some 18, op := Op.load 22 (Operand.tmp 17), type := 22, pos := "type_sequence.go:62", after := #[{ on := 7, ground := Ground.data }], guard := none }) 8 _ (by rfl) (by kernel_rfl) (by rfl) hC ?hvu1_8 ?_
  case hvu1_8 => intro W hW; obtain ⟨hcW, hfW⟩ := bcell hW; have hgW := fun (p : Addr) (hp : p.block < _) => hW.cell (p := p) hp; (try simp only [World.size_alloc, World.size_setCell, World.size_drew] at hgW); go_simp <;> (with_reducible rfl)
  simp only [Act.put, List.setIfInBounds_toArray, List.set_cons_zero, List.set_cons_succ]
  refine' Reg.val (o := { dst := some 19, op := Op.move (Operand.tmp 1), type := 3, pos := "type_sequence.go:62", after := #[], guard := none }) 9 _ (by rfl) (by kernel_rfl) (by rfl) hC ?hvu1_9 ?_
  case hvu1_9 => intro W _; go_simp <;> (with_reducible rfl)
  simp only [Act.put, List.setIfInBounds_toArray, List.set_cons_zero, List.set_cons_succ]
  refine' Reg.val (o := { dst := some 20, op := Op.move (Operand.tmp 5), type := 3, pos := "type_sequence.go:62", after := #[], guard := none }) 10 _ (by rfl) (by kernel_rfl) (by rfl) hC ?hvu1_10 ?_
  case hvu1_10 => intro W _; go_simp <;> (with_reducible rfl)
  simp only [Act.put, List.setIfInBounds_toArray, List.set_cons_zero, List.set_cons_succ]
  refine' Reg.val (o := { dst := some 21, op := Op.binOp BinOp.mul 3 (Operand.tmp 19) (Operand.tmp 20) 3, type := 3, pos := "type_sequence.go:62", after := #[{ on := 9, ground := Ground.data }, { on := 10, ground := Ground.data }], guard := none }) 11 _ (by rfl) (by kernel_rfl) (by rfl) hC ?hvu1_11 ?_
  case hvu1_11 => intro W hW; obtain ⟨hcW, hfW⟩ := bcell hW; have hgW := fun (p : Addr) (hp : p.block < _) => hW.cell (p := p) hp; (try simp only [World.size_alloc, World.size_setCell, World.size_drew] at hgW); go_simp <;> (with_reducible rfl)
  simp only [Act.put, List.setIfInBounds_toArray, List.set_cons_zero, List.set_cons_succ]
  refine' Reg.val (o := { dst := some 22, op := Op.binOp BinOp.add 3 (Operand.tmp 21) (Operand.const (Value.int IntKind.i64 1)) 3, type := 3, pos := "type_sequence.go:62", after := #[{ on := 11, ground := Ground.data }], guard := none }) 12 _ (by rfl) (by kernel_rfl) (by rfl) hC ?hvu1_12 ?_
  case hvu1_12 => intro W hW; obtain ⟨hcW, hfW⟩ := bcell hW; have hgW := fun (p : Addr) (hp : p.block < _) => hW.cell (p := p) hp; (try simp only [World.size_alloc, World.size_setCell, World.size_drew] at hgW); go_simp <;> (with_reducible rfl)
  simp only [Act.put, List.setIfInBounds_toArray, List.set_cons_zero, List.set_cons_succ]
  refine' Reg.val (o := { dst := some 23, op := Op.indexAddr 22 (Operand.tmp 18) (Operand.tmp 22), type := 0, pos := "type_sequence.go:62", after := #[{ on := 8, ground := Ground.data }, { on := 12, ground := Ground.data }], guard := none }) 13 _ (by rfl) (by kernel_rfl) (by rfl) hC ?hvu1_13 ?_
  case hvu1_13 => intro W hW; obtain ⟨hcW, hfW⟩ := bcell hW; have hgW := fun (p : Addr) (hp : p.block < _) => hW.cell (p := p) hp; (try simp only [World.size_alloc, World.size_setCell, World.size_drew] at hgW); go_simp <;> (with_reducible rfl)
  simp only [Act.put, List.setIfInBounds_toArray, List.set_cons_zero, List.set_cons_succ]
  refine' Reg.val (o := { dst := some 24, op := Op.load 48 (Operand.tmp 23), type := 48, pos := "type_sequence.go:62", after := #[{ on := 13, ground := Ground.data }], guard := none }) 14 _ (by rfl) (by kernel_rfl) (by rfl) hC ?hvu1_14 ?_
  case hvu1_14 => intro W hW; obtain ⟨hcW, hfW⟩ := bcell hW; have hgW := fun (p : Addr) (hp : p.block < _) => hW.cell (p := p) hp; (try simp only [World.size_alloc, World.size_setCell, World.size_drew] at hgW); go_simp <;> (with_reducible rfl)
  simp only [Act.put, List.setIfInBounds_toArray, List.set_cons_zero, List.set_cons_succ]
  refine' Reg.val (o := { dst := some 25, op := Op.build 80 #[(0, Operand.tmp 16), (1, Operand.tmp 24)], type := 80, pos := "type_sequence.go:62", after := #[{ on := 6, ground := Ground.data }, { on := 14, ground := Ground.data }], guard := none }) 15 _ (by rfl) (by kernel_rfl) (by rfl) hC ?hvu1_15 ?_
  case hvu1_15 => intro W hW; obtain ⟨hcW, hfW⟩ := bcell hW; have hgW := fun (p : Addr) (hp : p.block < _) => hW.cell (p := p) hp; (try simp only [World.size_alloc, World.size_setCell, World.size_drew] at hgW); go_simp <;> (with_reducible rfl)
  simp only [Act.put, List.setIfInBounds_toArray, List.set_cons_zero, List.set_cons_succ]
  refine' Reg.val (o := { dst := some 26, op := Op.fieldAddr 68 (Operand.tmp 2) 0, type := 0, pos := "type_sequence.go:62", after := #[], guard := none }) 16 _ (by rfl) (by kernel_rfl) (by rfl) hC ?hvu1_16 ?_
  case hvu1_16 => intro W hW; obtain ⟨hcW, hfW⟩ := bcell hW; have hgW := fun (p : Addr) (hp : p.block < _) => hW.cell (p := p) hp; (try simp only [World.size_alloc, World.size_setCell, World.size_drew] at hgW); go_simp <;> (with_reducible rfl)
  simp only [Act.put, List.setIfInBounds_toArray, List.set_cons_zero, List.set_cons_succ]
  refine' Reg.val (o := { dst := some 27, op := Op.load 66 (Operand.tmp 26), type := 66, pos := "type_sequence.go:62", after := #[{ on := 16, ground := Ground.data }], guard := none }) 17 _ (by rfl) (by kernel_rfl) (by rfl) hC ?hvu1_17 ?_
  case hvu1_17 => intro W hW; obtain ⟨hcW, hfW⟩ := bcell hW; have hgW := fun (p : Addr) (hp : p.block < _) => hW.cell (p := p) hp; (try simp only [World.size_alloc, World.size_setCell, World.size_drew] at hgW); go_simp <;> (with_reducible rfl)
  simp only [Act.put, List.setIfInBounds_toArray, List.set_cons_zero, List.set_cons_succ]
  refine' Reg.val (o := { dst := some 28, op := Op.build 82 #[(0, Operand.tmp 25), (3, Operand.tmp 27)], type := 82, pos := "type_sequence.go:62", after := #[{ on := 15, ground := Ground.data }, { on := 17, ground := Ground.data }], guard := none }) 18 _ (by rfl) (by kernel_rfl) (by rfl) hC ?hvu1_18 ?_
  case hvu1_18 => intro W hW; obtain ⟨hcW, hfW⟩ := bcell hW; have hgW := fun (p : Addr) (hp : p.block < _) => hW.cell (p := p) hp; (try simp only [World.size_alloc, World.size_setCell, World.size_drew] at hgW); go_simp <;> (with_reducible rfl)
  simp only [Act.put, List.setIfInBounds_toArray, List.set_cons_zero, List.set_cons_succ]
  refine Reg.new (o := { dst := some 6, op := Op.alloc 82, type := 0, pos := "type_sequence.go:62", after := #[], guard := none }) 19 (by rfl) (by kernel_rfl) (by rfl) (fun _ hb => (Below.trans hS (hb.mono hB))) (fun K Q' hK => ?_)
  go_simp
  refine hK _ _ (by go_grown) ?_
  clear hK K
  clear hC
  intro hb hN19 hC
  have hBN19 := hB
  have hSb19 := hS
  replace hS := Below.trans hS (hb.mono hB)
  replace hB := Nat.le_trans hB hb.size
  clear hb
  refine Reg.one (o := { dst := none, op := Op.store 82 (Operand.tmp 6) (Operand.tmp 28), type := 0, pos := "type_sequence.go:62", after := #[{ on := 19, ground := Ground.data }, { on := 18, ground := Ground.data }, { on := 0, ground := Ground.phase }, { on := 1, ground := Ground.phase }, { on := 2, ground := Ground.phase }, { on := 3, ground := Ground.phase }, { on := 4, ground := Ground.phase }, { on := 5, ground := Ground.phase }, { on := 6, ground := Ground.phase }, { on := 7, ground := Ground.phase }, { on := 8, ground := Ground.phase }, { on := 9, ground := Ground.phase }, { on := 10, ground := Ground.phase }, { on := 11, ground := Ground.phase }, { on := 12, ground := Ground.phase }, { on := 13, ground := Ground.phase }, { on := 14, ground := Ground.phase }, { on := 15, ground := Ground.phase }, { on := 16, ground := Ground.phase }, { on := 17, ground := Ground.phase }, { on := 18, ground := Ground.phase }, { on := 19, ground := Ground.phase }], guard := none }) 20 (by rfl) (by kernel_rfl) (by rfl)  (fun K Q' hK => ?_)
  obtain ⟨hcR, hfR⟩ := bcell hS
  obtain ⟨hcN19, hfN19⟩ := bcell hN19
  (try simp only [World.size_alloc, World.size_setCell, World.size_drew] at hcN19 hfN19)
  go_simp
  refine hK _ _ (by repeat (first | exact hS | assumption | exact But.of_below rfl hS | exact hC | refine But.setCell ?_ (by simp) _ | refine Below.setCell ?_ ?_ _ | refine Below.alloc ?_ ?_ _ | go_size)) (fun hC' => ?_)
  clear hK K
  clear hC
  have hC := hC'
  clear hC'
  refine Reg.end_ (by kernel_rfl) ?_
  have hR := hS
  obtain ⟨hcS, hfS⟩ := bcell hS
  (try simp only [World.size_alloc, World.size_setCell, World.size_drew] at hcS hfS)
  have K5 := Blk.new wr [fw (f j), fw (f (j + 1)), fw 0, fw 0, .int .u8 0] 82
  have hz4 : wr.heap.size = w4.heap.size := by omega
  rw [hz4] at K5
  obtain ⟨w5, hw5⟩ : ∃ w5, w5 = wr.alloc (.cells #[fw (f j), fw (f (j + 1)), fw 0, fw 0, .int .u8 0] 82) := ⟨_, rfl⟩
  rw [← hw5] at K5 hC ⊢
  have C5 := Lib.hid hC
  have hz5 := hC.size
  have L5 := K5.lt
  have J0 := HK0.out.keep hC L0
  have J1 := HK1.out.keep hC L1
  obtain ⟨k0, k1, g0, g1⟩ := J0.c2
  obtain ⟨s0, s1, s2, s3, s4, t0, t1, t2, t3, t4⟩ := J1.c5
  obtain ⟨u0, u1, u2, u3, u4, v0, v1, v2, v3, v4⟩ := K5.c5
  have hl0 : w.heap.size < w5.heap.size := by omega
  have hl1 : w.heap.size + 1 < w5.heap.size := by omega
  have hlb : a.block < w5.heap.size := by omega
  have hn0 : ¬ w.heap.size = w4.heap.size := by omega
  have hn1 : ¬ w.heap.size + 1 = w4.heap.size := by omega
  have hn2 : ¬ a.block = w4.heap.size := by omega
  clear hw5 hS hB hR hN19 hBN19 hSb19 hcS hfS hC J0 J1 K5 p0 p1 p1'
  go_wp2_with fail
  have hT5 := HT.out.trans (C5.out.mono HT.out.size)
  have hzw := HT.out.size
  refine bodyPost_ret (v := co 0 (f j) (f (j + 1)) (0) (0)) (by simp [results, Try.results71, go_sem, *]) rfl ⟨rfl, (((((hT5.setCell (p := ⟨w.heap.size + 1, 0, none⟩) (by show _ ≤ w.heap.size + 1; omega) _).setCell (p := ⟨w.heap.size + 1, 1, none⟩) (by show _ ≤ w.heap.size + 1; omega) _).setCell (p := ⟨w.heap.size + 1, 2, none⟩) (by show _ ≤ w.heap.size + 1; omega) _).setCell (p := ⟨w.heap.size + 1, 3, none⟩) (by show _ ≤ w.heap.size + 1; omega) _).setCell (p := ⟨w.heap.size + 1, 4, none⟩) (by show _ ≤ w.heap.size + 1; omega) _)⟩
set_option maxRecDepth 20000 in
set_option maxHeartbeats 8000000 in
theorem get_1 (A : Option Addr) (N c i j : Nat) (f : Nat → Nat) (w : World) (hf : Flo w A N c f) (hN : N ≤ 2000) (hj : j = i * 3) (hjN : j + 3 ≤ N) :
    Calls Try.prog 71 #[sg 1 A N c, .int .i64 i] w fun e w' => e = .returned (co 1 (f j) (f (j + 1)) (f (j + 2)) (0)) ∧ Below w.heap.size w w' := by
  have hd := Lib.hid fun W => dimension_any 1 (by unfold Is4; omega) W
  have hwd : wid 1 = 3 := by decide
  rw [hwd] at hd
  have hij : (i : Int) * 3 = (j : Int) := by rw [hj, Int.natCast_mul]; rfl
  have hj0 : j < N := by omega
  have hw0 : IntKind.i64.wrap (j : Int) = (j : Int) := by rw [IntKind.wrap_i64]; omega
  obtain ⟨a, rfl⟩ := hf.some hj0
  clear hj
  have hfh := Lib.hid hf
  clear hf
  go_enter Try.func71, Try.ntmps71
  go_wp2_with (go_at_call 74; refine (hd.out _).mono ?_; rintro e w1 ⟨rfl, hb⟩; have hb1 := Lib.hid hb; clear hb)
  have hf := hfh.out
  have hz1 := hb1.out.size
  simp only [World.size_alloc] at hz1
  have K0 := ((Blk.new w [.int .u8 1, .slice (some a) N c] 68).alloc (.cells #[fw 0, fw 0, fw 0, fw 0, .int .u8 0] 82)).keep hb1.out (by simp only [World.size_alloc]; omega)
  have K1 := (Blk.new (w.alloc (.cells #[.int .u8 1, .slice (some a) N c] 68)) [fw 0, fw 0, fw 0, fw 0, .int .u8 0] 82).keep hb1.out (by simp only [World.size_alloc]; omega)
  simp only [World.size_alloc] at K1
  have L0 := K0.lt
  have L1 := K1.lt
  obtain ⟨k0, k1, g0, g1⟩ := K0.c2
  have HT : Below w.heap.size w w1 := Below.trans (by go_grown) (hb1.out.mono (by simp only [World.size_alloc]; omega))
  have z0 := hf.cell a rfl j (by omega)
  have p0 := (HT.cell (World.block_lt_of_cell? w _ z0)).trans z0
  have z1 := hf.cell a rfl (j + 1) (by omega)
  have p1 := (HT.cell (World.block_lt_of_cell? w _ z1)).trans z1
  have z2 := hf.cell a rfl (j + 2) (by omega)
  have p2 := (HT.cell (World.block_lt_of_cell? w _ z2)).trans z2
  have hab : a.block < w1.heap.size := by have := World.block_lt_of_cell? w _ z0; rw [addBlk] at this; have := HT.size; omega
  have hab0 : (a.add j).block < w1.heap.size := by rw [addBlk]; exact hab
  have p1' : w1.cell? ⟨a.block, a.off + (j + 1), none⟩ = some (fw (f (j + 1))) := by rw [← p1]; rfl
  have hw1 : IntKind.i64.wrap ((j : Int) + 1) = (j : Int) + 1 := by rw [IntKind.wrap_i64]; omega
  have hge1 : 0 ≤ (j : Int) + 1 := by omega
  have hlt1 : (j : Int) + 1 < (N : Int) := by omega
  have htn1 : ((j : Int) + 1).toNat = j + 1 := by omega
  have p2' : w1.cell? ⟨a.block, a.off + (j + 2), none⟩ = some (fw (f (j + 2))) := by rw [← p2]; rfl
  have hw2 : IntKind.i64.wrap ((j : Int) + 2) = (j : Int) + 2 := by rw [IntKind.wrap_i64]; omega
  have hge2 : 0 ≤ (j : Int) + 2 := by omega
  have hlt2 : (j : Int) + 2 < (N : Int) := by omega
  have htn2 : ((j : Int) + 2).toNat = j + 2 := by omega
  have HT := Lib.hid HT
  have HK0 := Lib.hid K0
  have HK1 := Lib.hid K1
  clear K0 K1 hf z0 z1 z2
  obtain ⟨w4, rfl⟩ : ∃ w4, w4 = w1 := ⟨_, rfl⟩
  refine Reg.beginB (ops := regAt Try.f71 2) 21 (by kernel_rfl) (by kernel_rfl) (fun wr hS hB hzu2 => ?_)
  have hC := hS
  refine' Reg.val (o := { dst := some 10, op := Op.fieldAddr 68 (Operand.tmp 2) 1, type := 0, pos := "type_sequence.go:62", after := #[], guard := none }) 0 _ (by rfl) (by kernel_rfl) (by rfl) hC ?hvu2_0 ?_
  case hvu2_0 => intro W hW; obtain ⟨hcW, hfW⟩ := bcell hW; have hgW := fun (p : Addr) (hp : p.block < _) => hW.cell (p := p) hp; (try simp only [World.size_alloc, World.size_setCell, World.size_drew] at hgW); go_simp <;> (with_reducible rfl)
  simp only [Act.put, List.setIfInBounds_toArray, List.set_cons_zero, List.set_cons_succ]
  refine' Reg.val (o := { dst := some 11, op := Op.load 22 (Operand.tmp 10), type := 22, pos := "type_sequence.go:62", after := #[{ on := 0, ground := Ground.data }], guard := none }) 1 _ (by rfl) (by kernel_rfl) (by rfl) hC ?hvu2_1 ?_
  case hvu2_1 => intro W hW; obtain ⟨hcW, hfW⟩ := bcell hW; have hgW := fun (p : Addr) (hp : p.block < _) => hW.cell (p := p) hp; (try simp only [World.size_alloc, World.size_setCell, World.size_drew] at hgW); go_simp <;> (with_reducible rfl)
  simp only [Act.put, List.setIfInBounds_toArray, List.set_cons_zero, List.set_cons_succ]
  refine' Reg.val (o := { dst := some 12, op := Op.move (Operand.tmp 1), type := 3, pos := "type_sequence.go:62", after := #[], guard := none }) 2 _ (by rfl) (by kernel_rfl) (by rfl) hC ?hvu2_2 ?_
  case hvu2_2 => intro W _; go_simp <;> (with_reducible rfl)
  simp only [Act.put, List.setIfInBounds_toArray, List.set_cons_zero, List.set_cons_succ]
  refine' Reg.val (o := { dst := some 13, op := Op.move (Operand.tmp 5), type := 3, pos := "type_sequence.go:62", after := #[], guard := none }) 3 _ (by rfl) (by kernel_rfl) (by rfl) hC ?hvu2_3 ?_
  case hvu2_3 => intro W _; go_simp <;> (with_reducible rfl)
  simp only [Act.put, List.setIfInBounds_toArray, List.set_cons_zero, List.set_cons_succ]
  refine' Reg.val (o := { dst := some 14, op := Op.binOp BinOp.mul 3 (Operand.tmp 12) (Operand.tmp 13) 3, type := 3, pos := "type_sequence.go:62", after := #[{ on := 2, ground := Ground.data }, { on := 3, ground := Ground.data }], guard := none }) 4 _ (by rfl) (by kernel_rfl) (by rfl) hC ?hvu2_4 ?_
  case hvu2_4 => intro W hW; obtain ⟨hcW, hfW⟩ := bcell hW; have hgW := fun (p : Addr) (hp : p.block < _) => hW.cell (p := p) hp; (try simp only [World.size_alloc, World.size_setCell, World.size_drew] at hgW); go_simp <;> (with_reducible rfl)
  simp only [Act.put, List.setIfInBounds_toArray, List.set_cons_zero, List.set_cons_succ]
  refine' Reg.val (o := { dst := some 15, op := Op.indexAddr 22 (Operand.tmp 11) (Operand.tmp 14), type := 0, pos := "type_sequence.go:62", after := #[{ on := 1, ground := Ground.data }, { on := 4, ground := Ground.data }], guard := none }) 5 _ (by rfl) (by kernel_rfl) (by rfl) hC ?hvu2_5 ?_
  case hvu2_5 => intro W hW; obtain ⟨hcW, hfW⟩ := bcell hW; have hgW := fun (p : Addr) (hp : p.block < _) => hW.cell (p := p) hp; (try simp only [World.size_alloc, World.size_setCell, World.size_drew] at hgW); go_simp <;> (with_reducible rfl)
  simp only [Act.put, List.setIfInBounds_toArray, List.set_cons_zero, List.set_cons_succ]
  refine' Reg.val (o := { dst := some 16, op := Op.load 48 (Operand.tmp 15), type := 48, pos := "type_sequence.go:62", after := #[{ on := 5, ground := Ground.data }], guard := none }) 6 _ (by rfl) (by kernel_rfl) (by rfl) hC ?hvu2_6 ?_
  case hvu2_6 => intro W hW; obtain ⟨hcW, hfW⟩ := bcell hW; have hgW := fun (p : Addr) (hp : p.block < _) => hW.cell (p := p) hp; (try simp only [World.size_alloc, World.size_setCell, World.size_drew] at hgW); go_simp <;> (with_reducible rfl)
  simp only [Act.put, List.setIfInBounds_toArray, List.set_cons_zero, List.set_cons_succ]
  refine' Reg.val (o := { dst := some 17, op := Op.fieldAddr 68 (Operand.tmp 2) 1, type := 0, pos := "type_sequence.go:62", after := #[], guard := none }) 7 _ (by rfl) (by kernel_rfl) (by rfl) hC ?hvu2_7 ?_
  case hvu2_7 => intro W hW; obtain ⟨hcW, hfW⟩ := bcell hW; have hgW := fun (p : Addr) (hp : p.block < _) => hW.cell (p := p) hp; (try simp only [World.size_alloc, World.size_setCell, World.size_drew] at hgW); go_simp <;> (with_reducible rfl)
  simp only [Act.put, List.setIfInBounds_toArray, List.set_cons_zero, List.set_cons_succ]
  refine' Reg.val (o := { dst := some 18, op := Op.load 22 (Operand.tmp 17), type := 22, pos := "type_sequence.go:62", after := #[{ on := 7, ground := Ground.data }], guard := none }) 8 _ (by rfl) (by kernel_rfl) (by rfl) hC ?hvu2_8 ?_
  case hvu2_8 => intro W hW; obtain ⟨hcW, hfW⟩ := bcell hW; have hgW := fun (p : Addr) (hp : p.block < _) => hW.cell (p := p) hp; (try simp only [World.size_alloc, World.size_setCell, World.size_drew] at hgW); go_simp <;> (with_reducible rfl)
  simp only [Act.put, List.setIfInBounds_toArray, List.set_cons_zero, List.set_cons_succ]
  refine' Reg.val (o := { dst := some 19, op := Op.move (Operand.tmp 1), type := 3, pos := "type_sequence.go:62", after := #[], guard := none }) 9 _ (by rfl) (by kernel_rfl) (by rfl) hC ?hvu2_9 ?_
  case hvu2_9 => intro W _; go_simp <;> (with_reducible rfl)
  simp only [Act.put, List.setIfInBounds_toArray, List.set_cons_zero, List.set_cons_succ]
  refine' Reg.val (o := { dst := some 20, op := Op.move (Operand.tmp 5), type := 3, pos := "type_sequence.go:62", after := #[], guard := none }) 10 _ (by rfl) (by kernel_rfl) (by rfl) hC ?hvu2_10 ?_
  case hvu2_10 => intro W _; go_simp <;> (with_reducible rfl)
  simp only [Act.put, List.setIfInBounds_toArray, List.set_cons_zero, List.set_cons_succ]
  refine' Reg.val (o := { dst := some 21, op := Op.binOp BinOp.mul 3 (Operand.tmp 19) (Operand.tmp 20) 3, type := 3, pos := "type_sequence.go:62", after := #[{ on := 9, ground := Ground.data }, { on := 10, ground := Ground.data }], guard := none }) 11 _ (by rfl) (by kernel_rfl) (by rfl) hC ?hvu2_11 ?_
  case hvu2_11 => intro W hW; obtain ⟨hcW, hfW⟩ := bcell hW; have hgW := fun (p : Addr) (hp : p.block < _) => hW.cell (p := p) hp; (try simp only [World.size_alloc, World.size_setCell, World.size_drew] at hgW); go_simp <;> (with_reducible rfl)
  simp only [Act.put, List.setIfInBounds_toArray, List.set_cons_zero, List.set_cons_succ]
  refine' Reg.val (o := { dst := some 22, op := Op.binOp BinOp.add 3 (Operand.tmp 21) (Operand.const (Value.int IntKind.i64 1)) 3, type := 3, pos := "type_sequence.go:62", after := #[{ on := 11, ground := Ground.data }], guard := none }) 12 _ (by rfl) (by kernel_rfl) (by rfl) hC ?hvu2_12 ?_
  case hvu2_12 => intro W hW; obtain ⟨hcW, hfW⟩ := bcell hW; have hgW := fun (p : Addr) (hp : p.block < _) => hW.cell (p := p) hp; (try simp only [World.size_alloc, World.size_setCell, World.size_drew] at hgW); go_simp <;> (with_reducible rfl)
  simp only [Act.put, List.setIfInBounds_toArray, List.set_cons_zero, List.set_cons_succ]
  refine' Reg.val (o := { dst := some 23, op := Op.indexAddr 22 (Operand.tmp 18) (Operand.tmp 22), type := 0, pos := "type_sequence.go:62", after := #[{ on := 8, ground := Ground.data }, { on := 12, ground := Ground.data }], guard := none }) 13 _ (by rfl) (by kernel_rfl) (by rfl) hC ?hvu2_13 ?_
  case hvu2_13 => intro W hW; obtain ⟨hcW, hfW⟩ := bcell hW; have hgW := fun (p : Addr) (hp : p.block < _) => hW.cell (p := p) hp; (try simp only [World.size_alloc, World.size_setCell, World.size_drew] at hgW); go_simp <;> (with_reducible rfl)
  simp only [Act.put, List.setIfInBounds_toArray, List.set_cons_zero, List.set_cons_succ]
  refine' Reg.val (o := { dst := some 24, op := Op.load 48 (Operand.tmp 23), type := 48, pos := "type_sequence.go:62", after := #[{ on := 13, ground := Ground.data }], guard := none }) 14 _ (by rfl) (by kernel_rfl) (by rfl) hC ?hvu2_14 ?_
  case hvu2_14 => intro W hW; obtain ⟨hcW, hfW⟩ := bcell hW; have hgW := fun (p : Addr) (hp : p.block < _) => hW.cell (p := p) hp; (try simp only [World.size_alloc, World.size_setCell, World.size_drew] at hgW); go_simp <;> (with_reducible rfl)
  simp only [Act.put, List.setIfInBounds_toArray, List.set_cons_zero, List.set_cons_succ]
  refine' Reg.val (o := { dst := some 25, op := Op.build 80 #[(0, Operand.tmp 16), (1, Operand.tmp 24)], type := 80, pos := "type_sequence.go:62", after := #[{ on := 6, ground := Ground.data }, { on := 14, ground := Ground.data }], guard := none }) 15 _ (by rfl) (by kernel_rfl) (by rfl) hC ?hvu2_15 ?_
  case hvu2_15 => intro W hW; obtain ⟨hcW, hfW⟩ := bcell hW; have hgW := fun (p : Addr) (hp : p.block < _) => hW.cell (p := p) hp; (try simp only [World.size_alloc, World.size_setCell, World.size_drew] at hgW); go_simp <;> (with_reducible rfl)
  simp only [Act.put, List.setIfInBounds_toArray, List.set_cons_zero, List.set_cons_succ]
  refine' Reg.val (o := { dst := some 26, op := Op.fieldAddr 68 (Operand.tmp 2) 0, type := 0, pos := "type_sequence.go:62", after := #[], guard := none }) 16 _ (by rfl) (by kernel_rfl) (by rfl) hC ?hvu2_16 ?_
  case hvu2_16 => intro W hW; obtain ⟨hcW, hfW⟩ := bcell hW; have hgW := fun (p : Addr) (hp : p.block < _) => hW.cell (p := p) hp; (try simp only [World.size_alloc, World.size_setCell, World.size_drew] at hgW); go_simp <;> (with_reducible rfl)
  simp only [Act.put, List.setIfInBounds_toArray, List.set_cons_zero, List.set_cons_succ]
  refine' Reg.val (o := { dst := some 27, op := Op.load 66 (Operand.tmp 26), type := 66, pos := "type_sequence.go:62", after := #[{ on := 16, ground := Ground.data }], guard := none }) 17 _ (by rfl) (by kernel_rfl) (by rfl) hC ?hvu2_17 ?_
  case hvu2_17 => intro W hW; obtain ⟨hcW, hfW⟩ := bcell hW; have hgW := fun (p : Addr) (hp : p.block < _) => hW.cell (p := p) hp; (try simp only [World.size_alloc, World.size_setCell, World.size_drew] at hgW); go_simp <;> (with_reducible rfl)
  simp only [Act.put, List.setIfInBounds_toArray, List.set_cons_zero, List.set_cons_succ]
  refine' Reg.val (o := { dst := some 28, op := Op.build 82 #[(0, Operand.tmp 25), (3, Operand.tmp 27)], type := 82, pos := "type_sequence.go:62", after := #[{ on := 15, ground := Ground.data }, { on := 17, ground := Ground.data }], guard := none }) 18 _ (by rfl) (by kernel_rfl) (by rfl) hC ?hvu2_18 ?_
  case hvu2_18 => intro W hW; obtain ⟨hcW, hfW⟩ := bcell hW; have hgW := fun (p : Addr) (hp : p.block < _) => hW.cell (p := p) hp; (try simp only [World.size_alloc, World.size_setCell, World.size_drew] at hgW); go_simp <;> (with_reducible rfl)
  simp only [Act.put, List.setIfInBounds_toArray, List.set_cons_zero, List.set_cons_succ]
  refine Reg.new (o := { dst := some 6, op := Op.alloc 82, type := 0, pos := "type_sequence.go:62", after := #[], guard := none }) 19 (by rfl) (by kernel_rfl) (by rfl) (fun _ hb => (Below.trans hS (hb.mono hB))) (fun K Q' hK => ?_)
  go_simp
  refine hK _ _ (by go_grown) ?_
  clear hK K
  clear hC
  intro hb hN19 hC
  have hBN19 := hB
  have hSb19 := hS
  replace hS := Below.trans hS (hb.mono hB)
  replace hB := Nat.le_trans hB hb.size
  clear hb
  refine Reg.one (o := { dst := none, op := Op.store 82 (Operand.tmp 6) (Operand.tmp 28), type := 0, pos := "type_sequence.go:62", after := #[{ on := 19, ground := Ground.data }, { on := 18, ground := Ground.data }, { on := 0, ground := Ground.phase }, { on := 1, ground := Ground.phase }, { on := 2, ground := Ground.phase }, { on := 3, ground := Ground.phase }, { on := 4, ground := Ground.phase }, { on := 5, ground := Ground.phase }, { on := 6, ground := Ground.phase }, { on := 7, ground := Ground.phase }, { on := 8, ground := Ground.phase }, { on := 9, ground := Ground.phase }, { on := 10, ground := Ground.phase }, { on := 11, ground := Ground.phase }, { on := 12, ground := Ground.phase }, { on := 13, ground := Ground.phase }, { on := 14, ground := Ground.phase }, { on := 15, ground := Ground.phase }, { on := 16, ground := Ground.phase }, { on := 17, ground := Ground.phase }, { on := 18, ground := Ground.phase }, { on := 19, ground := Ground.phase }], guard := none }) 20 (by rfl) (by kernel_rfl) (by rfl)  (fun K Q' hK => ?_)
  obtain ⟨hcR, hfR⟩ := bcell hS
  obtain ⟨hcN19, hfN19⟩ := bcell hN19
  (try simp only [World.size_alloc, World.size_setCell, World.size_drew] at hcN19 hfN19)
  go_simp
  refine hK _ _ (by repeat (first | exact hS | assumption | exact But.of_below rfl hS | exact hC | refine But.setCell ?_ (by simp) _ | refine Below.setCell ?_ ?_ _ | refine Below.alloc ?_ ?_ _ | go_size)) (fun hC' => ?_)
  clear hK K
  clear hC
  have hC := hC'
  clear hC'
  refine Reg.end_ (by kernel_rfl) ?_
  have hR := hS
  obtain ⟨hcS, hfS⟩ := bcell hS
  (try simp only [World.size_alloc, World.size_setCell, World.size_drew] at hcS hfS)
  have K5 := Blk.new wr [fw (f j), fw (f (j + 1)), fw 0, fw 0, .int .u8 1] 82
  have hz4 : wr.heap.size = w4.heap.size := by omega
  rw [hz4] at K5
  obtain ⟨w5, hw5⟩ : ∃ w5, w5 = wr.alloc (.cells #[fw (f j), fw (f (j + 1)), fw 0, fw 0, .int .u8 1] 82) := ⟨_, rfl⟩
  rw [← hw5] at K5 hC ⊢
  have C5 := Lib.hid hC
  have hz5 := hC.size
  have L5 := K5.lt
  have J0 := HK0.out.keep hC L0
  have J1 := HK1.out.keep hC L1
  obtain ⟨k0, k1, g0, g1⟩ := J0.c2
  obtain ⟨s0, s1, s2, s3, s4, t0, t1, t2, t3, t4⟩ := J1.c5
  obtain ⟨u0, u1, u2, u3, u4, v0, v1, v2, v3, v4⟩ := K5.c5
  have q2 := (hC.cell (p := ⟨a.block, a.off + (j + 2), none⟩) hab).trans p2'
  have hl0 : w.heap.size < w5.heap.size := by omega
  have hl1 : w.heap.size + 1 < w5.heap.size := by omega
  have hlb : a.block < w5.heap.size := by omega
  have hn0 : ¬ w.heap.size = w4.heap.size := by omega
  have hn1 : ¬ w.heap.size + 1 = w4.heap.size := by omega
  have hn2 : ¬ a.block = w4.heap.size := by omega
  clear hw5 hS hB hR hN19 hBN19 hSb19 hcS hfS hC J0 J1 K5 p0 p1 p1' p2 p2'
  go_wp2_with fail
  have hT5 := HT.out.trans (C5.out.mono HT.out.size)
  have hzw := HT.out.size
  refine bodyPost_ret (v := co 1 (f j) (f (j + 1)) (f (j + 2)) (0)) (by simp [results, Try.results71, go_sem, *]) rfl ⟨rfl, ((((((hT5.setCell (p := ⟨w4.heap.size, 2, none⟩) hzw _).setCell (p := ⟨w.heap.size + 1, 0, none⟩) (by show _ ≤ w.heap.size + 1; omega) _).setCell (p := ⟨w.heap.size + 1, 1, none⟩) (by show _ ≤ w.heap.size + 1; omega) _).setCell (p := ⟨w.heap.size + 1, 2, none⟩) (by show _ ≤ w.heap.size + 1; omega) _).setCell (p := ⟨w.heap.size + 1, 3, none⟩) (by show _ ≤ w.heap.size + 1; omega) _).setCell (p := ⟨w.heap.size + 1, 4, none⟩) (by show _ ≤ w.heap.size + 1; omega) _)⟩
set_option maxRecDepth 20000 in
set_option maxHeartbeats 8000000 in
theorem get_2 (A : Option Addr) (N c i j : Nat) (f : Nat → Nat) (w : World) (hf : Flo w A N c f) (hN : N ≤ 2000) (hj : j = i * 3) (hjN : j + 3 ≤ N) :
    Calls Try.prog 71 #[sg 2 A N c, .int .i64 i] w fun e w' => e = .returned (co 2 (f j) (f (j + 1)) (0) (f (j + 2))) ∧ Below w.heap.size w w' := by
  have hd := Lib.hid fun W => dimension_any 2 (by unfold Is4; omega) W
  have hwd : wid 2 = 3 := by decide
  rw [hwd] at hd
  have hij : (i : Int) * 3 = (j : Int) := by rw [hj, Int.natCast_mul]; rfl
  have hj0 : j < N := by omega
  have hw0 : IntKind.i64.wrap (j : Int) = (j : Int) := by rw [IntKind.wrap_i64]; omega
  obtain ⟨a, rfl⟩ := hf.some hj0
  clear hj
  have hfh := Lib.hid hf
  clear hf
  go_enter Try.func71, Try.ntmps71
  go_wp2_with (go_at_call 74; refine (hd.out _).mono ?_; rintro e w1 ⟨rfl, hb⟩; have hb1 := Lib.hid hb; clear hb)
  have hf := hfh.out
  have hz1 := hb1.out.size
  simp only [World.size_alloc] at hz1
  have K0 := ((Blk.new w [.int .u8 2, .slice (some a) N c] 68).alloc (.cells #[fw 0, fw 0, fw 0, fw 0, .int .u8 0] 82)).keep hb1.out (by simp only [World.size_alloc]; omega)
  have K1 := (Blk.new (w.alloc (.cells #[.int .u8 2, .slice (some a) N c] 68)) [fw 0, fw 0, fw 0, fw 0, .int .u8 0] 82).keep hb1.out (by simp only [World.size_alloc]; omega)
  simp only [World.size_alloc] at K1
  have L0 := K0.lt
  have L1 := K1.lt
  obtain ⟨k0, k1, g0, g1⟩ := K0.c2
  have HT : Below w.heap.size w w1 := Below.trans (by go_grown) (hb1.out.mono (by simp only [World.size_alloc]; omega))
  have z0 := hf.cell a rfl j (by omega)
  have p0 := (HT.cell (World.block_lt_of_cell? w _ z0)).trans z0
  have z1 := hf.cell a rfl (j + 1) (by omega)
  have p1 := (HT.cell (World.block_lt_of_cell? w _ z1)).trans z1
  have z2 := hf.cell a rfl (j + 2) (by omega)
  have p2 := (HT.cell (World.block_lt_of_cell? w _ z2)).trans z2
  have hab : a.block < w1.heap.size := by have := World.block_lt_of_cell? w _ z0; rw [addBlk] at this; have := HT.size; omega
  have hab0 : (a.add j).block < w1.heap.size := by rw [addBlk]; exact hab
  have p1' : w1.cell? ⟨a.block, a.off + (j + 1), none⟩ = some (fw (f (j + 1))) := by rw [← p1]; rfl
  have hw1 : IntKind.i64.wrap ((j : Int) + 1) = (j : Int) + 1 := by rw [IntKind.wrap_i64]; omega
  have hge1 : 0 ≤ (j : Int) + 1 := by omega
  have hlt1 : (j : Int) + 1 < (N : Int) := by omega
  have htn1 : ((j : Int) + 1).toNat = j + 1 := by omega
  have p2' : w1.cell? ⟨a.block, a.off + (j + 2), none⟩ = some (fw (f (j + 2))) := by rw [← p2]; rfl
  have hw2 : IntKind.i64.wrap ((j : Int) + 2) = (j : Int) + 2 := by rw [IntKind.wrap_i64]; omega
  have hge2 : 0 ≤ (j : Int) + 2 := by omega
  have hlt2 : (j : Int) + 2 < (N : Int) := by omega
  have htn2 : ((j : Int) + 2).toNat = j + 2 := by omega
  have HT := Lib.hid HT
  have HK0 := Lib.hid K0
  have HK1 := Lib.hid K1
  clear K0 K1 hf z0 z1 z2
  obtain ⟨w4, rfl⟩ : ∃ w4, w4 = w1 := ⟨_, rfl⟩
  refine Reg.beginB (ops := regAt Try.f71 2) 21 (by kernel_rfl) (by kernel_rfl) (fun wr hS hB hzu3 => ?_)
  have hC := hS
  refine' Reg.val (o := { dst := some 10, op := Op.fieldAddr 68 (Operand.tmp 2) 1, type := 0, pos := "type_sequence.go:62", after := #[], guard := none }) 0 _ (by rfl) (by kernel_rfl) (by rfl) hC ?hvu3_0 ?_
  case hvu3_0 => intro W hW; obtain ⟨hcW, hfW⟩ := bcell hW; have hgW := fun (p : Addr) (hp : p.block < _) => hW.cell (p := p) hp; (try simp only [World.size_alloc, World.size_setCell, World.size_drew] at hgW); go_simp <;> (with_reducible rfl)
  simp only [Act.put, List.setIfInBounds_toArray, List.set_cons_zero, List.set_cons_succ]
  refine' Reg.val (o := { dst := some 11, op := Op.load 22 (Operand.tmp 10), type := 22, pos := "type_sequence.go:62", after := #[{ on := 0, ground := Ground.data }], guard := none }) 1 _ (by rfl) (by kernel_rfl) (by rfl) hC ?hvu3_1 ?_
  case hvu3_1 => intro W hW; obtain ⟨hcW, hfW⟩ := bcell hW; have hgW := fun (p : Addr) (hp : p.block < _) => hW.cell (p := p) hp; (try simp only [World.size_alloc, World.size_setCell, World.size_drew] at hgW); go_simp <;> (with_reducible rfl)
  simp only [Act.put, List.setIfInBounds_toArray, List.set_cons_zero, List.set_cons_succ]
  refine' Reg.val (o := { dst := some 12, op := Op.move (Operand.tmp 1), type := 3, pos := "type_sequence.go:62", after := #[], guard := none }) 2 _ (by rfl) (by kernel_rfl) (by rfl) hC ?hvu3_2 ?_
  case hvu3_2 => intro W _; go_simp <;> (with_reducible rfl)
  simp only [Act.put, List.setIfInBounds_toArray, List.set_cons_zero, List.set_cons_succ]
  refine' Reg.val (o := { dst := some 13, op := Op.move (Operand.tmp 5), type := 3, pos := "type_sequence.go:62", after := #[], guard := none }) 3 _ (by rfl) (by kernel_rfl) (by rfl) hC ?hvu3_3 ?_
  case hvu3_3 => intro W _; go_simp <;> (with_reducible rfl)
  simp only [Act.put, List.setIfInBounds_toArray, List.set_cons_zero, List.set_cons_succ]
  refine' Reg.val (o := { dst := some 14, op := Op.binOp BinOp.mul 3 (Operand.tmp 12) (Operand.tmp 13) 3, type := 3, pos := "type_sequence.go:62", after := #[{ on := 2, ground := Ground.data }, { on := 3, ground := Ground.data }], guard := none }) 4 _ (by rfl) (by kernel_rfl) (by rfl) hC ?hvu3_4 ?_
  case hvu3_4 => intro W hW; obtain ⟨hcW, hfW⟩ := bcell hW; have hgW := fun (p : Addr) (hp : p.block < _) => hW.cell (p := p) hp; (try simp only [World.size_alloc, World.size_setCell, World.size_drew] at hgW); go_simp <;> (with_reducible rfl)
  simp only [Act.put, List.setIfInBounds_toArray, List.set_cons_zero, List.set_cons_succ]
  refine' Reg.val (o := { dst := some 15, op := Op.indexAddr 22 (Operand.tmp 11) (Operand.tmp 14), type := 0, pos := "type_sequence.go:62", after := #[{ on := 1, ground := Ground.data }, { on := 4, ground := Ground.data }], guard := none }) 5 _ (by rfl) (by kernel_rfl) (by rfl) hC ?hvu3_5 ?_
  case hvu3_5 => intro W hW; obtain ⟨hcW, hfW⟩ := bcell hW; have hgW := fun (p : Addr) (hp : p.block < _) => hW.cell (p := p) hp; (try simp only [World.size_alloc, World.size_setCell, World.size_drew] at hgW); go_simp <;> (with_reducible rfl)
  simp only [Act.put, List.setIfInBounds_toArray, List.set_cons_zero, List.set_cons_succ]
  refine' Reg.val (o := { dst := some 16, op := Op.load 48 (Operand.tmp 15), type := 48, pos := "type_sequence.go:62", after := #[{ on := 5, ground := Ground.data }], guard := none }) 6 _ (by rfl) (by kernel_rfl) (by rfl) hC ?hvu3_6 ?_
  case hvu3_6 => intro W hW; obtain ⟨hcW, hfW⟩ := bcell hW; have hgW := fun (p : Addr) (hp : p.block < _) => hW.cell (p := p) hp; (try simp only [World.size_alloc, World.size_setCell, World.size_drew] at hgW); go_simp <;> (with_reducible rfl)
  simp only [Act.put, List.setIfInBounds_toArray, List.set_cons_zero, List.set_cons_succ]
  refine' Reg.val (o := { dst := some 17, op := Op.fieldAddr 68 (Operand.tmp 2) 1, type := 0, pos := "type_sequence.go:62", after := #[], guard := none }) 7 _ (by rfl) (by kernel_rfl) (by rfl) hC ?hvu3_7 ?_
  case hvu3_7 => intro W hW; obtain ⟨hcW, hfW⟩ := bcell hW; have hgW := fun (p : Addr) (hp : p.block < _) => hW.cell (p := p) hp; (try simp only [World.size_alloc, World.size_setCell, World.size_drew] at hgW); go_simp <;> (with_reducible rfl)
  simp only [Act.put, List.setIfInBounds_toArray, List.set_cons_zero, List.set_cons_succ]
  refine' Reg.val (o := { dst := some 18, op := Op.load 22 (Operand.tmp 17), type := 22, pos := "type_sequence.go:62", after := #[{ on := 7, ground := Ground.data }], guard := none }) 8 _ (by rfl) (by kernel_rfl) (by rfl) hC ?hvu3_8 ?_
  case hvu3_8 => intro W hW; obtain ⟨hcW, hfW⟩ := bcell hW; have hgW := fun (p : Addr) (hp : p.block < _) => hW.cell (p := p) hp; (try simp only [World.size_alloc, World.size_setCell, World.size_drew] at hgW); go_simp <;> (with_reducible rfl)
  simp only [Act.put, List.setIfInBounds_toArray, List.set_cons_zero, List.set_cons_succ]
  refine' Reg.val (o := { dst := some 19, op := Op.move (Operand.tmp 1), type := 3, pos := "type_sequence.go:62", after := #[], guard := none }) 9 _ (by rfl) (by kernel_rfl) (by rfl) hC ?hvu3_9 ?_
  case hvu3_9 => intro W _; go_simp <;> (with_reducible rfl)
  simp only [Act.put, List.setIfInBounds_toArray, List.set_cons_zero, List.set_cons_succ]
  refine' Reg.val (o := { dst := some 20, op := Op.move (Operand.tmp 5), type := 3, pos := "type_sequence.go:62", after := #[], guard := none }) 10 _ (by rfl) (by kernel_rfl) (by rfl) hC ?hvu3_10 ?_
  case hvu3_10 => intro W _; go_simp <;> (with_reducible rfl)
  simp only [Act.put, List.setIfInBounds_toArray, List.set_cons_zero, List.set_cons_succ]
  refine' Reg.val (o := { dst := some 21, op := Op.binOp BinOp.mul 3 (Operand.tmp 19) (Operand.tmp 20) 3, type := 3, pos := "type_sequence.go:62", after := #[{ on := 9, ground := Ground.data }, { on := 10, ground := Ground.data }], guard := none }) 11 _ (by rfl) (by kernel_rfl) (by rfl) hC ?hvu3_11 ?_
  case hvu3_11 => intro W hW; obtain ⟨hcW, hfW⟩ := bcell hW; have hgW := fun (p : Addr) (hp : p.block < _) => hW.cell (p := p) hp; (try simp only [World.size_alloc, World.size_setCell, World.size_drew] at hgW); go_simp <;> (with_reducible rfl)
  simp only [Act.put, List.setIfInBounds_toArray, List.set_cons_zero, List.set_cons_succ]
  refine' Reg.val (o := { dst := some 22, op := Op.binOp BinOp.add 3 (Operand.tmp 21) (Operand.const (Value.int IntKind.i64 1)) 3, type := 3, pos := "type_sequence.go:62", after := #[{ on := 11, ground := Ground.data }], guard := none }) 12 _ (by rfl) (by kernel_rfl) (by rfl) hC ?hvu3_12 ?_
  case hvu3_12 => intro W hW; obtain ⟨hcW, hfW⟩ := bcell hW; have hgW := fun (p : Addr) (hp : p.block < _) => hW.cell (p := p) hp; (try simp only [World.size_alloc, World.size_setCell, World.size_drew] at hgW); go_simp <;> (with_reducible rfl)
  simp only [Act.put, List.setIfInBounds_toArray, List.set_cons_zero, List.set_cons_succ]
  refine' Reg.val (o := { dst := some 23, op := Op.indexAddr 22 (Operand.tmp 18) (Operand.tmp 22), type := 0, pos := "type_sequence.go:62", after := #[{ on := 8, ground := Ground.data }, { on := 12, ground := Ground.data }], guard := none }) 13 _ (by rfl) (by kernel_rfl) (by rfl) hC ?hvu3_13 ?_
  case hvu3_13 => intro W hW; obtain ⟨hcW, hfW⟩ := bcell hW; have hgW := fun (p : Addr) (hp : p.block < _) => hW.cell (p := p) hp; (try simp only [World.size_alloc, World.size_setCell, World.size_drew] at hgW); go_simp <;> (with_reducible rfl)
  simp only [Act.put, List.setIfInBounds_toArray, List.set_cons_zero, List.set_cons_succ]
  refine' Reg.val (o := { dst := some 24, op := Op.load 48 (Operand.tmp 23), type := 48, pos := "type_sequence.go:62", after := #[{ on := 13, ground := Ground.data }], guard := none }) 14 _ (by rfl) (by kernel_rfl) (by rfl) hC ?hvu3_14 ?_
  case hvu3_14 => intro W hW; obtain ⟨hcW, hfW⟩ := bcell hW; have hgW := fun (p : Addr) (hp : p.block < _) => hW.cell (p := p) hp; (try simp only [World.size_alloc, World.size_setCell, World.size_drew] at hgW); go_simp <;> (with_reducible rfl)
  simp only [Act.put, List.setIfInBounds_toArray, List.set_cons_zero, List.set_cons_succ]
  refine' Reg.val (o := { dst := some 25, op := Op.build 80 #[(0, Operand.tmp 16), (1, Operand.tmp 24)], type := 80, pos := "type_sequence.go:62", after := #[{ on := 6, ground := Ground.data }, { on := 14, ground := Ground.data }], guard := none }) 15 _ (by rfl) (by kernel_rfl) (by rfl) hC ?hvu3_15 ?_
  case hvu3_15 => intro W hW; obtain ⟨hcW, hfW⟩ := bcell hW; have hgW := fun (p : Addr) (hp : p.block < _) => hW.cell (p := p) hp; (try simp only [World.size_alloc, World.size_setCell, World.size_drew] at hgW); go_simp <;> (with_reducible rfl)
  simp only [Act.put, List.setIfInBounds_toArray, List.set_cons_zero, List.set_cons_succ]
  refine' Reg.val (o := { dst := some 26, op := Op.fieldAddr 68 (Operand.tmp 2) 0, type := 0, pos := "type_sequence.go:62", after := #[], guard := none }) 16 _ (by rfl) (by kernel_rfl) (by rfl) hC ?hvu3_16 ?_
  case hvu3_16 => intro W hW; obtain ⟨hcW, hfW⟩ := bcell hW; have hgW := fun (p : Addr) (hp : p.block < _) => hW.cell (p := p) hp; (try simp only [World.size_alloc, World.size_setCell, World.size_drew] at hgW); go_simp <;> (with_reducible rfl)
  simp only [Act.put, List.setIfInBounds_toArray, List.set_cons_zero, List.set_cons_succ]
  refine' Reg.val (o := { dst := some 27, op := Op.load 66 (Operand.tmp 26), type := 66, pos := "type_sequence.go:62", after := #[{ on := 16, ground := Ground.data }], guard := none }) 17 _ (by rfl) (by kernel_rfl) (by rfl) hC ?hvu3_17 ?_
  case hvu3_17 => intro W hW; obtain ⟨hcW, hfW⟩ := bcell hW; have hgW := fun (p : Addr) (hp : p.block < _) => hW.cell (p := p) hp; (try simp only [World.size_alloc, World.size_setCell, World.size_drew] at hgW); go_simp <;> (with_reducible rfl)
  simp only [Act.put, List.setIfInBounds_toArray, List.set_cons_zero, List.set_cons_succ]
  refine' Reg.val (o := { dst := some 28, op := Op.build 82 #[(0, Operand.tmp 25), (3, Operand.tmp 27)], type := 82, pos := "type_sequence.go:62", after := #[{ on := 15, ground := Ground.data }, { on := 17, ground := Ground.data }], guard := none }) 18 _ (by rfl) (by kernel_rfl) (by rfl) hC ?hvu3_18 ?_
  case hvu3_18 => intro W hW; obtain ⟨hcW, hfW⟩ := bcell hW; have hgW := fun (p : Addr) (hp : p.block < _) => hW.cell (p := p) hp; (try simp only [World.size_alloc, World.size_setCell, World.size_drew] at hgW); go_simp <;> (with_reducible rfl)
  simp only [Act.put, List.setIfInBounds_toArray, List.set_cons_zero, List.set_cons_succ]
  refine Reg.new (o := { dst := some 6, op := Op.alloc 82, type := 0, pos := "type_sequence.go:62", after := #[], guard := none }) 19 (by rfl) (by kernel_rfl) (by rfl) (fun _ hb => (Below.trans hS (hb.mono hB))) (fun K Q' hK => ?_)
  go_simp
  refine hK _ _ (by go_grown) ?_
  clear hK K
  clear hC
  intro hb hN19 hC
  have hBN19 := hB
  have hSb19 := hS
  replace hS := Below.trans hS (hb.mono hB)
  replace hB := Nat.le_trans hB hb.size
  clear hb
  refine Reg.one (o := { dst := none, op := Op.store 82 (Operand.tmp 6) (Operand.tmp 28), type := 0, pos := "type_sequence.go:62", after := #[{ on := 19, ground := Ground.data }, { on := 18, ground := Ground.data }, { on := 0, ground := Ground.phase }, { on := 1, ground := Ground.phase }, { on := 2, ground := Ground.phase }, { on := 3, ground := Ground.phase }, { on := 4, ground := Ground.phase }, { on := 5, ground := Ground.phase }, { on := 6, ground := Ground.phase }, { on := 7, ground := Ground.phase }, { on := 8, ground := Ground.phase }, { on := 9, ground := Ground.phase }, { on := 10, ground := Ground.phase }, { on := 11, ground := Ground.phase }, { on := 12, ground := Ground.phase }, { on := 13, ground := Ground.phase }, { on := 14, ground := Ground.phase }, { on := 15, ground := Ground.phase }, { on := 16, ground := Ground.phase }, { on := 17, ground := Ground.phase }, { on := 18, ground := Ground.phase }, { on := 19, ground := Ground.phase }], guard := none }) 20 (by rfl) (by kernel_rfl) (by rfl)  (fun K Q' hK => ?_)
  obtain ⟨hcR, hfR⟩ := bcell hS
  obtain ⟨hcN19, hfN19⟩ := bcell hN19
  (try simp only [World.size_alloc, World.size_setCell, World.size_drew] at hcN19 hfN19)
  go_simp
  refine hK _ _ (by repeat (first | exact hS | assumption | exact But.of_below rfl hS | exact hC | refine But.setCell ?_ (by simp) _ | refine Below.setCell ?_ ?_ _ | refine Below.alloc ?_ ?_ _ | go_size)) (fun hC' => ?_)
  clear hK K
  clear hC
  have hC := hC'
  clear hC'
  refine Reg.end_ (by kernel_rfl) ?_
  have hR := hS
  obtain ⟨hcS, hfS⟩ := bcell hS
  (try simp only [World.size_alloc, World.size_setCell, World.size_drew] at hcS hfS)
  have K5 := Blk.new wr [fw (f j), fw (f (j + 1)), fw 0, fw 0, .int .u8 2] 82
  have hz4 : wr.heap.size = w4.heap.size := by omega
  rw [hz4] at K5
  obtain ⟨w5, hw5⟩ : ∃ w5, w5 = wr.alloc (.cells #[fw (f j), fw (f (j + 1)), fw 0, fw 0, .int .u8 2] 82) := ⟨_, rfl⟩
  rw [← hw5] at K5 hC ⊢
  have C5 := Lib.hid hC
  have hz5 := hC.size
  have L5 := K5.lt
  have J0 := HK0.out.keep hC L0
  have J1 := HK1.out.keep hC L1
  obtain ⟨k0, k1, g0, g1⟩ := J0.c2
  obtain ⟨s0, s1, s2, s3, s4, t0, t1, t2, t3, t4⟩ := J1.c5
  obtain ⟨u0, u1, u2, u3, u4, v0, v1, v2, v3, v4⟩ := K5.c5
  have q2 := (hC.cell (p := ⟨a.block, a.off + (j + 2), none⟩) hab).trans p2'
  have hl0 : w.heap.size < w5.heap.size := by omega
  have hl1 : w.heap.size + 1 < w5.heap.size := by omega
  have hlb : a.block < w5.heap.size := by omega
  have hn0 : ¬ w.heap.size = w4.heap.size := by omega
  have hn1 : ¬ w.heap.size + 1 = w4.heap.size := by omega
  have hn2 : ¬ a.block = w4.heap.size := by omega
  clear hw5 hS hB hR hN19 hBN19 hSb19 hcS hfS hC J0 J1 K5 p0 p1 p1' p2 p2'
  go_wp2_with fail
  have hT5 := HT.out.trans (C5.out.mono HT.out.size)
  have hzw := HT.out.size
  refine bodyPost_ret (v := co 2 (f j) (f (j + 1)) (0) (f (j + 2))) (by simp [results, Try.results71, go_sem, *]) rfl ⟨rfl, ((((((hT5.setCell (p := ⟨w4.heap.size, 3, none⟩) hzw _).setCell (p := ⟨w.heap.size + 1, 0, none⟩) (by show _ ≤ w.heap.size + 1; omega) _).setCell (p := ⟨w.heap.size + 1, 1, none⟩) (by show _ ≤ w.heap.size + 1; omega) _).setCell (p := ⟨w.heap.size + 1, 2, none⟩) (by show _ ≤ w.heap.size + 1; omega) _).setCell (p := ⟨w.heap.size + 1, 3, none⟩) (by show _ ≤ w.heap.size + 1; omega) _).setCell (p := ⟨w.heap.size + 1, 4, none⟩) (by show _ ≤ w.heap.size + 1; omega) _)⟩
set_option maxRecDepth 20000 in
set_option maxHeartbeats 8000000 in
theorem get_3 (A : Option Addr) (N c i j : Nat) (f : Nat → Nat) (w : World) (hf : Flo w A N c f) (hN : N ≤ 2000) (hj : j = i * 4) (hjN : j + 4 ≤ N) :
    Calls Try.prog 71 #[sg 3 A N c, .int .i64 i] w fun e w' => e = .returned (co 3 (f j) (f (j + 1)) (f (j + 2)) (f (j + 3))) ∧ Below w.heap.size w w' := by
  have hd := Lib.hid fun W => dimension_any 3 (by unfold Is4; omega) W
  have hwd : wid 3 = 4 := by decide
  rw [hwd] at hd
  have hij : (i : Int) * 4 = (j : Int) := by rw [hj, Int.natCast_mul]; rfl
  have hj0 : j < N := by omega
  have hw0 : IntKind.i64.wrap (j : Int) = (j : Int) := by rw [IntKind.wrap_i64]; omega
  obtain ⟨a, rfl⟩ := hf.some hj0
  clear hj
  have hfh := Lib.hid hf
  clear hf
  go_enter Try.func71, Try.ntmps71
  go_wp2_with (go_at_call 74; refine (hd.out _).mono ?_; rintro e w1 ⟨rfl, hb⟩; have hb1 := Lib.hid hb; clear hb)
  have hf := hfh.out
  have hz1 := hb1.out.size
  simp only [World.size_alloc] at hz1
  have K0 := ((Blk.new w [.int .u8 3, .slice (some a) N c] 68).alloc (.cells #[fw 0, fw 0, fw 0, fw 0, .int .u8 0] 82)).keep hb1.out (by simp only [World.size_alloc]; omega)
  have K1 := (Blk.new (w.alloc (.cells #[.int .u8 3, .slice (some a) N c] 68)) [fw 0, fw 0, fw 0, fw 0, .int .u8 0] 82).keep hb1.out (by simp only [World.size_alloc]; omega)
  simp only [World.size_alloc] at K1
  have L0 := K0.lt
  have L1 := K1.lt
  obtain ⟨k0, k1, g0, g1⟩ := K0.c2
  have HT : Below w.heap.size w w1 := Below.trans (by go_grown) (hb1.out.mono (by simp only [World.size_alloc]; omega))
  have z0 := hf.cell a rfl j (by omega)
  have p0 := (HT.cell (World.block_lt_of_cell? w _ z0)).trans z0
  have z1 := hf.cell a rfl (j + 1) (by omega)
  have p1 := (HT.cell (World.block_lt_of_cell? w _ z1)).trans z1
  have z2 := hf.cell a rfl (j + 2) (by omega)
  have p2 := (HT.cell (World.block_lt_of_cell? w _ z2)).trans z2
  have z3 := hf.cell a rfl (j + 3) (by omega)
  have p3 := (HT.cell (World.block_lt_of_cell? w _ z3)).trans z3
  have hab : a.block < w1.heap.size := by have := World.block_lt_of_cell? w _ z0; rw [addBlk] at this; have := HT.size; omega
  have hab0 : (a.add j).block < w1.heap.size := by rw [addBlk]; exact hab
  have p1' : w1.cell? ⟨a.block, a.off + (j + 1), none⟩ = some (fw (f (j + 1))) := by rw [← p1]; rfl
  have hw1 : IntKind.i64.wrap ((j : Int) + 1) = (j : Int) + 1 := by rw [IntKind.wrap_i64]; omega
  have hge1 : 0 ≤ (j : Int) + 1 := by omega
  have hlt1 : (j : Int) + 1 < (N : Int) := by omega
  have htn1 : ((j : Int) + 1).toNat = j + 1 := by omega
  have p2' : w1.cell? ⟨a.block, a.off + (j + 2), none⟩ = some (fw (f (j + 2))) := by rw [← p2]; rfl
  have hw2 : IntKind.i64.wrap ((j : Int) + 2) = (j : Int) + 2 := by rw [IntKind.wrap_i64]; omega
  have hge2 : 0 ≤ (j : Int) + 2 := by omega
  have hlt2 : (j : Int) + 2 < (N : Int) := by omega
  have htn2 : ((j : Int) + 2).toNat = j + 2 := by omega
  have p3' : w1.cell? ⟨a.block, a.off + (j + 3), none⟩ = some (fw (f (j + 3))) := by rw [← p3]; rfl
  have hw3 : IntKind.i64.wrap ((j : Int) + 3) = (j : Int) + 3 := by rw [IntKind.wrap_i64]; omega
  have hge3 : 0 ≤ (j : Int) + 3 := by omega
  have hlt3 : (j : Int) + 3 < (N : Int) := by omega
  have htn3 : ((j : Int) + 3).toNat = j + 3 := by omega
  have HT := Lib.hid HT
  have HK0 := Lib.hid K0
  have HK1 := Lib.hid K1
  clear K0 K1 hf z0 z1 z2 z3
  obtain ⟨w4, rfl⟩ : ∃ w4, w4 = w1 := ⟨_, rfl⟩
  refine Reg.beginB (ops := regAt Try.f71 2) 21 (by kernel_rfl) (by kernel_rfl) (fun wr hS hB hzu4 => ?_)
  have hC := hS
  refine' Reg.val (o := { dst := some 10, op := Op.fieldAddr 68 (Operand.tmp 2) 1, type := 0, pos := "type_sequence.go:62", after := #[], guard := none }) 0 _ (by rfl) (by kernel_rfl) (by rfl) hC ?hvu4_0 ?_
  case hvu4_0 => intro W hW; obtain ⟨hcW, hfW⟩ := bcell hW; have hgW := fun (p : Addr) (hp : p.block < _) => hW.cell (p := p) hp; (try simp only [World.size_alloc, World.size_setCell, World.size_drew] at hgW); go_simp <;> (with_reducible rfl)
  simp only [Act.put, List.setIfInBounds_toArray, List.set_cons_zero, List.set_cons_succ]
  refine' Reg.val (o := { dst := some 11, op := Op.load 22 (Operand.tmp 10), type := 22, pos := "type_sequence.go:62", after := #[{ on := 0, ground := Ground.data }], guard := none }) 1 _ (by rfl) (by kernel_rfl) (by rfl) hC ?hvu4_1 ?_
  case hvu4_1 => intro W hW; obtain ⟨hcW, hfW⟩ := bcell hW; have hgW := fun (p : Addr) (hp : p.block < _) => hW.cell (p := p) hp; (try simp only [World.size_alloc, World.size_setCell, World.size_drew] at hgW); go_simp <;> (with_reducible rfl)
  simp only [Act.put, List.setIfInBounds_toArray, List.set_cons_zero, List.set_cons_succ]
  refine' Reg.val (o := { dst := some 12, op := Op.move (Operand.tmp 1), type := 3, pos := "type_sequence.go:62", after := #[], guard := none }) 2 _ (by rfl) (by kernel_rfl) (by rfl) hC ?hvu4_2 ?_
  case hvu4_2 => intro W _; go_simp <;> (with_reducible rfl)
  simp only [Act.put, List.setIfInBounds_toArray, List.set_cons_zero, List.set_cons_succ]
  refine' Reg.val (o := { dst := some 13, op := Op.move (Operand.tmp 5), type := 3, pos := "type_sequence.go:62", after := #[], guard := none }) 3 _ (by rfl) (by kernel_rfl) (by rfl) hC ?hvu4_3 ?_
  case hvu4_3 => intro W _; go_simp <;> (with_reducible rfl)
  simp only [Act.put, List.setIfInBounds_toArray, List.set_cons_zero, List.set_cons_succ]
  refine' Reg.val (o := { dst := some 14, op := Op.binOp BinOp.mul 3 (Operand.tmp 12) (Operand.tmp 13) 3, type := 3, pos := "type_sequence.go:62", after := #[{ on := 2, ground := Ground.data }, { on := 3, ground := Ground.data }], guard := none }) 4 _ (by rfl) (by kernel_rfl) (by rfl) hC ?hvu4_4 ?_
  case hvu4_4 => intro W hW; obtain ⟨hcW, hfW⟩ := bcell hW; have hgW := fun (p : Addr) (hp : p.block < _) => hW.cell (p := p) hp; (try simp only [World.size_alloc, World.size_setCell, World.size_drew] at hgW); go_simp <;> (with_reducible rfl)
  simp only [Act.put, List.setIfInBounds_toArray, List.set_cons_zero, List.set_cons_succ]
  refine' Reg.val (o := { dst := some 15, op := Op.indexAddr 22 (Operand.tmp 11) (Operand.tmp 14), type := 0, pos := "type_sequence.go:62", after := #[{ on := 1, ground := Ground.data }, { on := 4, ground := Ground.data }], guard := none }) 5 _ (by rfl) (by kernel_rfl) (by rfl) hC ?hvu4_5 ?_
  case hvu4_5 => intro W hW; obtain ⟨hcW, hfW⟩ := bcell hW; have hgW := fun (p : Addr) (hp : p.block < _) => hW.cell (p := p) hp; (try simp only [World.size_alloc, World.size_setCell, World.size_drew] at hgW); go_simp <;> (with_reducible rfl)
  simp only [Act.put, List.setIfInBounds_toArray, List.set_cons_zero, List.set_cons_succ]
  refine' Reg.val (o := { dst := some 16, op := Op.load 48 (Operand.tmp 15), type := 48, pos := "type_sequence.go:62", after := #[{ on := 5, ground := Ground.data }], guard := none }) 6 _ (by rfl) (by kernel_rfl) (by rfl) hC ?hvu4_6 ?_
  case hvu4_6 => intro W hW; obtain ⟨hcW, hfW⟩ := bcell hW; have hgW := fun (p : Addr) (hp : p.block < _) => hW.cell (p := p) hp; (try simp only [World.size_alloc, World.size_setCell, World.size_drew] at hgW); go_simp <;> (with_reducible rfl)
  simp only [Act.put, List.setIfInBounds_toArray, List.set_cons_zero, List.set_cons_succ]
  refine' Reg.val (o := { dst := some 17, op := Op.fieldAddr 68 (Operand.tmp 2) 1, type := 0, pos := "type_sequence.go:62", after := #[], guard := none }) 7 _ (by rfl) (by kernel_rfl) (by rfl) hC ?hvu4_7 ?_
  case hvu4_7 => intro W hW; obtain ⟨hcW, hfW⟩ := bcell hW; have hgW := fun (p : Addr) (hp : p.block < _) => hW.cell (p := p) hp; (try simp only [World.size_alloc, World.size_setCell, World.size_drew] at hgW); go_simp <;> (with_reducible rfl)
  simp only [Act.put, List.setIfInBounds_toArray, List.set_cons_zero, List.set_cons_succ]
  refine' Reg.val (o := { dst := some 18, op := Op.load 22 (Operand.tmp 17), type := 22, pos := "type_sequence.go:62", after := #[{ on := 7, ground := Ground.data }], guard := none }) 8 _ (by rfl) (by kernel_rfl) (by rfl) hC ?hvu4_8 ?_
  case hvu4_8 => intro W hW; obtain ⟨hcW, hfW⟩ := bcell hW; have hgW := fun (p : Addr) (hp : p.block < _) => hW.cell (p := p) hp; (try simp only [World.size_alloc, World.size_setCell, World.size_drew] at hgW); go_simp <;> (with_reducible rfl)
  simp only [Act.put, List.setIfInBounds_toArray, List.set_cons_zero, List.set_cons_succ]
  refine' Reg.val (o := { dst := some 19, op := Op.move (Operand.tmp 1), type := 3, pos := "type_sequence.go:62", after := #[], guard := none }) 9 _ (by rfl) (by kernel_rfl) (by rfl) hC ?hvu4_9 ?_
  case hvu4_9 => intro W _; go_simp <;> (with_reducible rfl)
  simp only [Act.put, List.setIfInBounds_toArray, List.set_cons_zero, List.set_cons_succ]
  refine' Reg.val (o := { dst := some 20, op := Op.move (Operand.tmp 5), type := 3, pos := "type_sequence.go:62", after := #[], guard := none }) 10 _ (by rfl) (by kernel_rfl) (by rfl) hC ?hvu4_10 ?_
  case hvu4_10 => intro W _; go_simp <;> (with_reducible rfl)
  simp only [Act.put, List.setIfInBounds_toArray, List.set_cons_zero, List.set_cons_succ]
  refine' Reg.val (o := { dst := some 21, op := Op.binOp BinOp.mul 3 (Operand.tmp 19) (Operand.tmp 20) 3, type := 3, pos := "type_sequence.go:62", after := #[{ on := 9, ground := Ground.data }, { on := 10, ground := Ground.data }], guard := none }) 11 _ (by rfl) (by kernel_rfl) (by rfl) hC ?hvu4_11 ?_
  case hvu4_11 => intro W hW; obtain ⟨hcW, hfW⟩ := bcell hW; have hgW := fun (p : Addr) (hp : p.block < _) => hW.cell (p := p) hp; (try simp only [World.size_alloc, World.size_setCell, World.size_drew] at hgW); go_simp <;> (with_reducible rfl)
  simp only [Act.put, List.setIfInBounds_toArray, List.set_cons_zero, List.set_cons_succ]
  refine' Reg.val (o := { dst := some 22, op := Op.binOp BinOp.add 3 (Operand.tmp 21) (Operand.const (Value.int IntKind.i64 1)) 3, type := 3, pos := "type_sequence.go:62", after := #[{ on := 11, ground := Ground.data }], guard := none }) 12 _ (by rfl) (by kernel_rfl) (by rfl) hC ?hvu4_12 ?_
  case hvu4_12 => intro W hW; obtain ⟨hcW, hfW⟩ := bcell hW; have hgW := fun (p : Addr) (hp : p.block < _) => hW.cell (p := p) hp; (try simp only [World.size_alloc, World.size_setCell, World.size_drew] at hgW); go_simp <;> (with_reducible rfl)
  simp only [Act.put, List.setIfInBounds_toArray, List.set_cons_zero, List.set_cons_succ]
  refine' Reg.val (o := { dst := some 23, op := Op.indexAddr 22 (Operand.tmp 18) (Operand.tmp 22), type := 0, pos := "type_sequence.go:62", after := #[{ on := 8, ground := Ground.data }, { on := 12, ground := Ground.data }], guard := none }) 13 _ (by rfl) (by kernel_rfl) (by rfl) hC ?hvu4_13 ?_
  case hvu4_13 => intro W hW; obtain ⟨hcW, hfW⟩ := bcell hW; have hgW := fun (p : Addr) (hp : p.block < _) => hW.cell (p := p) hp; (try simp only [World.size_alloc, World.size_setCell, World.size_drew] at hgW); go_simp <;> (with_reducible rfl)
  simp only [Act.put, List.setIfInBounds_toArray, List.set_cons_zero, List.set_cons_succ]
  refine' Reg.val (o := { dst := some 24, op := Op.load 48 (Operand.tmp 23), type := 48, pos := "type_sequence.go:62", after := #[{ on := 13, ground := Ground.data }], guard := none }) 14 _ (by rfl) (by kernel_rfl) (by rfl) hC ?hvu4_14 ?_
  case hvu4_14 => intro W hW; obtain ⟨hcW, hfW⟩ := bcell hW; have hgW := fun (p : Addr) (hp : p.block < _) => hW.cell (p := p) hp; (try simp only [World.size_alloc, World.size_setCell, World.size_drew] at hgW); go_simp <;> (with_reducible rfl)
  simp only [Act.put, List.setIfInBounds_toArray, List.set_cons_zero, List.set_cons_succ]
  refine' Reg.val (o := { dst := some 25, op := Op.build 80 #[(0, Operand.tmp 16), (1, Operand.tmp 24)], type := 80, pos := "type_sequence.go:62", after := #[{ on := 6, ground := Ground.data }, { on := 14, ground := Ground.data }], guard := none }) 15 _ (by rfl) (by kernel_rfl) (by rfl) hC ?hvu4_15 ?_
  case hvu4_15 => intro W hW; obtain ⟨hcW, hfW⟩ := bcell hW; have hgW := fun (p : Addr) (hp : p.block < _) => hW.cell (p := p) hp; (try simp only [World.size_alloc, World.size_setCell, World.size_drew] at hgW); go_simp <;> (with_reducible rfl)
  simp only [Act.put, List.setIfInBounds_toArray, List.set_cons_zero, List.set_cons_succ]
  refine' Reg.val (o := { dst := some 26, op := Op.fieldAddr 68 (Operand.tmp 2) 0, type := 0, pos := "type_sequence.go:62", after := #[], guard := none }) 16 _ (by rfl) (by kernel_rfl) (by rfl) hC ?hvu4_16 ?_
  case hvu4_16 => intro W hW; obtain ⟨hcW, hfW⟩ := bcell hW; have hgW := fun (p : Addr) (hp : p.block < _) => hW.cell (p := p) hp; (try simp only [World.size_alloc, World.size_setCell, World.size_drew] at hgW); go_simp <;> (with_reducible rfl)
  simp only [Act.put, List.setIfInBounds_toArray, List.set_cons_zero, List.set_cons_succ]
  refine' Reg.val (o := { dst := some 27, op := Op.load 66 (Operand.tmp 26), type := 66, pos := "type_sequence.go:62", after := #[{ on := 16, ground := Ground.data }], guard := none }) 17 _ (by rfl) (by kernel_rfl) (by rfl) hC ?hvu4_17 ?_
  case hvu4_17 => intro W hW; obtain ⟨hcW, hfW⟩ := bcell hW; have hgW := fun (p : Addr) (hp : p.block < _) => hW.cell (p := p) hp; (try simp only [World.size_alloc, World.size_setCell, World.size_drew] at hgW); go_simp <;> (with_reducible rfl)
  simp only [Act.put, List.setIfInBounds_toArray, List.set_cons_zero, List.set_cons_succ]
  refine' Reg.val (o := { dst := some 28, op := Op.build 82 #[(0, Operand.tmp 25), (3, Operand.tmp 27)], type := 82, pos := "type_sequence.go:62", after := #[{ on := 15, ground := Ground.data }, { on := 17, ground := Ground.data }], guard := none }) 18 _ (by rfl) (by kernel_rfl) (by rfl) hC ?hvu4_18 ?_
  case hvu4_18 => intro W hW; obtain ⟨hcW, hfW⟩ := bcell hW; have hgW := fun (p : Addr) (hp : p.block < _) => hW.cell (p := p) hp; (try simp only [World.size_alloc, World.size_setCell, World.size_drew] at hgW); go_simp <;> (with_reducible rfl)
  simp only [Act.put, List.setIfInBounds_toArray, List.set_cons_zero, List.set_cons_succ]
  refine Reg.new (o := { dst := some 6, op := Op.alloc 82, type := 0, pos := "type_sequence.go:62", after := #[], guard := none }) 19 (by rfl) (by kernel_rfl) (by rfl) (fun _ hb => (Below.trans hS (hb.mono hB))) (fun K Q' hK => ?_)
  go_simp
  refine hK _ _ (by go_grown) ?_
  clear hK K
  clear hC
  intro hb hN19 hC
  have hBN19 := hB
  have hSb19 := hS
  replace hS := Below.trans hS (hb.mono hB)
  replace hB := Nat.le_trans hB hb.size
  clear hb
  refine Reg.one (o := { dst := none, op := Op.store 82 (Operand.tmp 6) (Operand.tmp 28), type := 0, pos := "type_sequence.go:62", after := #[{ on := 19, ground := Ground.data }, { on := 18, ground := Ground.data }, { on := 0, ground := Ground.phase }, { on := 1, ground := Ground.phase }, { on := 2, ground := Ground.phase }, { on := 3, ground := Ground.phase }, { on := 4, ground := Ground.phase }, { on := 5, ground := Ground.phase }, { on := 6, ground := Ground.phase }, { on := 7, ground := Ground.phase }, { on := 8, ground := Ground.phase }, { on := 9, ground := Ground.phase }, { on := 10, ground := Ground.phase }, { on := 11, ground := Ground.phase }, { on := 12, ground := Ground.phase }, { on := 13, ground := Ground.phase }, { on := 14, ground := Ground.phase }, { on := 15, ground := Ground.phase }, { on := 16, ground := Ground.phase }, { on := 17, ground := Ground.phase }, { on := 18, ground := Ground.phase }, { on := 19, ground := Ground.phase }], guard := none }) 20 (by rfl) (by kernel_rfl) (by rfl)  (fun K Q' hK => ?_)
  obtain ⟨hcR, hfR⟩ := bcell hS
  obtain ⟨hcN19, hfN19⟩ := bcell hN19
  (try simp only [World.size_alloc, World.size_setCell, World.size_drew] at hcN19 hfN19)
  go_simp
  refine hK _ _ (by repeat (first | exact hS | assumption | exact But.of_below rfl hS | exact hC | refine But.setCell ?_ (by simp) _ | refine Below.setCell ?_ ?_ _ | refine Below.alloc ?_ ?_ _ | go_size)) (fun hC' => ?_)
  clear hK K
  clear hC
  have hC := hC'
  clear hC'
  refine Reg.end_ (by kernel_rfl) ?_
  have hR := hS
  obtain ⟨hcS, hfS⟩ := bcell hS
  (try simp only [World.size_alloc, World.size_setCell, World.size_drew] at hcS hfS)
  have K5 := Blk.new wr [fw (f j), fw (f (j + 1)), fw 0, fw 0, .int .u8 3] 82
  have hz4 : wr.heap.size = w4.heap.size := by omega
  rw [hz4] at K5
  obtain ⟨w5, hw5⟩ : ∃ w5, w5 = wr.alloc (.cells #[fw (f j), fw (f (j + 1)), fw 0, fw 0, .int .u8 3] 82) := ⟨_, rfl⟩
  rw [← hw5] at K5 hC ⊢
  have C5 := Lib.hid hC
  have hz5 := hC.size
  have L5 := K5.lt
  have J0 := HK0.out.keep hC L0
  have J1 := HK1.out.keep hC L1
  obtain ⟨k0, k1, g0, g1⟩ := J0.c2
  obtain ⟨s0, s1, s2, s3, s4, t0, t1, t2, t3, t4⟩ := J1.c5
  obtain ⟨u0, u1, u2, u3, u4, v0, v1, v2, v3, v4⟩ := K5.c5
  have q2 := (hC.cell (p := ⟨a.block, a.off + (j + 2), none⟩) hab).trans p2'
  have q3 := (hC.cell (p := ⟨a.block, a.off + (j + 3), none⟩) hab).trans p3'
  have hl0 : w.heap.size < w5.heap.size := by omega
  have hl1 : w.heap.size + 1 < w5.heap.size := by omega
  have hlb : a.block < w5.heap.size := by omega
  have hn0 : ¬ w.heap.size = w4.heap.size := by omega
  have hn1 : ¬ w.heap.size + 1 = w4.heap.size := by omega
  have hn2 : ¬ a.block = w4.heap.size := by omega
  clear hw5 hS hB hR hN19 hBN19 hSb19 hcS hfS hC J0 J1 K5 p0 p1 p1' p2 p2' p3 p3'
  go_wp2_with fail
  have hT5 := HT.out.trans (C5.out.mono HT.out.size)
  have hzw := HT.out.size
  refine bodyPost_ret (v := co 3 (f j) (f (j + 1)) (f (j + 2)) (f (j + 3))) (by simp [results, Try.results71, go_sem, *]) rfl ⟨rfl, (((((((hT5.setCell (p := ⟨w4.heap.size, 2, none⟩) hzw _).setCell (p := ⟨w4.heap.size, 3, none⟩) hzw _).setCell (p := ⟨w.heap.size + 1, 0, none⟩) (by show _ ≤ w.heap.size + 1; omega) _).setCell (p := ⟨w.heap.size + 1, 1, none⟩) (by show _ ≤ w.heap.size + 1; omega) _).setCell (p := ⟨w.heap.size + 1, 2, none⟩) (by show _ ≤ w.heap.size + 1; omega) _).setCell (p := ⟨w.heap.size + 1, 3, none⟩) (by show _ ≤ w.heap.size + 1; omega) _).setCell (p := ⟨w.heap.size + 1, 4, none⟩) (by show _ ≤ w.heap.size + 1; omega) _)⟩
theorem get_any (D : Int) (A : Option Addr) (N c i j : Nat) (f : Nat → Nat) (w : World) (hD : Is4 D) (hf : Flo w A N c f) (hN : N ≤ 2000) (hj : j = i * wid D) (hjN : j + wid D ≤ N) :
    Calls Try.prog 71 #[sg D A N c, .int .i64 i] w fun e w' => e = .returned (co D (f j) (f (j + 1)) (zOf D f j) (mOf D f j)) ∧ Below w.heap.size w w' := by
  rcases hD with rfl | rfl | rfl | rfl
  · exact get_0 A N c i j f w hf hN hj hjN
  · exact get_1 A N c i j f w hf hN hj hjN
  · exact get_2 A N c i j f w hf hN hj hjN
  · exact get_3 A N c i j f w hf hN hj hjN
end Go.Proofs.Ytpbllagjcdcnpaa
