/- Walks of the reference's comparison of two plain lines that have the same numbers. -/
import Derived.Test.YtpbllagjcdcnpaaSeqSlice
namespace Go.Proofs.Ytpbllagjcdcnpaa
open Go.ChangeShapes Go.WideShapes Go.ChangeAt Go.RowKit
open Fl
set_option linter.unusedSimpArgs false
set_option linter.unusedVariables false
attribute [local go_sem] run_store_float run_fadd run_fsub run_fmul run_fdiv run_equalIn_float fmt64

set_option maxRecDepth 20000 in
set_option maxHeartbeats 4000000 in
theorem samenums_any (A A' : Option Addr) (n c c' : Nat) (f : Nat → Nat) (w : World) (h1 : Flo w A n c f) (h2 : Flo w A' n c' f) :
    Calls Try.prog 43 #[.slice A n c, .slice A' n c'] w fun e w' => e = .returned (.bool true) ∧ Below w.heap.size w w' := by
  have hb := bits_call
  have hc1 := h1.cap
  have hl1 := h1.le
  have hc2 := h2.cap
  have hl2 := h2.le
  have hmx : maxLen = 9223372036854775807 := rfl
  rw [hmx] at hc1 hc2
  have h1 := Lib.hid h1
  have h2 := Lib.hid h2
  go_enter Try.func43, Try.ntmps43
  go_wp2_with fail
  go_loopw [14] (fun i wr => ∃ k : Nat, i = .int .i64 (k : Int) ∧ k ≤ n ∧ Below w.heap.size w wr) (fun i _ => n - (intOf i).toNat)
  case atStart => exact ⟨0, rfl, Nat.zero_le _, Below.refl _ _⟩
  case round =>
    obtain ⟨k, rfl, hk, H⟩ := hrel
    by_cases hkn : k < n
    · obtain ⟨a, rfl⟩ := h1.out.some hkn
      obtain ⟨a', rfl⟩ := h2.out.some hkn
      have z := h1.out.cell a rfl k hkn
      have z' := h2.out.cell a' rfl k hkn
      have p := (H.cell (World.block_lt_of_cell? w _ z)).trans z
      have p' := (H.cell (World.block_lt_of_cell? w _ z')).trans z'
      have hab : (a'.add k).block < wr.heap.size := World.block_lt_of_cell? wr _ p'
      clear z z'
      go_wp2_with fail
      refine Reg.beginB (ops := regAt Try.f43 6) 8 (by kernel_rfl) (by kernel_rfl) (fun wr hS hB hzu1 => ?_)
      have hC := hS
      refine' Reg.val (o := { dst := some 19, op := Op.move (Operand.tmp 6), type := 48, pos := "geom.go:195", after := #[], guard := none }) 0 _ (by rfl) (by kernel_rfl) (by rfl) hC ?hvu1_0 ?_
      case hvu1_0 => intro W _; go_simp <;> (with_reducible rfl)
      simp only [Act.put, List.setIfInBounds_toArray, List.set_cons_zero, List.set_cons_succ]
      refine' Reg.val (o := { dst := some 21, op := Op.move (Operand.tmp 1), type := 22, pos := "geom.go:195", after := #[], guard := none }) 2 _ (by rfl) (by kernel_rfl) (by rfl) hC ?hvu1_2 ?_
      case hvu1_2 => intro W _; go_simp <;> (with_reducible rfl)
      simp only [Act.put, List.setIfInBounds_toArray, List.set_cons_zero, List.set_cons_succ]
      refine' Reg.val (o := { dst := some 22, op := Op.move (Operand.tmp 5), type := 3, pos := "geom.go:195", after := #[], guard := none }) 3 _ (by rfl) (by kernel_rfl) (by rfl) hC ?hvu1_3 ?_
      case hvu1_3 => intro W _; go_simp <;> (with_reducible rfl)
      simp only [Act.put, List.setIfInBounds_toArray, List.set_cons_zero, List.set_cons_succ]
      refine' Reg.val (o := { dst := some 23, op := Op.indexAddr 22 (Operand.tmp 21) (Operand.tmp 22), type := 0, pos := "geom.go:195", after := #[{ on := 2, ground := Ground.data }, { on := 3, ground := Ground.data }], guard := none }) 4 _ (by rfl) (by kernel_rfl) (by rfl) hC ?hvu1_4 ?_
      case hvu1_4 => intro W hW; obtain ⟨hcW, hfW⟩ := bcell hW; have hgW := fun (p : Addr) (hp : p.block < _) => hW.cell (p := p) hp; (try simp only [World.size_alloc, World.size_setCell, World.size_drew] at hgW); go_simp <;> (with_reducible rfl)
      simp only [Act.put, List.setIfInBounds_toArray, List.set_cons_zero, List.set_cons_succ]
      refine' Reg.val (o := { dst := some 24, op := Op.load 48 (Operand.tmp 23), type := 48, pos := "geom.go:195", after := #[{ on := 4, ground := Ground.data }], guard := none }) 5 _ (by rfl) (by kernel_rfl) (by rfl) hC ?hvu1_5 ?_
      case hvu1_5 => intro W hW; obtain ⟨hcW, hfW⟩ := bcell hW; have hgW := fun (p : Addr) (hp : p.block < _) => hW.cell (p := p) hp; (try simp only [World.size_alloc, World.size_setCell, World.size_drew] at hgW); go_simp <;> (with_reducible rfl)
      simp only [Act.put, List.setIfInBounds_toArray, List.set_cons_zero, List.set_cons_succ]
      refine Reg.one (o := { dst := some 20, op := Op.call { callee := Callee.value (Operand.func 75), args := #[Operand.tmp 19], argTypes := #[48] }, type := 92, pos := "geom.go:195", after := #[{ on := 0, ground := Ground.data }], guard := none }) 1 (by rfl) (by kernel_rfl) (by rfl)  (fun K Q' hK => ?_)
      obtain ⟨hcR, hfR⟩ := bcell hS
      go_simp
      refine hK _ _ hC (fun hC => ?_)
      clear hK K hcR hfR
      refine Reg.one (o := { dst := some 25, op := Op.call { callee := Callee.value (Operand.func 75), args := #[Operand.tmp 24], argTypes := #[48] }, type := 92, pos := "geom.go:195", after := #[{ on := 5, ground := Ground.data }, { on := 1, ground := Ground.chain }], guard := none }) 6 (by rfl) (by kernel_rfl) (by rfl)  (fun K Q' hK => ?_)
      obtain ⟨hcR, hfR⟩ := bcell hS
      go_simp
      refine hK _ _ hC (fun hC => ?_)
      clear hK K hcR hfR
      refine' Reg.val (o := { dst := some 26, op := Op.binOp BinOp.neq 92 (Operand.tmp 20) (Operand.tmp 25) 92, type := 4, pos := "geom.go:195", after := #[{ on := 1, ground := Ground.data }, { on := 6, ground := Ground.data }], guard := none }) 7 _ (by rfl) (by kernel_rfl) (by rfl) hC ?hvu1_7 ?_
      case hvu1_7 => intro W hW; obtain ⟨hcW, hfW⟩ := bcell hW; have hgW := fun (p : Addr) (hp : p.block < _) => hW.cell (p := p) hp; (try simp only [World.size_alloc, World.size_setCell, World.size_drew] at hgW); go_simp <;> (with_reducible rfl)
      simp only [Act.put, List.setIfInBounds_toArray, List.set_cons_zero, List.set_cons_succ]
      refine Reg.end_ (by kernel_rfl) ?_
      have hR := hS
      obtain ⟨hcS, hfS⟩ := bcell hS
      (try simp only [World.size_alloc, World.size_setCell, World.size_drew] at hcS hfS)
      have HR := Lib.hid hR
      have hzw := H.size
      clear hS hB hC hR hcS hfS
      go_wp2_with fail
      go_roundw
      case rel => exact ⟨k + 1, by go_num, by omega, H.trans (HR.out.mono hzw)⟩
      case measure => simp [intOf]; omega
    · go_wp2_with fail
      go_returns
      exact ⟨rfl, H⟩
set_option maxHeartbeats 4000000 in
theorem samegeoms_nil (w : World) :
    Calls Try.prog 44 #[.slice none 0 0, .slice none 0 0] w fun e w' => e = .returned (.bool true) ∧ Below w.heap.size w w' := by
  go_enter Try.func44, Try.ntmps44
  go_wp2_with fail
  go_loopw [14] (fun i wr => i = .int .i64 0 ∧ Below w.heap.size w wr) (fun i _ => 0)
  case atStart => exact ⟨rfl, Below.refl _ _⟩
  case round =>
    obtain ⟨rfl, H⟩ := hrel
    go_wp2_with fail
    go_returns
    exact ⟨rfl, H⟩
set_option maxRecDepth 20000 in
set_option maxHeartbeats 4000000 in
theorem samegeom_line (D : Int) (A A' : Option Addr) (n c c' : Nat) (f : Nat → Nat) (w : World) (h1 : Flo w A n c f) (h2 : Flo w A' n c' f) :
    Calls Try.prog 16 #[.agg #[.int .i64 2, .int .i64 D, .slice A n c, .slice none 0 0], .agg #[.int .i64 2, .int .i64 D, .slice A' n c', .slice none 0 0]] w fun e w' => e = .returned (.bool true) ∧ Below w.heap.size w w' := by
  have hn := Lib.hid fun W (hb : Below w.heap.size w W) => samenums_any A A' n c c' f W (h1.keep hb) (h2.keep hb)
  clear h1 h2
  go_enter Try.func16, Try.ntmps16
  go_wp2_with (first
    | (go_at_call 43; refine (hn.out _ (by go_grown)).mono ?_; rintro r w1 ⟨rfl, hb1⟩; have K0 := ((Blk.new w [.int .i64 2, .int .i64 D, .slice A n c, .slice none 0 0] 25).alloc (.cells #[.int .i64 2, .int .i64 D, .slice A' n c', .slice none 0 0] 25)).keep hb1 (by simp only [World.size_alloc]; omega); have K1 := (Blk.new (w.alloc (.cells #[.int .i64 2, .int .i64 D, .slice A n c, .slice none 0 0] 25)) [.int .i64 2, .int .i64 D, .slice A' n c', .slice none 0 0] 25).keep hb1 (by simp only [World.size_alloc]; omega); simp only [World.size_alloc] at K1; obtain ⟨x0, x1, x2, x3, _, _, _, _⟩ := K0.c4; obtain ⟨y0, y1, y2, y3, _, _, _, _⟩ := K1.c4; have hz1 := hb1.size; simp only [World.size_alloc] at hz1; have hb1 := Lib.hid hb1; clear K0 K1)
    | (go_at_call 44; refine (samegeoms_nil _).mono ?_; rintro r w2 ⟨rfl, hb2⟩; have hb2 := Lib.hid hb2))
  go_returns
  have H1 : Below w.heap.size w w1 := Below.trans (by go_grown) (hb1.out.mono (by simp only [World.size_alloc]; omega))
  exact ⟨rfl, H1.trans (hb2.out.mono (by omega))⟩
end Go.Proofs.Ytpbllagjcdcnpaa
