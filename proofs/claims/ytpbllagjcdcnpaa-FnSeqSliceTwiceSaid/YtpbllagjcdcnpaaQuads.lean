/- Walk of the reference's Places: the places of a line's numbers. -/
import Derived.Test.YtpbllagjcdcnpaaLine
import Derived.OwnWalk
namespace Go.Proofs.Ytpbllagjcdcnpaa
open Go.ChangeShapes Go.WideShapes Go.ChangeAt Go.RowKit
open Fl
set_option linter.unusedSimpArgs false
set_option linter.unusedVariables false
attribute [local go_sem] run_store_float run_fadd run_fsub run_fmul run_fdiv run_equalIn_float fmt64

abbrev Q4 : Type := Nat × Nat × Nat × Nat
def quads (n : Nat) (g : Nat → Q4) : List Value := (List.range n).flatMap fun i => [fw (g i).1, fw (g i).2.1, fw (g i).2.2.1, fw (g i).2.2.2]
def updQ (g : Nat → Q4) (i : Nat) (p : Q4) : Nat → Q4 := fun j => if j = i then p else g j
theorem quads_succ (n : Nat) (g : Nat → Q4) : quads (n + 1) g = quads n g ++ [fw (g n).1, fw (g n).2.1, fw (g n).2.2.1, fw (g n).2.2.2] := by simp [quads, List.range_succ]
theorem quads_len (n : Nat) (g : Nat → Q4) : (quads n g).length = n * 4 := by
  induction n with
  | zero => rfl
  | succ n ih => rw [quads_succ, List.length_append, ih]; simp; omega
theorem quads_cong {n : Nat} {g h : Nat → Q4} (e : ∀ i, i < n → g i = h i) : quads n g = quads n h := by
  induction n with
  | zero => rfl
  | succ n ih => rw [quads_succ, quads_succ, ih (fun i hi => e i (by omega)), e n (by omega)]
theorem quads_push (n : Nat) (g : Nat → Q4) (p : Q4) : quads n g ++ [fw p.1, fw p.2.1, fw p.2.2.1, fw p.2.2.2] = quads (n + 1) (updQ g n p) := by
  rw [quads_succ]
  have : quads n g = quads n (updQ g n p) := quads_cong fun i hi => by simp [updQ]; omega
  rw [this]
  simp [updQ]
theorem quads_at {n : Nat} {g : Nat → Q4} {i : Nat} (h : i < n) : (quads n g)[i * 4]? = some (fw (g i).1) ∧ (quads n g)[i * 4 + 1]? = some (fw (g i).2.1) := by
  induction n with
  | zero => omega
  | succ n ih =>
    rw [quads_succ]
    have hl := quads_len n g
    by_cases hi : i < n
    · rw [List.getElem?_append_left (by omega), List.getElem?_append_left (by omega)]
      exact ih hi
    · have : i = n := by omega
      subst this
      rw [List.getElem?_append_right (by omega), List.getElem?_append_right (by omega), hl, show i * 4 - i * 4 = 0 by omega, show i * 4 + 1 - i * 4 = 1 by omega]
      exact ⟨rfl, rfl⟩
/-- n places at P, whose X and Y read as g -/
structure Quad (w : World) (P : Option Addr) (n c : Nat) (g : Nat → Q4) : Prop where
  le : n ≤ c
  cap : c ≤ maxLen
  none_ : P = none → n = 0 ∧ c = 0
  cell : ∀ a, P = some a → ∀ i, i < n → w.cell? (a.add (i * 4)) = some (fw (g i).1) ∧ w.cell? ⟨(a.add (i * 4)).block, (a.add (i * 4)).off + 1, none⟩ = some (fw (g i).2.1)
theorem Quad.keep {w w' : World} {P : Option Addr} {n c : Nat} {g : Nat → Q4} (h : Quad w P n c g) (hb : Below w.heap.size w w') : Quad w' P n c g :=
  ⟨h.le, h.cap, h.none_, fun a ha i hi => by
    obtain ⟨h1, h2⟩ := h.cell a ha i hi
    exact ⟨(hb.cell (World.block_lt_of_cell? w _ h1)).trans h1, (hb.cell (World.block_lt_of_cell? w _ h2)).trans h2⟩⟩
theorem Quad.of_owns {w : World} {base : Nat} {e : TypeId} {v : Value} {n : Nat} {g : Nat → Q4} (h : w.ownsRow base e 4 v n (quads n g)) : ∃ P c, v = .slice P n c ∧ Quad w P n c g := by
  rcases h.2 with ⟨rfl, rfl⟩ | ⟨b, cap, cur, rfl, _, _, h1, h2, _⟩
  · exact ⟨none, 0, rfl, Nat.le_refl _, by unfold maxLen; omega, fun _ => ⟨rfl, rfl⟩, fun a h => (by cases h)⟩
  · refine ⟨some ⟨b, 0, none⟩, cap, rfl, h1, h2, fun h => (by cases h), fun a ha i hi => ?_⟩
    cases ha
    rw [add0]
    obtain ⟨q1, q2⟩ := quads_at (g := g) hi
    exact ⟨(h.cellAt (i * 4) (by omega)).trans q1, (h.cellAt (i * 4 + 1) (by omega)).trans q2⟩
theorem keepB {w w' : World} {base : Nat} {e : TypeId} {size : Nat} {v : Value} {n : Nat} {xs : List Value} (h : w.ownsRow base e size v n xs) (hb : Below w.heap.size w w') : w'.ownsRow base e size v n xs := by
  refine ⟨h.1, ?_⟩
  rcases h.2 with h | ⟨g, cap, cur, h1, h2, h3, h4⟩
  · exact Or.inl h
  · exact Or.inr ⟨g, cap, cur, h1, h2, (hb.block g (Array.getElem?_eq_some_iff.1 h3).1).trans h3, h4⟩
theorem keepC {w : World} {base : Nat} {e : TypeId} {size : Nat} {v : Value} {n : Nat} {xs : List Value} (h : w.ownsRow base e size v n xs) {p : Addr} (hp : ∀ g, v.ownBlock = some g → g ≠ p.block) (u : Value) : (w.setCell p u).ownsRow base e size v n xs := by
  refine ⟨h.1, ?_⟩
  rcases h.2 with h | ⟨g, cap, cur, rfl, h2, h3, h4⟩
  · exact Or.inl h
  · exact Or.inr ⟨g, cap, cur, rfl, h2, (Below.heap_setCell w p u g (hp g rfl)).trans h3, h4⟩
theorem infoPl : (Try.prog.info? 74).map (fun i => (i.zero, i.size, i.bytes)) = some (some (.agg #[fw 0, fw 0, fw 0, fw 0]), 4, 32) := by kernel_rfl

set_option maxRecDepth 20000 in
set_option maxHeartbeats 8000000 in
theorem places_any (D : Int) (A : Option Addr) (n c q : Nat) (f : Nat → Nat) (w : World) (hf : Flo w A n c f) (hn : n ≤ 2000) (hD : Is4 D) (hq : n = q * wid D) :
    Calls Try.prog 35 #[.slice A n c, .int .i64 D] w fun e w' => (∃ P cp g, e = .returned (.slice P q cp) ∧ Quad w' P q cp g ∧ ∀ i, i < q → (g i).1 = f (i * wid D) ∧ (g i).2.1 = f (i * wid D + 1)) ∧ Below w.heap.size w w' := by
  obtain ⟨ii, hi1, hi2, hi3, hi4⟩ := info_parts infoPl
  have b0 : bits .and .i64 0 1 = 0 := by decide
  have b1 : bits .and .i64 1 1 = 1 := by decide
  have b2 : bits .and .i64 2 1 = 0 := by decide
  have b3 : bits .and .i64 3 1 = 1 := by decide
  have d0 : bits .and .i64 0 2 = 0 := by decide
  have d1 : bits .and .i64 1 2 = 0 := by decide
  have d2 : bits .and .i64 2 2 = 2 := by decide
  have d3 : bits .and .i64 3 2 = 2 := by decide
  have hf := Lib.hid hf
  have hDw := Lib.hid hD
  obtain ⟨W, hW⟩ : ∃ W, wid D = W := ⟨_, rfl⟩
  have hWD : D = 0 ∧ W = 2 ∨ D = 1 ∧ W = 3 ∨ D = 2 ∧ W = 3 ∨ D = 3 ∧ W = 4 := by
    rcases hD with rfl | rfl | rfl | rfl <;> simp [wid] at hW <;> omega
  rw [hW] at hq ⊢
  clear hD
  rcases hWD with ⟨rfl, rfl⟩ | ⟨rfl, rfl⟩ | ⟨rfl, rfl⟩ | ⟨rfl, rfl⟩
  · have hqq := Lib.hid hq
    clear hq
    go_enter Try.func35, Try.ntmps35
    go_wp2_with (go_at_call 55; refine (width_any _ hDw.out _).mono ?_; rw [hW]; rintro e w1 ⟨rfl, hb⟩; have hb := Lib.hid hb)
    go_loopw [5, 7] (fun v i wr => ∃ (k j : Nat) (g : Nat → Q4), i = .int .i64 (j : Int) ∧ j = k * 2 ∧ k ≤ q ∧ Below w.heap.size w wr ∧ wr.ownsRow w.heap.size 74 4 v k (quads k g) ∧ ∀ i, i < k → (g i).1 = f (i * 2) ∧ (g i).2.1 = f (i * 2 + 1))
      (fun _ i _ => n - (intOf i).toNat)
    case atStart => exact ⟨0, 0, fun _ => (0, 0, 0, 0), rfl, rfl, Nat.zero_le _, hb.out, World.ownsRow_nil _ _ _ _, fun i hi => by omega⟩
    case round =>
      obtain ⟨k, j, g, rfl, hj, hk, H, hown, hg⟩ := hrel
      have hgg := Lib.hid hg
      have hoo := Lib.hid hown
      have hzr := H.size
      have hqo := hqq.out
      by_cases hkq : k < q
      · have hjn : j + 2 ≤ n := by omega
        have hk2 : k < 2000 := by omega
        have hjj := Lib.hid hj
        clear hj hqo hg hown
        obtain ⟨a, rfl⟩ := hf.out.some (show j < n by omega)
        have hj0 : j < n := by omega
        have hab : a.block < wr.heap.size := by have := World.block_lt_of_cell? w _ (hf.out.cell a rfl j hj0); rw [addBlk] at this; omega
        have hab0 : (a.add j).block < wr.heap.size := by rw [addBlk]; exact hab
        have hne : ¬ a.block = wr.heap.size := by omega
        obtain ⟨w4, rfl⟩ : ∃ w4, w4 = wr := ⟨_, rfl⟩
        have HH := Lib.hid H
        have z0 := hf.out.cell a rfl j (by omega)
        have p0 := (H.cell (World.block_lt_of_cell? w _ z0)).trans z0
        clear z0
        have z1 := hf.out.cell a rfl (j + 1) (by omega)
        have p1 := (H.cell (World.block_lt_of_cell? w _ z1)).trans z1
        clear z1
        have p1' : w4.cell? ⟨a.block, a.off + (j + 1), none⟩ = some (fw (f (j + 1))) := by rw [← p1]; rfl
        have hw1 : IntKind.i64.wrap ((j : Int) + 1) = (j : Int) + 1 := by rw [IntKind.wrap_i64]; omega
        have hge1 : 0 ≤ (j : Int) + 1 := by omega
        have hlt1 : (j : Int) + 1 < (n : Int) := by omega
        have htn1 : ((j : Int) + 1).toNat = j + 1 := by omega
        go_wp2_with fail
        refine Reg.beginB (ops := regAt Try.f35 6) 12 (by kernel_rfl) (by kernel_rfl) (fun wr hS hB hzu1 => ?_)
        have hC := hS
        refine' Reg.val (o := { dst := some 20, op := Op.move (Operand.tmp 0), type := 22, pos := "geom.go:85", after := #[], guard := none }) 0 _ (by rfl) (by kernel_rfl) (by rfl) hC ?hvu1_0 ?_
        case hvu1_0 => intro W _; go_simp <;> (with_reducible rfl)
        simp only [Act.put, List.setIfInBounds_toArray, List.set_cons_zero, List.set_cons_succ]
        refine' Reg.val (o := { dst := some 21, op := Op.move (Operand.tmp 7), type := 3, pos := "geom.go:85", after := #[], guard := none }) 1 _ (by rfl) (by kernel_rfl) (by rfl) hC ?hvu1_1 ?_
        case hvu1_1 => intro W _; go_simp <;> (with_reducible rfl)
        simp only [Act.put, List.setIfInBounds_toArray, List.set_cons_zero, List.set_cons_succ]
        refine' Reg.val (o := { dst := some 22, op := Op.indexAddr 22 (Operand.tmp 20) (Operand.tmp 21), type := 0, pos := "geom.go:85", after := #[{ on := 0, ground := Ground.data }, { on := 1, ground := Ground.data }], guard := none }) 2 _ (by rfl) (by kernel_rfl) (by rfl) hC ?hvu1_2 ?_
        case hvu1_2 => intro W hW; obtain ⟨hcW, hfW⟩ := bcell hW; have hgW := fun (p : Addr) (hp : p.block < _) => hW.cell (p := p) hp; (try simp only [World.size_alloc, World.size_setCell, World.size_drew] at hgW); go_simp <;> (with_reducible rfl)
        simp only [Act.put, List.setIfInBounds_toArray, List.set_cons_zero, List.set_cons_succ]
        refine' Reg.val (o := { dst := some 23, op := Op.load 48 (Operand.tmp 22), type := 48, pos := "geom.go:85", after := #[{ on := 2, ground := Ground.data }], guard := none }) 3 _ (by rfl) (by kernel_rfl) (by rfl) hC ?hvu1_3 ?_
        case hvu1_3 => intro W hW; obtain ⟨hcW, hfW⟩ := bcell hW; have hgW := fun (p : Addr) (hp : p.block < _) => hW.cell (p := p) hp; (try simp only [World.size_alloc, World.size_setCell, World.size_drew] at hgW); go_simp <;> (with_reducible rfl)
        simp only [Act.put, List.setIfInBounds_toArray, List.set_cons_zero, List.set_cons_succ]
        refine' Reg.val (o := { dst := some 24, op := Op.move (Operand.tmp 0), type := 22, pos := "geom.go:85", after := #[], guard := none }) 4 _ (by rfl) (by kernel_rfl) (by rfl) hC ?hvu1_4 ?_
        case hvu1_4 => intro W _; go_simp <;> (with_reducible rfl)
        simp only [Act.put, List.setIfInBounds_toArray, List.set_cons_zero, List.set_cons_succ]
        refine' Reg.val (o := { dst := some 25, op := Op.move (Operand.tmp 7), type := 3, pos := "geom.go:85", after := #[], guard := none }) 5 _ (by rfl) (by kernel_rfl) (by rfl) hC ?hvu1_5 ?_
        case hvu1_5 => intro W _; go_simp <;> (with_reducible rfl)
        simp only [Act.put, List.setIfInBounds_toArray, List.set_cons_zero, List.set_cons_succ]
        refine' Reg.val (o := { dst := some 26, op := Op.binOp BinOp.add 3 (Operand.tmp 25) (Operand.const (Value.int IntKind.i64 1)) 3, type := 3, pos := "geom.go:85", after := #[{ on := 5, ground := Ground.data }], guard := none }) 6 _ (by rfl) (by kernel_rfl) (by rfl) hC ?hvu1_6 ?_
        case hvu1_6 => intro W hW; obtain ⟨hcW, hfW⟩ := bcell hW; have hgW := fun (p : Addr) (hp : p.block < _) => hW.cell (p := p) hp; (try simp only [World.size_alloc, World.size_setCell, World.size_drew] at hgW); go_simp <;> (with_reducible rfl)
        simp only [Act.put, List.setIfInBounds_toArray, List.set_cons_zero, List.set_cons_succ]
        refine' Reg.val (o := { dst := some 27, op := Op.indexAddr 22 (Operand.tmp 24) (Operand.tmp 26), type := 0, pos := "geom.go:85", after := #[{ on := 4, ground := Ground.data }, { on := 6, ground := Ground.data }], guard := none }) 7 _ (by rfl) (by kernel_rfl) (by rfl) hC ?hvu1_7 ?_
        case hvu1_7 => intro W hW; obtain ⟨hcW, hfW⟩ := bcell hW; have hgW := fun (p : Addr) (hp : p.block < _) => hW.cell (p := p) hp; (try simp only [World.size_alloc, World.size_setCell, World.size_drew] at hgW); go_simp <;> (with_reducible rfl)
        simp only [Act.put, List.setIfInBounds_toArray, List.set_cons_zero, List.set_cons_succ]
        refine' Reg.val (o := { dst := some 28, op := Op.load 48 (Operand.tmp 27), type := 48, pos := "geom.go:85", after := #[{ on := 7, ground := Ground.data }], guard := none }) 8 _ (by rfl) (by kernel_rfl) (by rfl) hC ?hvu1_8 ?_
        case hvu1_8 => intro W hW; obtain ⟨hcW, hfW⟩ := bcell hW; have hgW := fun (p : Addr) (hp : p.block < _) => hW.cell (p := p) hp; (try simp only [World.size_alloc, World.size_setCell, World.size_drew] at hgW); go_simp <;> (with_reducible rfl)
        simp only [Act.put, List.setIfInBounds_toArray, List.set_cons_zero, List.set_cons_succ]
        refine' Reg.val (o := { dst := some 29, op := Op.build 74 #[(0, Operand.tmp 23), (1, Operand.tmp 28)], type := 74, pos := "geom.go:85", after := #[{ on := 3, ground := Ground.data }, { on := 8, ground := Ground.data }], guard := none }) 9 _ (by rfl) (by kernel_rfl) (by rfl) hC ?hvu1_9 ?_
        case hvu1_9 => intro W hW; obtain ⟨hcW, hfW⟩ := bcell hW; have hgW := fun (p : Addr) (hp : p.block < _) => hW.cell (p := p) hp; (try simp only [World.size_alloc, World.size_setCell, World.size_drew] at hgW); go_simp <;> (with_reducible rfl)
        simp only [Act.put, List.setIfInBounds_toArray, List.set_cons_zero, List.set_cons_succ]
        refine Reg.new (o := { dst := some 8, op := Op.alloc 74, type := 0, pos := "geom.go:85", after := #[], guard := none }) 10 (by rfl) (by kernel_rfl) (by rfl) (fun _ hb => (Below.trans hS (hb.mono hB))) (fun K Q' hK => ?_)
        go_simp
        refine hK _ _ (by go_grown) ?_
        clear hK K
        clear hC
        intro hb hN10 hC
        have hBN10 := hB
        have hSb10 := hS
        replace hS := Below.trans hS (hb.mono hB)
        replace hB := Nat.le_trans hB hb.size
        clear hb
        refine Reg.one (o := { dst := none, op := Op.store 74 (Operand.tmp 8) (Operand.tmp 29), type := 0, pos := "geom.go:85", after := #[{ on := 10, ground := Ground.data }, { on := 9, ground := Ground.data }, { on := 0, ground := Ground.phase }, { on := 1, ground := Ground.phase }, { on := 2, ground := Ground.phase }, { on := 3, ground := Ground.phase }, { on := 4, ground := Ground.phase }, { on := 5, ground := Ground.phase }, { on := 6, ground := Ground.phase }, { on := 7, ground := Ground.phase }, { on := 8, ground := Ground.phase }, { on := 9, ground := Ground.phase }, { on := 10, ground := Ground.phase }], guard := none }) 11 (by rfl) (by kernel_rfl) (by rfl)  (fun K Q' hK => ?_)
        obtain ⟨hcR, hfR⟩ := bcell hS
        obtain ⟨hcN10, hfN10⟩ := bcell hN10
        (try simp only [World.size_alloc, World.size_setCell, World.size_drew] at hcN10 hfN10)
        go_simp
        refine hK _ _ (by repeat (first | exact hS | assumption | exact But.of_below rfl hS | exact hC | refine But.setCell ?_ (by simp) _ | refine Below.setCell ?_ ?_ _ | refine Below.alloc ?_ ?_ _ | go_size)) (fun hC' => ?_)
        clear hK K
        clear hC
        have hC := hC'
        clear hC'
        refine Reg.end_ (by kernel_rfl) ?_
        have hR := hS
        obtain ⟨hcS, hfS⟩ := bcell hS
        (try simp only [World.size_alloc, World.size_setCell, World.size_drew] at hcS hfS)
        have K5 := Blk.new wr [fw (f j), fw (f (j + 1)), fw 0, fw 0] 74
        have hz4 : wr.heap.size = w4.heap.size := by omega
        rw [hz4] at K5
        have O5 := keepB hoo.out hC
        have hno : ∀ g, u5.ownBlock = some g → g ≠ w4.heap.size := fun g hg => by have := (hoo.out.lt g hg).2; omega
        have hnb : ∀ g, u5.ownBlock = some g → w.heap.size ≤ g := fun g hg => (hoo.out.lt g hg).1
        obtain ⟨w5, hw5⟩ : ∃ w5, w5 = wr.alloc (.cells #[fw (f j), fw (f (j + 1)), fw 0, fw 0] 74) := ⟨_, rfl⟩
        rw [← hw5] at K5 O5 hC ⊢
        have C5 := Lib.hid hC
        have hz5 := hC.size
        have hl5 := K5.lt
        clear hw5 hS hB hR hN10 hBN10 hSb10 hcS hfS hC p0 p1 p1'
        obtain ⟨k0, k1, k2, k3, g0, g1, g2, g3⟩ := K5.c4
        have HO5 := Lib.hid O5
        have HK5 := Lib.hid K5
        have hno := Lib.hid hno
        have hnb := Lib.hid hnb
        clear O5 K5
        have hBn : Blk (w5.alloc (.cells #[fw (f j), fw (f (j + 1)), fw 0, fw 0] 74)) w5.heap.size [fw (f j), fw (f (j + 1)), fw 0, fw 0] 74 := by
          have := Blk.new w5 [fw (f j), fw (f (j + 1)), fw 0, fw 0] 74
          (try simp only [World.size_setCell] at this)
          exact this
        have hBn := Lib.hid hBn
        go_wp2_with (at_builtin; (refine wpList_append_own _ rfl _ _ 27 rfl w.heap.size 74 ii _ 4 32 Try.underlying27 hi1 hi2 hi3 hi4 rfl (by omega) _ k (quads k g) rfl (HO5.out.alloc _) ⟨w5.heap.size, 0, none⟩ 1 1 [fw (f j), fw (f (j + 1)), fw 0, fw 0] rfl rfl (fun x u hx => by rw [add0]; exact (hBn.out.cell x).trans hx) (by intro u hu; simp at hu; rcases hu with rfl | rfl | rfl | rfl <;> rfl) (by unfold maxLen; omega) (by omega) (by simp only [World.size_alloc, World.size_setCell]; omega) ?_; intro v1 w2 hown2 hgr2 hnil2; have hown2 := Lib.hid hown2; have hgr2 := Lib.hid hgr2; clear hnil2))
        go_roundw
        case rel =>
          have hj2 := hjj.out
          have hT5 := HH.out.trans (C5.out.mono hzr)
          refine ⟨k + 1, j + 2, updQ g k (f j, f (j + 1), 0, 0), by go_num, by omega, by omega, ((hT5.alloc (by (try simp only [World.size_setCell]); omega) _).grown hgr2.out (by simp only [World.size_alloc, World.size_setCell]; omega) hnb.out), ?_, ?_⟩
          · have := hown2.out
            rw [quads_push k g (f j, f (j + 1), 0, 0)] at this
            exact this
          · intro i hi
            by_cases hik : i = k
            · subst hik
              rw [hj2]
              simp [updQ]
            · simp only [updQ, hik, if_false]
              exact hgg.out i (by omega)
        case measure => simp [intOf]; omega
      · have hkq' : k = q := by omega
        subst hkq'
        have hjn : j = n := by omega
        have hjn2 : ¬ (j : Int) + 2 ≤ (n : Int) := by omega
        obtain ⟨P, cp, rfl, hQ⟩ := Quad.of_owns hown
        have hQ := Lib.hid hQ
        clear hj hown hoo hqo hg
        go_wp2_with fail
        go_returns
        exact ⟨⟨P, cp, rfl, g, hQ.out, hgg.out⟩, H⟩
  · have hqq := Lib.hid hq
    clear hq
    go_enter Try.func35, Try.ntmps35
    go_wp2_with (go_at_call 55; refine (width_any _ hDw.out _).mono ?_; rw [hW]; rintro e w1 ⟨rfl, hb⟩; have hb := Lib.hid hb)
    go_loopw [5, 7] (fun v i wr => ∃ (k j : Nat) (g : Nat → Q4), i = .int .i64 (j : Int) ∧ j = k * 3 ∧ k ≤ q ∧ Below w.heap.size w wr ∧ wr.ownsRow w.heap.size 74 4 v k (quads k g) ∧ ∀ i, i < k → (g i).1 = f (i * 3) ∧ (g i).2.1 = f (i * 3 + 1))
      (fun _ i _ => n - (intOf i).toNat)
    case atStart => exact ⟨0, 0, fun _ => (0, 0, 0, 0), rfl, rfl, Nat.zero_le _, hb.out, World.ownsRow_nil _ _ _ _, fun i hi => by omega⟩
    case round =>
      obtain ⟨k, j, g, rfl, hj, hk, H, hown, hg⟩ := hrel
      have hgg := Lib.hid hg
      have hoo := Lib.hid hown
      have hzr := H.size
      have hqo := hqq.out
      by_cases hkq : k < q
      · have hjn : j + 3 ≤ n := by omega
        have hk2 : k < 2000 := by omega
        have hjj := Lib.hid hj
        clear hj hqo hg hown
        obtain ⟨a, rfl⟩ := hf.out.some (show j < n by omega)
        have hj0 : j < n := by omega
        have hab : a.block < wr.heap.size := by have := World.block_lt_of_cell? w _ (hf.out.cell a rfl j hj0); rw [addBlk] at this; omega
        have hab0 : (a.add j).block < wr.heap.size := by rw [addBlk]; exact hab
        have hne : ¬ a.block = wr.heap.size := by omega
        obtain ⟨w4, rfl⟩ : ∃ w4, w4 = wr := ⟨_, rfl⟩
        have HH := Lib.hid H
        have z0 := hf.out.cell a rfl j (by omega)
        have p0 := (H.cell (World.block_lt_of_cell? w _ z0)).trans z0
        clear z0
        have z1 := hf.out.cell a rfl (j + 1) (by omega)
        have p1 := (H.cell (World.block_lt_of_cell? w _ z1)).trans z1
        clear z1
        have p1' : w4.cell? ⟨a.block, a.off + (j + 1), none⟩ = some (fw (f (j + 1))) := by rw [← p1]; rfl
        have hw1 : IntKind.i64.wrap ((j : Int) + 1) = (j : Int) + 1 := by rw [IntKind.wrap_i64]; omega
        have hge1 : 0 ≤ (j : Int) + 1 := by omega
        have hlt1 : (j : Int) + 1 < (n : Int) := by omega
        have htn1 : ((j : Int) + 1).toNat = j + 1 := by omega
        have z2 := hf.out.cell a rfl (j + 2) (by omega)
        have p2 := (H.cell (World.block_lt_of_cell? w _ z2)).trans z2
        clear z2
        have p2' : w4.cell? ⟨a.block, a.off + (j + 2), none⟩ = some (fw (f (j + 2))) := by rw [← p2]; rfl
        have hw2 : IntKind.i64.wrap ((j : Int) + 2) = (j : Int) + 2 := by rw [IntKind.wrap_i64]; omega
        have hge2 : 0 ≤ (j : Int) + 2 := by omega
        have hlt2 : (j : Int) + 2 < (n : Int) := by omega
        have htn2 : ((j : Int) + 2).toNat = j + 2 := by omega
        go_wp2_with fail
        refine Reg.beginB (ops := regAt Try.f35 6) 12 (by kernel_rfl) (by kernel_rfl) (fun wr hS hB hzu2 => ?_)
        have hC := hS
        refine' Reg.val (o := { dst := some 20, op := Op.move (Operand.tmp 0), type := 22, pos := "geom.go:85", after := #[], guard := none }) 0 _ (by rfl) (by kernel_rfl) (by rfl) hC ?hvu2_0 ?_
        case hvu2_0 => intro W _; go_simp <;> (with_reducible rfl)
        simp only [Act.put, List.setIfInBounds_toArray, List.set_cons_zero, List.set_cons_succ]
        refine' Reg.val (o := { dst := some 21, op := Op.move (Operand.tmp 7), type := 3, pos := "geom.go:85", after := #[], guard := none }) 1 _ (by rfl) (by kernel_rfl) (by rfl) hC ?hvu2_1 ?_
        case hvu2_1 => intro W _; go_simp <;> (with_reducible rfl)
        simp only [Act.put, List.setIfInBounds_toArray, List.set_cons_zero, List.set_cons_succ]
        refine' Reg.val (o := { dst := some 22, op := Op.indexAddr 22 (Operand.tmp 20) (Operand.tmp 21), type := 0, pos := "geom.go:85", after := #[{ on := 0, ground := Ground.data }, { on := 1, ground := Ground.data }], guard := none }) 2 _ (by rfl) (by kernel_rfl) (by rfl) hC ?hvu2_2 ?_
        case hvu2_2 => intro W hW; obtain ⟨hcW, hfW⟩ := bcell hW; have hgW := fun (p : Addr) (hp : p.block < _) => hW.cell (p := p) hp; (try simp only [World.size_alloc, World.size_setCell, World.size_drew] at hgW); go_simp <;> (with_reducible rfl)
        simp only [Act.put, List.setIfInBounds_toArray, List.set_cons_zero, List.set_cons_succ]
        refine' Reg.val (o := { dst := some 23, op := Op.load 48 (Operand.tmp 22), type := 48, pos := "geom.go:85", after := #[{ on := 2, ground := Ground.data }], guard := none }) 3 _ (by rfl) (by kernel_rfl) (by rfl) hC ?hvu2_3 ?_
        case hvu2_3 => intro W hW; obtain ⟨hcW, hfW⟩ := bcell hW; have hgW := fun (p : Addr) (hp : p.block < _) => hW.cell (p := p) hp; (try simp only [World.size_alloc, World.size_setCell, World.size_drew] at hgW); go_simp <;> (with_reducible rfl)
        simp only [Act.put, List.setIfInBounds_toArray, List.set_cons_zero, List.set_cons_succ]
        refine' Reg.val (o := { dst := some 24, op := Op.move (Operand.tmp 0), type := 22, pos := "geom.go:85", after := #[], guard := none }) 4 _ (by rfl) (by kernel_rfl) (by rfl) hC ?hvu2_4 ?_
        case hvu2_4 => intro W _; go_simp <;> (with_reducible rfl)
        simp only [Act.put, List.setIfInBounds_toArray, List.set_cons_zero, List.set_cons_succ]
        refine' Reg.val (o := { dst := some 25, op := Op.move (Operand.tmp 7), type := 3, pos := "geom.go:85", after := #[], guard := none }) 5 _ (by rfl) (by kernel_rfl) (by rfl) hC ?hvu2_5 ?_
        case hvu2_5 => intro W _; go_simp <;> (with_reducible rfl)
        simp only [Act.put, List.setIfInBounds_toArray, List.set_cons_zero, List.set_cons_succ]
        refine' Reg.val (o := { dst := some 26, op := Op.binOp BinOp.add 3 (Operand.tmp 25) (Operand.const (Value.int IntKind.i64 1)) 3, type := 3, pos := "geom.go:85", after := #[{ on := 5, ground := Ground.data }], guard := none }) 6 _ (by rfl) (by kernel_rfl) (by rfl) hC ?hvu2_6 ?_
        case hvu2_6 => intro W hW; obtain ⟨hcW, hfW⟩ := bcell hW; have hgW := fun (p : Addr) (hp : p.block < _) => hW.cell (p := p) hp; (try simp only [World.size_alloc, World.size_setCell, World.size_drew] at hgW); go_simp <;> (with_reducible rfl)
        simp only [Act.put, List.setIfInBounds_toArray, List.set_cons_zero, List.set_cons_succ]
        refine' Reg.val (o := { dst := some 27, op := Op.indexAddr 22 (Operand.tmp 24) (Operand.tmp 26), type := 0, pos := "geom.go:85", after := #[{ on := 4, ground := Ground.data }, { on := 6, ground := Ground.data }], guard := none }) 7 _ (by rfl) (by kernel_rfl) (by rfl) hC ?hvu2_7 ?_
        case hvu2_7 => intro W hW; obtain ⟨hcW, hfW⟩ := bcell hW; have hgW := fun (p : Addr) (hp : p.block < _) => hW.cell (p := p) hp; (try simp only [World.size_alloc, World.size_setCell, World.size_drew] at hgW); go_simp <;> (with_reducible rfl)
        simp only [Act.put, List.setIfInBounds_toArray, List.set_cons_zero, List.set_cons_succ]
        refine' Reg.val (o := { dst := some 28, op := Op.load 48 (Operand.tmp 27), type := 48, pos := "geom.go:85", after := #[{ on := 7, ground := Ground.data }], guard := none }) 8 _ (by rfl) (by kernel_rfl) (by rfl) hC ?hvu2_8 ?_
        case hvu2_8 => intro W hW; obtain ⟨hcW, hfW⟩ := bcell hW; have hgW := fun (p : Addr) (hp : p.block < _) => hW.cell (p := p) hp; (try simp only [World.size_alloc, World.size_setCell, World.size_drew] at hgW); go_simp <;> (with_reducible rfl)
        simp only [Act.put, List.setIfInBounds_toArray, List.set_cons_zero, List.set_cons_succ]
        refine' Reg.val (o := { dst := some 29, op := Op.build 74 #[(0, Operand.tmp 23), (1, Operand.tmp 28)], type := 74, pos := "geom.go:85", after := #[{ on := 3, ground := Ground.data }, { on := 8, ground := Ground.data }], guard := none }) 9 _ (by rfl) (by kernel_rfl) (by rfl) hC ?hvu2_9 ?_
        case hvu2_9 => intro W hW; obtain ⟨hcW, hfW⟩ := bcell hW; have hgW := fun (p : Addr) (hp : p.block < _) => hW.cell (p := p) hp; (try simp only [World.size_alloc, World.size_setCell, World.size_drew] at hgW); go_simp <;> (with_reducible rfl)
        simp only [Act.put, List.setIfInBounds_toArray, List.set_cons_zero, List.set_cons_succ]
        refine Reg.new (o := { dst := some 8, op := Op.alloc 74, type := 0, pos := "geom.go:85", after := #[], guard := none }) 10 (by rfl) (by kernel_rfl) (by rfl) (fun _ hb => (Below.trans hS (hb.mono hB))) (fun K Q' hK => ?_)
        go_simp
        refine hK _ _ (by go_grown) ?_
        clear hK K
        clear hC
        intro hb hN10 hC
        have hBN10 := hB
        have hSb10 := hS
        replace hS := Below.trans hS (hb.mono hB)
        replace hB := Nat.le_trans hB hb.size
        clear hb
        refine Reg.one (o := { dst := none, op := Op.store 74 (Operand.tmp 8) (Operand.tmp 29), type := 0, pos := "geom.go:85", after := #[{ on := 10, ground := Ground.data }, { on := 9, ground := Ground.data }, { on := 0, ground := Ground.phase }, { on := 1, ground := Ground.phase }, { on := 2, ground := Ground.phase }, { on := 3, ground := Ground.phase }, { on := 4, ground := Ground.phase }, { on := 5, ground := Ground.phase }, { on := 6, ground := Ground.phase }, { on := 7, ground := Ground.phase }, { on := 8, ground := Ground.phase }, { on := 9, ground := Ground.phase }, { on := 10, ground := Ground.phase }], guard := none }) 11 (by rfl) (by kernel_rfl) (by rfl)  (fun K Q' hK => ?_)
        obtain ⟨hcR, hfR⟩ := bcell hS
        obtain ⟨hcN10, hfN10⟩ := bcell hN10
        (try simp only [World.size_alloc, World.size_setCell, World.size_drew] at hcN10 hfN10)
        go_simp
        refine hK _ _ (by repeat (first | exact hS | assumption | exact But.of_below rfl hS | exact hC | refine But.setCell ?_ (by simp) _ | refine Below.setCell ?_ ?_ _ | refine Below.alloc ?_ ?_ _ | go_size)) (fun hC' => ?_)
        clear hK K
        clear hC
        have hC := hC'
        clear hC'
        refine Reg.end_ (by kernel_rfl) ?_
        have hR := hS
        obtain ⟨hcS, hfS⟩ := bcell hS
        (try simp only [World.size_alloc, World.size_setCell, World.size_drew] at hcS hfS)
        have K5 := Blk.new wr [fw (f j), fw (f (j + 1)), fw 0, fw 0] 74
        have hz4 : wr.heap.size = w4.heap.size := by omega
        rw [hz4] at K5
        have O5 := keepB hoo.out hC
        have hno : ∀ g, u5.ownBlock = some g → g ≠ w4.heap.size := fun g hg => by have := (hoo.out.lt g hg).2; omega
        have hnb : ∀ g, u5.ownBlock = some g → w.heap.size ≤ g := fun g hg => (hoo.out.lt g hg).1
        obtain ⟨w5, hw5⟩ : ∃ w5, w5 = wr.alloc (.cells #[fw (f j), fw (f (j + 1)), fw 0, fw 0] 74) := ⟨_, rfl⟩
        rw [← hw5] at K5 O5 hC ⊢
        have C5 := Lib.hid hC
        have hz5 := hC.size
        have hl5 := K5.lt
        have e2 : w5.cell? ⟨a.block, a.off + (j + 2), none⟩ = some (fw (f (j + 2))) := (hC.cell (p := ⟨a.block, a.off + (j + 2), none⟩) hab).trans p2'
        clear p2 p2'
        clear hw5 hS hB hR hN10 hBN10 hSb10 hcS hfS hC p0 p1 p1'
        obtain ⟨k0, k1, k2, k3, g0, g1, g2, g3⟩ := K5.c4
        have HO5 := Lib.hid O5
        have HK5 := Lib.hid K5
        have hno := Lib.hid hno
        have hnb := Lib.hid hnb
        clear O5 K5
        have hBn : Blk ((w5.setCell ⟨w4.heap.size, 2, none⟩ (fw (f (j + 2)))).alloc (.cells #[fw (f j), fw (f (j + 1)), fw (f (j + 2)), fw 0] 74)) w5.heap.size [fw (f j), fw (f (j + 1)), fw (f (j + 2)), fw 0] 74 := by
          have := Blk.new (w5.setCell ⟨w4.heap.size, 2, none⟩ (fw (f (j + 2)))) [fw (f j), fw (f (j + 1)), fw (f (j + 2)), fw 0] 74
          (try simp only [World.size_setCell] at this)
          exact this
        have hBn := Lib.hid hBn
        go_wp2_with (at_builtin; (refine wpList_append_own _ rfl _ _ 27 rfl w.heap.size 74 ii _ 4 32 Try.underlying27 hi1 hi2 hi3 hi4 rfl (by omega) _ k (quads k g) rfl ((keepC (p := ⟨w4.heap.size, 2, none⟩) HO5.out hno.out _).alloc _) ⟨w5.heap.size, 0, none⟩ 1 1 [fw (f j), fw (f (j + 1)), fw (f (j + 2)), fw 0] rfl rfl (fun x u hx => by rw [add0]; exact (hBn.out.cell x).trans hx) (by intro u hu; simp at hu; rcases hu with rfl | rfl | rfl | rfl <;> rfl) (by unfold maxLen; omega) (by omega) (by simp only [World.size_alloc, World.size_setCell]; omega) ?_; intro v1 w2 hown2 hgr2 hnil2; have hown2 := Lib.hid hown2; have hgr2 := Lib.hid hgr2; clear hnil2))
        go_roundw
        case rel =>
          have hj2 := hjj.out
          have hT5 := HH.out.trans (C5.out.mono hzr)
          refine ⟨k + 1, j + 3, updQ g k (f j, f (j + 1), f (j + 2), 0), by go_num, by omega, by omega, (((hT5.setCell (p := ⟨w4.heap.size, 2, none⟩) hzr _).alloc (by (try simp only [World.size_setCell]); omega) _).grown hgr2.out (by simp only [World.size_alloc, World.size_setCell]; omega) hnb.out), ?_, ?_⟩
          · have := hown2.out
            rw [quads_push k g (f j, f (j + 1), f (j + 2), 0)] at this
            exact this
          · intro i hi
            by_cases hik : i = k
            · subst hik
              rw [hj2]
              simp [updQ]
            · simp only [updQ, hik, if_false]
              exact hgg.out i (by omega)
        case measure => simp [intOf]; omega
      · have hkq' : k = q := by omega
        subst hkq'
        have hjn : j = n := by omega
        have hjn2 : ¬ (j : Int) + 3 ≤ (n : Int) := by omega
        obtain ⟨P, cp, rfl, hQ⟩ := Quad.of_owns hown
        have hQ := Lib.hid hQ
        clear hj hown hoo hqo hg
        go_wp2_with fail
        go_returns
        exact ⟨⟨P, cp, rfl, g, hQ.out, hgg.out⟩, H⟩
  · have hqq := Lib.hid hq
    clear hq
    go_enter Try.func35, Try.ntmps35
    go_wp2_with (go_at_call 55; refine (width_any _ hDw.out _).mono ?_; rw [hW]; rintro e w1 ⟨rfl, hb⟩; have hb := Lib.hid hb)
    go_loopw [5, 7] (fun v i wr => ∃ (k j : Nat) (g : Nat → Q4), i = .int .i64 (j : Int) ∧ j = k * 3 ∧ k ≤ q ∧ Below w.heap.size w wr ∧ wr.ownsRow w.heap.size 74 4 v k (quads k g) ∧ ∀ i, i < k → (g i).1 = f (i * 3) ∧ (g i).2.1 = f (i * 3 + 1))
      (fun _ i _ => n - (intOf i).toNat)
    case atStart => exact ⟨0, 0, fun _ => (0, 0, 0, 0), rfl, rfl, Nat.zero_le _, hb.out, World.ownsRow_nil _ _ _ _, fun i hi => by omega⟩
    case round =>
      obtain ⟨k, j, g, rfl, hj, hk, H, hown, hg⟩ := hrel
      have hgg := Lib.hid hg
      have hoo := Lib.hid hown
      have hzr := H.size
      have hqo := hqq.out
      by_cases hkq : k < q
      · have hjn : j + 3 ≤ n := by omega
        have hk2 : k < 2000 := by omega
        have hjj := Lib.hid hj
        clear hj hqo hg hown
        obtain ⟨a, rfl⟩ := hf.out.some (show j < n by omega)
        have hj0 : j < n := by omega
        have hab : a.block < wr.heap.size := by have := World.block_lt_of_cell? w _ (hf.out.cell a rfl j hj0); rw [addBlk] at this; omega
        have hab0 : (a.add j).block < wr.heap.size := by rw [addBlk]; exact hab
        have hne : ¬ a.block = wr.heap.size := by omega
        obtain ⟨w4, rfl⟩ : ∃ w4, w4 = wr := ⟨_, rfl⟩
        have HH := Lib.hid H
        have z0 := hf.out.cell a rfl j (by omega)
        have p0 := (H.cell (World.block_lt_of_cell? w _ z0)).trans z0
        clear z0
        have z1 := hf.out.cell a rfl (j + 1) (by omega)
        have p1 := (H.cell (World.block_lt_of_cell? w _ z1)).trans z1
        clear z1
        have p1' : w4.cell? ⟨a.block, a.off + (j + 1), none⟩ = some (fw (f (j + 1))) := by rw [← p1]; rfl
        have hw1 : IntKind.i64.wrap ((j : Int) + 1) = (j : Int) + 1 := by rw [IntKind.wrap_i64]; omega
        have hge1 : 0 ≤ (j : Int) + 1 := by omega
        have hlt1 : (j : Int) + 1 < (n : Int) := by omega
        have htn1 : ((j : Int) + 1).toNat = j + 1 := by omega
        have z2 := hf.out.cell a rfl (j + 2) (by omega)
        have p2 := (H.cell (World.block_lt_of_cell? w _ z2)).trans z2
        clear z2
        have p2' : w4.cell? ⟨a.block, a.off + (j + 2), none⟩ = some (fw (f (j + 2))) := by rw [← p2]; rfl
        have hw2 : IntKind.i64.wrap ((j : Int) + 2) = (j : Int) + 2 := by rw [IntKind.wrap_i64]; omega
        have hge2 : 0 ≤ (j : Int) + 2 := by omega
        have hlt2 : (j : Int) + 2 < (n : Int) := by omega
        have htn2 : ((j : Int) + 2).toNat = j + 2 := by omega
        go_wp2_with fail
        refine Reg.beginB (ops := regAt Try.f35 6) 12 (by kernel_rfl) (by kernel_rfl) (fun wr hS hB hzu3 => ?_)
        have hC := hS
        refine' Reg.val (o := { dst := some 20, op := Op.move (Operand.tmp 0), type := 22, pos := "geom.go:85", after := #[], guard := none }) 0 _ (by rfl) (by kernel_rfl) (by rfl) hC ?hvu3_0 ?_
        case hvu3_0 => intro W _; go_simp <;> (with_reducible rfl)
        simp only [Act.put, List.setIfInBounds_toArray, List.set_cons_zero, List.set_cons_succ]
        refine' Reg.val (o := { dst := some 21, op := Op.move (Operand.tmp 7), type := 3, pos := "geom.go:85", after := #[], guard := none }) 1 _ (by rfl) (by kernel_rfl) (by rfl) hC ?hvu3_1 ?_
        case hvu3_1 => intro W _; go_simp <;> (with_reducible rfl)
        simp only [Act.put, List.setIfInBounds_toArray, List.set_cons_zero, List.set_cons_succ]
        refine' Reg.val (o := { dst := some 22, op := Op.indexAddr 22 (Operand.tmp 20) (Operand.tmp 21), type := 0, pos := "geom.go:85", after := #[{ on := 0, ground := Ground.data }, { on := 1, ground := Ground.data }], guard := none }) 2 _ (by rfl) (by kernel_rfl) (by rfl) hC ?hvu3_2 ?_
        case hvu3_2 => intro W hW; obtain ⟨hcW, hfW⟩ := bcell hW; have hgW := fun (p : Addr) (hp : p.block < _) => hW.cell (p := p) hp; (try simp only [World.size_alloc, World.size_setCell, World.size_drew] at hgW); go_simp <;> (with_reducible rfl)
        simp only [Act.put, List.setIfInBounds_toArray, List.set_cons_zero, List.set_cons_succ]
        refine' Reg.val (o := { dst := some 23, op := Op.load 48 (Operand.tmp 22), type := 48, pos := "geom.go:85", after := #[{ on := 2, ground := Ground.data }], guard := none }) 3 _ (by rfl) (by kernel_rfl) (by rfl) hC ?hvu3_3 ?_
        case hvu3_3 => intro W hW; obtain ⟨hcW, hfW⟩ := bcell hW; have hgW := fun (p : Addr) (hp : p.block < _) => hW.cell (p := p) hp; (try simp only [World.size_alloc, World.size_setCell, World.size_drew] at hgW); go_simp <;> (with_reducible rfl)
        simp only [Act.put, List.setIfInBounds_toArray, List.set_cons_zero, List.set_cons_succ]
        refine' Reg.val (o := { dst := some 24, op := Op.move (Operand.tmp 0), type := 22, pos := "geom.go:85", after := #[], guard := none }) 4 _ (by rfl) (by kernel_rfl) (by rfl) hC ?hvu3_4 ?_
        case hvu3_4 => intro W _; go_simp <;> (with_reducible rfl)
        simp only [Act.put, List.setIfInBounds_toArray, List.set_cons_zero, List.set_cons_succ]
        refine' Reg.val (o := { dst := some 25, op := Op.move (Operand.tmp 7), type := 3, pos := "geom.go:85", after := #[], guard := none }) 5 _ (by rfl) (by kernel_rfl) (by rfl) hC ?hvu3_5 ?_
        case hvu3_5 => intro W _; go_simp <;> (with_reducible rfl)
        simp only [Act.put, List.setIfInBounds_toArray, List.set_cons_zero, List.set_cons_succ]
        refine' Reg.val (o := { dst := some 26, op := Op.binOp BinOp.add 3 (Operand.tmp 25) (Operand.const (Value.int IntKind.i64 1)) 3, type := 3, pos := "geom.go:85", after := #[{ on := 5, ground := Ground.data }], guard := none }) 6 _ (by rfl) (by kernel_rfl) (by rfl) hC ?hvu3_6 ?_
        case hvu3_6 => intro W hW; obtain ⟨hcW, hfW⟩ := bcell hW; have hgW := fun (p : Addr) (hp : p.block < _) => hW.cell (p := p) hp; (try simp only [World.size_alloc, World.size_setCell, World.size_drew] at hgW); go_simp <;> (with_reducible rfl)
        simp only [Act.put, List.setIfInBounds_toArray, List.set_cons_zero, List.set_cons_succ]
        refine' Reg.val (o := { dst := some 27, op := Op.indexAddr 22 (Operand.tmp 24) (Operand.tmp 26), type := 0, pos := "geom.go:85", after := #[{ on := 4, ground := Ground.data }, { on := 6, ground := Ground.data }], guard := none }) 7 _ (by rfl) (by kernel_rfl) (by rfl) hC ?hvu3_7 ?_
        case hvu3_7 => intro W hW; obtain ⟨hcW, hfW⟩ := bcell hW; have hgW := fun (p : Addr) (hp : p.block < _) => hW.cell (p := p) hp; (try simp only [World.size_alloc, World.size_setCell, World.size_drew] at hgW); go_simp <;> (with_reducible rfl)
        simp only [Act.put, List.setIfInBounds_toArray, List.set_cons_zero, List.set_cons_succ]
        refine' Reg.val (o := { dst := some 28, op := Op.load 48 (Operand.tmp 27), type := 48, pos := "geom.go:85", after := #[{ on := 7, ground := Ground.data }], guard := none }) 8 _ (by rfl) (by kernel_rfl) (by rfl) hC ?hvu3_8 ?_
        case hvu3_8 => intro W hW; obtain ⟨hcW, hfW⟩ := bcell hW; have hgW := fun (p : Addr) (hp : p.block < _) => hW.cell (p := p) hp; (try simp only [World.size_alloc, World.size_setCell, World.size_drew] at hgW); go_simp <;> (with_reducible rfl)
        simp only [Act.put, List.setIfInBounds_toArray, List.set_cons_zero, List.set_cons_succ]
        refine' Reg.val (o := { dst := some 29, op := Op.build 74 #[(0, Operand.tmp 23), (1, Operand.tmp 28)], type := 74, pos := "geom.go:85", after := #[{ on := 3, ground := Ground.data }, { on := 8, ground := Ground.data }], guard := none }) 9 _ (by rfl) (by kernel_rfl) (by rfl) hC ?hvu3_9 ?_
        case hvu3_9 => intro W hW; obtain ⟨hcW, hfW⟩ := bcell hW; have hgW := fun (p : Addr) (hp : p.block < _) => hW.cell (p := p) hp; (try simp only [World.size_alloc, World.size_setCell, World.size_drew] at hgW); go_simp <;> (with_reducible rfl)
        simp only [Act.put, List.setIfInBounds_toArray, List.set_cons_zero, List.set_cons_succ]
        refine Reg.new (o := { dst := some 8, op := Op.alloc 74, type := 0, pos := "geom.go:85", after := #[], guard := none }) 10 (by rfl) (by kernel_rfl) (by rfl) (fun _ hb => (Below.trans hS (hb.mono hB))) (fun K Q' hK => ?_)
        go_simp
        refine hK _ _ (by go_grown) ?_
        clear hK K
        clear hC
        intro hb hN10 hC
        have hBN10 := hB
        have hSb10 := hS
        replace hS := Below.trans hS (hb.mono hB)
        replace hB := Nat.le_trans hB hb.size
        clear hb
        refine Reg.one (o := { dst := none, op := Op.store 74 (Operand.tmp 8) (Operand.tmp 29), type := 0, pos := "geom.go:85", after := #[{ on := 10, ground := Ground.data }, { on := 9, ground := Ground.data }, { on := 0, ground := Ground.phase }, { on := 1, ground := Ground.phase }, { on := 2, ground := Ground.phase }, { on := 3, ground := Ground.phase }, { on := 4, ground := Ground.phase }, { on := 5, ground := Ground.phase }, { on := 6, ground := Ground.phase }, { on := 7, ground := Ground.phase }, { on := 8, ground := Ground.phase }, { on := 9, ground := Ground.phase }, { on := 10, ground := Ground.phase }], guard := none }) 11 (by rfl) (by kernel_rfl) (by rfl)  (fun K Q' hK => ?_)
        obtain ⟨hcR, hfR⟩ := bcell hS
        obtain ⟨hcN10, hfN10⟩ := bcell hN10
        (try simp only [World.size_alloc, World.size_setCell, World.size_drew] at hcN10 hfN10)
        go_simp
        refine hK _ _ (by repeat (first | exact hS | assumption | exact But.of_below rfl hS | exact hC | refine But.setCell ?_ (by simp) _ | refine Below.setCell ?_ ?_ _ | refine Below.alloc ?_ ?_ _ | go_size)) (fun hC' => ?_)
        clear hK K
        clear hC
        have hC := hC'
        clear hC'
        refine Reg.end_ (by kernel_rfl) ?_
        have hR := hS
        obtain ⟨hcS, hfS⟩ := bcell hS
        (try simp only [World.size_alloc, World.size_setCell, World.size_drew] at hcS hfS)
        have K5 := Blk.new wr [fw (f j), fw (f (j + 1)), fw 0, fw 0] 74
        have hz4 : wr.heap.size = w4.heap.size := by omega
        rw [hz4] at K5
        have O5 := keepB hoo.out hC
        have hno : ∀ g, u5.ownBlock = some g → g ≠ w4.heap.size := fun g hg => by have := (hoo.out.lt g hg).2; omega
        have hnb : ∀ g, u5.ownBlock = some g → w.heap.size ≤ g := fun g hg => (hoo.out.lt g hg).1
        obtain ⟨w5, hw5⟩ : ∃ w5, w5 = wr.alloc (.cells #[fw (f j), fw (f (j + 1)), fw 0, fw 0] 74) := ⟨_, rfl⟩
        rw [← hw5] at K5 O5 hC ⊢
        have C5 := Lib.hid hC
        have hz5 := hC.size
        have hl5 := K5.lt
        have e2 : w5.cell? ⟨a.block, a.off + (j + 2), none⟩ = some (fw (f (j + 2))) := (hC.cell (p := ⟨a.block, a.off + (j + 2), none⟩) hab).trans p2'
        clear p2 p2'
        clear hw5 hS hB hR hN10 hBN10 hSb10 hcS hfS hC p0 p1 p1'
        obtain ⟨k0, k1, k2, k3, g0, g1, g2, g3⟩ := K5.c4
        have HO5 := Lib.hid O5
        have HK5 := Lib.hid K5
        have hno := Lib.hid hno
        have hnb := Lib.hid hnb
        clear O5 K5
        have hBn : Blk ((w5.setCell ⟨w4.heap.size, 3, none⟩ (fw (f (j + 2)))).alloc (.cells #[fw (f j), fw (f (j + 1)), fw 0, fw (f (j + 2))] 74)) w5.heap.size [fw (f j), fw (f (j + 1)), fw 0, fw (f (j + 2))] 74 := by
          have := Blk.new (w5.setCell ⟨w4.heap.size, 3, none⟩ (fw (f (j + 2)))) [fw (f j), fw (f (j + 1)), fw 0, fw (f (j + 2))] 74
          (try simp only [World.size_setCell] at this)
          exact this
        have hBn := Lib.hid hBn
        go_wp2_with (at_builtin; (refine wpList_append_own _ rfl _ _ 27 rfl w.heap.size 74 ii _ 4 32 Try.underlying27 hi1 hi2 hi3 hi4 rfl (by omega) _ k (quads k g) rfl ((keepC (p := ⟨w4.heap.size, 3, none⟩) HO5.out hno.out _).alloc _) ⟨w5.heap.size, 0, none⟩ 1 1 [fw (f j), fw (f (j + 1)), fw 0, fw (f (j + 2))] rfl rfl (fun x u hx => by rw [add0]; exact (hBn.out.cell x).trans hx) (by intro u hu; simp at hu; rcases hu with rfl | rfl | rfl | rfl <;> rfl) (by unfold maxLen; omega) (by omega) (by simp only [World.size_alloc, World.size_setCell]; omega) ?_; intro v1 w2 hown2 hgr2 hnil2; have hown2 := Lib.hid hown2; have hgr2 := Lib.hid hgr2; clear hnil2))
        go_roundw
        case rel =>
          have hj2 := hjj.out
          have hT5 := HH.out.trans (C5.out.mono hzr)
          refine ⟨k + 1, j + 3, updQ g k (f j, f (j + 1), 0, f (j + 2)), by go_num, by omega, by omega, (((hT5.setCell (p := ⟨w4.heap.size, 3, none⟩) hzr _).alloc (by (try simp only [World.size_setCell]); omega) _).grown hgr2.out (by simp only [World.size_alloc, World.size_setCell]; omega) hnb.out), ?_, ?_⟩
          · have := hown2.out
            rw [quads_push k g (f j, f (j + 1), 0, f (j + 2))] at this
            exact this
          · intro i hi
            by_cases hik : i = k
            · subst hik
              rw [hj2]
              simp [updQ]
            · simp only [updQ, hik, if_false]
              exact hgg.out i (by omega)
        case measure => simp [intOf]; omega
      · have hkq' : k = q := by omega
        subst hkq'
        have hjn : j = n := by omega
        have hjn2 : ¬ (j : Int) + 3 ≤ (n : Int) := by omega
        obtain ⟨P, cp, rfl, hQ⟩ := Quad.of_owns hown
        have hQ := Lib.hid hQ
        clear hj hown hoo hqo hg
        go_wp2_with fail
        go_returns
        exact ⟨⟨P, cp, rfl, g, hQ.out, hgg.out⟩, H⟩
  · have hqq := Lib.hid hq
    clear hq
    go_enter Try.func35, Try.ntmps35
    go_wp2_with (go_at_call 55; refine (width_any _ hDw.out _).mono ?_; rw [hW]; rintro e w1 ⟨rfl, hb⟩; have hb := Lib.hid hb)
    go_loopw [5, 7] (fun v i wr => ∃ (k j : Nat) (g : Nat → Q4), i = .int .i64 (j : Int) ∧ j = k * 4 ∧ k ≤ q ∧ Below w.heap.size w wr ∧ wr.ownsRow w.heap.size 74 4 v k (quads k g) ∧ ∀ i, i < k → (g i).1 = f (i * 4) ∧ (g i).2.1 = f (i * 4 + 1))
      (fun _ i _ => n - (intOf i).toNat)
    case atStart => exact ⟨0, 0, fun _ => (0, 0, 0, 0), rfl, rfl, Nat.zero_le _, hb.out, World.ownsRow_nil _ _ _ _, fun i hi => by omega⟩
    case round =>
      obtain ⟨k, j, g, rfl, hj, hk, H, hown, hg⟩ := hrel
      have hgg := Lib.hid hg
      have hoo := Lib.hid hown
      have hzr := H.size
      have hqo := hqq.out
      by_cases hkq : k < q
      · have hjn : j + 4 ≤ n := by omega
        have hk2 : k < 2000 := by omega
        have hjj := Lib.hid hj
        clear hj hqo hg hown
        obtain ⟨a, rfl⟩ := hf.out.some (show j < n by omega)
        have hj0 : j < n := by omega
        have hab : a.block < wr.heap.size := by have := World.block_lt_of_cell? w _ (hf.out.cell a rfl j hj0); rw [addBlk] at this; omega
        have hab0 : (a.add j).block < wr.heap.size := by rw [addBlk]; exact hab
        have hne : ¬ a.block = wr.heap.size := by omega
        obtain ⟨w4, rfl⟩ : ∃ w4, w4 = wr := ⟨_, rfl⟩
        have HH := Lib.hid H
        have z0 := hf.out.cell a rfl j (by omega)
        have p0 := (H.cell (World.block_lt_of_cell? w _ z0)).trans z0
        clear z0
        have z1 := hf.out.cell a rfl (j + 1) (by omega)
        have p1 := (H.cell (World.block_lt_of_cell? w _ z1)).trans z1
        clear z1
        have p1' : w4.cell? ⟨a.block, a.off + (j + 1), none⟩ = some (fw (f (j + 1))) := by rw [← p1]; rfl
        have hw1 : IntKind.i64.wrap ((j : Int) + 1) = (j : Int) + 1 := by rw [IntKind.wrap_i64]; omega
        have hge1 : 0 ≤ (j : Int) + 1 := by omega
        have hlt1 : (j : Int) + 1 < (n : Int) := by omega
        have htn1 : ((j : Int) + 1).toNat = j + 1 := by omega
        have z2 := hf.out.cell a rfl (j + 2) (by omega)
        have p2 := (H.cell (World.block_lt_of_cell? w _ z2)).trans z2
        clear z2
        have p2' : w4.cell? ⟨a.block, a.off + (j + 2), none⟩ = some (fw (f (j + 2))) := by rw [← p2]; rfl
        have hw2 : IntKind.i64.wrap ((j : Int) + 2) = (j : Int) + 2 := by rw [IntKind.wrap_i64]; omega
        have hge2 : 0 ≤ (j : Int) + 2 := by omega
        have hlt2 : (j : Int) + 2 < (n : Int) := by omega
        have htn2 : ((j : Int) + 2).toNat = j + 2 := by omega
        have z3 := hf.out.cell a rfl (j + 3) (by omega)
        have p3 := (H.cell (World.block_lt_of_cell? w _ z3)).trans z3
        clear z3
        have p3' : w4.cell? ⟨a.block, a.off + (j + 3), none⟩ = some (fw (f (j + 3))) := by rw [← p3]; rfl
        have hw3 : IntKind.i64.wrap ((j : Int) + 3) = (j : Int) + 3 := by rw [IntKind.wrap_i64]; omega
        have hge3 : 0 ≤ (j : Int) + 3 := by omega
        have hlt3 : (j : Int) + 3 < (n : Int) := by omega
        have htn3 : ((j : Int) + 3).toNat = j + 3 := by omega
        go_wp2_with fail
        refine Reg.beginB (ops := regAt Try.f35 6) 12 (by kernel_rfl) (by kernel_rfl) (fun wr hS hB hzu4 => ?_)
        have hC := hS
        refine' Reg.val (o := { dst := some 20, op := Op.move (Operand.tmp 0), type := 22, pos := "geom.go:85", after := #[], guard := none }) 0 _ (by rfl) (by kernel_rfl) (by rfl) hC ?hvu4_0 ?_
        case hvu4_0 => intro W _; go_simp <;> (with_reducible rfl)
        simp only [Act.put, List.setIfInBounds_toArray, List.set_cons_zero, List.set_cons_succ]
        refine' Reg.val (o := { dst := some 21, op := Op.move (Operand.tmp 7), type := 3, pos := "geom.go:85", after := #[], guard := none }) 1 _ (by rfl) (by kernel_rfl) (by rfl) hC ?hvu4_1 ?_
        case hvu4_1 => intro W _; go_simp <;> (with_reducible rfl)
        simp only [Act.put, List.setIfInBounds_toArray, List.set_cons_zero, List.set_cons_succ]
        refine' Reg.val (o := { dst := some 22, op := Op.indexAddr 22 (Operand.tmp 20) (Operand.tmp 21), type := 0, pos := "geom.go:85", after := #[{ on := 0, ground := Ground.data }, { on := 1, ground := Ground.data }], guard := none }) 2 _ (by rfl) (by kernel_rfl) (by rfl) hC ?hvu4_2 ?_
        case hvu4_2 => intro W hW; obtain ⟨hcW, hfW⟩ := bcell hW; have hgW := fun (p : Addr) (hp : p.block < _) => hW.cell (p := p) hp; (try simp only [World.size_alloc, World.size_setCell, World.size_drew] at hgW); go_simp <;> (with_reducible rfl)
        simp only [Act.put, List.setIfInBounds_toArray, List.set_cons_zero, List.set_cons_succ]
        refine' Reg.val (o := { dst := some 23, op := Op.load 48 (Operand.tmp 22), type := 48, pos := "geom.go:85", after := #[{ on := 2, ground := Ground.data }], guard := none }) 3 _ (by rfl) (by kernel_rfl) (by rfl) hC ?hvu4_3 ?_
        case hvu4_3 => intro W hW; obtain ⟨hcW, hfW⟩ := bcell hW; have hgW := fun (p : Addr) (hp : p.block < _) => hW.cell (p := p) hp; (try simp only [World.size_alloc, World.size_setCell, World.size_drew] at hgW); go_simp <;> (with_reducible rfl)
        simp only [Act.put, List.setIfInBounds_toArray, List.set_cons_zero, List.set_cons_succ]
        refine' Reg.val (o := { dst := some 24, op := Op.move (Operand.tmp 0), type := 22, pos := "geom.go:85", after := #[], guard := none }) 4 _ (by rfl) (by kernel_rfl) (by rfl) hC ?hvu4_4 ?_
        case hvu4_4 => intro W _; go_simp <;> (with_reducible rfl)
        simp only [Act.put, List.setIfInBounds_toArray, List.set_cons_zero, List.set_cons_succ]
        refine' Reg.val (o := { dst := some 25, op := Op.move (Operand.tmp 7), type := 3, pos := "geom.go:85", after := #[], guard := none }) 5 _ (by rfl) (by kernel_rfl) (by rfl) hC ?hvu4_5 ?_
        case hvu4_5 => intro W _; go_simp <;> (with_reducible rfl)
        simp only [Act.put, List.setIfInBounds_toArray, List.set_cons_zero, List.set_cons_succ]
        refine' Reg.val (o := { dst := some 26, op := Op.binOp BinOp.add 3 (Operand.tmp 25) (Operand.const (Value.int IntKind.i64 1)) 3, type := 3, pos := "geom.go:85", after := #[{ on := 5, ground := Ground.data }], guard := none }) 6 _ (by rfl) (by kernel_rfl) (by rfl) hC ?hvu4_6 ?_
        case hvu4_6 => intro W hW; obtain ⟨hcW, hfW⟩ := bcell hW; have hgW := fun (p : Addr) (hp : p.block < _) => hW.cell (p := p) hp; (try simp only [World.size_alloc, World.size_setCell, World.size_drew] at hgW); go_simp <;> (with_reducible rfl)
        simp only [Act.put, List.setIfInBounds_toArray, List.set_cons_zero, List.set_cons_succ]
        refine' Reg.val (o := { dst := some 27, op := Op.indexAddr 22 (Operand.tmp 24) (Operand.tmp 26), type := 0, pos := "geom.go:85", after := #[{ on := 4, ground := Ground.data }, { on := 6, ground := Ground.data }], guard := none }) 7 _ (by rfl) (by kernel_rfl) (by rfl) hC ?hvu4_7 ?_
        case hvu4_7 => intro W hW; obtain ⟨hcW, hfW⟩ := bcell hW; have hgW := fun (p : Addr) (hp : p.block < _) => hW.cell (p := p) hp; (try simp only [World.size_alloc, World.size_setCell, World.size_drew] at hgW); go_simp <;> (with_reducible rfl)
        simp only [Act.put, List.setIfInBounds_toArray, List.set_cons_zero, List.set_cons_succ]
        refine' Reg.val (o := { dst := some 28, op := Op.load 48 (Operand.tmp 27), type := 48, pos := "geom.go:85", after := #[{ on := 7, ground := Ground.data }], guard := none }) 8 _ (by rfl) (by kernel_rfl) (by rfl) hC ?hvu4_8 ?_
        case hvu4_8 => intro W hW; obtain ⟨hcW, hfW⟩ := bcell hW; have hgW := fun (p : Addr) (hp : p.block < _) => hW.cell (p := p) hp; (try simp only [World.size_alloc, World.size_setCell, World.size_drew] at hgW); go_simp <;> (with_reducible rfl)
        simp only [Act.put, List.setIfInBounds_toArray, List.set_cons_zero, List.set_cons_succ]
        refine' Reg.val (o := { dst := some 29, op := Op.build 74 #[(0, Operand.tmp 23), (1, Operand.tmp 28)], type := 74, pos := "geom.go:85", after := #[{ on := 3, ground := Ground.data }, { on := 8, ground := Ground.data }], guard := none }) 9 _ (by rfl) (by kernel_rfl) (by rfl) hC ?hvu4_9 ?_
        case hvu4_9 => intro W hW; obtain ⟨hcW, hfW⟩ := bcell hW; have hgW := fun (p : Addr) (hp : p.block < _) => hW.cell (p := p) hp; (try simp only [World.size_alloc, World.size_setCell, World.size_drew] at hgW); go_simp <;> (with_reducible rfl)
        simp only [Act.put, List.setIfInBounds_toArray, List.set_cons_zero, List.set_cons_succ]
        refine Reg.new (o := { dst := some 8, op := Op.alloc 74, type := 0, pos := "geom.go:85", after := #[], guard := none }) 10 (by rfl) (by kernel_rfl) (by rfl) (fun _ hb => (Below.trans hS (hb.mono hB))) (fun K Q' hK => ?_)
        go_simp
        refine hK _ _ (by go_grown) ?_
        clear hK K
        clear hC
        intro hb hN10 hC
        have hBN10 := hB
        have hSb10 := hS
        replace hS := Below.trans hS (hb.mono hB)
        replace hB := Nat.le_trans hB hb.size
        clear hb
        refine Reg.one (o := { dst := none, op := Op.store 74 (Operand.tmp 8) (Operand.tmp 29), type := 0, pos := "geom.go:85", after := #[{ on := 10, ground := Ground.data }, { on := 9, ground := Ground.data }, { on := 0, ground := Ground.phase }, { on := 1, ground := Ground.phase }, { on := 2, ground := Ground.phase }, { on := 3, ground := Ground.phase }, { on := 4, ground := Ground.phase }, { on := 5, ground := Ground.phase }, { on := 6, ground := Ground.phase }, { on := 7, ground := Ground.phase }, { on := 8, ground := Ground.phase }, { on := 9, ground := Ground.phase }, { on := 10, ground := Ground.phase }], guard := none }) 11 (by rfl) (by kernel_rfl) (by rfl)  (fun K Q' hK => ?_)
        obtain ⟨hcR, hfR⟩ := bcell hS
        obtain ⟨hcN10, hfN10⟩ := bcell hN10
        (try simp only [World.size_alloc, World.size_setCell, World.size_drew] at hcN10 hfN10)
        go_simp
        refine hK _ _ (by repeat (first | exact hS | assumption | exact But.of_below rfl hS | exact hC | refine But.setCell ?_ (by simp) _ | refine Below.setCell ?_ ?_ _ | refine Below.alloc ?_ ?_ _ | go_size)) (fun hC' => ?_)
        clear hK K
        clear hC
        have hC := hC'
        clear hC'
        refine Reg.end_ (by kernel_rfl) ?_
        have hR := hS
        obtain ⟨hcS, hfS⟩ := bcell hS
        (try simp only [World.size_alloc, World.size_setCell, World.size_drew] at hcS hfS)
        have K5 := Blk.new wr [fw (f j), fw (f (j + 1)), fw 0, fw 0] 74
        have hz4 : wr.heap.size = w4.heap.size := by omega
        rw [hz4] at K5
        have O5 := keepB hoo.out hC
        have hno : ∀ g, u5.ownBlock = some g → g ≠ w4.heap.size := fun g hg => by have := (hoo.out.lt g hg).2; omega
        have hnb : ∀ g, u5.ownBlock = some g → w.heap.size ≤ g := fun g hg => (hoo.out.lt g hg).1
        obtain ⟨w5, hw5⟩ : ∃ w5, w5 = wr.alloc (.cells #[fw (f j), fw (f (j + 1)), fw 0, fw 0] 74) := ⟨_, rfl⟩
        rw [← hw5] at K5 O5 hC ⊢
        have C5 := Lib.hid hC
        have hz5 := hC.size
        have hl5 := K5.lt
        have e2 : w5.cell? ⟨a.block, a.off + (j + 2), none⟩ = some (fw (f (j + 2))) := (hC.cell (p := ⟨a.block, a.off + (j + 2), none⟩) hab).trans p2'
        clear p2 p2'
        have e3 : w5.cell? ⟨a.block, a.off + (j + 3), none⟩ = some (fw (f (j + 3))) := (hC.cell (p := ⟨a.block, a.off + (j + 3), none⟩) hab).trans p3'
        clear p3 p3'
        clear hw5 hS hB hR hN10 hBN10 hSb10 hcS hfS hC p0 p1 p1'
        obtain ⟨k0, k1, k2, k3, g0, g1, g2, g3⟩ := K5.c4
        have HO5 := Lib.hid O5
        have HK5 := Lib.hid K5
        have hno := Lib.hid hno
        have hnb := Lib.hid hnb
        clear O5 K5
        have hBn : Blk (((w5.setCell ⟨w4.heap.size, 2, none⟩ (fw (f (j + 2)))).setCell ⟨w4.heap.size, 3, none⟩ (fw (f (j + 3)))).alloc (.cells #[fw (f j), fw (f (j + 1)), fw (f (j + 2)), fw (f (j + 3))] 74)) w5.heap.size [fw (f j), fw (f (j + 1)), fw (f (j + 2)), fw (f (j + 3))] 74 := by
          have := Blk.new ((w5.setCell ⟨w4.heap.size, 2, none⟩ (fw (f (j + 2)))).setCell ⟨w4.heap.size, 3, none⟩ (fw (f (j + 3)))) [fw (f j), fw (f (j + 1)), fw (f (j + 2)), fw (f (j + 3))] 74
          (try simp only [World.size_setCell] at this)
          exact this
        have hBn := Lib.hid hBn
        go_wp2_with (at_builtin; (refine wpList_append_own _ rfl _ _ 27 rfl w.heap.size 74 ii _ 4 32 Try.underlying27 hi1 hi2 hi3 hi4 rfl (by omega) _ k (quads k g) rfl ((keepC (p := ⟨w4.heap.size, 3, none⟩) (keepC (p := ⟨w4.heap.size, 2, none⟩) HO5.out hno.out _) hno.out _).alloc _) ⟨w5.heap.size, 0, none⟩ 1 1 [fw (f j), fw (f (j + 1)), fw (f (j + 2)), fw (f (j + 3))] rfl rfl (fun x u hx => by rw [add0]; exact (hBn.out.cell x).trans hx) (by intro u hu; simp at hu; rcases hu with rfl | rfl | rfl | rfl <;> rfl) (by unfold maxLen; omega) (by omega) (by simp only [World.size_alloc, World.size_setCell]; omega) ?_; intro v1 w2 hown2 hgr2 hnil2; have hown2 := Lib.hid hown2; have hgr2 := Lib.hid hgr2; clear hnil2))
        go_roundw
        case rel =>
          have hj2 := hjj.out
          have hT5 := HH.out.trans (C5.out.mono hzr)
          refine ⟨k + 1, j + 4, updQ g k (f j, f (j + 1), f (j + 2), f (j + 3)), by go_num, by omega, by omega, ((((hT5.setCell (p := ⟨w4.heap.size, 2, none⟩) hzr _).setCell (p := ⟨w4.heap.size, 3, none⟩) hzr _).alloc (by (try simp only [World.size_setCell]); omega) _).grown hgr2.out (by simp only [World.size_alloc, World.size_setCell]; omega) hnb.out), ?_, ?_⟩
          · have := hown2.out
            rw [quads_push k g (f j, f (j + 1), f (j + 2), f (j + 3))] at this
            exact this
          · intro i hi
            by_cases hik : i = k
            · subst hik
              rw [hj2]
              simp [updQ]
            · simp only [updQ, hik, if_false]
              exact hgg.out i (by omega)
        case measure => simp [intOf]; omega
      · have hkq' : k = q := by omega
        subst hkq'
        have hjn : j = n := by omega
        have hjn2 : ¬ (j : Int) + 4 ≤ (n : Int) := by omega
        obtain ⟨P, cp, rfl, hQ⟩ := Quad.of_owns hown
        have hQ := Lib.hid hQ
        clear hj hown hoo hqo hg
        go_wp2_with fail
        go_returns
        exact ⟨⟨P, cp, rfl, g, hQ.out, hgg.out⟩, H⟩
end Go.Proofs.Ytpbllagjcdcnpaa
