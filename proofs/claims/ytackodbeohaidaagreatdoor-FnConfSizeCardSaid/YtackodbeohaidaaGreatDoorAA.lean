/-
  The parser takes the next item.
-/
import Derived.Test.YtackodbeohaidaaGreatDoorZ
namespace Go.Cf
open Go.RowKit Go.Conc Go.Proofs
section
variable {B : Nat} {lab lab1 : Lab} {w w1 : World} {K : PK} {X X' : PX}
theorem PAtX.withLx {top cv kv : Value} {vs : List Value} {L' : LX} (h : PAtX B lab w K X top cv kv vs) (hl : Lx B lab1 w1 K.b L') (m : Mv (· = 1) w lab w1 lab1) : PAt B lab1 w1 K { X with L := L' } :=
  ⟨top, cv, kv, vs, h.cl.mv m (by decide), hl, h.cv.mv m (by decide), h.kv.mv m (by decide), h.cs.mv m (by decide) (fun i _ => by omega), h.top, h.root⟩
set_option maxRecDepth 100000 in
set_option maxHeartbeats 1000000 in
theorem next_item_c {n : Nat} {x : It} {q : List It} {L' : LX} (h : PAt B lab w K X) (R : Run n X.L L') (hx : L'.q = x :: q) :
    Calls Tryz.prog 55 #[.pointer (some ⟨K.p, 0, none⟩)] w fun e w' => e = .returned x.v ∧ ∃ lab', PAt B lab' w' K { X with L := L'.took q } ∧ Mv PM w lab w' lab' := by
  have h1 := h.alloc7 Zero98
  have m1 : Mv (fun _ => False) w lab (w.alloc Zero98) (lab.ext w.heap.size 7) := Mv.alloc _ _ _ _
  have hr : Cl 7 (lab.ext w.heap.size 7) (w.alloc Zero98) w.heap.size #[i64 0, .string { data := #[] }, i64 0, i64 0] 98 := Cl.alloc _ _ _ _ _
  obtain ⟨top, cv, kv, vs, hx1⟩ := h1
  have c1 : (w.alloc Zero98).cell? ⟨K.p, 1, none⟩ = some (.pointer (some ⟨K.b, 0, none⟩)) := hx1.cl.cell 1
  have HC := nextItem_c R hx hx1.lx.at
  obtain ⟨W, hW⟩ : ∃ W, W = w.alloc Zero98 := ⟨_, rfl⟩
  have hW2 : w.alloc (Obj.cells #[Value.int IntKind.i64 0, Value.string { data := #[] }, Value.int IntKind.i64 0, Value.int IntKind.i64 0] 98) = W := hW.symm
  rw [← hW] at m1 hr hx1 c1 HC
  clear hW h
  go_enter Tryz.func55, Tryz.ntmps55
  go_wp2_with fail
  refine HC.mono ?_
  rintro e w2 ⟨rfl, hA⟩
  obtain ⟨hl, ml⟩ := Lx.back hA
  have hr2 := hr.mv ml (by decide)
  have hp2 := hx1.withLx hl ml
  have mm := (m1.mono (M' := PM) (fun _ h => h.elim)).trans ml (by rintro x rfl; decide)
  obtain ⟨xt, xv, xl, xp⟩ := x
  have d0 : w2.cell? ⟨w.heap.size, 0, none⟩ = some (.int .i64 0) := hr2.cell 0
  have d1 : w2.cell? ⟨w.heap.size, 1, none⟩ = some (.string { data := #[] }) := hr2.cell 1
  have d2 : w2.cell? ⟨w.heap.size, 2, none⟩ = some (.int .i64 0) := hr2.cell 2
  have d3 : w2.cell? ⟨w.heap.size, 3, none⟩ = some (.int .i64 0) := hr2.cell 3
  have e0 := hr2.free 0
  have e1 := hr2.free 1
  have e2 := hr2.free 2
  have e3 := hr2.free 3
  have hlab := hr2.2
  have m7 : Mv (· = 7) w2 ((lab.ext w.heap.size 7).ext W.heap.size 1) ((((w2.setCell ⟨w.heap.size, 0, none⟩ (i64 xt)).setCell ⟨w.heap.size, 1, none⟩ (.string xv)).setCell ⟨w.heap.size, 2, none⟩ (i64 xl)).setCell ⟨w.heap.size, 3, none⟩ (i64 xp)) ((lab.ext w.heap.size 7).ext W.heap.size 1) :=
    (((Mv.setCell _ _ _ _ hlab).trans (Mv.setCell _ _ _ _ hlab) (fun _ h => h)).trans (Mv.setCell _ _ _ _ hlab) (fun _ h => h)).trans (Mv.setCell _ _ _ _ hlab) (fun _ h => h)
  have hp3 := hp2.mv m7 (fun x hx e => hx e)
  have c13 := blk_setCell (blk_setCell (blk_setCell (blk_setCell hr2.1 0 (i64 xt)) 1 (.string xv)) 2 (i64 xl)) 3 (i64 xp)
  have HC13 := Lib.hid c13
  have HX := Lib.hid hx
  have HL := Lib.hid hlab
  have HM : Mv PM w lab ((((w2.setCell ⟨w.heap.size, 0, none⟩ (i64 xt)).setCell ⟨w.heap.size, 1, none⟩ (.string xv)).setCell ⟨w.heap.size, 2, none⟩ (i64 xl)).setCell ⟨w.heap.size, 3, none⟩ (i64 xp)) ((lab.ext w.heap.size 7).ext W.heap.size 1) := by
    refine ⟨mm.os, mm.tape, mm.output, Nat.le_trans mm.size m7.size, fun k hk hn => ?_, mm.lab⟩
    refine Eq.trans ?_ (mm.block k hk hn)
    have hne : k ≠ w.heap.size := by omega
    rw [Below.heap_setCell _ _ _ _ hne, Below.heap_setCell _ _ _ _ hne, Below.heap_setCell _ _ _ _ hne, Below.heap_setCell _ _ _ _ hne]
  clear c13 hx hlab hr2 hr hp2 m7 hA hl ml hx1 HC
  simp only [It.v]
  go_wp2
  refine bodyPost_ret (results_cell rfl rfl HC13.out Tryz.underlying98 rfl info98) rfl ?_
  exact ⟨rfl, _, hp3, HM⟩
end
end Go.Cf
