/-
  The parser runs: item after item.
-/
import Derived.Test.YtackodbeohaidaaGreatDoorAA
import Derived.Test.YtackodbeohaidaaGreatDoorV2
namespace Go.Cf
open Go.RowKit Go.Conc Go.Proofs
/-- processItem at x turns X into X'. -/
def Works (K : PK) (X : PX) (x : It) (X' : PX) : Prop :=
  ∀ (B : Nat) (lab : Lab) (w : World), B ≤ w.heap.size → PAt B lab w K X → Tb lab w →
    Calls Tryz.prog 57 #[.pointer (some ⟨K.p, 0, none⟩), x.v, .string { data := #[] }] w fun e w' => e = .returned .nilIface ∧ ∃ lab', PAt B lab' w' K X' ∧ Mv PM w lab w' lab'
/-- A text's items, one after another, up to its end; 'prev' is the item before. -/
inductive Feeds (K : PK) : PX → It → PX → Prop
  | eof {n : Nat} {X : PX} {L' : LX} {x prev : It} {q : List It} (R : Run n X.L L') (hx : L'.q = x :: q) (ht : x.typ = 2) (hp : prev.typ ≠ 3) : Feeds K X prev { X with L := L'.took q }
  | step {n : Nat} {X X2 X' : PX} {L' : LX} {x prev : It} {q : List It} (R : Run n X.L L') (hx : L'.q = x :: q) (ht : x.typ ≠ 2) (hw : Works K { X with L := L'.took q } x X2) (h : Feeds K X2 x X') : Feeds K X prev X'
section
variable {B : Nat} {lab lab1 : Lab} {w w1 : World} {K : PK} {X X' : PX}
/-- Between two rounds. -/
def PI (B : Nat) (lab0 : Lab) (w0 : World) (K : PK) (r : Nat) (X : PX) (prev : It) (a : Act) (w : World) : Prop :=
  (∃ t2 t3 t6 t7 t8 t9 t10 t11 t12 t13 t14 t15 t16 t17 t18 t19 t20 t21 t22 t23 t24 t25 t26 t27 t28 t29 t30 t31 t32 t33 t34 t35 t36 : Value, a = { tmps := #[.pointer (some ⟨K.p, 0, none⟩), .string { data := #[] }, t2, t3, .nilIface, .pointer (some ⟨r, 0, none⟩), t6, t7, t8, t9, t10, t11, t12, t13, t14, t15, t16, t17, t18, t19, t20, t21, t22, t23, t24, t25, t26, t27, t28, t29, t30, t31, t32, t33, t34, t35, t36], defers := [] }) ∧
  ∃ lab, PAt B lab w K X ∧ B ≤ w.heap.size ∧ Tb lab w ∧ Cl 7 lab w r #[i64 prev.typ, .string prev.val, i64 prev.line, i64 prev.pos] 98 ∧ Mv PM w0 lab0 w lab
theorem wpL_feeds {P : Program} {Q : Exit → Act → World → Prop} {c : Code} {I : PX → It → Act → World → Prop} {prev : It} {a : Act} (F : Feeds K X prev X') (hI : I X prev a w)
    (heof : ∀ (n : Nat) (X : PX) (L' : LX) (x prev : It) (q : List It) (a : Act) (w : World), Run n X.L L' → L'.q = x :: q → x.typ = 2 → prev.typ ≠ 3 → X' = { X with L := L'.took q } → I X prev a w → wpN P c (Exit.then (fun _ _ => False) Q) a w)
    (hstep : ∀ (n : Nat) (X X2 : PX) (L' : LX) (x prev : It) (q : List It) (a : Act) (w : World), Run n X.L L' → L'.q = x :: q → x.typ ≠ 2 → Works K { X with L := L'.took q } x X2 → I X prev a w → wpN P c (Exit.then (I X2 x) Q) a w) : wpL P c Q a w := by
  induction F generalizing a w with
  | eof R hx ht hp => exact wpL_round (wpN_mono (heof _ _ _ _ _ _ _ _ R hx ht hp rfl hI) (fun e a w q => by cases e <;> first | exact q | exact q.elim))
  | step R hx ht hw _ ih => exact wpL_round (wpN_mono (hstep _ _ _ _ _ _ _ _ _ R hx ht hw hI) (fun e a w q => by cases e <;> first | exact q | exact ih q heof))
theorem PAt.c0 (h : PAt B lab w K X) : w.cell? ⟨K.p, 0, none⟩ = some (.map (some K.mp)) := by
  obtain ⟨top, cv, kv, vs, h⟩ := h
  exact h.cl.cell 0
set_option maxRecDepth 100000 in
set_option maxHeartbeats 4000000 in
theorem parse48_c {s : ByteArray} {c : Nat} (h : NewP B lab w K s c) (hB : B ≤ w.heap.size) (htb : Tb lab w) (F : Feeds K ⟨LX.new s c, [.map []], []⟩ ⟨0, { data := #[] }, 0, 0⟩ X') :
    Calls Tryz.prog 48 #[.pointer (some ⟨K.p, 0, none⟩), .string { data := #[] }] w fun e w' => e = .returned .nilIface ∧ ∃ lab', PAt B lab' w' K X' ∧ Mv PM w lab w' lab' := by
  have c0 := h.1.c0
  refine calls_of_wpN Tryz.func48 rfl ?_
  simp only [Tryz.ntmps48, List.size_toArray, List.length_cons, List.length_nil, Nat.reduceAdd, Nat.reduceSub, Array.replicate_succ, Array.replicate_zero, List.push_toArray, List.append_toArray, List.nil_append, List.cons_append]
  refine wpN_seq_k (fun K0 hK0 => ?_)
  go_wp2
  refine wpN_seq_k (fun K1 hK1 => ?_)
  go_wp2_with fail
  refine (pushContext_c h.1 hB (by simp) (.map []) 61 (.map (some K.mp)) ⟨K.mp, [], rfl, h.2.1, rfl, trivial⟩ (fun _ => rfl)).mono ?_
  rintro e w1 ⟨rfl, lab1, hp1, m1⟩
  go_wp2
  refine wpN_seq_k (fun K2 hK2 => ?_)
  go_wp2
  have hz : Cl 7 (lab1.ext w1.heap.size 7) (w1.alloc Zero98) w1.heap.size #[i64 0, .string { data := #[] }, i64 0, i64 0] 98 := Cl.alloc _ _ _ _ _
  have mz : Mv (fun _ => False) w1 lab1 (w1.alloc Zero98) (lab1.ext w1.heap.size 7) := Mv.alloc _ _ _ _
  have hpz := hp1.alloc7 Zero98
  have mmz := m1.trans mz (fun _ h => h.elim)
  have htz := htb.mv mmz (by simp [PM])
  have hBz : B ≤ (w1.alloc Zero98).heap.size := Nat.le_trans hB mmz.size
  obtain ⟨W, hW⟩ : ∃ W, W = w1.alloc Zero98 := ⟨_, rfl⟩
  have hW2 : w1.alloc (Obj.cells #[Value.int IntKind.i64 0, Value.string { data := #[] }, Value.int IntKind.i64 0, Value.int IntKind.i64 0] 98) = W := hW.symm
  rw [← hW] at hz hpz mmz htz hBz
  rw [hW2]
  obtain ⟨r, hr⟩ : ∃ r, r = w1.heap.size := ⟨_, rfl⟩
  rw [← hr] at hz hpz mmz htz ⊢
  have hwr : w.heap.size ≤ r := by rw [hr]; exact m1.size
  clear hr hW hW2
  refine wpN_seq (wpN_block (wpL.loop ?_))
  refine wpL_feeds (I := PI B lab w K r) F ⟨⟨_, _, _, _, _, _, _, _, _, _, _, _, _, _, _, _, _, _, _, _, _, _, _, _, _, _, _, _, _, _, _, _, _, rfl⟩, _, hpz, hBz, htz, hz, mmz⟩ ?_ ?_
  · rintro n X L' ⟨xt, xv, xl, xp⟩ prev q a w2 R hx ht hp hX ⟨⟨t2, t3, t6, t7, t8, t9, t10, t11, t12, t13, t14, t15, t16, t17, t18, t19, t20, t21, t22, t23, t24, t25, t26, t27, t28, t29, t30, t31, t32, t33, t34, t35, t36, rfl⟩, lab2, hp2, hB2, ht2, hz2, mm2⟩
    obtain ⟨pt, pv, pl, pp⟩ := prev
    obtain rfl : xt = 2 := ht
    refine wpN_of_wp ?_
    go_wp2_with fail
    refine (next_item_c hp2 R hx).mono ?_
    rintro e w3 ⟨rfl, lab3, hp3, m3⟩
    have hz3 := hz2.mv m3 (by simp [PM])
    have d0 : w3.cell? ⟨r, 0, none⟩ = some (i64 pt) := hz3.cell 0
    have e0 : ∀ o, (w3.alloc o).cell? ⟨r, 0, none⟩ = some (i64 pt) := fun o => (World.cell?_alloc_lt w3 o _ (World.block_lt_of_cell? w3 _ d0)).trans d0
    have e1 : (((pt : Nat) : Int) == 3) = false := beq_eq_false_iff_ne.2 (by have h3 : pt ≠ 3 := hp; omega)
    have hp4 := hp3.alloc7 (.cells #[i64 (2 : Nat), .string xv, i64 xl, i64 xp] 98)
    have m4 := (mm2.trans m3 (fun _ h => h)).trans (Mv.alloc (M := fun _ => False) w3 lab3 (.cells #[i64 (2 : Nat), .string xv, i64 xl, i64 xp] 98) 7) (fun _ h => h.elim)
    have HX := Lib.hid hX
    have HP := Lib.hid hp
    try simp only [It.v]
    clear d0 hX hp hx
    go_wp2
    refine wpN_of_wp ?_
    go_wp2
    go_ret
    exact ⟨rfl, _, by rw [HX.out]; exact hp4, m4⟩
  · rintro n X X2 L' ⟨xt, xv, xl, xp⟩ prev q a w2 R hx ht hw ⟨⟨t2, t3, t6, t7, t8, t9, t10, t11, t12, t13, t14, t15, t16, t17, t18, t19, t20, t21, t22, t23, t24, t25, t26, t27, t28, t29, t30, t31, t32, t33, t34, t35, t36, rfl⟩, lab2, hp2, hB2, ht2, hz2, mm2⟩
    obtain ⟨pt, pv, pl, pp⟩ := prev
    have e1 : (((xt : Nat) : Int) == 2) = false := beq_eq_false_iff_ne.2 (by have h3 : xt ≠ 2 := ht; omega)
    refine wpN_of_wp ?_
    go_wp2_with fail
    refine (next_item_c hp2 R hx).mono ?_
    rintro e w3 ⟨rfl, lab3, hp3, m3⟩
    have hz3 := hz2.mv m3 (by simp [PM])
    have d0 : w3.cell? ⟨r, 0, none⟩ = some (i64 pt) := hz3.cell 0
    have d1 : w3.cell? ⟨r, 1, none⟩ = some (.string pv) := hz3.cell 1
    have d2 : w3.cell? ⟨r, 2, none⟩ = some (i64 pl) := hz3.cell 2
    have d3 : w3.cell? ⟨r, 3, none⟩ = some (i64 pp) := hz3.cell 3
    have f0 := hz3.free 0
    have f1 := hz3.free 1
    have f2 := hz3.free 2
    have f3 := hz3.free 3
    have hlt3 := lt_of_block hz3.1
    have hne : r ≠ w3.heap.size := by omega
    have HT := Lib.hid ht
    have HX := Lib.hid hx
    try simp only [It.v]
    clear ht hx
    go_wp2_with fail
    have m7 : Mv (· = 7) w3 lab3 ((((w3.setCell ⟨r, 0, none⟩ (i64 xt)).setCell ⟨r, 1, none⟩ (.string xv)).setCell ⟨r, 2, none⟩ (i64 xl)).setCell ⟨r, 3, none⟩ (i64 xp)) lab3 :=
      (((Mv.setCell _ _ _ _ hz3.2).trans (Mv.setCell _ _ _ _ hz3.2) (fun _ h => h)).trans (Mv.setCell _ _ _ _ hz3.2) (fun _ h => h)).trans (Mv.setCell _ _ _ _ hz3.2) (fun _ h => h)
    have hp4 := hp3.mv m7 (fun x hx e => hx e)
    have mm3 := mm2.trans m3 (fun _ h => h)
    have HM : Mv PM w lab ((((w3.setCell ⟨r, 0, none⟩ (i64 xt)).setCell ⟨r, 1, none⟩ (.string xv)).setCell ⟨r, 2, none⟩ (i64 xl)).setCell ⟨r, 3, none⟩ (i64 xp)) lab3 := by
      refine ⟨mm3.os, mm3.tape, mm3.output, Nat.le_trans mm3.size m7.size, fun k hk hn => ?_, mm3.lab⟩
      refine Eq.trans ?_ (mm3.block k hk hn)
      have hne : k ≠ r := by omega
      rw [Below.heap_setCell _ _ _ _ hne, Below.heap_setCell _ _ _ _ hne, Below.heap_setCell _ _ _ _ hne, Below.heap_setCell _ _ _ _ hne]
    have hz4 : Cl 7 lab3 ((((w3.setCell ⟨r, 0, none⟩ (i64 xt)).setCell ⟨r, 1, none⟩ (.string xv)).setCell ⟨r, 2, none⟩ (i64 xl)).setCell ⟨r, 3, none⟩ (i64 xp)) r #[i64 xt, .string xv, i64 xl, i64 xp] 98 := (((hz3.set 0 (i64 xt)).set 1 (.string xv)).set 2 (i64 xl)).set 3 (i64 xp)
    have ht4 := (ht2.mv m3 (by simp [PM])).mv m7 (by decide)
    obtain ⟨W4, hW4⟩ : ∃ W4, W4 = ((((w3.setCell ⟨r, 0, none⟩ (i64 xt)).setCell ⟨r, 1, none⟩ (.string xv)).setCell ⟨r, 2, none⟩ (i64 xl)).setCell ⟨r, 3, none⟩ (i64 xp)) := ⟨_, rfl⟩
    rw [← hW4] at hp4 HM hz4 ht4 ⊢
    clear hW4 m7 d0 d1 d2 d3 f0 f1 f2 f3 hz3 hp3
    have m5 := Mv.alloc (M := fun _ => False) W4 lab3 (Obj.cells #[i64 xt, .string xv, i64 xl, i64 xp] 98) 7
    have M5 := HM.trans m5 (fun _ h => h.elim)
    refine (hw B _ _ (Nat.le_trans hB M5.size) (hp4.mv m5 (fun _ _ h => h)) (ht4.mv m5 (fun h => h))).mono ?_
    rintro e w6 ⟨rfl, lab6, hp6, m6⟩
    have M6 := M5.trans m6 (fun _ h => h)
    have hz6 := (hz4.mv m5 (fun h => h)).mv m6 (by simp [PM])
    have ht6 := (ht4.mv m5 (fun h => h)).mv m6 (by simp [PM])
    have hB6 := Nat.le_trans hB M6.size
    clear hz4 ht4 hp4 HM m5 M5 m6 hw
    go_wp2
    exact ⟨⟨_, _, _, _, _, _, _, _, _, _, _, _, _, _, _, _, _, _, _, _, _, _, _, _, _, _, _, _, _, _, _, _, _, rfl⟩, _, hp6, hB6, ht6, hz6, M6⟩
end
end Go.Cf
