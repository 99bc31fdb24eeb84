/-
  processItem, kind by kind.
-/
import Derived.Test.YtackodbeohaidaaGreatDoorR
namespace Go.Cf
open Go.RowKit Go.Conc Go.Proofs
section
variable {B : Nat} {lab lab1 : Lab} {w w1 : World} {K : PK} {X X' : PX} {M : Nat → Prop}
theorem Cl.alloc (w : World) (lab : Lab) (cs : Array Value) (t : TypeId) (ℓ : Nat) : Cl ℓ (lab.ext w.heap.size ℓ) (w.alloc (.cells cs t)) w.heap.size cs t := ⟨heap_alloc_new w _, Lab.ext_ge (Nat.le_refl _)⟩
/-- The three boxes that processItem lays ahead of all else. -/
def Boxed (w : World) (K : PK) (xt : Nat) (xv : ByteArray) (xl xp : Int) : World :=
  ((w.alloc (Obj.cells #[Value.pointer (some ⟨K.p, 0, none⟩)] 71)).alloc (Obj.cells #[i64 xt, .string xv, i64 xl, i64 xp] 98)).alloc (Obj.cells #[.string { data := #[] }] 9)
structure Bx (B : Nat) (lab : Lab) (w : World) (K : PK) (X : PX) (n xt : Nat) (xv : ByteArray) (xl xp : Int) : Prop where
  pat : PAt B lab w K X
  hB : B ≤ w.heap.size
  b0 : Cl 7 lab w n #[.pointer (some ⟨K.p, 0, none⟩)] 71
  b1 : Cl 7 lab w (n + 1) #[i64 xt, .string xv, i64 xl, i64 xp] 98
  b2 : Cl 7 lab w (n + 1 + 1) #[.string { data := #[] }] 9
theorem PAt.boxed (h : PAt B lab w K X) (hB : B ≤ w.heap.size) (xt : Nat) (xv : ByteArray) (xl xp : Int) : ∃ lab1, Bx B lab1 (Boxed w K xt xv xl xp) K X w.heap.size xt xv xl xp ∧ Mv PM w lab (Boxed w K xt xv xl xp) lab1 := by
  obtain ⟨w1, hw1⟩ : ∃ w1, w1 = w.alloc (Obj.cells #[Value.pointer (some ⟨K.p, 0, none⟩)] 71) := ⟨_, rfl⟩
  obtain ⟨w2, hw2⟩ : ∃ w2, w2 = w1.alloc (Obj.cells #[i64 xt, .string xv, i64 xl, i64 xp] 98) := ⟨_, rfl⟩
  obtain ⟨w3, hw3⟩ : ∃ w3, w3 = w2.alloc (Obj.cells #[.string { data := #[] }] 9) := ⟨_, rfl⟩
  have e : Boxed w K xt xv xl xp = w3 := by subst hw1 hw2 hw3; rfl
  have s1 : w1.heap.size = w.heap.size + 1 := by rw [hw1, World.size_alloc]
  have s2 : w2.heap.size = w.heap.size + 1 + 1 := by rw [hw2, World.size_alloc, s1]
  have s3 : w3.heap.size = w.heap.size + 1 + 1 + 1 := by rw [hw3, World.size_alloc, s2]
  have m1 : Mv (fun _ => False) w lab w1 (lab.ext w.heap.size 7) := hw1 ▸ Mv.alloc _ _ _ _
  have m2 : Mv (fun _ => False) w1 (lab.ext w.heap.size 7) w2 ((lab.ext w.heap.size 7).ext w1.heap.size 7) := hw2 ▸ Mv.alloc _ _ _ _
  have m3 : Mv (fun _ => False) w2 ((lab.ext w.heap.size 7).ext w1.heap.size 7) w3 (((lab.ext w.heap.size 7).ext w1.heap.size 7).ext w2.heap.size 7) := hw3 ▸ Mv.alloc _ _ _ _
  have c1 : Cl 7 (lab.ext w.heap.size 7) w1 w.heap.size #[.pointer (some ⟨K.p, 0, none⟩)] 71 := hw1 ▸ Cl.alloc _ _ _ _ _
  have c2 : Cl 7 ((lab.ext w.heap.size 7).ext w1.heap.size 7) w2 w1.heap.size #[i64 xt, .string xv, i64 xl, i64 xp] 98 := hw2 ▸ Cl.alloc _ _ _ _ _
  have c3 : Cl 7 (((lab.ext w.heap.size 7).ext w1.heap.size 7).ext w2.heap.size 7) w3 w2.heap.size #[.string { data := #[] }] 9 := hw3 ▸ Cl.alloc _ _ _ _ _
  rw [e]
  refine ⟨_, ⟨((h.mv m1 (fun _ _ h => h)).mv m2 (fun _ _ h => h)).mv m3 (fun _ _ h => h), by omega, (c1.mv m2 (fun h => h)).mv m3 (fun h => h), ?_, ?_⟩, ((m1.mono (fun _ h => h.elim)).trans m2 (fun _ h => h.elim)).trans m3 (fun _ h => h.elim)⟩
  · rw [← s1]; exact c2.mv m3 (fun h => h)
  · rw [← s2]; exact c3
theorem Bx.mv {n xt : Nat} {xv : ByteArray} {xl xp : Int} (h : Bx B lab w K X n xt xv xl xp) (hp : PAt B lab1 w1 K X') (m : Mv PM w lab w1 lab1) : Bx B lab1 w1 K X' n xt xv xl xp :=
  ⟨hp, Nat.le_trans h.hB m.size, h.b0.mv m (by simp [PM]), h.b1.mv m (by simp [PM]), h.b2.mv m (by simp [PM])⟩
theorem PAt.ped {ped : Bool} (h : PAt B lab w K X) (hped : K.ped = ped) : w.cell? ⟨K.p, 7, none⟩ = some (.bool ped) := by
  obtain ⟨top, cv, kv, vs, h⟩ := h
  rw [← hped]
  exact h.cl.cell 7
set_option maxRecDepth 100000 in
set_option maxHeartbeats 4000000 in
theorem item_key (h : PAt B lab w K X) (hB : B ≤ w.heap.size) (hped : K.ped = false) (hlen : X.ks.length ≤ 1000000) (xv : ByteArray) (xl xp : Int) :
    Calls Tryz.prog 57 #[.pointer (some ⟨K.p, 0, none⟩), .agg #[i64 3, .string xv, i64 xl, i64 xp], .string { data := #[] }] w fun e w' => e = .returned .nilIface ∧ ∃ lab', PAt B lab' w' K { X with ks := X.ks ++ [xv] } ∧ Mv PM w lab w' lab' := by
  obtain ⟨lab1, hb, m1⟩ := h.boxed hB 3 xv xl xp
  go_enter Tryz.func57, Tryz.ntmps57
  go_wp2_with fail
  refine (pushKey_c hb.pat hb.hB hlen xv).mono ?_
  rintro e w2 ⟨rfl, lab2, h2, m2⟩
  have hb2 := hb.mv h2 m2
  have d0 := hb2.b0.cell 0
  have c7 := h2.ped hped
  simp at d0
  clear h hb
  go_wp2
  go_ret
  exact ⟨rfl, lab2, h2, m1.trans m2 (fun _ h => h)⟩
end
end Go.Cf
