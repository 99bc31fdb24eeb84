/-
  Texts joined: Z AA V.
-/
import Derived.Test.YtackodbeohaidaaGreatDoorRb1
import Derived.Test.YtackodbeohaidaaGreatDoorRb2
import Derived.Test.YtackodbeohaidaaGreatDoorRb3
import Derived.Test.YtackodbeohaidaaGreatDoorRb4
import Derived.Laws.RangeString
/-
  The parser is made.
-/
namespace Go.Cf
open Go.RowKit Go.Conc Go.Proofs
section
variable {B : Nat} {lab lab1 : Lab} {w w1 : World}
theorem mk61 (w : World) : (Instr.makeMap 61 none).run Tryz.prog w = .ok (.map (some w.heap.size)) (w.alloc (.map #[] 0)) := by kernel_rfl
theorem mk77 (w : World) : (Instr.makeMap 77 none).run Tryz.prog w = .ok (.map (some w.heap.size)) (w.alloc (.map #[] 0)) := by kernel_rfl
theorem mk75 (w : World) : (Instr.makeSlice 75 (.int .i64 0) (.int .i64 4)).run Tryz.prog w = .ok (.slice (some ⟨w.heap.size, 0, none⟩) 0 4) (w.alloc (.cells #[.nilIface, .nilIface, .nilIface, .nilIface] 20)) := by kernel_rfl
theorem mk23 (w : World) : (Instr.makeSlice 23 (.int .i64 0) (.int .i64 4)).run Tryz.prog w = .ok (.slice (some ⟨w.heap.size, 0, none⟩) 0 4) (w.alloc (.cells #[.string { data := #[] }, .string { data := #[] }, .string { data := #[] }, .string { data := #[] }] 9)) := by kernel_rfl
theorem mk76 (w : World) : (Instr.makeSlice 76 (.int .i64 0) (.int .i64 4)).run Tryz.prog w = .ok (.slice (some ⟨w.heap.size, 0, none⟩) 0 4) (w.alloc (.cells #[i64 0, .string { data := #[] }, i64 0, i64 0, i64 0, .string { data := #[] }, i64 0, i64 0, i64 0, .string { data := #[] }, i64 0, i64 0, i64 0, .string { data := #[] }, i64 0, i64 0] 98)) := by kernel_rfl
/-- The parser at the beginning of a text. -/
def NewP (B : Nat) (lab : Lab) (w : World) (K : PK) (s : ByteArray) (c : Nat) : Prop :=
  PAt B lab w K ⟨LX.new s c, [], []⟩ ∧ Mp 10 lab w K.mp [] ∧ Mp 8 lab w K.ev [] ∧ Rw B 5 lab w 98 4 K.iv 0 []
def CP (B : Nat) (s : ByteArray) (ped : Bool) : Nat → Value → Lab → World → Prop
  | 0, v, lab, w => ∃ m, v = .map (some m) ∧ Mp 10 lab w m []
  | 1, v, _, _ => v = .string s
  | 2, v, lab, w => ∃ b c, v = .pointer (some ⟨b, 0, none⟩) ∧ Lx B lab w b (LX.new s c)
  | 3, v, lab, w => ∃ g, v = .slice (some ⟨g, 0, none⟩) 0 4 ∧ Rw B 3 lab w 20 1 v 0 []
  | 4, v, lab, w => ∃ g, v = .slice (some ⟨g, 0, none⟩) 0 4 ∧ Rw B 4 lab w 9 1 v 0 []
  | 5, v, lab, w => ∃ g, v = .slice (some ⟨g, 0, none⟩) 0 4 ∧ Rw B 5 lab w 98 4 v 0 []
  | 6, v, _, _ => v = .string { data := #[] }
  | 7, v, _, _ => v = .bool ped
  | 8, v, lab, w => ∃ m, v = .map (some m) ∧ Mp 8 lab w m []
  | 9, v, lab, w => ∃ (K : PK) (c g3 g4 : Nat), K.ped = ped ∧ v = .agg (K.cells .nilIface (.slice (some ⟨g3, 0, none⟩) 0 4) (.slice (some ⟨g4, 0, none⟩) 0 4)) ∧ Lx B lab w K.b (LX.new s c) ∧ Rw B 3 lab w 20 1 (.slice (some ⟨g3, 0, none⟩) 0 4) 0 [] ∧ Rw B 4 lab w 9 1 (.slice (some ⟨g4, 0, none⟩) 0 4) 0 [] ∧
      Mp 10 lab w K.mp [] ∧ Mp 8 lab w K.ev [] ∧ Rw B 5 lab w 98 4 K.iv 0 []
  | 10, v, lab, w => ∃ (K : PK) (c : Nat), K.ped = ped ∧ v = .pointer (some ⟨K.p, 0, none⟩) ∧ NewP B lab w K s c
  | 11, v, lab, w => ∃ (K : PK) (c : Nat), K.ped = ped ∧ v = .pointer (some ⟨K.p, 0, none⟩) ∧ NewP B lab w K s c
  | _, _, _, _ => False
def dstP (k : Nat) : Nat := if k = 11 then 6 else 7 + k
theorem dstP_inj {i k : Nat} (h : dstP k = dstP i) : k = i := by
  unfold dstP at h
  split at h <;> split at h <;> omega
theorem NewP.mv {K : PK} {s : ByteArray} {c : Nat} (h : NewP B lab w K s c) (m : Mv (fun _ => False) w lab w1 lab1) : NewP B lab1 w1 K s c :=
  ⟨h.1.mv m (fun _ _ h => h), h.2.1.mv m (fun h => h), h.2.2.1.mv m (fun h => h), h.2.2.2.mv m (fun h => h)⟩
theorem CP.mv {s : ByteArray} {ped : Bool} (k : Nat) (v : Value) (lab : Lab) (w : World) (lab' : Lab) (w' : World) (h : CP B s ped k v lab w) (m : Mv (fun _ => False) w lab w' lab') : CP B s ped k v lab' w' := by
  match k, h with
  | 0, ⟨b, h1, h2⟩ => exact ⟨b, h1, h2.mv m (fun h => h)⟩
  | 1, h => exact h
  | 2, ⟨b, c, h1, h2⟩ => exact ⟨b, c, h1, h2.mv m (fun h => h)⟩
  | 3, ⟨g, h1, h2⟩ => exact ⟨g, h1, h2.mv m (fun h => h)⟩
  | 4, ⟨g, h1, h2⟩ => exact ⟨g, h1, h2.mv m (fun h => h)⟩
  | 5, ⟨g, h1, h2⟩ => exact ⟨g, h1, h2.mv m (fun h => h)⟩
  | 6, h => exact h
  | 7, h => exact h
  | 8, ⟨b, h1, h2⟩ => exact ⟨b, h1, h2.mv m (fun h => h)⟩
  | 9, ⟨K, c, g3, g4, h0, h1, h2, h3, h4, h5, h6, h7⟩ => exact ⟨K, c, g3, g4, h0, h1, h2.mv m (fun h => h), h3.mv m (fun h => h), h4.mv m (fun h => h), h5.mv m (fun h => h), h6.mv m (fun h => h), h7.mv m (fun h => h)⟩
  | 10, ⟨K, c, h0, h1, h2⟩ => exact ⟨K, c, h0, h1, h2.mv m⟩
  | 11, ⟨K, c, h0, h1, h2⟩ => exact ⟨K, c, h0, h1, h2.mv m⟩
theorem map_new (w : World) (lab : Lab) (ℓ : Nat) : Mp ℓ (lab.ext w.heap.size ℓ) (w.alloc (.map #[] 0)) w.heap.size [] := ⟨World.ownsMap_made w _ _ _, Lab.ext_ge (Nat.le_refl _)⟩
theorem row_new (w : World) (lab : Lab) (ℓ e size cap : Nat) (cs : Array Value) (hB : B ≤ w.heap.size) (hc : cap ≤ maxLen) (hs : cs.size = cap * size) : Rw B ℓ (lab.ext w.heap.size ℓ) (w.alloc (.cells cs e)) e size (.slice (some ⟨w.heap.size, 0, none⟩) 0 cap) 0 [] := by
  refine ⟨⟨by simp, .inr ⟨_, _, _, rfl, hB, heap_alloc_new w _, Nat.zero_le _, hc, hs, by simp⟩⟩, fun k hk => ?_⟩
  simp only [Value.ownBlock, Option.some.injEq] at hk
  subst hk
  exact Lab.ext_ge (Nat.le_refl _)
set_option maxRecDepth 100000 in
set_option maxHeartbeats 4000000 in
theorem newParser_c (s : ByteArray) (ped : Bool) (hB : B ≤ w.heap.size) :
    Calls Tryz.prog 47 #[.string s, .string { data := #[] }, .bool ped] w fun e w' => ∃ K c lab', K.ped = ped ∧ e = .returned (.pointer (some ⟨K.p, 0, none⟩)) ∧ NewP B lab' w' K s c ∧ Mv (fun _ => False) w lab w' lab' := by
  go_enter Tryz.func47, Tryz.ntmps47
  go_wp2_with fail
  refine wp_region_bld (CP B s ped) dstP [(0, .string s), (1, .string { data := #[] }), (2, .bool ped)] lab mixed (by kernel_rfl) ?_ rfl ?_ CP.mv ?_ ?_
  · intro i o ho
    have hk : ∀ p ∈ [(0, Value.string s), (1, Value.string { data := #[] }), (2, Value.bool ped)], p.1 ≤ 2 := by
      intro p hp
      simp only [List.mem_cons, List.not_mem_nil, or_false] at hp
      rcases hp with rfl | rfl | rfl <;> simp
    match i, ho with
    | 0, rfl => exact ⟨rfl, rfl, (show dstP 0 < 18 by decide), fun p hp => by have := hk p hp; unfold dstP; split <;> omega, fun k _ h => dstP_inj h⟩
    | 1, rfl => exact ⟨rfl, rfl, (show dstP 1 < 18 by decide), fun p hp => by have := hk p hp; unfold dstP; split <;> omega, fun k _ h => dstP_inj h⟩
    | 2, rfl => exact ⟨rfl, rfl, (show dstP 2 < 18 by decide), fun p hp => by have := hk p hp; unfold dstP; split <;> omega, fun k _ h => dstP_inj h⟩
    | 3, rfl => exact ⟨rfl, rfl, (show dstP 3 < 18 by decide), fun p hp => by have := hk p hp; unfold dstP; split <;> omega, fun k _ h => dstP_inj h⟩
    | 4, rfl => exact ⟨rfl, rfl, (show dstP 4 < 18 by decide), fun p hp => by have := hk p hp; unfold dstP; split <;> omega, fun k _ h => dstP_inj h⟩
    | 5, rfl => exact ⟨rfl, rfl, (show dstP 5 < 18 by decide), fun p hp => by have := hk p hp; unfold dstP; split <;> omega, fun k _ h => dstP_inj h⟩
    | 6, rfl => exact ⟨rfl, rfl, (show dstP 6 < 18 by decide), fun p hp => by have := hk p hp; unfold dstP; split <;> omega, fun k _ h => dstP_inj h⟩
    | 7, rfl => exact ⟨rfl, rfl, (show dstP 7 < 18 by decide), fun p hp => by have := hk p hp; unfold dstP; split <;> omega, fun k _ h => dstP_inj h⟩
    | 8, rfl => exact ⟨rfl, rfl, (show dstP 8 < 18 by decide), fun p hp => by have := hk p hp; unfold dstP; split <;> omega, fun k _ h => dstP_inj h⟩
    | 9, rfl => exact ⟨rfl, rfl, (show dstP 9 < 18 by decide), fun p hp => by have := hk p hp; unfold dstP; split <;> omega, fun k _ h => dstP_inj h⟩
    | 10, rfl => exact ⟨rfl, rfl, (show dstP 10 < 18 by decide), fun p hp => by have := hk p hp; unfold dstP; split <;> omega, fun k _ h => dstP_inj h⟩
    | 11, rfl => exact ⟨rfl, rfl, (show dstP 11 < 18 by decide), fun p hp => by have := hk p hp; unfold dstP; split <;> omega, fun k _ h => dstP_inj h⟩
  · intro p hp
    simp only [List.mem_cons, List.not_mem_nil, or_false] at hp
    rcases hp with rfl | rfl | rfl <;> rfl
  · intro L a' lab' w' i o ho hall hb
    have hB' : B ≤ w'.heap.size := Nat.le_trans hB hb.mv.size
    have k0 : a'.tmps.getD 0 undef = .string s := hb.keep (0, .string s) (by simp)
    have k1 : a'.tmps.getD 1 undef = .string { data := #[] } := hb.keep (1, .string { data := #[] }) (by simp)
    have k2 : a'.tmps.getD 2 undef = .bool ped := hb.keep (2, .bool ped) (by simp)
    match i, ho with
    | 0, rfl => exact .inl ⟨_, _, lab'.ext w'.heap.size 10, by simp [execOp, mk61], Mv.alloc _ _ _ _, _, rfl, map_new _ _ _⟩
    | 1, rfl => exact .inl ⟨_, _, lab', rfl, Mv.refl _ _ _, k0⟩
    | 2, rfl =>
      have h1 : a'.tmps.getD 8 undef = .string s := hb.got 1 (by decide) (hall ⟨1, .data⟩ (by simp) rfl)
      refine .inr ⟨53, #[a'.tmps.getD 8 undef], by kernel_rfl, ?_⟩
      rw [h1]
      refine (lex_c s lab' hB').mono ?_
      rintro e w2 ⟨b, c, rfl, hl, m⟩
      exact ⟨_, _, rfl, m, b, c, rfl, hl⟩
    | 3, rfl => exact .inl ⟨_, w'.alloc (.cells #[.nilIface, .nilIface, .nilIface, .nilIface] 20), lab'.ext w'.heap.size 3, by simp [execOp, mk75, Act.eval], Mv.alloc _ _ _ _, _, rfl, row_new _ _ _ _ _ _ _ hB' (by unfold maxLen; omega) rfl⟩
    | 4, rfl => exact .inl ⟨_, w'.alloc (.cells #[.string { data := #[] }, .string { data := #[] }, .string { data := #[] }, .string { data := #[] }] 9), lab'.ext w'.heap.size 4, by simp [execOp, mk23, Act.eval], Mv.alloc _ _ _ _, _, rfl, row_new _ _ _ _ _ _ _ hB' (by unfold maxLen; omega) rfl⟩
    | 5, rfl => exact .inl ⟨_, w'.alloc (.cells #[i64 0, .string { data := #[] }, i64 0, i64 0, i64 0, .string { data := #[] }, i64 0, i64 0, i64 0, .string { data := #[] }, i64 0, i64 0, i64 0, .string { data := #[] }, i64 0, i64 0] 98), lab'.ext w'.heap.size 5, by simp [execOp, mk76, Act.eval], Mv.alloc _ _ _ _, _, rfl, row_new _ _ _ _ _ _ _ hB' (by unfold maxLen; omega) rfl⟩
    | 6, rfl => exact .inl ⟨_, _, lab', rfl, Mv.refl _ _ _, k1⟩
    | 7, rfl => exact .inl ⟨_, _, lab', rfl, Mv.refl _ _ _, k2⟩
    | 8, rfl => exact .inl ⟨_, _, lab'.ext w'.heap.size 8, by simp [execOp, mk77], Mv.alloc _ _ _ _, _, rfl, map_new _ _ _⟩
    | 9, rfl =>
      obtain ⟨m0, e0, r0⟩ := hb.got 0 (by decide) (hall ⟨0, .data⟩ (by simp) rfl)
      obtain ⟨b, c, e2, r2⟩ := hb.got 2 (by decide) (hall ⟨2, .data⟩ (by simp) rfl)
      obtain ⟨g3, e3, r3⟩ := hb.got 3 (by decide) (hall ⟨3, .data⟩ (by simp) rfl)
      obtain ⟨g4, e4, r4⟩ := hb.got 4 (by decide) (hall ⟨4, .data⟩ (by simp) rfl)
      obtain ⟨g5, e5, r5⟩ := hb.got 5 (by decide) (hall ⟨5, .data⟩ (by simp) rfl)
      have e6 := hb.got 6 (by decide) (hall ⟨6, .data⟩ (by simp) rfl)
      have e7 := hb.got 7 (by decide) (hall ⟨7, .data⟩ (by simp) rfl)
      obtain ⟨m8, e8, r8⟩ := hb.got 8 (by decide) (hall ⟨8, .data⟩ (by simp) rfl)
      change a'.tmps.getD 7 undef = _ at e0
      change a'.tmps.getD 9 undef = _ at e2
      change a'.tmps.getD 10 undef = _ at e3
      change a'.tmps.getD 11 undef = _ at e4
      change a'.tmps.getD 12 undef = _ at e5
      change a'.tmps.getD 13 undef = _ at e6
      change a'.tmps.getD 14 undef = _ at e7
      change a'.tmps.getD 15 undef = _ at e8
      rw [show a'.tmps.getD (dstP 3) undef = _ from e3] at r3
      rw [show a'.tmps.getD (dstP 4) undef = _ from e4] at r4
      rw [show a'.tmps.getD (dstP 5) undef = _ from e5] at r5
      refine .inl ⟨.agg (PK.cells ⟨0, b, m0, .slice (some ⟨g5, 0, none⟩) 0 4, m8, ped⟩ .nilIface (.slice (some ⟨g3, 0, none⟩) 0 4) (.slice (some ⟨g4, 0, none⟩) 0 4)), w', lab', ?_, Mv.refl _ _ _, ⟨0, b, m0, .slice (some ⟨g5, 0, none⟩) 0 4, m8, ped⟩, c, g3, g4, rfl, rfl, r2, r3, r4, r0, r8, r5⟩
      rw [Array.getD_eq_getD_getElem?] at e0 e2 e3 e4 e5 e6 e7 e8
      simp [execOp, Act.eval, go_sem, e0, e2, e3, e4, e5, e6, e7, e8, PK.cells]
    | 10, rfl =>
      obtain ⟨K, c, g3, g4, h0, h1, h2, h3, h4, h5, h6, h7⟩ := hb.got 9 (by decide) (hall ⟨9, .data⟩ (by simp) rfl)
      change a'.tmps.getD 16 undef = _ at h1
      have ma : Mv (fun _ => False) w' lab' (w'.alloc (.cells (K.cells .nilIface (.slice (some ⟨g3, 0, none⟩) 0 4) (.slice (some ⟨g4, 0, none⟩) 0 4)) 79)) (lab'.ext w'.heap.size 2) := Mv.alloc _ _ _ _
      refine .inl ⟨.pointer (some ⟨w'.heap.size, 0, none⟩), w'.alloc (.cells (K.cells .nilIface (.slice (some ⟨g3, 0, none⟩) 0 4) (.slice (some ⟨g4, 0, none⟩) 0 4)) 79), lab'.ext w'.heap.size 2, ?_, ma, { K with p := w'.heap.size }, c, h0, rfl, ⟨.nilIface, .slice (some ⟨g3, 0, none⟩) 0 4, .slice (some ⟨g4, 0, none⟩) 0 4, [], ?_⟩, h5.mv ma (fun h => h), h6.mv ma (fun h => h), h7.mv ma (fun h => h)⟩
      · rw [Array.getD_eq_getD_getElem?] at h1
        simp [execOp, Act.eval, go_sem, h1, PK.cells]
      · exact {
          cl := Cl.alloc _ _ _ _ _
          lx := h2.mv ma (fun h => h)
          cv := h3.mv ma (fun h => h)
          kv := h4.mv ma (fun h => h)
          cs := trivial
          top := .inr rfl
          root := fun v hv => by simp at hv }
    | 11, rfl =>
      have := hb.got 10 (by decide) (hall ⟨10, .data⟩ (by simp) rfl)
      exact .inl ⟨_, _, lab', rfl, Mv.refl _ _ _, this⟩
  · intro a' lab' w' hall hd m
    obtain ⟨K, c, h0, h1, h2⟩ := hall 11 (by decide)
    rename_i hK
    refine hK a' w' (wp_ret (bodyPost_ret (results_tmp rfl _ _ _) hd ⟨K, c, lab', h0, ?_, h2, m⟩))
    rw [show a'.tmps.getD 6 undef = _ from h1]
end
end Go.Cf

/-
  The parser takes the next item.
-/
namespace Go.Cf
open Go.RowKit Go.Conc Go.Proofs
section
variable {B : Nat} {lab lab1 : Lab} {w w1 : World} {K : PK} {X X' : PX}
theorem PAtX.withLx {top cv kv : Value} {vs : List Value} {L' : LX} (h : PAtX B lab w K X top cv kv vs) (hl : Lx B lab1 w1 K.b L') (m : Mv (· = 1) w lab w1 lab1) : PAt B lab1 w1 K { X with L := L' } :=
  ⟨top, cv, kv, vs, h.cl.mv m (by decide), hl, h.cv.mv m (by decide), h.kv.mv m (by decide), h.cs.mv m (by decide) (fun i _ => by omega), h.top, h.root⟩
set_option maxRecDepth 100000 in
set_option maxHeartbeats 1000000 in
theorem next_item_c {n : Nat} {x : It} {q : List It} {L' : LX} (h : PAt B lab w K X) (R : Run n X.L L') (hx : L'.q = x :: q) :
    Calls Tryz.prog 55 #[.pointer (some ⟨K.p, 0, none⟩)] w fun e w' => e = .returned x.v ∧ ∃ lab', PAt B lab' w' K { X with L := L'.took q } ∧ Mv PM w lab w' lab' := by
  have h1 := h.alloc7 Zero98
  have m1 : Mv (fun _ => False) w lab (w.alloc Zero98) (lab.ext w.heap.size 7) := Mv.alloc _ _ _ _
  have hr : Cl 7 (lab.ext w.heap.size 7) (w.alloc Zero98) w.heap.size #[i64 0, .string { data := #[] }, i64 0, i64 0] 98 := Cl.alloc _ _ _ _ _
  obtain ⟨top, cv, kv, vs, hx1⟩ := h1
  have c1 : (w.alloc Zero98).cell? ⟨K.p, 1, none⟩ = some (.pointer (some ⟨K.b, 0, none⟩)) := hx1.cl.cell 1
  have HC := nextItem_c R hx hx1.lx.at
  obtain ⟨W, hW⟩ : ∃ W, W = w.alloc Zero98 := ⟨_, rfl⟩
  have hW2 : w.alloc (Obj.cells #[Value.int IntKind.i64 0, Value.string { data := #[] }, Value.int IntKind.i64 0, Value.int IntKind.i64 0] 98) = W := hW.symm
  rw [← hW] at m1 hr hx1 c1 HC
  clear hW h
  go_enter Tryz.func55, Tryz.ntmps55
  go_wp2_with fail
  refine HC.mono ?_
  rintro e w2 ⟨rfl, hA⟩
  obtain ⟨hl, ml⟩ := Lx.back hA
  have hr2 := hr.mv ml (by decide)
  have hp2 := hx1.withLx hl ml
  have mm := (m1.mono (M' := PM) (fun _ h => h.elim)).trans ml (by rintro x rfl; decide)
  obtain ⟨xt, xv, xl, xp⟩ := x
  have d0 : w2.cell? ⟨w.heap.size, 0, none⟩ = some (.int .i64 0) := hr2.cell 0
  have d1 : w2.cell? ⟨w.heap.size, 1, none⟩ = some (.string { data := #[] }) := hr2.cell 1
  have d2 : w2.cell? ⟨w.heap.size, 2, none⟩ = some (.int .i64 0) := hr2.cell 2
  have d3 : w2.cell? ⟨w.heap.size, 3, none⟩ = some (.int .i64 0) := hr2.cell 3
  have e0 := hr2.free 0
  have e1 := hr2.free 1
  have e2 := hr2.free 2
  have e3 := hr2.free 3
  have hlab := hr2.2
  have m7 : Mv (· = 7) w2 ((lab.ext w.heap.size 7).ext W.heap.size 1) ((((w2.setCell ⟨w.heap.size, 0, none⟩ (i64 xt)).setCell ⟨w.heap.size, 1, none⟩ (.string xv)).setCell ⟨w.heap.size, 2, none⟩ (i64 xl)).setCell ⟨w.heap.size, 3, none⟩ (i64 xp)) ((lab.ext w.heap.size 7).ext W.heap.size 1) :=
    (((Mv.setCell _ _ _ _ hlab).trans (Mv.setCell _ _ _ _ hlab) (fun _ h => h)).trans (Mv.setCell _ _ _ _ hlab) (fun _ h => h)).trans (Mv.setCell _ _ _ _ hlab) (fun _ h => h)
  have hp3 := hp2.mv m7 (fun x hx e => hx e)
  have c13 := blk_setCell (blk_setCell (blk_setCell (blk_setCell hr2.1 0 (i64 xt)) 1 (.string xv)) 2 (i64 xl)) 3 (i64 xp)
  have HC13 := Lib.hid c13
  have HX := Lib.hid hx
  have HL := Lib.hid hlab
  have HM : Mv PM w lab ((((w2.setCell ⟨w.heap.size, 0, none⟩ (i64 xt)).setCell ⟨w.heap.size, 1, none⟩ (.string xv)).setCell ⟨w.heap.size, 2, none⟩ (i64 xl)).setCell ⟨w.heap.size, 3, none⟩ (i64 xp)) ((lab.ext w.heap.size 7).ext W.heap.size 1) := by
    refine ⟨mm.os, mm.tape, mm.output, Nat.le_trans mm.size m7.size, fun k hk hn => ?_, mm.lab⟩
    refine Eq.trans ?_ (mm.block k hk hn)
    have hne : k ≠ w.heap.size := by omega
    rw [Below.heap_setCell _ _ _ _ hne, Below.heap_setCell _ _ _ _ hne, Below.heap_setCell _ _ _ _ hne, Below.heap_setCell _ _ _ _ hne]
  clear c13 hx hlab hr2 hr hp2 m7 hA hl ml hx1 HC
  simp only [It.v]
  go_wp2
  refine bodyPost_ret (results_cell rfl rfl HC13.out Tryz.underlying98 rfl info98) rfl ?_
  exact ⟨rfl, _, hp3, HM⟩
end
end Go.Cf

/-
  processItem: a whole number, perhaps with a size.
-/
namespace Go.Cf
open Go.RowKit Go.Conc Go.Proofs
section
variable {B : Nat} {lab lab1 : Lab} {w w1 : World} {K : PK} {X X' : PX} {M : Nat → Prop}
theorem iter_mv (w : World) (lab : Lab) (s : ByteArray) (k : Nat) : Mv (fun _ => False) w lab (w.iter s k) (lab.ext w.heap.size 7) := Mv.alloc w lab _ 7
/-- The table of spaces lies where it lay. -/
def Tb (lab : Lab) (w : World) : Prop := Lib.TabIs Tryz.prog w "strings.asciiSpace" .u8 Lib.asciiSpaceTab ∧ ∀ g, Tryz.prog.globalNamed "strings.asciiSpace" = some g → lab g = 0
theorem Tb.mv (h : Tb lab w) (m : Mv M w lab w1 lab1) (hM : ¬ M 0) : Tb lab1 w1 := by
  obtain ⟨h1, h2⟩ := h
  unfold Lib.TabIs World.var? at h1
  cases hg : Tryz.prog.globalNamed "strings.asciiSpace" with
  | none => rw [hg] at h1; simp at h1
  | some g =>
    have hl := h2 g hg
    have hlt : g < w.heap.size := by
      rw [hg] at h1
      simp only [Option.bind_some] at h1
      cases hb : w.heap[g]? with
      | none => rw [hb] at h1; simp at h1
      | some o => exact lt_of_block hb
    refine ⟨?_, fun g' hg' => ?_⟩
    · unfold Lib.TabIs World.var?
      rw [hg] at h1 ⊢
      simp only [Option.bind_some] at h1 ⊢
      rw [m.block g hlt (by rw [hl]; exact hM)]
      exact h1
    · rw [hg] at hg'
      cases hg'
      exact (m.lab g hlt (by rw [hl]; exact hM)).trans hl
set_option maxRecDepth 100000 in
set_option maxHeartbeats 4000000 in
theorem item_int_k (h : PAt B lab w K X) (hB : B ≤ w.heap.size) (hped : K.ped = false) (xv : ByteArray) (xl xp : Int) (d : Nat) (hd : d < xv.size) (hsz : xv.size ≤ 1000000)
    (hdig : ∀ i, i < d → isDig (byteAt xv i) = true) (hstop : isDig (byteAt xv d) = false) (hstop2 : byteAt xv d ≠ 45) (hasc : ∀ i, i < xv.size → byteAt xv i < 128) 
    (n : Int) (hpi : ∀ w, Calls Tryz.prog 68 #[.string (xv.extract 0 d), i64 10, i64 64] w fun e w' => e = .returned (.tuple #[.int .i64 n, .nilIface]) ∧ Below w.heap.size w w')
    (sf : ByteArray) (hsf : xv.extract d xv.size = sf) (hsa : ∀ (j : Nat) b, sf.data.toList[j]? = some b → b.toNat < 128) (htrim : Lib.trimSpace sf.data.toList = sf.data.toList) (hlow : Lib.toLowerA sf.data.toList = sf.data.toList) (hsfv : sf = ⟨#[107]⟩) (hb1 : -4611686018427387904 ≤ n * 1000) (hb2 : n * 1000 ≤ 4611686018427387904)
    (htb : Tb lab w) (hs : X.Sets (.int (n * 1000)) X') :
    Calls Tryz.prog 57 #[.pointer (some ⟨K.p, 0, none⟩), .agg #[i64 7, .string xv, i64 xl, i64 xp], .string { data := #[] }] w fun e w' => e = .returned .nilIface ∧ ∃ lab', PAt B lab' w' K X' ∧ Mv PM w lab w' lab' := by
  obtain ⟨lab1, hb, m1⟩ := h.boxed hB 7 xv xl xp
  have HD := Lib.hid hdig
  have HS1 := Lib.hid hstop
  have HS2 := Lib.hid hstop2
  have HA := Lib.hid hasc
  have HT := Lib.hid htrim
  have HL := Lib.hid hlow
  have HF := Lib.hid hsfv
  have HX := Lib.hid hsf
  have HP := Lib.hid hped
  have HAS := Lib.hid hsa
  clear hdig hstop hstop2 hasc htrim hlow hsfv hsf hped hsa
  go_enter Tryz.func57, Tryz.ntmps57
  go_wp2_with fail
  have hWs : (Boxed w K 7 xv xl xp).heap.size = w.heap.size + 1 + 1 + 1 := by unfold Boxed; simp [World.size_alloc]
  have HW := Lib.hid hWs
  clear hWs
  go_loopw [9] (fun i wr => ∃ k : Nat, k ≤ d ∧ i = .int .i64 k ∧ wr = (Boxed w K 7 xv xl xp).iter xv k) (fun i _ => d - (RowKit.intOf i).toNat)
  case atStart => exact ⟨0, Nat.zero_le _, rfl, rfl⟩
  case round =>
    obtain ⟨k, hk, rfl, rfl⟩ := hrel
    have hk2 : k < xv.size := by omega
    have hnx : ∀ ty, (Instr.next (.pointer (some ⟨w.heap.size + 1 + 1 + 1, 0, none⟩)) true ty).run Tryz.prog ((Boxed w K 7 xv xl xp).iter xv k) = .ok (.tuple #[.bool true, .int .i64 k, .int .i32 (byteAt xv k : Nat)]) ((Boxed w K 7 xv xl xp).iter xv (k + 1)) := fun ty => by
      have := run_next_ascii (P := Tryz.prog) (Boxed w K 7 xv xl xp) xv k ty hk2 (by rw [byteAt_get]; exact HA.out k hk2)
      rwa [HW.out, byteAt_get] at this
    have hc := HA.out k hk2
    by_cases hlt : k < d
    · have e1 := HD.out k hlt
      go_wp2_with fail
      refine (isDig_c _ hc _).mono ?_
      rintro e w' ⟨rfl, rfl⟩
      go_wp2
      go_roundw
      case rel => exact ⟨k + 1, by omega, by go_num, rfl⟩
      case measure => simp [RowKit.intOf]; omega
    · obtain rfl : k = d := by omega
      have e1 := HS1.out
      have e2 : (((byteAt xv k : Nat) : Int) == 45) = false := beq_eq_false_iff_ne.2 (by have := HS2.out; omega)
      have e3 : (((byteAt xv k : Nat) : Int) != 45) = true := by rw [bne, e2]; rfl
      go_wp2_with fail
      refine (isDig_c _ hc _).mono ?_
      rintro e w' ⟨rfl, rfl⟩
      have m2 := (iter_mv (Boxed w K 7 xv xl xp) lab1 xv (k + 1))
      have hb2 := hb.mv (hb.pat.mv m2 (fun _ _ h => h)) (m2.mono (fun _ h => h.elim))
      have m2' := m1.trans m2 (fun _ h => h.elim)
      obtain ⟨W, hW⟩ : ∃ W, W = (Boxed w K 7 xv xl xp).iter xv (k + 1) := ⟨_, rfl⟩
      rw [← hW] at hb2 m2 m2' ⊢
      have d1 := hb2.b1.cell 1
      clear hW hb hnx
      go_wp2_with fail
      refine (hpi W).mono ?_
      rintro e w3 ⟨rfl, hbl⟩
      have m3 := Mv.below (M := fun _ => False) hbl (lab1.ext (Boxed w K 7 xv xl xp).heap.size 7) 7
      have hb3 := hb2.mv (hb2.pat.mv m3 (fun _ _ h => h)) (m3.mono (fun _ h => h.elim))
      have m3' := m2'.trans m3 (fun _ h => h.elim)
      have htb3 := htb.mv m3' (by simp [PM])
      have d1 := hb3.b1.cell 1
      have hsl : xv.extract k xv.size = sf := HX.out
      clear hbl m3 hb2 hpi
      go_wp2_with fail
      refine (Tryz.strings_TrimSpace sf w3 (by rw [← hsl]; simp; omega) HAS.out htb3.1).mono ?_
      rintro e w4 ⟨rfl, hw4⟩
      have hbl4 : Below w3.heap.size w3 w4 := by rw [hw4]; exact ⟨rfl, rfl, rfl, by rw [Go.Lib.bytesWorld_size]; omega, fun k hk => Go.Lib.bytesWorld_at_old w3 5 sf k hk⟩
      have m4 := Mv.below (M := fun _ => False) hbl4 ((lab1.ext (Boxed w K 7 xv xl xp).heap.size 7).ext W.heap.size 7) 7
      have hb4 := hb3.mv (hb3.pat.mv m4 (fun _ _ h => h)) (m4.mono (fun _ h => h.elim))
      have m4' := m3'.trans m4 (fun _ h => h.elim)
      rw [HT.out]
      clear hw4 hbl4 m4 hb3 hsl
      go_wp2_with fail
      refine (Tryz.strings_ToLower_ascii ⟨sf.data.toList.toArray⟩ w4 ?_ ?_).mono ?_
      · have := congrArg ByteArray.size HX.out
        simp at this
        show sf.data.toList.toArray.size ≤ _
        simp
        omega
      · simpa using HAS.out
      rintro e w5 ⟨rfl, hbl5⟩
      have m5 := Mv.below (M := fun _ => False) hbl5 (((lab1.ext (Boxed w K 7 xv xl xp).heap.size 7).ext W.heap.size 7).ext w3.heap.size 7) 7
      have hb5 := hb4.mv (hb4.pat.mv m5 (fun _ _ h => h)) (m5.mono (fun _ h => h.elim))
      have m5' := m4'.trans m5 (fun _ h => h.elim)
      have e0 : (⟨(Lib.toLowerA sf.data.toList).toArray⟩ : ByteArray) = ⟨#[107]⟩ := by rw [HL.out, HF.out]
      have d0 := hb5.b0.cell 0
      have d1 := hb5.b1.cell 0
      have d2 := hb5.b1.cell 1
      have d3 := hb5.b1.cell 2
      have d4 := hb5.b1.cell 3
      simp at d0 d1 d2 d3 d4
      simp only [e0]
      clear hbl5 m5 hb4 e0
      go_wp2_with fail
      refine (lay_c hb5.pat hb5.hB HP.out hs 2 _ rfl _ _ hb5.b0 7 xv xl xp).mono ?_
      rintro e w6 ⟨rfl, lab6, h6, m6⟩
      go_wp2
      go_ret
      exact ⟨rfl, lab6, h6, m5'.trans m6 (fun _ h => h)⟩
set_option maxRecDepth 100000 in
set_option maxHeartbeats 4000000 in
theorem item_int_kb (h : PAt B lab w K X) (hB : B ≤ w.heap.size) (hped : K.ped = false) (xv : ByteArray) (xl xp : Int) (d : Nat) (hd : d < xv.size) (hsz : xv.size ≤ 1000000)
    (hdig : ∀ i, i < d → isDig (byteAt xv i) = true) (hstop : isDig (byteAt xv d) = false) (hstop2 : byteAt xv d ≠ 45) (hasc : ∀ i, i < xv.size → byteAt xv i < 128) 
    (n : Int) (hpi : ∀ w, Calls Tryz.prog 68 #[.string (xv.extract 0 d), i64 10, i64 64] w fun e w' => e = .returned (.tuple #[.int .i64 n, .nilIface]) ∧ Below w.heap.size w w')
    (sf : ByteArray) (hsf : xv.extract d xv.size = sf) (hsa : ∀ (j : Nat) b, sf.data.toList[j]? = some b → b.toNat < 128) (htrim : Lib.trimSpace sf.data.toList = sf.data.toList) (hlow : Lib.toLowerA sf.data.toList = sf.data.toList) (hsfv : sf = ⟨#[107, 98]⟩) (hb1 : -4611686018427387904 ≤ n * 1024) (hb2 : n * 1024 ≤ 4611686018427387904)
    (htb : Tb lab w) (hs : X.Sets (.int (n * 1024)) X') :
    Calls Tryz.prog 57 #[.pointer (some ⟨K.p, 0, none⟩), .agg #[i64 7, .string xv, i64 xl, i64 xp], .string { data := #[] }] w fun e w' => e = .returned .nilIface ∧ ∃ lab', PAt B lab' w' K X' ∧ Mv PM w lab w' lab' := by
  obtain ⟨lab1, hb, m1⟩ := h.boxed hB 7 xv xl xp
  have HD := Lib.hid hdig
  have HS1 := Lib.hid hstop
  have HS2 := Lib.hid hstop2
  have HA := Lib.hid hasc
  have HT := Lib.hid htrim
  have HL := Lib.hid hlow
  have HF := Lib.hid hsfv
  have HX := Lib.hid hsf
  have HP := Lib.hid hped
  have HAS := Lib.hid hsa
  clear hdig hstop hstop2 hasc htrim hlow hsfv hsf hped hsa
  go_enter Tryz.func57, Tryz.ntmps57
  go_wp2_with fail
  have hWs : (Boxed w K 7 xv xl xp).heap.size = w.heap.size + 1 + 1 + 1 := by unfold Boxed; simp [World.size_alloc]
  have HW := Lib.hid hWs
  clear hWs
  go_loopw [9] (fun i wr => ∃ k : Nat, k ≤ d ∧ i = .int .i64 k ∧ wr = (Boxed w K 7 xv xl xp).iter xv k) (fun i _ => d - (RowKit.intOf i).toNat)
  case atStart => exact ⟨0, Nat.zero_le _, rfl, rfl⟩
  case round =>
    obtain ⟨k, hk, rfl, rfl⟩ := hrel
    have hk2 : k < xv.size := by omega
    have hnx : ∀ ty, (Instr.next (.pointer (some ⟨w.heap.size + 1 + 1 + 1, 0, none⟩)) true ty).run Tryz.prog ((Boxed w K 7 xv xl xp).iter xv k) = .ok (.tuple #[.bool true, .int .i64 k, .int .i32 (byteAt xv k : Nat)]) ((Boxed w K 7 xv xl xp).iter xv (k + 1)) := fun ty => by
      have := run_next_ascii (P := Tryz.prog) (Boxed w K 7 xv xl xp) xv k ty hk2 (by rw [byteAt_get]; exact HA.out k hk2)
      rwa [HW.out, byteAt_get] at this
    have hc := HA.out k hk2
    by_cases hlt : k < d
    · have e1 := HD.out k hlt
      go_wp2_with fail
      refine (isDig_c _ hc _).mono ?_
      rintro e w' ⟨rfl, rfl⟩
      go_wp2
      go_roundw
      case rel => exact ⟨k + 1, by omega, by go_num, rfl⟩
      case measure => simp [RowKit.intOf]; omega
    · obtain rfl : k = d := by omega
      have e1 := HS1.out
      have e2 : (((byteAt xv k : Nat) : Int) == 45) = false := beq_eq_false_iff_ne.2 (by have := HS2.out; omega)
      have e3 : (((byteAt xv k : Nat) : Int) != 45) = true := by rw [bne, e2]; rfl
      go_wp2_with fail
      refine (isDig_c _ hc _).mono ?_
      rintro e w' ⟨rfl, rfl⟩
      have m2 := (iter_mv (Boxed w K 7 xv xl xp) lab1 xv (k + 1))
      have hb2 := hb.mv (hb.pat.mv m2 (fun _ _ h => h)) (m2.mono (fun _ h => h.elim))
      have m2' := m1.trans m2 (fun _ h => h.elim)
      obtain ⟨W, hW⟩ : ∃ W, W = (Boxed w K 7 xv xl xp).iter xv (k + 1) := ⟨_, rfl⟩
      rw [← hW] at hb2 m2 m2' ⊢
      have d1 := hb2.b1.cell 1
      clear hW hb hnx
      go_wp2_with fail
      refine (hpi W).mono ?_
      rintro e w3 ⟨rfl, hbl⟩
      have m3 := Mv.below (M := fun _ => False) hbl (lab1.ext (Boxed w K 7 xv xl xp).heap.size 7) 7
      have hb3 := hb2.mv (hb2.pat.mv m3 (fun _ _ h => h)) (m3.mono (fun _ h => h.elim))
      have m3' := m2'.trans m3 (fun _ h => h.elim)
      have htb3 := htb.mv m3' (by simp [PM])
      have d1 := hb3.b1.cell 1
      have hsl : xv.extract k xv.size = sf := HX.out
      clear hbl m3 hb2 hpi
      go_wp2_with fail
      refine (Tryz.strings_TrimSpace sf w3 (by rw [← hsl]; simp; omega) HAS.out htb3.1).mono ?_
      rintro e w4 ⟨rfl, hw4⟩
      have hbl4 : Below w3.heap.size w3 w4 := by rw [hw4]; exact ⟨rfl, rfl, rfl, by rw [Go.Lib.bytesWorld_size]; omega, fun k hk => Go.Lib.bytesWorld_at_old w3 5 sf k hk⟩
      have m4 := Mv.below (M := fun _ => False) hbl4 ((lab1.ext (Boxed w K 7 xv xl xp).heap.size 7).ext W.heap.size 7) 7
      have hb4 := hb3.mv (hb3.pat.mv m4 (fun _ _ h => h)) (m4.mono (fun _ h => h.elim))
      have m4' := m3'.trans m4 (fun _ h => h.elim)
      rw [HT.out]
      clear hw4 hbl4 m4 hb3 hsl
      go_wp2_with fail
      refine (Tryz.strings_ToLower_ascii ⟨sf.data.toList.toArray⟩ w4 ?_ ?_).mono ?_
      · have := congrArg ByteArray.size HX.out
        simp at this
        show sf.data.toList.toArray.size ≤ _
        simp
        omega
      · simpa using HAS.out
      rintro e w5 ⟨rfl, hbl5⟩
      have m5 := Mv.below (M := fun _ => False) hbl5 (((lab1.ext (Boxed w K 7 xv xl xp).heap.size 7).ext W.heap.size 7).ext w3.heap.size 7) 7
      have hb5 := hb4.mv (hb4.pat.mv m5 (fun _ _ h => h)) (m5.mono (fun _ h => h.elim))
      have m5' := m4'.trans m5 (fun _ h => h.elim)
      have e0 : (⟨(Lib.toLowerA sf.data.toList).toArray⟩ : ByteArray) = ⟨#[107, 98]⟩ := by rw [HL.out, HF.out]
      have d0 := hb5.b0.cell 0
      have d1 := hb5.b1.cell 0
      have d2 := hb5.b1.cell 1
      have d3 := hb5.b1.cell 2
      have d4 := hb5.b1.cell 3
      simp at d0 d1 d2 d3 d4
      simp only [e0]
      clear hbl5 m5 hb4 e0
      go_wp2_with fail
      refine (lay_c hb5.pat hb5.hB HP.out hs 2 _ rfl _ _ hb5.b0 7 xv xl xp).mono ?_
      rintro e w6 ⟨rfl, lab6, h6, m6⟩
      go_wp2
      go_ret
      exact ⟨rfl, lab6, h6, m5'.trans m6 (fun _ h => h)⟩
set_option maxRecDepth 100000 in
set_option maxHeartbeats 4000000 in
theorem item_int_kib (h : PAt B lab w K X) (hB : B ≤ w.heap.size) (hped : K.ped = false) (xv : ByteArray) (xl xp : Int) (d : Nat) (hd : d < xv.size) (hsz : xv.size ≤ 1000000)
    (hdig : ∀ i, i < d → isDig (byteAt xv i) = true) (hstop : isDig (byteAt xv d) = false) (hstop2 : byteAt xv d ≠ 45) (hasc : ∀ i, i < xv.size → byteAt xv i < 128) 
    (n : Int) (hpi : ∀ w, Calls Tryz.prog 68 #[.string (xv.extract 0 d), i64 10, i64 64] w fun e w' => e = .returned (.tuple #[.int .i64 n, .nilIface]) ∧ Below w.heap.size w w')
    (sf : ByteArray) (hsf : xv.extract d xv.size = sf) (hsa : ∀ (j : Nat) b, sf.data.toList[j]? = some b → b.toNat < 128) (htrim : Lib.trimSpace sf.data.toList = sf.data.toList) (hlow : Lib.toLowerA sf.data.toList = sf.data.toList) (hsfv : sf = ⟨#[107, 105, 98]⟩) (hb1 : -4611686018427387904 ≤ n * 1024) (hb2 : n * 1024 ≤ 4611686018427387904)
    (htb : Tb lab w) (hs : X.Sets (.int (n * 1024)) X') :
    Calls Tryz.prog 57 #[.pointer (some ⟨K.p, 0, none⟩), .agg #[i64 7, .string xv, i64 xl, i64 xp], .string { data := #[] }] w fun e w' => e = .returned .nilIface ∧ ∃ lab', PAt B lab' w' K X' ∧ Mv PM w lab w' lab' := by
  obtain ⟨lab1, hb, m1⟩ := h.boxed hB 7 xv xl xp
  have HD := Lib.hid hdig
  have HS1 := Lib.hid hstop
  have HS2 := Lib.hid hstop2
  have HA := Lib.hid hasc
  have HT := Lib.hid htrim
  have HL := Lib.hid hlow
  have HF := Lib.hid hsfv
  have HX := Lib.hid hsf
  have HP := Lib.hid hped
  have HAS := Lib.hid hsa
  clear hdig hstop hstop2 hasc htrim hlow hsfv hsf hped hsa
  go_enter Tryz.func57, Tryz.ntmps57
  go_wp2_with fail
  have hWs : (Boxed w K 7 xv xl xp).heap.size = w.heap.size + 1 + 1 + 1 := by unfold Boxed; simp [World.size_alloc]
  have HW := Lib.hid hWs
  clear hWs
  go_loopw [9] (fun i wr => ∃ k : Nat, k ≤ d ∧ i = .int .i64 k ∧ wr = (Boxed w K 7 xv xl xp).iter xv k) (fun i _ => d - (RowKit.intOf i).toNat)
  case atStart => exact ⟨0, Nat.zero_le _, rfl, rfl⟩
  case round =>
    obtain ⟨k, hk, rfl, rfl⟩ := hrel
    have hk2 : k < xv.size := by omega
    have hnx : ∀ ty, (Instr.next (.pointer (some ⟨w.heap.size + 1 + 1 + 1, 0, none⟩)) true ty).run Tryz.prog ((Boxed w K 7 xv xl xp).iter xv k) = .ok (.tuple #[.bool true, .int .i64 k, .int .i32 (byteAt xv k : Nat)]) ((Boxed w K 7 xv xl xp).iter xv (k + 1)) := fun ty => by
      have := run_next_ascii (P := Tryz.prog) (Boxed w K 7 xv xl xp) xv k ty hk2 (by rw [byteAt_get]; exact HA.out k hk2)
      rwa [HW.out, byteAt_get] at this
    have hc := HA.out k hk2
    by_cases hlt : k < d
    · have e1 := HD.out k hlt
      go_wp2_with fail
      refine (isDig_c _ hc _).mono ?_
      rintro e w' ⟨rfl, rfl⟩
      go_wp2
      go_roundw
      case rel => exact ⟨k + 1, by omega, by go_num, rfl⟩
      case measure => simp [RowKit.intOf]; omega
    · obtain rfl : k = d := by omega
      have e1 := HS1.out
      have e2 : (((byteAt xv k : Nat) : Int) == 45) = false := beq_eq_false_iff_ne.2 (by have := HS2.out; omega)
      have e3 : (((byteAt xv k : Nat) : Int) != 45) = true := by rw [bne, e2]; rfl
      go_wp2_with fail
      refine (isDig_c _ hc _).mono ?_
      rintro e w' ⟨rfl, rfl⟩
      have m2 := (iter_mv (Boxed w K 7 xv xl xp) lab1 xv (k + 1))
      have hb2 := hb.mv (hb.pat.mv m2 (fun _ _ h => h)) (m2.mono (fun _ h => h.elim))
      have m2' := m1.trans m2 (fun _ h => h.elim)
      obtain ⟨W, hW⟩ : ∃ W, W = (Boxed w K 7 xv xl xp).iter xv (k + 1) := ⟨_, rfl⟩
      rw [← hW] at hb2 m2 m2' ⊢
      have d1 := hb2.b1.cell 1
      clear hW hb hnx
      go_wp2_with fail
      refine (hpi W).mono ?_
      rintro e w3 ⟨rfl, hbl⟩
      have m3 := Mv.below (M := fun _ => False) hbl (lab1.ext (Boxed w K 7 xv xl xp).heap.size 7) 7
      have hb3 := hb2.mv (hb2.pat.mv m3 (fun _ _ h => h)) (m3.mono (fun _ h => h.elim))
      have m3' := m2'.trans m3 (fun _ h => h.elim)
      have htb3 := htb.mv m3' (by simp [PM])
      have d1 := hb3.b1.cell 1
      have hsl : xv.extract k xv.size = sf := HX.out
      clear hbl m3 hb2 hpi
      go_wp2_with fail
      refine (Tryz.strings_TrimSpace sf w3 (by rw [← hsl]; simp; omega) HAS.out htb3.1).mono ?_
      rintro e w4 ⟨rfl, hw4⟩
      have hbl4 : Below w3.heap.size w3 w4 := by rw [hw4]; exact ⟨rfl, rfl, rfl, by rw [Go.Lib.bytesWorld_size]; omega, fun k hk => Go.Lib.bytesWorld_at_old w3 5 sf k hk⟩
      have m4 := Mv.below (M := fun _ => False) hbl4 ((lab1.ext (Boxed w K 7 xv xl xp).heap.size 7).ext W.heap.size 7) 7
      have hb4 := hb3.mv (hb3.pat.mv m4 (fun _ _ h => h)) (m4.mono (fun _ h => h.elim))
      have m4' := m3'.trans m4 (fun _ h => h.elim)
      rw [HT.out]
      clear hw4 hbl4 m4 hb3 hsl
      go_wp2_with fail
      refine (Tryz.strings_ToLower_ascii ⟨sf.data.toList.toArray⟩ w4 ?_ ?_).mono ?_
      · have := congrArg ByteArray.size HX.out
        simp at this
        show sf.data.toList.toArray.size ≤ _
        simp
        omega
      · simpa using HAS.out
      rintro e w5 ⟨rfl, hbl5⟩
      have m5 := Mv.below (M := fun _ => False) hbl5 (((lab1.ext (Boxed w K 7 xv xl xp).heap.size 7).ext W.heap.size 7).ext w3.heap.size 7) 7
      have hb5 := hb4.mv (hb4.pat.mv m5 (fun _ _ h => h)) (m5.mono (fun _ h => h.elim))
      have m5' := m4'.trans m5 (fun _ h => h.elim)
      have e0 : (⟨(Lib.toLowerA sf.data.toList).toArray⟩ : ByteArray) = ⟨#[107, 105, 98]⟩ := by rw [HL.out, HF.out]
      have d0 := hb5.b0.cell 0
      have d1 := hb5.b1.cell 0
      have d2 := hb5.b1.cell 1
      have d3 := hb5.b1.cell 2
      have d4 := hb5.b1.cell 3
      simp at d0 d1 d2 d3 d4
      simp only [e0]
      clear hbl5 m5 hb4 e0
      go_wp2_with fail
      refine (lay_c hb5.pat hb5.hB HP.out hs 2 _ rfl _ _ hb5.b0 7 xv xl xp).mono ?_
      rintro e w6 ⟨rfl, lab6, h6, m6⟩
      go_wp2
      go_ret
      exact ⟨rfl, lab6, h6, m5'.trans m6 (fun _ h => h)⟩
set_option maxRecDepth 100000 in
set_option maxHeartbeats 4000000 in
theorem item_int_ki (h : PAt B lab w K X) (hB : B ≤ w.heap.size) (hped : K.ped = false) (xv : ByteArray) (xl xp : Int) (d : Nat) (hd : d < xv.size) (hsz : xv.size ≤ 1000000)
    (hdig : ∀ i, i < d → isDig (byteAt xv i) = true) (hstop : isDig (byteAt xv d) = false) (hstop2 : byteAt xv d ≠ 45) (hasc : ∀ i, i < xv.size → byteAt xv i < 128) 
    (n : Int) (hpi : ∀ w, Calls Tryz.prog 68 #[.string (xv.extract 0 d), i64 10, i64 64] w fun e w' => e = .returned (.tuple #[.int .i64 n, .nilIface]) ∧ Below w.heap.size w w')
    (sf : ByteArray) (hsf : xv.extract d xv.size = sf) (hsa : ∀ (j : Nat) b, sf.data.toList[j]? = some b → b.toNat < 128) (htrim : Lib.trimSpace sf.data.toList = sf.data.toList) (hlow : Lib.toLowerA sf.data.toList = sf.data.toList) (hsfv : sf = ⟨#[107, 105]⟩) (hb1 : -4611686018427387904 ≤ n * 1024) (hb2 : n * 1024 ≤ 4611686018427387904)
    (htb : Tb lab w) (hs : X.Sets (.int (n * 1024)) X') :
    Calls Tryz.prog 57 #[.pointer (some ⟨K.p, 0, none⟩), .agg #[i64 7, .string xv, i64 xl, i64 xp], .string { data := #[] }] w fun e w' => e = .returned .nilIface ∧ ∃ lab', PAt B lab' w' K X' ∧ Mv PM w lab w' lab' := by
  obtain ⟨lab1, hb, m1⟩ := h.boxed hB 7 xv xl xp
  have HD := Lib.hid hdig
  have HS1 := Lib.hid hstop
  have HS2 := Lib.hid hstop2
  have HA := Lib.hid hasc
  have HT := Lib.hid htrim
  have HL := Lib.hid hlow
  have HF := Lib.hid hsfv
  have HX := Lib.hid hsf
  have HP := Lib.hid hped
  have HAS := Lib.hid hsa
  clear hdig hstop hstop2 hasc htrim hlow hsfv hsf hped hsa
  go_enter Tryz.func57, Tryz.ntmps57
  go_wp2_with fail
  have hWs : (Boxed w K 7 xv xl xp).heap.size = w.heap.size + 1 + 1 + 1 := by unfold Boxed; simp [World.size_alloc]
  have HW := Lib.hid hWs
  clear hWs
  go_loopw [9] (fun i wr => ∃ k : Nat, k ≤ d ∧ i = .int .i64 k ∧ wr = (Boxed w K 7 xv xl xp).iter xv k) (fun i _ => d - (RowKit.intOf i).toNat)
  case atStart => exact ⟨0, Nat.zero_le _, rfl, rfl⟩
  case round =>
    obtain ⟨k, hk, rfl, rfl⟩ := hrel
    have hk2 : k < xv.size := by omega
    have hnx : ∀ ty, (Instr.next (.pointer (some ⟨w.heap.size + 1 + 1 + 1, 0, none⟩)) true ty).run Tryz.prog ((Boxed w K 7 xv xl xp).iter xv k) = .ok (.tuple #[.bool true, .int .i64 k, .int .i32 (byteAt xv k : Nat)]) ((Boxed w K 7 xv xl xp).iter xv (k + 1)) := fun ty => by
      have := run_next_ascii (P := Tryz.prog) (Boxed w K 7 xv xl xp) xv k ty hk2 (by rw [byteAt_get]; exact HA.out k hk2)
      rwa [HW.out, byteAt_get] at this
    have hc := HA.out k hk2
    by_cases hlt : k < d
    · have e1 := HD.out k hlt
      go_wp2_with fail
      refine (isDig_c _ hc _).mono ?_
      rintro e w' ⟨rfl, rfl⟩
      go_wp2
      go_roundw
      case rel => exact ⟨k + 1, by omega, by go_num, rfl⟩
      case measure => simp [RowKit.intOf]; omega
    · obtain rfl : k = d := by omega
      have e1 := HS1.out
      have e2 : (((byteAt xv k : Nat) : Int) == 45) = false := beq_eq_false_iff_ne.2 (by have := HS2.out; omega)
      have e3 : (((byteAt xv k : Nat) : Int) != 45) = true := by rw [bne, e2]; rfl
      go_wp2_with fail
      refine (isDig_c _ hc _).mono ?_
      rintro e w' ⟨rfl, rfl⟩
      have m2 := (iter_mv (Boxed w K 7 xv xl xp) lab1 xv (k + 1))
      have hb2 := hb.mv (hb.pat.mv m2 (fun _ _ h => h)) (m2.mono (fun _ h => h.elim))
      have m2' := m1.trans m2 (fun _ h => h.elim)
      obtain ⟨W, hW⟩ : ∃ W, W = (Boxed w K 7 xv xl xp).iter xv (k + 1) := ⟨_, rfl⟩
      rw [← hW] at hb2 m2 m2' ⊢
      have d1 := hb2.b1.cell 1
      clear hW hb hnx
      go_wp2_with fail
      refine (hpi W).mono ?_
      rintro e w3 ⟨rfl, hbl⟩
      have m3 := Mv.below (M := fun _ => False) hbl (lab1.ext (Boxed w K 7 xv xl xp).heap.size 7) 7
      have hb3 := hb2.mv (hb2.pat.mv m3 (fun _ _ h => h)) (m3.mono (fun _ h => h.elim))
      have m3' := m2'.trans m3 (fun _ h => h.elim)
      have htb3 := htb.mv m3' (by simp [PM])
      have d1 := hb3.b1.cell 1
      have hsl : xv.extract k xv.size = sf := HX.out
      clear hbl m3 hb2 hpi
      go_wp2_with fail
      refine (Tryz.strings_TrimSpace sf w3 (by rw [← hsl]; simp; omega) HAS.out htb3.1).mono ?_
      rintro e w4 ⟨rfl, hw4⟩
      have hbl4 : Below w3.heap.size w3 w4 := by rw [hw4]; exact ⟨rfl, rfl, rfl, by rw [Go.Lib.bytesWorld_size]; omega, fun k hk => Go.Lib.bytesWorld_at_old w3 5 sf k hk⟩
      have m4 := Mv.below (M := fun _ => False) hbl4 ((lab1.ext (Boxed w K 7 xv xl xp).heap.size 7).ext W.heap.size 7) 7
      have hb4 := hb3.mv (hb3.pat.mv m4 (fun _ _ h => h)) (m4.mono (fun _ h => h.elim))
      have m4' := m3'.trans m4 (fun _ h => h.elim)
      rw [HT.out]
      clear hw4 hbl4 m4 hb3 hsl
      go_wp2_with fail
      refine (Tryz.strings_ToLower_ascii ⟨sf.data.toList.toArray⟩ w4 ?_ ?_).mono ?_
      · have := congrArg ByteArray.size HX.out
        simp at this
        show sf.data.toList.toArray.size ≤ _
        simp
        omega
      · simpa using HAS.out
      rintro e w5 ⟨rfl, hbl5⟩
      have m5 := Mv.below (M := fun _ => False) hbl5 (((lab1.ext (Boxed w K 7 xv xl xp).heap.size 7).ext W.heap.size 7).ext w3.heap.size 7) 7
      have hb5 := hb4.mv (hb4.pat.mv m5 (fun _ _ h => h)) (m5.mono (fun _ h => h.elim))
      have m5' := m4'.trans m5 (fun _ h => h.elim)
      have e0 : (⟨(Lib.toLowerA sf.data.toList).toArray⟩ : ByteArray) = ⟨#[107, 105]⟩ := by rw [HL.out, HF.out]
      have d0 := hb5.b0.cell 0
      have d1 := hb5.b1.cell 0
      have d2 := hb5.b1.cell 1
      have d3 := hb5.b1.cell 2
      have d4 := hb5.b1.cell 3
      simp at d0 d1 d2 d3 d4
      simp only [e0]
      clear hbl5 m5 hb4 e0
      go_wp2_with fail
      refine (lay_c hb5.pat hb5.hB HP.out hs 2 _ rfl _ _ hb5.b0 7 xv xl xp).mono ?_
      rintro e w6 ⟨rfl, lab6, h6, m6⟩
      go_wp2
      go_ret
      exact ⟨rfl, lab6, h6, m5'.trans m6 (fun _ h => h)⟩
set_option maxRecDepth 100000 in
set_option maxHeartbeats 4000000 in
theorem item_int_m (h : PAt B lab w K X) (hB : B ≤ w.heap.size) (hped : K.ped = false) (xv : ByteArray) (xl xp : Int) (d : Nat) (hd : d < xv.size) (hsz : xv.size ≤ 1000000)
    (hdig : ∀ i, i < d → isDig (byteAt xv i) = true) (hstop : isDig (byteAt xv d) = false) (hstop2 : byteAt xv d ≠ 45) (hasc : ∀ i, i < xv.size → byteAt xv i < 128) 
    (n : Int) (hpi : ∀ w, Calls Tryz.prog 68 #[.string (xv.extract 0 d), i64 10, i64 64] w fun e w' => e = .returned (.tuple #[.int .i64 n, .nilIface]) ∧ Below w.heap.size w w')
    (sf : ByteArray) (hsf : xv.extract d xv.size = sf) (hsa : ∀ (j : Nat) b, sf.data.toList[j]? = some b → b.toNat < 128) (htrim : Lib.trimSpace sf.data.toList = sf.data.toList) (hlow : Lib.toLowerA sf.data.toList = sf.data.toList) (hsfv : sf = ⟨#[109]⟩) (hb1 : -4611686018427387904 ≤ n * 1000 * 1000) (hb2 : n * 1000 * 1000 ≤ 4611686018427387904)
    (htb : Tb lab w) (hs : X.Sets (.int (n * 1000 * 1000)) X') :
    Calls Tryz.prog 57 #[.pointer (some ⟨K.p, 0, none⟩), .agg #[i64 7, .string xv, i64 xl, i64 xp], .string { data := #[] }] w fun e w' => e = .returned .nilIface ∧ ∃ lab', PAt B lab' w' K X' ∧ Mv PM w lab w' lab' := by
  obtain ⟨lab1, hb, m1⟩ := h.boxed hB 7 xv xl xp
  have HD := Lib.hid hdig
  have HS1 := Lib.hid hstop
  have HS2 := Lib.hid hstop2
  have HA := Lib.hid hasc
  have HT := Lib.hid htrim
  have HL := Lib.hid hlow
  have HF := Lib.hid hsfv
  have HX := Lib.hid hsf
  have HP := Lib.hid hped
  have HAS := Lib.hid hsa
  clear hdig hstop hstop2 hasc htrim hlow hsfv hsf hped hsa
  go_enter Tryz.func57, Tryz.ntmps57
  go_wp2_with fail
  have hWs : (Boxed w K 7 xv xl xp).heap.size = w.heap.size + 1 + 1 + 1 := by unfold Boxed; simp [World.size_alloc]
  have HW := Lib.hid hWs
  clear hWs
  go_loopw [9] (fun i wr => ∃ k : Nat, k ≤ d ∧ i = .int .i64 k ∧ wr = (Boxed w K 7 xv xl xp).iter xv k) (fun i _ => d - (RowKit.intOf i).toNat)
  case atStart => exact ⟨0, Nat.zero_le _, rfl, rfl⟩
  case round =>
    obtain ⟨k, hk, rfl, rfl⟩ := hrel
    have hk2 : k < xv.size := by omega
    have hnx : ∀ ty, (Instr.next (.pointer (some ⟨w.heap.size + 1 + 1 + 1, 0, none⟩)) true ty).run Tryz.prog ((Boxed w K 7 xv xl xp).iter xv k) = .ok (.tuple #[.bool true, .int .i64 k, .int .i32 (byteAt xv k : Nat)]) ((Boxed w K 7 xv xl xp).iter xv (k + 1)) := fun ty => by
      have := run_next_ascii (P := Tryz.prog) (Boxed w K 7 xv xl xp) xv k ty hk2 (by rw [byteAt_get]; exact HA.out k hk2)
      rwa [HW.out, byteAt_get] at this
    have hc := HA.out k hk2
    by_cases hlt : k < d
    · have e1 := HD.out k hlt
      go_wp2_with fail
      refine (isDig_c _ hc _).mono ?_
      rintro e w' ⟨rfl, rfl⟩
      go_wp2
      go_roundw
      case rel => exact ⟨k + 1, by omega, by go_num, rfl⟩
      case measure => simp [RowKit.intOf]; omega
    · obtain rfl : k = d := by omega
      have e1 := HS1.out
      have e2 : (((byteAt xv k : Nat) : Int) == 45) = false := beq_eq_false_iff_ne.2 (by have := HS2.out; omega)
      have e3 : (((byteAt xv k : Nat) : Int) != 45) = true := by rw [bne, e2]; rfl
      go_wp2_with fail
      refine (isDig_c _ hc _).mono ?_
      rintro e w' ⟨rfl, rfl⟩
      have m2 := (iter_mv (Boxed w K 7 xv xl xp) lab1 xv (k + 1))
      have hb2 := hb.mv (hb.pat.mv m2 (fun _ _ h => h)) (m2.mono (fun _ h => h.elim))
      have m2' := m1.trans m2 (fun _ h => h.elim)
      obtain ⟨W, hW⟩ : ∃ W, W = (Boxed w K 7 xv xl xp).iter xv (k + 1) := ⟨_, rfl⟩
      rw [← hW] at hb2 m2 m2' ⊢
      have d1 := hb2.b1.cell 1
      clear hW hb hnx
      go_wp2_with fail
      refine (hpi W).mono ?_
      rintro e w3 ⟨rfl, hbl⟩
      have m3 := Mv.below (M := fun _ => False) hbl (lab1.ext (Boxed w K 7 xv xl xp).heap.size 7) 7
      have hb3 := hb2.mv (hb2.pat.mv m3 (fun _ _ h => h)) (m3.mono (fun _ h => h.elim))
      have m3' := m2'.trans m3 (fun _ h => h.elim)
      have htb3 := htb.mv m3' (by simp [PM])
      have d1 := hb3.b1.cell 1
      have hsl : xv.extract k xv.size = sf := HX.out
      clear hbl m3 hb2 hpi
      go_wp2_with fail
      refine (Tryz.strings_TrimSpace sf w3 (by rw [← hsl]; simp; omega) HAS.out htb3.1).mono ?_
      rintro e w4 ⟨rfl, hw4⟩
      have hbl4 : Below w3.heap.size w3 w4 := by rw [hw4]; exact ⟨rfl, rfl, rfl, by rw [Go.Lib.bytesWorld_size]; omega, fun k hk => Go.Lib.bytesWorld_at_old w3 5 sf k hk⟩
      have m4 := Mv.below (M := fun _ => False) hbl4 ((lab1.ext (Boxed w K 7 xv xl xp).heap.size 7).ext W.heap.size 7) 7
      have hb4 := hb3.mv (hb3.pat.mv m4 (fun _ _ h => h)) (m4.mono (fun _ h => h.elim))
      have m4' := m3'.trans m4 (fun _ h => h.elim)
      rw [HT.out]
      clear hw4 hbl4 m4 hb3 hsl
      go_wp2_with fail
      refine (Tryz.strings_ToLower_ascii ⟨sf.data.toList.toArray⟩ w4 ?_ ?_).mono ?_
      · have := congrArg ByteArray.size HX.out
        simp at this
        show sf.data.toList.toArray.size ≤ _
        simp
        omega
      · simpa using HAS.out
      rintro e w5 ⟨rfl, hbl5⟩
      have m5 := Mv.below (M := fun _ => False) hbl5 (((lab1.ext (Boxed w K 7 xv xl xp).heap.size 7).ext W.heap.size 7).ext w3.heap.size 7) 7
      have hb5 := hb4.mv (hb4.pat.mv m5 (fun _ _ h => h)) (m5.mono (fun _ h => h.elim))
      have m5' := m4'.trans m5 (fun _ h => h.elim)
      have e0 : (⟨(Lib.toLowerA sf.data.toList).toArray⟩ : ByteArray) = ⟨#[109]⟩ := by rw [HL.out, HF.out]
      have d0 := hb5.b0.cell 0
      have d1 := hb5.b1.cell 0
      have d2 := hb5.b1.cell 1
      have d3 := hb5.b1.cell 2
      have d4 := hb5.b1.cell 3
      simp at d0 d1 d2 d3 d4
      simp only [e0]
      clear hbl5 m5 hb4 e0
      go_wp2_with fail
      refine (lay_c hb5.pat hb5.hB HP.out hs 2 _ rfl _ _ hb5.b0 7 xv xl xp).mono ?_
      rintro e w6 ⟨rfl, lab6, h6, m6⟩
      go_wp2
      go_ret
      exact ⟨rfl, lab6, h6, m5'.trans m6 (fun _ h => h)⟩
set_option maxRecDepth 100000 in
set_option maxHeartbeats 4000000 in
theorem item_int_mb (h : PAt B lab w K X) (hB : B ≤ w.heap.size) (hped : K.ped = false) (xv : ByteArray) (xl xp : Int) (d : Nat) (hd : d < xv.size) (hsz : xv.size ≤ 1000000)
    (hdig : ∀ i, i < d → isDig (byteAt xv i) = true) (hstop : isDig (byteAt xv d) = false) (hstop2 : byteAt xv d ≠ 45) (hasc : ∀ i, i < xv.size → byteAt xv i < 128) 
    (n : Int) (hpi : ∀ w, Calls Tryz.prog 68 #[.string (xv.extract 0 d), i64 10, i64 64] w fun e w' => e = .returned (.tuple #[.int .i64 n, .nilIface]) ∧ Below w.heap.size w w')
    (sf : ByteArray) (hsf : xv.extract d xv.size = sf) (hsa : ∀ (j : Nat) b, sf.data.toList[j]? = some b → b.toNat < 128) (htrim : Lib.trimSpace sf.data.toList = sf.data.toList) (hlow : Lib.toLowerA sf.data.toList = sf.data.toList) (hsfv : sf = ⟨#[109, 98]⟩) (hb1 : -4611686018427387904 ≤ n * 1024 * 1024) (hb2 : n * 1024 * 1024 ≤ 4611686018427387904)
    (htb : Tb lab w) (hs : X.Sets (.int (n * 1024 * 1024)) X') :
    Calls Tryz.prog 57 #[.pointer (some ⟨K.p, 0, none⟩), .agg #[i64 7, .string xv, i64 xl, i64 xp], .string { data := #[] }] w fun e w' => e = .returned .nilIface ∧ ∃ lab', PAt B lab' w' K X' ∧ Mv PM w lab w' lab' := by
  obtain ⟨lab1, hb, m1⟩ := h.boxed hB 7 xv xl xp
  have HD := Lib.hid hdig
  have HS1 := Lib.hid hstop
  have HS2 := Lib.hid hstop2
  have HA := Lib.hid hasc
  have HT := Lib.hid htrim
  have HL := Lib.hid hlow
  have HF := Lib.hid hsfv
  have HX := Lib.hid hsf
  have HP := Lib.hid hped
  have HAS := Lib.hid hsa
  clear hdig hstop hstop2 hasc htrim hlow hsfv hsf hped hsa
  go_enter Tryz.func57, Tryz.ntmps57
  go_wp2_with fail
  have hWs : (Boxed w K 7 xv xl xp).heap.size = w.heap.size + 1 + 1 + 1 := by unfold Boxed; simp [World.size_alloc]
  have HW := Lib.hid hWs
  clear hWs
  go_loopw [9] (fun i wr => ∃ k : Nat, k ≤ d ∧ i = .int .i64 k ∧ wr = (Boxed w K 7 xv xl xp).iter xv k) (fun i _ => d - (RowKit.intOf i).toNat)
  case atStart => exact ⟨0, Nat.zero_le _, rfl, rfl⟩
  case round =>
    obtain ⟨k, hk, rfl, rfl⟩ := hrel
    have hk2 : k < xv.size := by omega
    have hnx : ∀ ty, (Instr.next (.pointer (some ⟨w.heap.size + 1 + 1 + 1, 0, none⟩)) true ty).run Tryz.prog ((Boxed w K 7 xv xl xp).iter xv k) = .ok (.tuple #[.bool true, .int .i64 k, .int .i32 (byteAt xv k : Nat)]) ((Boxed w K 7 xv xl xp).iter xv (k + 1)) := fun ty => by
      have := run_next_ascii (P := Tryz.prog) (Boxed w K 7 xv xl xp) xv k ty hk2 (by rw [byteAt_get]; exact HA.out k hk2)
      rwa [HW.out, byteAt_get] at this
    have hc := HA.out k hk2
    by_cases hlt : k < d
    · have e1 := HD.out k hlt
      go_wp2_with fail
      refine (isDig_c _ hc _).mono ?_
      rintro e w' ⟨rfl, rfl⟩
      go_wp2
      go_roundw
      case rel => exact ⟨k + 1, by omega, by go_num, rfl⟩
      case measure => simp [RowKit.intOf]; omega
    · obtain rfl : k = d := by omega
      have e1 := HS1.out
      have e2 : (((byteAt xv k : Nat) : Int) == 45) = false := beq_eq_false_iff_ne.2 (by have := HS2.out; omega)
      have e3 : (((byteAt xv k : Nat) : Int) != 45) = true := by rw [bne, e2]; rfl
      go_wp2_with fail
      refine (isDig_c _ hc _).mono ?_
      rintro e w' ⟨rfl, rfl⟩
      have m2 := (iter_mv (Boxed w K 7 xv xl xp) lab1 xv (k + 1))
      have hb2 := hb.mv (hb.pat.mv m2 (fun _ _ h => h)) (m2.mono (fun _ h => h.elim))
      have m2' := m1.trans m2 (fun _ h => h.elim)
      obtain ⟨W, hW⟩ : ∃ W, W = (Boxed w K 7 xv xl xp).iter xv (k + 1) := ⟨_, rfl⟩
      rw [← hW] at hb2 m2 m2' ⊢
      have d1 := hb2.b1.cell 1
      clear hW hb hnx
      go_wp2_with fail
      refine (hpi W).mono ?_
      rintro e w3 ⟨rfl, hbl⟩
      have m3 := Mv.below (M := fun _ => False) hbl (lab1.ext (Boxed w K 7 xv xl xp).heap.size 7) 7
      have hb3 := hb2.mv (hb2.pat.mv m3 (fun _ _ h => h)) (m3.mono (fun _ h => h.elim))
      have m3' := m2'.trans m3 (fun _ h => h.elim)
      have htb3 := htb.mv m3' (by simp [PM])
      have d1 := hb3.b1.cell 1
      have hsl : xv.extract k xv.size = sf := HX.out
      clear hbl m3 hb2 hpi
      go_wp2_with fail
      refine (Tryz.strings_TrimSpace sf w3 (by rw [← hsl]; simp; omega) HAS.out htb3.1).mono ?_
      rintro e w4 ⟨rfl, hw4⟩
      have hbl4 : Below w3.heap.size w3 w4 := by rw [hw4]; exact ⟨rfl, rfl, rfl, by rw [Go.Lib.bytesWorld_size]; omega, fun k hk => Go.Lib.bytesWorld_at_old w3 5 sf k hk⟩
      have m4 := Mv.below (M := fun _ => False) hbl4 ((lab1.ext (Boxed w K 7 xv xl xp).heap.size 7).ext W.heap.size 7) 7
      have hb4 := hb3.mv (hb3.pat.mv m4 (fun _ _ h => h)) (m4.mono (fun _ h => h.elim))
      have m4' := m3'.trans m4 (fun _ h => h.elim)
      rw [HT.out]
      clear hw4 hbl4 m4 hb3 hsl
      go_wp2_with fail
      refine (Tryz.strings_ToLower_ascii ⟨sf.data.toList.toArray⟩ w4 ?_ ?_).mono ?_
      · have := congrArg ByteArray.size HX.out
        simp at this
        show sf.data.toList.toArray.size ≤ _
        simp
        omega
      · simpa using HAS.out
      rintro e w5 ⟨rfl, hbl5⟩
      have m5 := Mv.below (M := fun _ => False) hbl5 (((lab1.ext (Boxed w K 7 xv xl xp).heap.size 7).ext W.heap.size 7).ext w3.heap.size 7) 7
      have hb5 := hb4.mv (hb4.pat.mv m5 (fun _ _ h => h)) (m5.mono (fun _ h => h.elim))
      have m5' := m4'.trans m5 (fun _ h => h.elim)
      have e0 : (⟨(Lib.toLowerA sf.data.toList).toArray⟩ : ByteArray) = ⟨#[109, 98]⟩ := by rw [HL.out, HF.out]
      have d0 := hb5.b0.cell 0
      have d1 := hb5.b1.cell 0
      have d2 := hb5.b1.cell 1
      have d3 := hb5.b1.cell 2
      have d4 := hb5.b1.cell 3
      simp at d0 d1 d2 d3 d4
      simp only [e0]
      clear hbl5 m5 hb4 e0
      go_wp2_with fail
      refine (lay_c hb5.pat hb5.hB HP.out hs 2 _ rfl _ _ hb5.b0 7 xv xl xp).mono ?_
      rintro e w6 ⟨rfl, lab6, h6, m6⟩
      go_wp2
      go_ret
      exact ⟨rfl, lab6, h6, m5'.trans m6 (fun _ h => h)⟩
set_option maxRecDepth 100000 in
set_option maxHeartbeats 4000000 in
theorem item_int_mib (h : PAt B lab w K X) (hB : B ≤ w.heap.size) (hped : K.ped = false) (xv : ByteArray) (xl xp : Int) (d : Nat) (hd : d < xv.size) (hsz : xv.size ≤ 1000000)
    (hdig : ∀ i, i < d → isDig (byteAt xv i) = true) (hstop : isDig (byteAt xv d) = false) (hstop2 : byteAt xv d ≠ 45) (hasc : ∀ i, i < xv.size → byteAt xv i < 128) 
    (n : Int) (hpi : ∀ w, Calls Tryz.prog 68 #[.string (xv.extract 0 d), i64 10, i64 64] w fun e w' => e = .returned (.tuple #[.int .i64 n, .nilIface]) ∧ Below w.heap.size w w')
    (sf : ByteArray) (hsf : xv.extract d xv.size = sf) (hsa : ∀ (j : Nat) b, sf.data.toList[j]? = some b → b.toNat < 128) (htrim : Lib.trimSpace sf.data.toList = sf.data.toList) (hlow : Lib.toLowerA sf.data.toList = sf.data.toList) (hsfv : sf = ⟨#[109, 105, 98]⟩) (hb1 : -4611686018427387904 ≤ n * 1024 * 1024) (hb2 : n * 1024 * 1024 ≤ 4611686018427387904)
    (htb : Tb lab w) (hs : X.Sets (.int (n * 1024 * 1024)) X') :
    Calls Tryz.prog 57 #[.pointer (some ⟨K.p, 0, none⟩), .agg #[i64 7, .string xv, i64 xl, i64 xp], .string { data := #[] }] w fun e w' => e = .returned .nilIface ∧ ∃ lab', PAt B lab' w' K X' ∧ Mv PM w lab w' lab' := by
  obtain ⟨lab1, hb, m1⟩ := h.boxed hB 7 xv xl xp
  have HD := Lib.hid hdig
  have HS1 := Lib.hid hstop
  have HS2 := Lib.hid hstop2
  have HA := Lib.hid hasc
  have HT := Lib.hid htrim
  have HL := Lib.hid hlow
  have HF := Lib.hid hsfv
  have HX := Lib.hid hsf
  have HP := Lib.hid hped
  have HAS := Lib.hid hsa
  clear hdig hstop hstop2 hasc htrim hlow hsfv hsf hped hsa
  go_enter Tryz.func57, Tryz.ntmps57
  go_wp2_with fail
  have hWs : (Boxed w K 7 xv xl xp).heap.size = w.heap.size + 1 + 1 + 1 := by unfold Boxed; simp [World.size_alloc]
  have HW := Lib.hid hWs
  clear hWs
  go_loopw [9] (fun i wr => ∃ k : Nat, k ≤ d ∧ i = .int .i64 k ∧ wr = (Boxed w K 7 xv xl xp).iter xv k) (fun i _ => d - (RowKit.intOf i).toNat)
  case atStart => exact ⟨0, Nat.zero_le _, rfl, rfl⟩
  case round =>
    obtain ⟨k, hk, rfl, rfl⟩ := hrel
    have hk2 : k < xv.size := by omega
    have hnx : ∀ ty, (Instr.next (.pointer (some ⟨w.heap.size + 1 + 1 + 1, 0, none⟩)) true ty).run Tryz.prog ((Boxed w K 7 xv xl xp).iter xv k) = .ok (.tuple #[.bool true, .int .i64 k, .int .i32 (byteAt xv k : Nat)]) ((Boxed w K 7 xv xl xp).iter xv (k + 1)) := fun ty => by
      have := run_next_ascii (P := Tryz.prog) (Boxed w K 7 xv xl xp) xv k ty hk2 (by rw [byteAt_get]; exact HA.out k hk2)
      rwa [HW.out, byteAt_get] at this
    have hc := HA.out k hk2
    by_cases hlt : k < d
    · have e1 := HD.out k hlt
      go_wp2_with fail
      refine (isDig_c _ hc _).mono ?_
      rintro e w' ⟨rfl, rfl⟩
      go_wp2
      go_roundw
      case rel => exact ⟨k + 1, by omega, by go_num, rfl⟩
      case measure => simp [RowKit.intOf]; omega
    · obtain rfl : k = d := by omega
      have e1 := HS1.out
      have e2 : (((byteAt xv k : Nat) : Int) == 45) = false := beq_eq_false_iff_ne.2 (by have := HS2.out; omega)
      have e3 : (((byteAt xv k : Nat) : Int) != 45) = true := by rw [bne, e2]; rfl
      go_wp2_with fail
      refine (isDig_c _ hc _).mono ?_
      rintro e w' ⟨rfl, rfl⟩
      have m2 := (iter_mv (Boxed w K 7 xv xl xp) lab1 xv (k + 1))
      have hb2 := hb.mv (hb.pat.mv m2 (fun _ _ h => h)) (m2.mono (fun _ h => h.elim))
      have m2' := m1.trans m2 (fun _ h => h.elim)
      obtain ⟨W, hW⟩ : ∃ W, W = (Boxed w K 7 xv xl xp).iter xv (k + 1) := ⟨_, rfl⟩
      rw [← hW] at hb2 m2 m2' ⊢
      have d1 := hb2.b1.cell 1
      clear hW hb hnx
      go_wp2_with fail
      refine (hpi W).mono ?_
      rintro e w3 ⟨rfl, hbl⟩
      have m3 := Mv.below (M := fun _ => False) hbl (lab1.ext (Boxed w K 7 xv xl xp).heap.size 7) 7
      have hb3 := hb2.mv (hb2.pat.mv m3 (fun _ _ h => h)) (m3.mono (fun _ h => h.elim))
      have m3' := m2'.trans m3 (fun _ h => h.elim)
      have htb3 := htb.mv m3' (by simp [PM])
      have d1 := hb3.b1.cell 1
      have hsl : xv.extract k xv.size = sf := HX.out
      clear hbl m3 hb2 hpi
      go_wp2_with fail
      refine (Tryz.strings_TrimSpace sf w3 (by rw [← hsl]; simp; omega) HAS.out htb3.1).mono ?_
      rintro e w4 ⟨rfl, hw4⟩
      have hbl4 : Below w3.heap.size w3 w4 := by rw [hw4]; exact ⟨rfl, rfl, rfl, by rw [Go.Lib.bytesWorld_size]; omega, fun k hk => Go.Lib.bytesWorld_at_old w3 5 sf k hk⟩
      have m4 := Mv.below (M := fun _ => False) hbl4 ((lab1.ext (Boxed w K 7 xv xl xp).heap.size 7).ext W.heap.size 7) 7
      have hb4 := hb3.mv (hb3.pat.mv m4 (fun _ _ h => h)) (m4.mono (fun _ h => h.elim))
      have m4' := m3'.trans m4 (fun _ h => h.elim)
      rw [HT.out]
      clear hw4 hbl4 m4 hb3 hsl
      go_wp2_with fail
      refine (Tryz.strings_ToLower_ascii ⟨sf.data.toList.toArray⟩ w4 ?_ ?_).mono ?_
      · have := congrArg ByteArray.size HX.out
        simp at this
        show sf.data.toList.toArray.size ≤ _
        simp
        omega
      · simpa using HAS.out
      rintro e w5 ⟨rfl, hbl5⟩
      have m5 := Mv.below (M := fun _ => False) hbl5 (((lab1.ext (Boxed w K 7 xv xl xp).heap.size 7).ext W.heap.size 7).ext w3.heap.size 7) 7
      have hb5 := hb4.mv (hb4.pat.mv m5 (fun _ _ h => h)) (m5.mono (fun _ h => h.elim))
      have m5' := m4'.trans m5 (fun _ h => h.elim)
      have e0 : (⟨(Lib.toLowerA sf.data.toList).toArray⟩ : ByteArray) = ⟨#[109, 105, 98]⟩ := by rw [HL.out, HF.out]
      have d0 := hb5.b0.cell 0
      have d1 := hb5.b1.cell 0
      have d2 := hb5.b1.cell 1
      have d3 := hb5.b1.cell 2
      have d4 := hb5.b1.cell 3
      simp at d0 d1 d2 d3 d4
      simp only [e0]
      clear hbl5 m5 hb4 e0
      go_wp2_with fail
      refine (lay_c hb5.pat hb5.hB HP.out hs 2 _ rfl _ _ hb5.b0 7 xv xl xp).mono ?_
      rintro e w6 ⟨rfl, lab6, h6, m6⟩
      go_wp2
      go_ret
      exact ⟨rfl, lab6, h6, m5'.trans m6 (fun _ h => h)⟩
set_option maxRecDepth 100000 in
set_option maxHeartbeats 4000000 in
theorem item_int_mi (h : PAt B lab w K X) (hB : B ≤ w.heap.size) (hped : K.ped = false) (xv : ByteArray) (xl xp : Int) (d : Nat) (hd : d < xv.size) (hsz : xv.size ≤ 1000000)
    (hdig : ∀ i, i < d → isDig (byteAt xv i) = true) (hstop : isDig (byteAt xv d) = false) (hstop2 : byteAt xv d ≠ 45) (hasc : ∀ i, i < xv.size → byteAt xv i < 128) 
    (n : Int) (hpi : ∀ w, Calls Tryz.prog 68 #[.string (xv.extract 0 d), i64 10, i64 64] w fun e w' => e = .returned (.tuple #[.int .i64 n, .nilIface]) ∧ Below w.heap.size w w')
    (sf : ByteArray) (hsf : xv.extract d xv.size = sf) (hsa : ∀ (j : Nat) b, sf.data.toList[j]? = some b → b.toNat < 128) (htrim : Lib.trimSpace sf.data.toList = sf.data.toList) (hlow : Lib.toLowerA sf.data.toList = sf.data.toList) (hsfv : sf = ⟨#[109, 105]⟩) (hb1 : -4611686018427387904 ≤ n * 1024 * 1024) (hb2 : n * 1024 * 1024 ≤ 4611686018427387904)
    (htb : Tb lab w) (hs : X.Sets (.int (n * 1024 * 1024)) X') :
    Calls Tryz.prog 57 #[.pointer (some ⟨K.p, 0, none⟩), .agg #[i64 7, .string xv, i64 xl, i64 xp], .string { data := #[] }] w fun e w' => e = .returned .nilIface ∧ ∃ lab', PAt B lab' w' K X' ∧ Mv PM w lab w' lab' := by
  obtain ⟨lab1, hb, m1⟩ := h.boxed hB 7 xv xl xp
  have HD := Lib.hid hdig
  have HS1 := Lib.hid hstop
  have HS2 := Lib.hid hstop2
  have HA := Lib.hid hasc
  have HT := Lib.hid htrim
  have HL := Lib.hid hlow
  have HF := Lib.hid hsfv
  have HX := Lib.hid hsf
  have HP := Lib.hid hped
  have HAS := Lib.hid hsa
  clear hdig hstop hstop2 hasc htrim hlow hsfv hsf hped hsa
  go_enter Tryz.func57, Tryz.ntmps57
  go_wp2_with fail
  have hWs : (Boxed w K 7 xv xl xp).heap.size = w.heap.size + 1 + 1 + 1 := by unfold Boxed; simp [World.size_alloc]
  have HW := Lib.hid hWs
  clear hWs
  go_loopw [9] (fun i wr => ∃ k : Nat, k ≤ d ∧ i = .int .i64 k ∧ wr = (Boxed w K 7 xv xl xp).iter xv k) (fun i _ => d - (RowKit.intOf i).toNat)
  case atStart => exact ⟨0, Nat.zero_le _, rfl, rfl⟩
  case round =>
    obtain ⟨k, hk, rfl, rfl⟩ := hrel
    have hk2 : k < xv.size := by omega
    have hnx : ∀ ty, (Instr.next (.pointer (some ⟨w.heap.size + 1 + 1 + 1, 0, none⟩)) true ty).run Tryz.prog ((Boxed w K 7 xv xl xp).iter xv k) = .ok (.tuple #[.bool true, .int .i64 k, .int .i32 (byteAt xv k : Nat)]) ((Boxed w K 7 xv xl xp).iter xv (k + 1)) := fun ty => by
      have := run_next_ascii (P := Tryz.prog) (Boxed w K 7 xv xl xp) xv k ty hk2 (by rw [byteAt_get]; exact HA.out k hk2)
      rwa [HW.out, byteAt_get] at this
    have hc := HA.out k hk2
    by_cases hlt : k < d
    · have e1 := HD.out k hlt
      go_wp2_with fail
      refine (isDig_c _ hc _).mono ?_
      rintro e w' ⟨rfl, rfl⟩
      go_wp2
      go_roundw
      case rel => exact ⟨k + 1, by omega, by go_num, rfl⟩
      case measure => simp [RowKit.intOf]; omega
    · obtain rfl : k = d := by omega
      have e1 := HS1.out
      have e2 : (((byteAt xv k : Nat) : Int) == 45) = false := beq_eq_false_iff_ne.2 (by have := HS2.out; omega)
      have e3 : (((byteAt xv k : Nat) : Int) != 45) = true := by rw [bne, e2]; rfl
      go_wp2_with fail
      refine (isDig_c _ hc _).mono ?_
      rintro e w' ⟨rfl, rfl⟩
      have m2 := (iter_mv (Boxed w K 7 xv xl xp) lab1 xv (k + 1))
      have hb2 := hb.mv (hb.pat.mv m2 (fun _ _ h => h)) (m2.mono (fun _ h => h.elim))
      have m2' := m1.trans m2 (fun _ h => h.elim)
      obtain ⟨W, hW⟩ : ∃ W, W = (Boxed w K 7 xv xl xp).iter xv (k + 1) := ⟨_, rfl⟩
      rw [← hW] at hb2 m2 m2' ⊢
      have d1 := hb2.b1.cell 1
      clear hW hb hnx
      go_wp2_with fail
      refine (hpi W).mono ?_
      rintro e w3 ⟨rfl, hbl⟩
      have m3 := Mv.below (M := fun _ => False) hbl (lab1.ext (Boxed w K 7 xv xl xp).heap.size 7) 7
      have hb3 := hb2.mv (hb2.pat.mv m3 (fun _ _ h => h)) (m3.mono (fun _ h => h.elim))
      have m3' := m2'.trans m3 (fun _ h => h.elim)
      have htb3 := htb.mv m3' (by simp [PM])
      have d1 := hb3.b1.cell 1
      have hsl : xv.extract k xv.size = sf := HX.out
      clear hbl m3 hb2 hpi
      go_wp2_with fail
      refine (Tryz.strings_TrimSpace sf w3 (by rw [← hsl]; simp; omega) HAS.out htb3.1).mono ?_
      rintro e w4 ⟨rfl, hw4⟩
      have hbl4 : Below w3.heap.size w3 w4 := by rw [hw4]; exact ⟨rfl, rfl, rfl, by rw [Go.Lib.bytesWorld_size]; omega, fun k hk => Go.Lib.bytesWorld_at_old w3 5 sf k hk⟩
      have m4 := Mv.below (M := fun _ => False) hbl4 ((lab1.ext (Boxed w K 7 xv xl xp).heap.size 7).ext W.heap.size 7) 7
      have hb4 := hb3.mv (hb3.pat.mv m4 (fun _ _ h => h)) (m4.mono (fun _ h => h.elim))
      have m4' := m3'.trans m4 (fun _ h => h.elim)
      rw [HT.out]
      clear hw4 hbl4 m4 hb3 hsl
      go_wp2_with fail
      refine (Tryz.strings_ToLower_ascii ⟨sf.data.toList.toArray⟩ w4 ?_ ?_).mono ?_
      · have := congrArg ByteArray.size HX.out
        simp at this
        show sf.data.toList.toArray.size ≤ _
        simp
        omega
      · simpa using HAS.out
      rintro e w5 ⟨rfl, hbl5⟩
      have m5 := Mv.below (M := fun _ => False) hbl5 (((lab1.ext (Boxed w K 7 xv xl xp).heap.size 7).ext W.heap.size 7).ext w3.heap.size 7) 7
      have hb5 := hb4.mv (hb4.pat.mv m5 (fun _ _ h => h)) (m5.mono (fun _ h => h.elim))
      have m5' := m4'.trans m5 (fun _ h => h.elim)
      have e0 : (⟨(Lib.toLowerA sf.data.toList).toArray⟩ : ByteArray) = ⟨#[109, 105]⟩ := by rw [HL.out, HF.out]
      have d0 := hb5.b0.cell 0
      have d1 := hb5.b1.cell 0
      have d2 := hb5.b1.cell 1
      have d3 := hb5.b1.cell 2
      have d4 := hb5.b1.cell 3
      simp at d0 d1 d2 d3 d4
      simp only [e0]
      clear hbl5 m5 hb4 e0
      go_wp2_with fail
      refine (lay_c hb5.pat hb5.hB HP.out hs 2 _ rfl _ _ hb5.b0 7 xv xl xp).mono ?_
      rintro e w6 ⟨rfl, lab6, h6, m6⟩
      go_wp2
      go_ret
      exact ⟨rfl, lab6, h6, m5'.trans m6 (fun _ h => h)⟩
end
end Go.Cf
