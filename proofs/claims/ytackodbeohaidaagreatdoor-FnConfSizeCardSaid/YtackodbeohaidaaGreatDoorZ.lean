/-
  The parser is made.
-/
import Derived.Test.YtackodbeohaidaaGreatDoorY
import Derived.Test.YtackodbeohaidaaGreatDoorBld
namespace Go.Cf
open Go.RowKit Go.Conc Go.Proofs
section
variable {B : Nat} {lab lab1 : Lab} {w w1 : World}
theorem mk61 (w : World) : (Instr.makeMap 61 none).run Tryz.prog w = .ok (.map (some w.heap.size)) (w.alloc (.map #[] 0)) := by kernel_rfl
theorem mk77 (w : World) : (Instr.makeMap 77 none).run Tryz.prog w = .ok (.map (some w.heap.size)) (w.alloc (.map #[] 0)) := by kernel_rfl
theorem mk75 (w : World) : (Instr.makeSlice 75 (.int .i64 0) (.int .i64 4)).run Tryz.prog w = .ok (.slice (some ⟨w.heap.size, 0, none⟩) 0 4) (w.alloc (.cells #[.nilIface, .nilIface, .nilIface, .nilIface] 20)) := by kernel_rfl
theorem mk23 (w : World) : (Instr.makeSlice 23 (.int .i64 0) (.int .i64 4)).run Tryz.prog w = .ok (.slice (some ⟨w.heap.size, 0, none⟩) 0 4) (w.alloc (.cells #[.string { data := #[] }, .string { data := #[] }, .string { data := #[] }, .string { data := #[] }] 9)) := by kernel_rfl
theorem mk76 (w : World) : (Instr.makeSlice 76 (.int .i64 0) (.int .i64 4)).run Tryz.prog w = .ok (.slice (some ⟨w.heap.size, 0, none⟩) 0 4) (w.alloc (.cells #[i64 0, .string { data := #[] }, i64 0, i64 0, i64 0, .string { data := #[] }, i64 0, i64 0, i64 0, .string { data := #[] }, i64 0, i64 0, i64 0, .string { data := #[] }, i64 0, i64 0] 98)) := by kernel_rfl
/-- The parser at the beginning of a text. -/
def NewP (B : Nat) (lab : Lab) (w : World) (K : PK) (s : ByteArray) (c : Nat) : Prop :=
  PAt B lab w K ⟨LX.new s c, [], []⟩ ∧ Mp 10 lab w K.mp [] ∧ Mp 8 lab w K.ev [] ∧ Rw B 5 lab w 98 4 K.iv 0 []
def CP (B : Nat) (s : ByteArray) (ped : Bool) : Nat → Value → Lab → World → Prop
  | 0, v, lab, w => ∃ m, v = .map (some m) ∧ Mp 10 lab w m []
  | 1, v, _, _ => v = .string s
  | 2, v, lab, w => ∃ b c, v = .pointer (some ⟨b, 0, none⟩) ∧ Lx B lab w b (LX.new s c)
  | 3, v, lab, w => ∃ g, v = .slice (some ⟨g, 0, none⟩) 0 4 ∧ Rw B 3 lab w 20 1 v 0 []
  | 4, v, lab, w => ∃ g, v = .slice (some ⟨g, 0, none⟩) 0 4 ∧ Rw B 4 lab w 9 1 v 0 []
  | 5, v, lab, w => ∃ g, v = .slice (some ⟨g, 0, none⟩) 0 4 ∧ Rw B 5 lab w 98 4 v 0 []
  | 6, v, _, _ => v = .string { data := #[] }
  | 7, v, _, _ => v = .bool ped
  | 8, v, lab, w => ∃ m, v = .map (some m) ∧ Mp 8 lab w m []
  | 9, v, lab, w => ∃ (K : PK) (c g3 g4 : Nat), K.ped = ped ∧ v = .agg (K.cells .nilIface (.slice (some ⟨g3, 0, none⟩) 0 4) (.slice (some ⟨g4, 0, none⟩) 0 4)) ∧ Lx B lab w K.b (LX.new s c) ∧ Rw B 3 lab w 20 1 (.slice (some ⟨g3, 0, none⟩) 0 4) 0 [] ∧ Rw B 4 lab w 9 1 (.slice (some ⟨g4, 0, none⟩) 0 4) 0 [] ∧
      Mp 10 lab w K.mp [] ∧ Mp 8 lab w K.ev [] ∧ Rw B 5 lab w 98 4 K.iv 0 []
  | 10, v, lab, w => ∃ (K : PK) (c : Nat), K.ped = ped ∧ v = .pointer (some ⟨K.p, 0, none⟩) ∧ NewP B lab w K s c
  | 11, v, lab, w => ∃ (K : PK) (c : Nat), K.ped = ped ∧ v = .pointer (some ⟨K.p, 0, none⟩) ∧ NewP B lab w K s c
  | _, _, _, _ => False
def dstP (k : Nat) : Nat := if k = 11 then 6 else 7 + k
theorem dstP_inj {i k : Nat} (h : dstP k = dstP i) : k = i := by
  unfold dstP at h
  split at h <;> split at h <;> omega
theorem NewP.mv {K : PK} {s : ByteArray} {c : Nat} (h : NewP B lab w K s c) (m : Mv (fun _ => False) w lab w1 lab1) : NewP B lab1 w1 K s c :=
  ⟨h.1.mv m (fun _ _ h => h), h.2.1.mv m (fun h => h), h.2.2.1.mv m (fun h => h), h.2.2.2.mv m (fun h => h)⟩
theorem CP.mv {s : ByteArray} {ped : Bool} (k : Nat) (v : Value) (lab : Lab) (w : World) (lab' : Lab) (w' : World) (h : CP B s ped k v lab w) (m : Mv (fun _ => False) w lab w' lab') : CP B s ped k v lab' w' := by
  match k, h with
  | 0, ⟨b, h1, h2⟩ => exact ⟨b, h1, h2.mv m (fun h => h)⟩
  | 1, h => exact h
  | 2, ⟨b, c, h1, h2⟩ => exact ⟨b, c, h1, h2.mv m (fun h => h)⟩
  | 3, ⟨g, h1, h2⟩ => exact ⟨g, h1, h2.mv m (fun h => h)⟩
  | 4, ⟨g, h1, h2⟩ => exact ⟨g, h1, h2.mv m (fun h => h)⟩
  | 5, ⟨g, h1, h2⟩ => exact ⟨g, h1, h2.mv m (fun h => h)⟩
  | 6, h => exact h
  | 7, h => exact h
  | 8, ⟨b, h1, h2⟩ => exact ⟨b, h1, h2.mv m (fun h => h)⟩
  | 9, ⟨K, c, g3, g4, h0, h1, h2, h3, h4, h5, h6, h7⟩ => exact ⟨K, c, g3, g4, h0, h1, h2.mv m (fun h => h), h3.mv m (fun h => h), h4.mv m (fun h => h), h5.mv m (fun h => h), h6.mv m (fun h => h), h7.mv m (fun h => h)⟩
  | 10, ⟨K, c, h0, h1, h2⟩ => exact ⟨K, c, h0, h1, h2.mv m⟩
  | 11, ⟨K, c, h0, h1, h2⟩ => exact ⟨K, c, h0, h1, h2.mv m⟩
theorem map_new (w : World) (lab : Lab) (ℓ : Nat) : Mp ℓ (lab.ext w.heap.size ℓ) (w.alloc (.map #[] 0)) w.heap.size [] := ⟨World.ownsMap_made w _ _ _, Lab.ext_ge (Nat.le_refl _)⟩
theorem row_new (w : World) (lab : Lab) (ℓ e size cap : Nat) (cs : Array Value) (hB : B ≤ w.heap.size) (hc : cap ≤ maxLen) (hs : cs.size = cap * size) : Rw B ℓ (lab.ext w.heap.size ℓ) (w.alloc (.cells cs e)) e size (.slice (some ⟨w.heap.size, 0, none⟩) 0 cap) 0 [] := by
  refine ⟨⟨by simp, .inr ⟨_, _, _, rfl, hB, heap_alloc_new w _, Nat.zero_le _, hc, hs, by simp⟩⟩, fun k hk => ?_⟩
  simp only [Value.ownBlock, Option.some.injEq] at hk
  subst hk
  exact Lab.ext_ge (Nat.le_refl _)
set_option maxRecDepth 100000 in
set_option maxHeartbeats 4000000 in
theorem newParser_c (s : ByteArray) (ped : Bool) (hB : B ≤ w.heap.size) :
    Calls Tryz.prog 47 #[.string s, .string { data := #[] }, .bool ped] w fun e w' => ∃ K c lab', K.ped = ped ∧ e = .returned (.pointer (some ⟨K.p, 0, none⟩)) ∧ NewP B lab' w' K s c ∧ Mv (fun _ => False) w lab w' lab' := by
  go_enter Tryz.func47, Tryz.ntmps47
  go_wp2_with fail
  refine wp_region_bld (CP B s ped) dstP [(0, .string s), (1, .string { data := #[] }), (2, .bool ped)] lab mixed (by kernel_rfl) ?_ rfl ?_ CP.mv ?_ ?_
  · intro i o ho
    have hk : ∀ p ∈ [(0, Value.string s), (1, Value.string { data := #[] }), (2, Value.bool ped)], p.1 ≤ 2 := by
      intro p hp
      simp only [List.mem_cons, List.not_mem_nil, or_false] at hp
      rcases hp with rfl | rfl | rfl <;> simp
    match i, ho with
    | 0, rfl => exact ⟨rfl, rfl, (show dstP 0 < 18 by decide), fun p hp => by have := hk p hp; unfold dstP; split <;> omega, fun k _ h => dstP_inj h⟩
    | 1, rfl => exact ⟨rfl, rfl, (show dstP 1 < 18 by decide), fun p hp => by have := hk p hp; unfold dstP; split <;> omega, fun k _ h => dstP_inj h⟩
    | 2, rfl => exact ⟨rfl, rfl, (show dstP 2 < 18 by decide), fun p hp => by have := hk p hp; unfold dstP; split <;> omega, fun k _ h => dstP_inj h⟩
    | 3, rfl => exact ⟨rfl, rfl, (show dstP 3 < 18 by decide), fun p hp => by have := hk p hp; unfold dstP; split <;> omega, fun k _ h => dstP_inj h⟩
    | 4, rfl => exact ⟨rfl, rfl, (show dstP 4 < 18 by decide), fun p hp => by have := hk p hp; unfold dstP; split <;> omega, fun k _ h => dstP_inj h⟩
    | 5, rfl => exact ⟨rfl, rfl, (show dstP 5 < 18 by decide), fun p hp => by have := hk p hp; unfold dstP; split <;> omega, fun k _ h => dstP_inj h⟩
    | 6, rfl => exact ⟨rfl, rfl, (show dstP 6 < 18 by decide), fun p hp => by have := hk p hp; unfold dstP; split <;> omega, fun k _ h => dstP_inj h⟩
    | 7, rfl => exact ⟨rfl, rfl, (show dstP 7 < 18 by decide), fun p hp => by have := hk p hp; unfold dstP; split <;> omega, fun k _ h => dstP_inj h⟩
    | 8, rfl => exact ⟨rfl, rfl, (show dstP 8 < 18 by decide), fun p hp => by have := hk p hp; unfold dstP; split <;> omega, fun k _ h => dstP_inj h⟩
    | 9, rfl => exact ⟨rfl, rfl, (show dstP 9 < 18 by decide), fun p hp => by have := hk p hp; unfold dstP; split <;> omega, fun k _ h => dstP_inj h⟩
    | 10, rfl => exact ⟨rfl, rfl, (show dstP 10 < 18 by decide), fun p hp => by have := hk p hp; unfold dstP; split <;> omega, fun k _ h => dstP_inj h⟩
    | 11, rfl => exact ⟨rfl, rfl, (show dstP 11 < 18 by decide), fun p hp => by have := hk p hp; unfold dstP; split <;> omega, fun k _ h => dstP_inj h⟩
  · intro p hp
    simp only [List.mem_cons, List.not_mem_nil, or_false] at hp
    rcases hp with rfl | rfl | rfl <;> rfl
  · intro L a' lab' w' i o ho hall hb
    have hB' : B ≤ w'.heap.size := Nat.le_trans hB hb.mv.size
    have k0 : a'.tmps.getD 0 undef = .string s := hb.keep (0, .string s) (by simp)
    have k1 : a'.tmps.getD 1 undef = .string { data := #[] } := hb.keep (1, .string { data := #[] }) (by simp)
    have k2 : a'.tmps.getD 2 undef = .bool ped := hb.keep (2, .bool ped) (by simp)
    match i, ho with
    | 0, rfl => exact .inl ⟨_, _, lab'.ext w'.heap.size 10, by simp [execOp, mk61], Mv.alloc _ _ _ _, _, rfl, map_new _ _ _⟩
    | 1, rfl => exact .inl ⟨_, _, lab', rfl, Mv.refl _ _ _, k0⟩
    | 2, rfl =>
      have h1 : a'.tmps.getD 8 undef = .string s := hb.got 1 (by decide) (hall ⟨1, .data⟩ (by simp) rfl)
      refine .inr ⟨53, #[a'.tmps.getD 8 undef], by kernel_rfl, ?_⟩
      rw [h1]
      refine (lex_c s lab' hB').mono ?_
      rintro e w2 ⟨b, c, rfl, hl, m⟩
      exact ⟨_, _, rfl, m, b, c, rfl, hl⟩
    | 3, rfl => exact .inl ⟨_, w'.alloc (.cells #[.nilIface, .nilIface, .nilIface, .nilIface] 20), lab'.ext w'.heap.size 3, by simp [execOp, mk75, Act.eval], Mv.alloc _ _ _ _, _, rfl, row_new _ _ _ _ _ _ _ hB' (by unfold maxLen; omega) rfl⟩
    | 4, rfl => exact .inl ⟨_, w'.alloc (.cells #[.string { data := #[] }, .string { data := #[] }, .string { data := #[] }, .string { data := #[] }] 9), lab'.ext w'.heap.size 4, by simp [execOp, mk23, Act.eval], Mv.alloc _ _ _ _, _, rfl, row_new _ _ _ _ _ _ _ hB' (by unfold maxLen; omega) rfl⟩
    | 5, rfl => exact .inl ⟨_, w'.alloc (.cells #[i64 0, .string { data := #[] }, i64 0, i64 0, i64 0, .string { data := #[] }, i64 0, i64 0, i64 0, .string { data := #[] }, i64 0, i64 0, i64 0, .string { data := #[] }, i64 0, i64 0] 98), lab'.ext w'.heap.size 5, by simp [execOp, mk76, Act.eval], Mv.alloc _ _ _ _, _, rfl, row_new _ _ _ _ _ _ _ hB' (by unfold maxLen; omega) rfl⟩
    | 6, rfl => exact .inl ⟨_, _, lab', rfl, Mv.refl _ _ _, k1⟩
    | 7, rfl => exact .inl ⟨_, _, lab', rfl, Mv.refl _ _ _, k2⟩
    | 8, rfl => exact .inl ⟨_, _, lab'.ext w'.heap.size 8, by simp [execOp, mk77], Mv.alloc _ _ _ _, _, rfl, map_new _ _ _⟩
    | 9, rfl =>
      obtain ⟨m0, e0, r0⟩ := hb.got 0 (by decide) (hall ⟨0, .data⟩ (by simp) rfl)
      obtain ⟨b, c, e2, r2⟩ := hb.got 2 (by decide) (hall ⟨2, .data⟩ (by simp) rfl)
      obtain ⟨g3, e3, r3⟩ := hb.got 3 (by decide) (hall ⟨3, .data⟩ (by simp) rfl)
      obtain ⟨g4, e4, r4⟩ := hb.got 4 (by decide) (hall ⟨4, .data⟩ (by simp) rfl)
      obtain ⟨g5, e5, r5⟩ := hb.got 5 (by decide) (hall ⟨5, .data⟩ (by simp) rfl)
      have e6 := hb.got 6 (by decide) (hall ⟨6, .data⟩ (by simp) rfl)
      have e7 := hb.got 7 (by decide) (hall ⟨7, .data⟩ (by simp) rfl)
      obtain ⟨m8, e8, r8⟩ := hb.got 8 (by decide) (hall ⟨8, .data⟩ (by simp) rfl)
      change a'.tmps.getD 7 undef = _ at e0
      change a'.tmps.getD 9 undef = _ at e2
      change a'.tmps.getD 10 undef = _ at e3
      change a'.tmps.getD 11 undef = _ at e4
      change a'.tmps.getD 12 undef = _ at e5
      change a'.tmps.getD 13 undef = _ at e6
      change a'.tmps.getD 14 undef = _ at e7
      change a'.tmps.getD 15 undef = _ at e8
      rw [show a'.tmps.getD (dstP 3) undef = _ from e3] at r3
      rw [show a'.tmps.getD (dstP 4) undef = _ from e4] at r4
      rw [show a'.tmps.getD (dstP 5) undef = _ from e5] at r5
      refine .inl ⟨.agg (PK.cells ⟨0, b, m0, .slice (some ⟨g5, 0, none⟩) 0 4, m8, ped⟩ .nilIface (.slice (some ⟨g3, 0, none⟩) 0 4) (.slice (some ⟨g4, 0, none⟩) 0 4)), w', lab', ?_, Mv.refl _ _ _, ⟨0, b, m0, .slice (some ⟨g5, 0, none⟩) 0 4, m8, ped⟩, c, g3, g4, rfl, rfl, r2, r3, r4, r0, r8, r5⟩
      rw [Array.getD_eq_getD_getElem?] at e0 e2 e3 e4 e5 e6 e7 e8
      simp [execOp, Act.eval, go_sem, e0, e2, e3, e4, e5, e6, e7, e8, PK.cells]
    | 10, rfl =>
      obtain ⟨K, c, g3, g4, h0, h1, h2, h3, h4, h5, h6, h7⟩ := hb.got 9 (by decide) (hall ⟨9, .data⟩ (by simp) rfl)
      change a'.tmps.getD 16 undef = _ at h1
      have ma : Mv (fun _ => False) w' lab' (w'.alloc (.cells (K.cells .nilIface (.slice (some ⟨g3, 0, none⟩) 0 4) (.slice (some ⟨g4, 0, none⟩) 0 4)) 79)) (lab'.ext w'.heap.size 2) := Mv.alloc _ _ _ _
      refine .inl ⟨.pointer (some ⟨w'.heap.size, 0, none⟩), w'.alloc (.cells (K.cells .nilIface (.slice (some ⟨g3, 0, none⟩) 0 4) (.slice (some ⟨g4, 0, none⟩) 0 4)) 79), lab'.ext w'.heap.size 2, ?_, ma, { K with p := w'.heap.size }, c, h0, rfl, ⟨.nilIface, .slice (some ⟨g3, 0, none⟩) 0 4, .slice (some ⟨g4, 0, none⟩) 0 4, [], ?_⟩, h5.mv ma (fun h => h), h6.mv ma (fun h => h), h7.mv ma (fun h => h)⟩
      · rw [Array.getD_eq_getD_getElem?] at h1
        simp [execOp, Act.eval, go_sem, h1, PK.cells]
      · exact {
          cl := Cl.alloc _ _ _ _ _
          lx := h2.mv ma (fun h => h)
          cv := h3.mv ma (fun h => h)
          kv := h4.mv ma (fun h => h)
          cs := trivial
          top := .inr rfl
          root := fun v hv => by simp at hv }
    | 11, rfl =>
      have := hb.got 10 (by decide) (hall ⟨10, .data⟩ (by simp) rfl)
      exact .inl ⟨_, _, lab', rfl, Mv.refl _ _ _, this⟩
  · intro a' lab' w' hall hd m
    obtain ⟨K, c, h0, h1, h2⟩ := hall 11 (by decide)
    rename_i hK
    refine hK a' w' (wp_ret (bodyPost_ret (results_tmp rfl _ _ _) hd ⟨K, c, lab', h0, ?_, h2, m⟩))
    rw [show a'.tmps.getD 6 undef = _ from h1]
end
end Go.Cf
