/-
  The parser's stacks: a key is popped; contexts are pushed and popped.
-/
import Derived.Test.YtackodbeohaidaaGreatDoorN
namespace Go.Cf
open Go.RowKit Go.Conc Go.Proofs
section
variable {B : Nat} {lab lab1 : Lab} {w w1 : World} {K : PK} {X : PX} {M : Nat → Prop}
theorem Mv.aDraw (M : Nat → Prop) (w : World) (lab : Lab) : Mv M w lab w.drew lab := ⟨rfl, rfl, rfl, Nat.le_refl _, fun _ _ _ => rfl, fun _ _ _ => rfl⟩
/-- What turns is the caller's own. -/
theorem PAt.mv (h : PAt B lab w K X) (m : Mv M w lab w1 lab1) (hM : ∀ x, x ≠ 7 → ¬ M x) : PAt B lab1 w1 K X := by
  obtain ⟨top, cv, kv, vs, h⟩ := h
  exact ⟨top, cv, kv, vs, h.cl.mv m (hM _ (by decide)), h.lx.mv m (hM _ (by decide)), h.cv.mv m (hM _ (by decide)), h.kv.mv m (hM _ (by decide)), h.cs.mv m (hM _ (by decide)) (fun i _ => hM _ (by omega)), h.top, h.root⟩
theorem Rw.shorter {ℓ e n m : Nat} {g cap : Nat} {xs ys : List Value} (h : Rw B ℓ lab w e 1 (.slice (some ⟨g, 0, none⟩) n cap) n (xs ++ ys)) (hm : xs.length = m) (hmn : m ≤ n) : Rw B ℓ lab w e 1 (.slice (some ⟨g, 0, none⟩) m cap) m xs :=
  ⟨own_shorter h.1 hm hmn, h.2⟩
theorem Cl.ne {ℓ ℓ' g g' : Nat} {cs : Array Value} {t : TypeId} (h : Cl ℓ lab w g cs t) (h' : lab g' = ℓ') (hne : ℓ ≠ ℓ') : g ≠ g' := by
  rintro rfl; exact hne (h.2.symm.trans h')
set_option maxHeartbeats 400000 in
theorem popKey_c (st : List ByteArray) (s : ByteArray) {top cv kv : Value} {vs : List Value} (h : PAtX B lab w K X top cv kv vs) (hks : X.ks = st ++ [s]) (hlen : st.length ≤ 1000000) :
    Calls Tryz.prog 96 #[.pointer (some ⟨K.p, 0, none⟩)] w fun e w' => e = .returned (.string s) ∧ (∃ kv', PAtX B lab w' K { X with ks := st } top cv kv' vs) ∧ Mv (· = 2) w lab w' lab := by
  have hown := h.kv
  rw [hks, List.length_append, List.length_singleton, List.map_append] at hown
  obtain ⟨g, cap, rfl, hcap, hmx, hcell, cur, hgb⟩ := own_open hown.1 (by omega)
  have hcl := hcell st.length (.string s) (by simp)
  have hown2 := Rw.shorter (m := st.length) hown (by simp) (by omega)
  have c4 : w.cell? ⟨K.p, 4, none⟩ = some (.slice (some ⟨g, 0, none⟩) (st.length + 1) cap) := h.cl.cell 4
  have f4 : w.frozen? ⟨K.p, 4, none⟩ = false := h.cl.free 4
  have m2 : Mv (· = 2) w lab (w.setCell ⟨K.p, 4, none⟩ (.slice (some ⟨g, 0, none⟩) st.length cap)) lab := Mv.setCell _ _ _ _ h.cl.2
  have hne : g ≠ K.p := (h.cl.ne (hown.2 g rfl) (by decide)).symm
  have key : ∃ kv', PAtX B lab (w.setCell ⟨K.p, 4, none⟩ (.slice (some ⟨g, 0, none⟩) st.length cap)) K { X with ks := st } top cv kv' vs := by
    refine ⟨.slice (some ⟨g, 0, none⟩) st.length cap, ?_⟩
    exact {
      cl := h.cl.set 4 _
      lx := h.lx.mv m2 (by decide)
      cv := h.cv.mv m2 (by decide)
      kv := hown2.mv m2 (by decide)
      cs := h.cs.mv m2 (by decide) (fun i _ => by omega)
      top := h.top
      root := h.root }
  have mm := m2
  clear m2 hown hown2 h hcell hgb
  have hpos : ((st.length : Int) + 1 == 0) = false := by simp; omega
  have hc2 : st.length ≤ cap := by omega
  unfold maxLen at hmx
  have HK := Lib.hid hks
  clear hks
  go_enter Tryz.func96, Tryz.ntmps96
  go_wp2
  go_ret
  exact ⟨rfl, key, mm⟩
set_option maxHeartbeats 400000 in
theorem CsAt.length : ∀ {cs : List CJ} {vs : List Value}, CsAt B lab w cs vs → vs.length = cs.length
  | [], [], _ => rfl
  | _ :: _, _ :: _, h => by simp [h.2.length]
  | [], _ :: _, h => h.elim
  | _ :: _, [], h => h.elim
theorem CAt.form {ℓ : Nat} {c : CJ} {v : Value} (h : CAt B ℓ lab w c v) : ∃ t u, v = .iface t u := by
  cases c with
  | map l => obtain ⟨b, t, h1, _⟩ := h; exact ⟨_, _, h1⟩
  | arr l => obtain ⟨s, xs, h1, _⟩ := h; exact ⟨_, _, h1⟩
set_option maxHeartbeats 400000 in
/-- A context is pushed: an empty map, or an empty list: what it is stands beside. -/
theorem pushContext_c (h : PAt B lab w K X) (hB : B ≤ w.heap.size) (hlen : X.cx.length ≤ 1000000) (c : CJ) (t : TypeId) (u : Value) (hc : CAt B (10 + X.cx.length) lab w c (.iface t u)) (hroot : X.cx = [] → Value.iface t u = .iface 61 (.map (some K.mp))) :
    Calls Tryz.prog 54 #[.pointer (some ⟨K.p, 0, none⟩), .iface t u] w fun e w' => e = .returned (.tuple #[]) ∧ ∃ lab', PAt B lab' w' K { X with cx := c :: X.cx } ∧ Mv PM w lab w' lab' := by
  obtain ⟨top, cv, kv, vs, h⟩ := h
  have c3 : w.cell? ⟨K.p, 3, none⟩ = some cv := h.cl.cell 3
  have hown := h.cv.1
  have hvl : vs.length = X.cx.length := h.cs.length
  go_enter Tryz.func54, Tryz.ntmps54
  go_wp2_with (at_builtin; refine app_one B rfl _ _ 75 20 .nilIface 1 16 rfl Tryz.underlying75 info20 rfl (by decide) (by decide) cv vs.length vs.reverse [.iface t u] rfl rfl rfl (by simp; rfl) hown hB (by omega) ?_)
  intro v1 w1 hown1 hg1 hat1
  have m1 : Mv (· = 3) w lab w1 (lab.ext w.heap.size 3) := Mv.grown hg1 lab 3 (fun k hk => h.cv.2 k hk)
  have hcl := h.cl.mv m1 (by decide)
  have c3' : w1.cell? ⟨K.p, 3, none⟩ = some cv := hcl.cell 3
  have f3' : w1.frozen? ⟨K.p, 3, none⟩ = false := hcl.free 3
  have c2' : w1.cell? ⟨K.p, 2, none⟩ = some top := hcl.cell 2
  have f2' : w1.frozen? ⟨K.p, 2, none⟩ = false := hcl.free 2
  have m2 : Mv (· = 2) w1 (lab.ext w.heap.size 3) (w1.setCell ⟨K.p, 3, none⟩ v1) (lab.ext w.heap.size 3) := Mv.setCell _ _ _ _ hcl.2
  have m3 : Mv (· = 2) (w1.setCell ⟨K.p, 3, none⟩ v1) (lab.ext w.heap.size 3) ((w1.setCell ⟨K.p, 3, none⟩ v1).setCell ⟨K.p, 2, none⟩ (.iface t u)) (lab.ext w.heap.size 3) := Mv.setCell _ _ _ _ hcl.2
  have m23 := m2.trans m3 (fun _ h => h)
  have hroot2 : ∀ v, (Value.iface t u :: vs).getLast? = some v → v = .iface 61 (.map (some K.mp)) := by
    intro v hv
    cases vs with
    | nil =>
      simp only [List.getLast?_singleton, Option.some.injEq] at hv
      rw [← hv]
      exact hroot (List.length_eq_zero_iff.1 hvl.symm)
    | cons x xs => exact h.root v (by simpa using hv)
  have key : PAt B (lab.ext w.heap.size 3) ((w1.setCell ⟨K.p, 3, none⟩ v1).setCell ⟨K.p, 2, none⟩ (.iface t u)) K { X with cx := c :: X.cx } := by
    refine ⟨.iface t u, v1, kv, .iface t u :: vs, ?_⟩
    exact {
      cl := (hcl.set 3 v1).set 2 _
      lx := (h.lx.mv m1 (by decide)).mv m23 (by decide)
      cv := by
        have := (h.cv.appended hown1 hg1 hat1).mv m23 (by decide)
        simpa [hvl] using this
      kv := (h.kv.mv m1 (by decide)).mv m23 (by decide)
      cs := ⟨(hc.mv m1 (by omega) (by decide)).mv m23 (by omega) (by decide), (h.cs.mv m1 (by decide) (fun i _ => by omega)).mv m23 (by decide) (fun i _ => by omega)⟩
      top := .inl rfl
      root := hroot2 }
  have mm : Mv PM w lab ((w1.setCell ⟨K.p, 3, none⟩ v1).setCell ⟨K.p, 2, none⟩ (.iface t u)) (lab.ext w.heap.size 3) := (m1.mono (M' := PM) (by rintro x rfl; decide)).trans m23 (by rintro x rfl; decide)
  obtain ⟨g, cap, e7, _, _⟩ := hown1.form (by omega)
  clear hroot2 hroot hcl m1 m2 m3 m23 hown hown1 hg1 hat1 h c3 hc
  subst e7
  go_wp2
  go_end0
  exact ⟨rfl, _, key, mm⟩
set_option maxRecDepth 100000 in
set_option maxHeartbeats 400000 in
/-- The innermost context is popped; it is handed back, its blocks as they were. -/
theorem popContext_c (c c2 : CJ) (cs : List CJ) (h : PAt B lab w K X) (hcx : X.cx = c :: c2 :: cs) (hlen : cs.length ≤ 1000000) :
    Calls Tryz.prog 66 #[.pointer (some ⟨K.p, 0, none⟩)] w fun e w' => ∃ u, e = .returned u ∧ CAt B (11 + cs.length) lab w' c u ∧ PAt B lab w' K { X with cx := c2 :: cs } ∧ Mv (· = 2) w lab w' lab := by
  obtain ⟨top, cv, kv, vs, h⟩ := h
  have hcs := h.cs
  rw [hcx] at hcs
  obtain ⟨v, v2, vs', rfl⟩ : ∃ v v2 vs', vs = v :: v2 :: vs' := by
    match vs, hcs with
    | v :: v2 :: vs', _ => exact ⟨v, v2, vs', rfl⟩
    | [_], h => exact h.2.elim
  have hvl : vs'.length = cs.length := hcs.2.2.length
  have hown := h.cv
  simp only [List.length_cons, List.reverse_cons, List.append_assoc, List.cons_append, List.nil_append] at hown
  obtain ⟨g, cap, rfl, hcap, hmx, hcell, cur, hgb⟩ := own_open hown.1 (by omega)
  have hl1 := hcell (vs'.length + 1) v (by simp)
  have hl2 := hcell vs'.length v2 (by simp)
  have hown2 := Rw.shorter (m := vs'.length + 1) (xs := vs'.reverse ++ [v2]) (ys := [v]) (by simpa using hown) (by simp) (by omega)
  have c3 : w.cell? ⟨K.p, 3, none⟩ = some (.slice (some ⟨g, 0, none⟩) (vs'.length + 1 + 1) cap) := h.cl.cell 3
  have f3 : w.frozen? ⟨K.p, 3, none⟩ = false := h.cl.free 3
  have c2' : w.cell? ⟨K.p, 2, none⟩ = some top := h.cl.cell 2
  have f2' : w.frozen? ⟨K.p, 2, none⟩ = false := h.cl.free 2
  have hne : g ≠ K.p := (h.cl.ne (hown.2 g rfl) (by decide)).symm
  have m23 : Mv (· = 2) w lab ((w.setCell ⟨K.p, 3, none⟩ (.slice (some ⟨g, 0, none⟩) (vs'.length + 1) cap)).setCell ⟨K.p, 2, none⟩ v2) lab := (Mv.setCell _ _ _ _ h.cl.2).trans (Mv.setCell _ _ _ _ h.cl.2) (fun _ h => h)
  have key : PAt B lab ((w.setCell ⟨K.p, 3, none⟩ (.slice (some ⟨g, 0, none⟩) (vs'.length + 1) cap)).setCell ⟨K.p, 2, none⟩ v2) K { X with cx := c2 :: cs } := by
    refine ⟨v2, .slice (some ⟨g, 0, none⟩) (vs'.length + 1) cap, kv, v2 :: vs', ?_⟩
    exact {
      cl := (h.cl.set 3 _).set 2 _
      lx := h.lx.mv m23 (by decide)
      cv := by simpa using hown2.mv m23 (by decide)
      kv := h.kv.mv m23 (by decide)
      cs := hcs.2.mv m23 (by decide) (fun i _ => by omega)
      top := .inl rfl
      root := fun u hu => h.root u (by simpa using hu) }
  have kc : CAt B (11 + cs.length) lab ((w.setCell ⟨K.p, 3, none⟩ (.slice (some ⟨g, 0, none⟩) (vs'.length + 1) cap)).setCell ⟨K.p, 2, none⟩ v2) c v := by
    have := hcs.1.mv m23 (by simp; omega) (by decide)
    simpa [Nat.add_comm, Nat.add_left_comm, ← Nat.add_assoc] using this
  obtain ⟨t2, u2, rfl⟩ : ∃ t u, v2 = .iface t u := hcs.2.1.form
  obtain ⟨t1, u1, rfl⟩ : ∃ t u, v = .iface t u := hcs.1.form
  clear hown hown2 h hcell hgb hcs
  have hpos : ((vs'.length : Int) + 1 + 1 == 0) = false := by simp; omega
  have hc2 : vs'.length + 1 ≤ cap := by omega
  unfold maxLen at hmx
  have HK := Lib.hid hcx
  have HV := Lib.hid hvl
  have hsm : (vs'.length : Int) < 9223372036854775808 := by omega
  have hw : IntKind.wrap .i64 ((vs'.length : Nat) : Int) = ((vs'.length : Nat) : Int) := by
    simp [IntKind.wrap, IntKind.bits, IntKind.signed]
    omega
  have i0 : (0 : Int) ≤ ((vs'.length : Nat) : Int) := by omega
  have i1 : ((vs'.length : Nat) : Int) < ((vs'.length : Nat) : Int) + 1 := by omega
  have i2 : ((vs'.length : Nat) : Int) < ((vs'.length + 1 : Nat) : Int) := by omega
  clear hcx hvl
  go_enter Tryz.func66, Tryz.ntmps66
  go_wp2
  refine wp_still_tail 15 mixed (by kernel_rfl) ?_
  simp only [List.take_succ_cons, List.take_zero, List.drop_succ_cons, List.drop_zero]
  repeat still_step
  refine wpStill_nil ?_
  go_wp2
  go_ret
  have md : ∀ W, Mv (fun _ => False) W lab W.drew lab := fun W => Mv.aDraw _ W lab
  exact ⟨_, rfl, kc.mv (md _) (fun h => h) (fun h => h), key.mv (md _) (fun _ _ h => h), m23.trans (md _) (fun _ h => h.elim)⟩
end
end Go.Cf
