/-
  The parser lays a value into the innermost context: setValue.
-/
import Derived.Test.YtackodbeohaidaaGreatDoorP
namespace Go.Cf
open Go.RowKit Go.Conc Go.Proofs
theorem ta_61_75 (u : Value) (w : World) : (Instr.typeAssert (.iface 61 u) 20 75 true).run Tryz.prog w = .ok (.tuple #[.slice none 0 0, .bool false]) w := by kernel_rfl
theorem ta_75_75 (u : Value) (w : World) : (Instr.typeAssert (.iface 75 u) 20 75 true).run Tryz.prog w = .ok (.tuple #[u, .bool true]) w := by kernel_rfl
theorem ta_61_61 (u : Value) (w : World) : (Instr.typeAssert (.iface 61 u) 20 61 true).run Tryz.prog w = .ok (.tuple #[u, .bool true]) w := by kernel_rfl
theorem ta_75_61 (u : Value) (w : World) : (Instr.typeAssert (.iface 75 u) 20 61 true).run Tryz.prog w = .ok (.tuple #[.map none, .bool false]) w := by kernel_rfl
attribute [local go_sem ↓] ta_61_75 ta_75_75 ta_61_61 ta_75_61
section
variable {B : Nat} {lab lab1 : Lab} {w w1 : World} {K : PK} {X : PX} {M : Nat → Prop}
theorem CsAt.form : ∀ {cs : List CJ} {c : CJ} {vs : List Value}, CsAt B lab w (c :: cs) vs → ∃ v vs', vs = v :: vs' ∧ CAt B (10 + cs.length) lab w c v ∧ CsAt B lab w cs vs'
  | _, _, _ :: _, h => ⟨_, _, rfl, h.1, h.2⟩
set_option maxRecDepth 100000 in
set_option maxHeartbeats 1000000 in
theorem setValue_map (m : List (ByteArray × JV)) (cs : List CJ) (st : List ByteArray) (s : ByteArray) (h : PAt B lab w K X) (hped : K.ped = false) (hcx : X.cx = .map m :: cs) (hks : X.ks = st ++ [s])
    (hlen : st.length ≤ 1000000) (hm : m.length ≤ 1000000) (hs : s.size ≤ 1000000) (j : JV) (t : TypeId) (u : Value) (hj : isJ B lab w j (.iface t u)) :
    Calls Tryz.prog 63 #[.pointer (some ⟨K.p, 0, none⟩), .iface t u] w fun e w' => e = .returned (.tuple #[]) ∧ ∃ lab', PAt B lab' w' K { X with cx := .map (putL s j m) :: cs, ks := st } ∧ Mv PM w lab w' lab' := by
  obtain ⟨top, cv, kv, vs, h⟩ := h
  obtain ⟨v, vs', rfl, hc, hcs⟩ := CsAt.form (hcx ▸ h.cs)
  obtain ⟨b, es, rfl, hmp, hes, hjs⟩ := hc
  have htop : top = .iface 61 (.map (some b)) := by have := h.top; simp at this; exact this.symm
  subst htop
  have c2 : w.cell? ⟨K.p, 2, none⟩ = some (.iface 61 (.map (some b))) := h.cl.cell 2
  have c7 : w.cell? ⟨K.p, 7, none⟩ = some (.bool K.ped) := h.cl.cell 7
  go_enter Tryz.func63, Tryz.ntmps63
  go_wp2_with fail
  refine (popKey_c st s h hks hlen).mono ?_
  rintro e w1 ⟨rfl, ⟨kv1, h1⟩, m1⟩
  have c7 : w1.cell? ⟨K.p, 7, none⟩ = some (.bool K.ped) := h1.cl.cell 7
  rw [hped] at c7
  have hcs1 := hcs.mv m1 (by decide) (fun i _ => by omega)
  have hmp1 := hmp.mv m1 (by omega)
  have hj1 := isJ.mv m1 (by decide) _ _ hj
  have hjs1 := isJs.mv m1 (by decide) _ _ hjs
  go_wp2_with (at_mapUpdate; refine wpList_mapUpdate_own _ rfl _ _ _ 61 rfl 9 20 (Maps.string_keyed Tryz.underlying9) Tryz.underlying61 anyR b es.length (entD es) rfl hmp1.1 ?_ (.string s) (.iface t u) (.string s.data.toList) rfl rfl (WideMaps.keyOf_string_mk (P := Tryz.prog) Tryz.underlying9 ?_) (.held (.iface t u)) [] rfl ?_)
  · have := congrArg List.length hes; simp at this; unfold maxLen; omega
  · unfold maxLen; omega
  intro w2 hown2 hg2
  have m2 : Mv (fun x => x = 10 + cs.length) w1 lab w2 (lab.ext w1.heap.size (10 + cs.length)) := Mv.grown hg2 lab _ (fun k hk => by cases hk; exact hmp1.2)
  have hmp2 : Mp (10 + cs.length) (lab.ext w1.heap.size (10 + cs.length)) w2 b (putL s (j, .iface t u) es) := by
    refine ⟨?_, by rw [Lab.ext_lt hmp1.1.lt]; exact hmp1.2⟩
    rw [put_entD s (j, .iface t u) es] at hown2
    exact Mp.exact hown2
  have key : PAt B (lab.ext w1.heap.size (10 + cs.length)) w2 K { X with cx := .map (putL s j m) :: cs, ks := st } := by
    refine ⟨.iface 61 (.map (some b)), cv, kv1, .iface 61 (.map (some b)) :: vs', ?_⟩
    exact {
      cl := h1.cl.mv m2 (by omega)
      lx := h1.lx.mv m2 (by omega)
      cv := h1.cv.mv m2 (by omega)
      kv := h1.kv.mv m2 (by omega)
      cs := by
        refine ⟨⟨b, putL s (j, .iface t u) es, rfl, hmp2, ?_, ?_⟩, hcs1.mv m2 (by omega) (fun i hi => by omega)⟩
        · rw [← hes]
          exact putL_map (fun p : JV × Value => p.1) s (j, .iface t u) es
        · rw [isJs_iff]
          intro x hx
          rcases mem_putL hx with rfl | hx
          · exact isJ.mv m2 (by omega) _ _ hj1
          · exact isJ.mv m2 (by omega) _ _ ((isJs_iff es).1 hjs1 x hx)
      top := .inl rfl
      root := h1.root }
  have mm : Mv PM w lab w2 (lab.ext w1.heap.size (10 + cs.length)) := (m1.mono (M' := PM) (by rintro x rfl; decide)).trans m2 (by rintro x rfl; simp [PM]; omega)
  clear m2 hown2 hg2 hmp2 h1 h hmp1 hmp
  go_wp2
  go_end0
  exact ⟨rfl, _, key, mm⟩
theorem Rw.setLast {ℓ e n g cap : Nat} {xs : List Value} {x y : Value} (h : Rw B ℓ lab w e 1 (.slice (some ⟨g, 0, none⟩) n cap) n (xs ++ [x])) : Rw B ℓ lab (w.setCell ⟨g, xs.length, none⟩ y) e 1 (.slice (some ⟨g, 0, none⟩) n cap) n (xs ++ [y]) := by
  obtain ⟨⟨hx, ⟨h0, _⟩ | ⟨g', cap', cur, hv, hb, hblk, h1, h2, h3, h4⟩⟩, hl⟩ := h
  · cases h0
  · simp only [Value.slice.injEq, Option.some.injEq, Addr.mk.injEq] at hv
    obtain ⟨⟨rfl, _, _⟩, _, rfl⟩ := hv
    refine ⟨⟨by simpa using hx, .inr ⟨g, cap, _, rfl, hb, blk_setCell hblk _ _, h1, h2, by simpa using h3, ?_⟩⟩, hl⟩
    simp only [List.length_append, List.length_singleton, Nat.mul_one] at hx h4
    rw [Nat.mul_one, Array.toList_setIfInBounds, List.take_set, h4, List.set_append_right _ _ (Nat.le_refl _)]
    simp
set_option maxRecDepth 100000 in
set_option maxHeartbeats 1000000 in
theorem setValue_arr (l : List JV) (cs : List CJ) (h : PAt B lab w K X) (hB : B ≤ w.heap.size) (hcx : X.cx = .arr l :: cs) (hlen : cs.length ≤ 1000000) (hm : l.length ≤ 1000000) (j : JV) (t : TypeId) (u : Value) (hj : isJ B lab w j (.iface t u)) :
    Calls Tryz.prog 63 #[.pointer (some ⟨K.p, 0, none⟩), .iface t u] w fun e w' => e = .returned (.tuple #[]) ∧ ∃ lab', PAt B lab' w' K { X with cx := .arr (l ++ [j]) :: cs } ∧ Mv PM w lab w' lab' := by
  obtain ⟨top, cv, kv, vs, h⟩ := h
  obtain ⟨v, vs', rfl, hc, hcs⟩ := CsAt.form (hcx ▸ h.cs)
  obtain ⟨s, xs, rfl, hr, hjs⟩ := hc
  have htop : top = .iface 75 s := by have := h.top; simp at this; exact this.symm
  subst htop
  have hvl : vs'.length = cs.length := hcs.length
  have c2 : w.cell? ⟨K.p, 2, none⟩ = some (.iface 75 s) := h.cl.cell 2
  have hown := hr.1
  go_enter Tryz.func63, Tryz.ntmps63
  go_wp2_with (at_builtin; refine app_one B rfl _ _ 75 20 .nilIface 1 16 rfl Tryz.underlying75 info20 rfl (by decide) (by decide) s l.length xs [.iface t u] rfl rfl rfl (by simp; rfl) hown hB (by omega) ?_)
  intro v1 w1 hown1 hg1 hat1
  have m1 : Mv (· = 10 + cs.length) w lab w1 (lab.ext w.heap.size (10 + cs.length)) := Mv.grown hg1 lab _ (fun k hk => hr.2 k hk)
  have hcl := h.cl.mv m1 (by omega)
  obtain ⟨g, cap, e7, _, _⟩ := hown1.form (by omega)
  subst e7
  have hrw := hr.appended hown1 hg1 hat1
  have hcv := h.cv.mv m1 (by omega)
  simp only [List.length_cons, List.reverse_cons] at hcv
  obtain ⟨g3, cap3, rfl, hcap3, hmx3, hcell3, cur3, hgb3⟩ := own_open hcv.1 (by omega)
  have hl1 := hcell3 vs'.length (.iface 75 s) (by simp)
  have c2' : w1.cell? ⟨K.p, 2, none⟩ = some (.iface 75 s) := hcl.cell 2
  have f2' : w1.frozen? ⟨K.p, 2, none⟩ = false := hcl.free 2
  have c3' : w1.cell? ⟨K.p, 3, none⟩ = some (.slice (some ⟨g3, 0, none⟩) (vs'.length + 1) cap3) := hcl.cell 3
  have fg3 : w1.frozen? ⟨g3, vs'.length, none⟩ = false := blk_free hgb3 _
  have hne : g3 ≠ K.p := (hcl.ne (hcv.2 g3 rfl) (by decide)).symm
  have hne2 : K.p ≠ g3 := fun e => hne e.symm
  have m2 : Mv (· = 2) w1 (lab.ext w.heap.size (10 + cs.length)) (w1.setCell ⟨K.p, 2, none⟩ (.iface 75 (.slice (some ⟨g, 0, none⟩) (l.length + 1) cap))) (lab.ext w.heap.size (10 + cs.length)) := Mv.setCell _ _ _ _ hcl.2
  have hcv2 := hcv.mv m2 (by decide)
  have m3 : Mv (· = 3) (w1.setCell ⟨K.p, 2, none⟩ (.iface 75 (.slice (some ⟨g, 0, none⟩) (l.length + 1) cap))) (lab.ext w.heap.size (10 + cs.length)) ((w1.setCell ⟨K.p, 2, none⟩ (.iface 75 (.slice (some ⟨g, 0, none⟩) (l.length + 1) cap))).setCell ⟨g3, vs'.length, none⟩ (.iface 75 (.slice (some ⟨g, 0, none⟩) (l.length + 1) cap))) (lab.ext w.heap.size (10 + cs.length)) := Mv.setCell _ _ _ _ (hcv2.2 g3 rfl)
  have hcv3 := Rw.setLast (y := .iface 75 (.slice (some ⟨g, 0, none⟩) (l.length + 1) cap)) hcv2
  rw [List.length_reverse] at hcv3
  have hroot2 : ∀ v, (Value.iface 75 (.slice (some ⟨g, 0, none⟩) (l.length + 1) cap) :: vs').getLast? = some v → v = .iface 61 (.map (some K.mp)) := by
    intro v hv
    cases vs' with
    | nil => have := h.root (.iface 75 s) (by simp); injection this with h1; cases h1
    | cons x xs => exact h.root v (by simpa using hv)
  have key : PAt B (lab.ext w.heap.size (10 + cs.length)) ((w1.setCell ⟨K.p, 2, none⟩ (.iface 75 (.slice (some ⟨g, 0, none⟩) (l.length + 1) cap))).setCell ⟨g3, vs'.length, none⟩ (.iface 75 (.slice (some ⟨g, 0, none⟩) (l.length + 1) cap))) K { X with cx := .arr (l ++ [j]) :: cs } := by
    refine ⟨.iface 75 (.slice (some ⟨g, 0, none⟩) (l.length + 1) cap), .slice (some ⟨g3, 0, none⟩) (vs'.length + 1) cap3, kv, .iface 75 (.slice (some ⟨g, 0, none⟩) (l.length + 1) cap) :: vs', ?_⟩
    exact {
      cl := (hcl.set 2 _).mv m3 (by decide)
      lx := ((h.lx.mv m1 (by omega)).mv m2 (by decide)).mv m3 (by decide)
      cv := by simpa using hcv3
      kv := ((h.kv.mv m1 (by omega)).mv m2 (by decide)).mv m3 (by decide)
      cs := by
        refine ⟨⟨_, xs ++ [.iface t u], rfl, ?_, ?_⟩, ((hcs.mv m1 (by omega) (fun i hi => by omega)).mv m2 (by decide) (fun i hi => by omega)).mv m3 (by decide) (fun i hi => by omega)⟩
        · simpa using (hrw.mv m2 (by omega)).mv m3 (by omega)
        · refine isJs_app ?_ ?_
          · exact isJs.mv m3 (by decide) _ _ (isJs.mv m2 (by decide) _ _ (isJs.mv m1 (by omega) _ _ hjs))
          · exact isJ.mv m3 (by decide) _ _ (isJ.mv m2 (by decide) _ _ (isJ.mv m1 (by omega) _ _ hj))
      top := .inl rfl
      root := hroot2 }
  have mm : Mv PM w lab ((w1.setCell ⟨K.p, 2, none⟩ (.iface 75 (.slice (some ⟨g, 0, none⟩) (l.length + 1) cap))).setCell ⟨g3, vs'.length, none⟩ (.iface 75 (.slice (some ⟨g, 0, none⟩) (l.length + 1) cap))) (lab.ext w.heap.size (10 + cs.length)) :=
    ((m1.mono (M' := PM) (by rintro x rfl; simp [PM]; omega)).trans m2 (by rintro x rfl; decide)).trans m3 (by rintro x rfl; decide)
  have hw : IntKind.wrap .i64 ((vs'.length : Nat) : Int) = ((vs'.length : Nat) : Int) := by
    simp [IntKind.wrap, IntKind.bits, IntKind.signed]
    omega
  have i0 : (0 : Int) ≤ ((vs'.length : Nat) : Int) := by omega
  have i1 : ((vs'.length : Nat) : Int) < ((vs'.length : Nat) : Int) + 1 := by omega
  have i2 : ((vs'.length : Nat) : Int) < ((vs'.length + 1 : Nat) : Int) := by omega
  have HK := Lib.hid hcx
  have HV := Lib.hid hvl
  clear hroot2 hcx hvl hcv3 hcv2 m3 m2 m1 hrw hown1 hg1 hat1 hcl h hr hcv hcell3 hgb3 hown hcs hjs hj c2
  go_wp2
  refine wp_still_tail 15 mixed (by kernel_rfl) ?_
  simp only [List.take_succ_cons, List.take_zero, List.drop_succ_cons, List.drop_zero]
  repeat still_step
  refine wpStill_nil ?_
  go_wp2
  go_end0
  exact ⟨rfl, _, key.mv (Mv.aDraw (fun _ => False) _ _) (fun _ _ h => h), mm.trans (Mv.aDraw (fun _ => False) _ _) (fun _ h => h.elim)⟩
end
end Go.Cf
