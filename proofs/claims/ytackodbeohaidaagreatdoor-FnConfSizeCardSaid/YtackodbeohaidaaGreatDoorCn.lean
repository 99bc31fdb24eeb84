/-
  A configuration's text is read and told as a Node.
-/
import Derived.Test.YtackodbeohaidaaGreatDoorNl
import Derived.Test.YtackodbeohaidaaGreatDoorAC
import Derived.Test.YtackodbeohaidaaGreatDoorDc
namespace Go.Cf
open Go.RowKit Go.Conc Go.Proofs
attribute [local go_sem] run_store_flt
section
variable {B : Nat} {lab lab1 : Lab} {w w1 : World}
/-- The outermost map, when it is finished. -/
theorem CAt.root {m : List (ByteArray × JV)} {v : Value} (h : CAt B 10 lab w (.map m) v) : ∃ b, v = .iface 61 (.map (some b)) ∧ lab b = 10 ∧ isJ B (fun k => if k = b then 6 else lab k) w (.map (m.map (·.1)) (m.map (·.2))) v ∧
    Mv (fun x => x = 10) w lab w (fun k => if k = b then 6 else lab k) := by
  obtain ⟨b, t, rfl, hm, rfl, hj⟩ := h
  have mv : Mv (fun x => x = 10) w lab w (fun k => if k = b then 6 else lab k) :=
    ⟨rfl, rfl, rfl, Nat.le_refl _, fun _ _ _ => rfl, fun k _ hn => if_neg (fun e => hn (by rw [e]; exact hm.2))⟩
  refine ⟨b, rfl, hm.2, ?_, mv⟩
  simp only [isJ]
  refine ⟨b, t, rfl, ⟨hm.1, if_pos rfl⟩, by simp [List.map_map], by simp [List.map_map], ?_⟩
  have e : List.map (fun x => x.snd) (List.map (fun x => (x.fst, x.snd.fst)) t) = t.map (·.2.1) := by rw [List.map_map]; rfl
  rw [e]
  exact isJs.mv mv (by decide) _ _ hj
theorem results_cell2 {P : Program} {fn : Func} {t u : Tmp} {ty e : TypeId} {tmps : Array Value} {W : World} {g : Nat} {cs : Array Value} {fr : Nat × Nat} {d : TypeDesc} (h : fn.results = #[.cell t ty, .tmp u]) (hp : tmps.getD t undef = .pointer (some ⟨g, 0, none⟩)) (hg : W.heap[g]? = some (.cells cs e fr))
    (hu : P.underlying ty = some d) (hd : (match d with | .struct _ | .array _ _ => true | _ => false) = true) (hi : (P.info? ty).map (·.size) = some cs.size) : (results fn tmps).run P W = .ok (.tuple #[.agg cs, tmps.getD u undef]) W := by
  have := run_loadVar_row W g e ty cs fr d hg hu hd hi
  rw [results_cell_tmp h, hp]
  simp [asAddr, this, Result.andThen]
theorem Mv.grown_new {M : Nat → Prop} {w2 : World} {r : Nat} (h : Mv M w lab w1 lab1) (hg : w1.grownBy w2 (some r)) (hr : w.heap.size ≤ r) (ℓ : Nat) : Mv M w lab w2 (lab1.ext w1.heap.size ℓ) :=
  ⟨hg.os.trans h.os, hg.tape.trans h.tape, hg.output.trans h.output, Nat.le_trans h.size hg.size,
    fun x hx hn => (hg.block x (Nat.lt_of_lt_of_le hx h.size) (fun e => by cases e; omega)).trans (h.block x hx hn),
    fun x hx hn => by rw [Lab.ext_lt (Nat.lt_of_lt_of_le hx h.size)]; exact h.lab x hx hn⟩
/-- Conf on a text that is read. -/
def isC (B : Nat) (lab : Lab) (w : World) (m : List (ByteArray × JV)) (c : Array Value) : Prop := isN B lab w (.map (m.map (·.1)) (m.map (·.2))) c
set_option maxRecDepth 100000 in
set_option maxHeartbeats 1000000 in
theorem Conf_c (s : ByteArray) (m : List (ByteArray × JV)) (hB : B ≤ w.heap.size) (htb : Tb lab w) (hr : ReadAs s m) (hf : (JV.map (m.map (·.1)) (m.map (·.2))).fits) :
    Calls Tryz.prog 15 #[.string s] w fun e w' => ∃ c lab', e = .returned (.tuple #[.agg c, .int .i64 0]) ∧ isC B lab' w' m c ∧ Mv PM w lab w' lab' := by
  have bl : w.heap.size < (w.alloc z26).heap.size := by rw [World.size_alloc]; omega
  have hr1 : (w.alloc z26).heap[w.heap.size]? = some z26 := heap_alloc_new w _
  have hB1 : B ≤ (w.alloc z26).heap.size := Nat.le_trans hB (Nat.le_of_lt bl)
  have hres : Cl 7 ((lab.ext w.heap.size 7)) (w.alloc z26) w.heap.size (ndC 0 0 0 false { data := #[] } nilS nilS) 26 := ⟨hr1, Lab.ext_ge (Nat.le_refl _)⟩
  have hal7 : Mv (fun _ => False) w lab (w.alloc z26) (lab.ext w.heap.size 7) := Mv.alloc w lab _ 7
  have htb1 := htb.mv hal7 (fun h => h)
  have HA := Lib.hid hal7
  have HR := Lib.hid hres
  have HT := Lib.hid htb1
  clear hr1 hres hal7 htb1
  go_enter Tryz.func15, Tryz.ntmps15
  go_wp2_with fail
  refine (Parse_c s m hB1 HT.out hr).mono ?_
  rintro e w1 ⟨mp, lab1, rfl, hc, m1⟩
  obtain ⟨b, hb1, hb2, hj, m2⟩ := hc.root
  cases hb1
  have hB2 := Nat.le_trans hB1 m1.size
  have hres1 := HR.out.mv m1 (by decide)
  have hres2 := hres1.mv m2 (by decide)
  have M12 := (HA.out.mono (M' := PM) (fun _ h => h.elim)).trans (m1.trans m2 (fun x h => by subst h; decide)) (fun _ h => h)
  clear hc hb2 hres1 m1 m2
  go_wp2_with fail
  refine (node_c _ B w1 _ _ hB2 hf hj).mono ?_
  rintro e w2 ⟨c, lab2, rfl, hn, m3⟩
  have hres := hres2.mv m3 (fun h => h)
  have M123 := M12.trans m3 (fun _ h => h.elim)
  clear hres2 M12 m3 hj
  have hn' := hn
  simp only [isN] at hn'
  obtain ⟨kv, lv, cs, rfl, hk, hl, _⟩ := hn'
  obtain ⟨ka, kcap, rfl⟩ := own_slice hk.1
  obtain ⟨la, lcap, rfl⟩ := own_slice hl.1
  have z0 := blk_cell hres.1 0
  have z1 := blk_cell hres.1 1
  have z2 := blk_cell hres.1 2
  have z3 := blk_cell hres.1 3
  have z4 := blk_cell hres.1 4
  have z5 := blk_cell hres.1 5
  have z6 := blk_cell hres.1 6
  have f0 := blk_free hres.1 0
  have f1 := blk_free hres.1 1
  have f2 := blk_free hres.1 2
  have f3 := blk_free hres.1 3
  have f4 := blk_free hres.1 4
  have f5 := blk_free hres.1 5
  have f6 := blk_free hres.1 6
  have S7 := Lib.hid (set7 (.int .i64 6) (.int .i64 0) (.float .f64 0) (.bool false) (.string { data := #[] }) (.slice ka m.length kcap) (.slice la m.length lcap) hres.1)
  have HN := Lib.hid hn
  have HM := Lib.hid M123
  have h7 := Lib.hid hres.2
  clear hn hres M123 hk hl
  go_wp2
  refine bodyPost_ret (results_cell2 rfl rfl S7.out.1 Tryz.underlying26 rfl info26) rfl ?_
  have mm : Mv (· = 7) w2 lab2 _ (lab2.ext w2.heap.size 7) := Mv.grown S7.out.2 lab2 7 (fun x hx => by cases hx; exact h7.out)
  refine ⟨_, _, rfl, ?_, HM.out.grown_new S7.out.2 (Nat.le_refl _) 7⟩
  have := isN.mv mm (by decide) _ _ HN.out
  simp only [List.length_map] at this
  exact this
end
end Go.Cf
