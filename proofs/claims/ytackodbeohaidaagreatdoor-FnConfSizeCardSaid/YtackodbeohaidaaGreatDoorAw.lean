/-
  awakeConf answers true.
-/
import Derived.Test.YtackodbeohaidaaGreatDoorCn
namespace Go.Cf
open Go.RowKit Go.Conc Go.Proofs
attribute [local go_sem] run_store_flt
section
variable {B : Nat} {lab lab1 : Lab} {w w1 : World}
/-- A map of one whole number, as a Node. -/
theorem isC.one {k : ByteArray} {n : Int} {c : Array Value} (h : isC B lab w [(k, .int n)] c) : ∃ gk ck gl cl, c = ndC 6 0 0 false { data := #[] } (.slice (some ⟨gk, 0, none⟩) 1 ck) (.slice (some ⟨gl, 0, none⟩) 1 cl) ∧
    w.cell? ⟨gk, 0, none⟩ = some (.string k) ∧ w.cell? ⟨gl, 0, none⟩ = some (.int .i64 1) ∧ w.cell? ⟨gl, 1, none⟩ = some (.int .i64 n) ∧ gk < w.heap.size ∧ gl < w.heap.size := by
  simp only [isC, isN, List.map_cons, List.map_nil, List.length_cons, List.length_nil] at h
  obtain ⟨kv, lv, cs, rfl, hk, hl, hn⟩ := h
  obtain ⟨gk, ck, rfl, _, hgk⟩ := hk.1.form (by decide)
  obtain ⟨gl, cl, rfl, _, hgl⟩ := hl.1.form (by decide)
  match cs, hn with
  | [c0], hn =>
    simp only [isNs, isN, and_true] at hn
    subst hn
    refine ⟨gk, ck, gl, cl, rfl, ?_, ?_, ?_, hgk, hgl⟩
    · rw [hk.1.cellAt 0 (by decide)]; rfl
    · rw [hl.1.cellAt 0 (by decide)]; rfl
    · rw [hl.1.cellAt 1 (by decide)]; rfl
  | [], hn => simp [isNs] at hn
  | _ :: _ :: _, hn => simp [isNs] at hn
theorem read_awake : ReadAs ⟨#[97, 32, 61, 32, 53, 10]⟩ [(⟨#[97]⟩, .int 5)] := by
  have h := ra_plain ⟨#[53]⟩ (by intro i hi; match i, hi with | 0, _ => decide) (by decide) (by decide) (by decide)
  have e : szText ⟨#[53]⟩ ⟨#[]⟩ = ⟨#[97, 32, 61, 32, 53, 10]⟩ := by decide
  rw [e] at h
  exact h
set_option maxRecDepth 100000 in
set_option maxHeartbeats 1000000 in
theorem awake_c (htb : Tb lab w) : Calls Tryz.prog 13 #[] w fun e w' => e = .returned (.bool true) ∧ ∃ lab', Mv PM w lab w' lab' := by
  go_enter Tryz.func13, Tryz.ntmps13
  go_wp2_with fail
  refine (Conf_c (B := 0) _ _ (Nat.zero_le _) htb read_awake (by simp [JV.fits, fitsL])).mono ?_
  rintro e w1 ⟨c, lab1, rfl, hc, m⟩
  obtain ⟨gk, ck, gl, cl, rfl, h1, h2, h3, hk, hl⟩ := hc.one
  have q1 : ∀ o, (w1.alloc o).cell? ⟨gk, 0, none⟩ = some (.string ⟨#[97]⟩) := fun o => (World.cell?_alloc_lt _ _ _ hk).trans h1
  have q2 : ∀ o, (w1.alloc o).cell? ⟨gl, 0, none⟩ = some (.int .i64 1) := fun o => (World.cell?_alloc_lt _ _ _ hl).trans h2
  have q3 : ∀ o, (w1.alloc o).cell? ⟨gl, 1, none⟩ = some (.int .i64 5) := fun o => (World.cell?_alloc_lt _ _ _ hl).trans h3
  have HM := Lib.hid m
  clear m hc h1 h2 h3
  go_wp2
  go_ret
  exact ⟨rfl, _, HM.out.trans (Mv.alloc (M := fun _ => False) _ _ _ 33) (fun _ (h : False) => h.elim)⟩
end
end Go.Cf
