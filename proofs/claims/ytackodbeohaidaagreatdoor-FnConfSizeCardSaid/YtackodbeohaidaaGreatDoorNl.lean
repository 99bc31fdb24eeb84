/-
  A list is told as a Node; every value is.
-/
import Derived.Test.YtackodbeohaidaaGreatDoorNm
namespace Go.Cf
open Go.RowKit Go.Conc Go.Proofs Go.Maps
attribute [local go_sem ↓] nt_75_2 nt_75_22 nt_75_4 nt_75_9 nt_75_75
attribute [local go_sem] run_store_flt
section
variable {w : World}
set_option maxRecDepth 100000 in
set_option maxHeartbeats 2000000 in
theorem node_arr (l : List JV) (hl : ∀ j ∈ l, Pnode j) : Pnode (.arr l) := by
  intro B w lab v hB hfit hj
  simp only [isJ] at hj
  obtain ⟨s, xs, rfl, hrw, hjs⟩ := hj
  simp only [JV.fits] at hfit
  obtain ⟨ka, kcap, rfl⟩ := own_slice hrw.1
  have bel2 : Below w.heap.size w ((w.alloc z26).alloc (.cells (ndC 5 0 0 false { data := #[] } nilS nilS) 26)) := ((Below.refl _ w).alloc (Nat.le_refl _) _).alloc (by rw [World.size_alloc]; omega) _
  have hr1 : ((w.alloc z26).alloc (.cells (ndC 5 0 0 false { data := #[] } nilS nilS) 26)).heap[w.heap.size]? = some z26 := by
    rw [Below.heap_alloc _ _ _ (by rw [World.size_alloc]; omega)]; exact heap_alloc_new w _
  have hr2 : ((w.alloc z26).alloc (.cells (ndC 5 0 0 false { data := #[] } nilS nilS) 26)).heap[w.heap.size + 1]? = some (.cells (ndC 5 0 0 false { data := #[] } nilS nilS) 26) := by
    rw [← World.size_alloc w z26]; exact heap_alloc_new _ _
  obtain ⟨labr, hN⟩ := NInv.start (B := B) (kd := 5) (kv := nilS) (ks := []) (l := l) hr1 hr2 (World.ownsRow_nil _ _ _ _) bel2 lab
  have HN := Lib.hid hN
  have HJ := Lib.hid hjs
  have HL := Lib.hid hl
  clear bel2 hr1 hr2 hN hjs hl
  go_enter Tryz.func31, Tryz.ntmps31
  go_wp2_with fail
  go_loopw [9] (fun i wr => ∃ (k : Nat) (lv : Value) (cs : List (Array Value)) (labr : Lab), k ≤ l.length ∧ i = .int .i64 k ∧ NInv 5 w lab B (w.heap.size + 1) nilS [] l k lv cs wr labr) (fun i _ => l.length - (RowKit.intOf i).toNat)
  case atStart => exact ⟨0, nilS, [], labr, Nat.zero_le _, rfl, HN.out⟩
  case round =>
    obtain ⟨k, lv, cs, labk, hk, rfl, hI⟩ := hrel
    have hk0 : (0 : Int) ≤ (k : Int) := Int.natCast_nonneg _
    have hlen : l.length ≤ 1000000 := hfit.1
    by_cases hlt : k < l.length
    · have hk1 : (k : Int) < (l.length : Int) := by omega
      have hxl : xs.length = l.length := HJ.out.len
      obtain ⟨x, hx⟩ : ∃ x, xs[k]? = some x := ⟨_, List.getElem?_eq_getElem (by omega)⟩
      obtain ⟨j, hjk⟩ : ∃ j, l[k]? = some j := ⟨_, List.getElem?_eq_getElem hlt⟩
      obtain ⟨g, cap, e, _, _⟩ := hrw.1.form (by omega)
      cases e
      have q4 : wr.drew.cell? ⟨g, k, none⟩ = some x := by
        rw [(hrw.mv hI.drew.toMv (fun h => h)).1.cellAt k (by omega)]
        exact hx
      have q1 := blk_cell hI.drew.out.1 6
      have hPj : Pnode j := HL.out _ (List.mem_of_getElem? hjk)
      have hfj : j.fits := (fitsL_iff l).1 hfit.2 _ (List.mem_of_getElem? hjk)
      have hjx : isJ B labk wr.drew j x := isJ.mv hI.drew.toMv (fun h => h) _ _ (isJs.get k _ _ HJ.out hjk hx)
      obtain ⟨i0, hi0, hz0, hz1, hz2⟩ := info_parts info26z
      go_wp2_with fail
      go_region_law (first
          | (go_simp
             go_at_call 31
             refine (hPj B _ labk _ (Nat.le_trans hB hI.drew.below.size) hfj hjx).mono ?_
             rintro e w1 ⟨c, lab1, rfl, hc, m1⟩
             obtain ⟨kk, n', f', b', s', kv', lv', rfl, hone1, hone2⟩ := hc.shape
             have hI1 := hI.drew.mv m1
             have hB1 := hI1.below.size
             have p1 := blk_cell hI1.out.1 6
             have p2 : ∀ o, (w1.alloc o).cell? ⟨w.heap.size + 1, 6, none⟩ = some lv := fun o => (World.cell?_alloc_lt _ _ _ (World.block_lt_of_cell? _ _ p1)).trans p1)
          | (refine step_append_lies _ (by rfl) _ _ _ (by rfl) w.heap.size 26 i0 _ 7 96 Tryz.underlying24 hi0 hz0 hz1 hz2 rfl (by omega) lv k (flat cs) (by rfl) (hI1.list.1.alloc _)
              ⟨w1.heap.size, 0, none⟩ 1 1 [.int .i64 kk, .int .i64 n', .float .f64 f', .bool b', .string s', kv', lv'] (by rfl) (by rfl) (World.news_of_block (cs := ndC kk n' f' b' s' kv' lv') (t := 26) (fr := (0, 0)) (heap_alloc_new w1 _)) (nd_one hone1 hone2)
              (by omega) (by simp only [maxLen]; omega) (by omega) (by simp; omega) (w1.heap.size + 1) (by simp) ?_
             intro gg cap2 w2 hown2 hg2 hat2 hlt2
             have hg3 := World.grownBy.trans (World.grownBy_alloc w1 (.cells (ndC kk n' f' b' s' kv' lv') 26) lv.ownBlock) hg2
             have hO2 := hI1.out.mv (M := (· = 30)) (Mv.grown hg3 lab1 30 (fun x hx => (hI1.list.own_lab x hx).1)) (by decide)
             have r1 := blk_cell hO2.1 6
             have r2 := blk_free hO2.1 6))
      all_goals
        have hst := hI1.step hjk hc hown2 hg3 (by
          rcases hat2 with e | e
          · exact .inl e.symm
          · exact .inr ⟨gg, rfl, by omega⟩)
        clear hO2 hI1 hI hc hown2 hg2 hg3 hat2 hlt2 p1 p2 r1 r2 q1 q4 m1 hjx hPj hfj
        go_wp2
        go_roundw
        case rel => exact ⟨k + 1, _, _, _, by omega, by go_num, hst⟩
        case measure => simp [RowKit.intOf]; omega
    · have hke : k = l.length := by omega
      subst hke
      obtain ⟨la, lcap, hlv⟩ := own_slice hI.list.1
      subst hlv
      have hres := hI.res.1
      have hout := hI.out.1
      have o0 := blk_cell hout 0
      have o1 := blk_cell hout 1
      have o2 := blk_cell hout 2
      have o3 := blk_cell hout 3
      have o4 := blk_cell hout 4
      have o5 := blk_cell hout 5
      have o6 := blk_cell hout 6
      have z0 := blk_cell hres 0
      have z1 := blk_cell hres 1
      have z2 := blk_cell hres 2
      have z3 := blk_cell hres 3
      have z4 := blk_cell hres 4
      have z5 := blk_cell hres 5
      have z6 := blk_cell hres 6
      have f0 := blk_free hres 0
      have f1 := blk_free hres 1
      have f2 := blk_free hres 2
      have f3 := blk_free hres 3
      have f4 := blk_free hres 4
      have f5 := blk_free hres 5
      have f6 := blk_free hres 6
      have S7 := Lib.hid (set7 (.int .i64 5) (.int .i64 0) (.float .f64 0) (.bool false) (.string { data := #[] }) nilS (.slice la l.length lcap) hres)
      have HI := Lib.hid hI
      clear hI hres hout
      go_wp2
      refine bodyPost_ret (results_cell rfl rfl S7.out.1 Tryz.underlying26 rfl info26) rfl ?_
      obtain ⟨lab', m, _, r2, r3⟩ := HI.out.told hB S7.out.2
      refine ⟨_, lab', rfl, ?_, m⟩
      simp only [isN]
      exact ⟨_, cs, rfl, r2, r3⟩
end
theorem node_int' (n : Int) : Pnode (.int n) := by
  intro B w lab v _ _ hj
  simp only [isJ] at hj
  subst hj
  refine (node_int n).mono ?_
  rintro e w' ⟨rfl, hb⟩
  exact ⟨_, lab.ext w.heap.size 30, rfl, by simp only [isN], Mv.below hb lab 30⟩
theorem node_num' (n : Nat) : Pnode (.num n) := by
  intro B w lab v _ _ hj
  simp only [isJ] at hj
  subst hj
  refine (node_num n).mono ?_
  rintro e w' ⟨rfl, hb⟩
  exact ⟨_, lab.ext w.heap.size 30, rfl, by simp only [isN], Mv.below hb lab 30⟩
theorem node_tr' (n : Bool) : Pnode (.tr n) := by
  intro B w lab v _ _ hj
  simp only [isJ] at hj
  subst hj
  refine (node_tr n).mono ?_
  rintro e w' ⟨rfl, hb⟩
  exact ⟨_, lab.ext w.heap.size 30, rfl, by simp only [isN], Mv.below hb lab 30⟩
theorem node_txt' (n : ByteArray) : Pnode (.txt n) := by
  intro B w lab v _ _ hj
  simp only [isJ] at hj
  subst hj
  refine (node_txt n).mono ?_
  rintro e w' ⟨rfl, hb⟩
  exact ⟨_, lab.ext w.heap.size 30, rfl, by simp only [isN], Mv.below hb lab 30⟩
mutual
/-- Every value is told as a Node. -/
theorem node_c : ∀ j : JV, Pnode j
  | .int n => node_int' n
  | .num n => node_num' n
  | .tr n => node_tr' n
  | .txt n => node_txt' n
  | .arr l => node_arr l (node_cs l)
  | .map ks l => node_map ks l (node_cs l)
theorem node_cs : ∀ l : List JV, ∀ j ∈ l, Pnode j
  | [], _, h => nomatch h
  | x :: r, j, h => (List.mem_cons.1 h).elim (fun e => e ▸ node_c x) (fun h => node_cs r j h)
end
end Go.Cf
