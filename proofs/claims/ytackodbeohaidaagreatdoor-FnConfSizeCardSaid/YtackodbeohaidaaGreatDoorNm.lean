/-
  A map is told as a Node.
-/
import Derived.Test.YtackodbeohaidaaGreatDoorNd
import Derived.Test.YtackodbeohaidaaGreatDoorNi
import Derived.Deep.RegionLaw
namespace Go.Cf
open Go.RowKit Go.Conc Go.Proofs Go.Maps
attribute [local go_sem ↓] nt_61_2 nt_61_22 nt_61_4 nt_61_9 nt_61_75 nt_61_61
attribute [local go_sem] run_store_flt
section
variable {w : World}
abbrev z26 : Obj := .cells #[i64 0, i64 0, .float .f64 0, .bool false, .string { data := #[] }, .slice none 0 0, .slice none 0 0] 26
abbrev n26 (kv lv : Value) : Array Value := #[i64 6, i64 0, .float .f64 0, .bool false, .string { data := #[] }, kv, lv]
set_option maxRecDepth 100000 in
set_option maxHeartbeats 2000000 in
theorem node_map (ks : List ByteArray) (l : List JV) (hl : ∀ j ∈ l, Pnode j) : Pnode (.map ks l) := by
  intro B w lab v hB hfit hj
  simp only [isJ] at hj
  obtain ⟨b, t, rfl, hmp, hks, hls, hjs⟩ := hj
  simp only [JV.fits] at hfit
  have hown := hmp.1
  obtain ⟨D, hD⟩ : ∃ D, D = entD t := ⟨_, rfl⟩
  obtain ⟨n, hn⟩ : ∃ n, n = t.length := ⟨_, rfl⟩
  have hsize : Maps.size D = l.length := by rw [hD, ← hls]; simp [Maps.size, entD]
  have hmax : Maps.size D ≤ 1000000 := by rw [hsize]; exact hfit.1
  rw [← hD, ← hn] at hown
  have HD := Lib.hid hD
  have HN := Lib.hid hn
  have HJ := Lib.hid hjs
  have HL := Lib.hid hl
  clear hD hn hjs hl
  have hbl := hown.lt
  have bel2 : Below w.heap.size w ((w.alloc z26).alloc (.cells (n26 (.slice none 0 0) (.slice none 0 0)) 26)) := ((Below.refl _ w).alloc (Nat.le_refl _) _).alloc (by rw [World.size_alloc]; omega) _
  have ho2 := (hown.alloc z26).alloc (.cells (n26 (.slice none 0 0) (.slice none 0 0)) 26)
  have hr1 : ((w.alloc z26).alloc (.cells (n26 (.slice none 0 0) (.slice none 0 0)) 26)).heap[w.heap.size]? = some z26 := by
    rw [Below.heap_alloc _ _ _ (by rw [World.size_alloc]; omega)]; exact heap_alloc_new w _
  have hr2 : ((w.alloc z26).alloc (.cells (n26 (.slice none 0 0) (.slice none 0 0)) 26)).heap[w.heap.size + 1]? = some (.cells (n26 (.slice none 0 0) (.slice none 0 0)) 26) := by
    rw [← World.size_alloc w z26]; exact heap_alloc_new _ _
  have hsz : ((w.alloc z26).alloc (.cells (n26 (.slice none 0 0) (.slice none 0 0)) 26)).heap.size = w.heap.size + 1 + 1 := by rw [World.size_alloc, World.size_alloc]
  have HB := Lib.hid bel2
  have H1 := Lib.hid hr1
  have H2 := Lib.hid hr2
  have HS := Lib.hid hsz
  clear bel2 hr1 hr2 hsz
  go_enter Tryz.func31, Tryz.ntmps31
  go_wp2_with (at_range; refine wpList_range_own _ rfl _ 61 rfl 9 20 (Maps.string_keyed Tryz.underlying9) Tryz.underlying61 anyR b n D rfl ho2 ?_; intro w0 hrg0 hg0 hs0)
  rw [HS.out] at hrg0 hs0
  have hb0 : Below w.heap.size w w0 := HB.out.grown hg0 (by rw [HS.out]; omega) (fun j hj => by cases hj)
  have hc1 : w0.heap[w.heap.size]? = some z26 := (hg0.block _ (by rw [HS.out]; omega) (by simp)).trans H1.out
  have hc2 : w0.heap[w.heap.size + 1]? = some (.cells (n26 (.slice none 0 0) (.slice none 0 0)) 26) := (hg0.block _ (by rw [HS.out]; omega) (by simp)).trans H2.out
  clear hg0 hs0
  go_frame
  go_loopw [] (fun wr => ∃ (left : Lit → Bool) (cnt : Nat) (ss : List (List UInt8)) (kv : Value), wr.ranges Tryz.prog 9 anyR b (w.heap.size + 1 + 1) n D left cnt ∧ ss.length + cnt ≤ Maps.size D ∧
      wr.ownsRow w.heap.size 9 1 kv ss.length (ss.map encStr) ∧ wr.heap[w.heap.size]? = some z26 ∧ wr.heap[w.heap.size + 1]? = some (.cells (n26 kv (.slice none 0 0)) 26) ∧ Collected D left ss ∧ Below w.heap.size w wr)
    (fun wr => wr.rangeLeft b (w.heap.size + 1 + 1))
  case atStart => exact ⟨_, _, [], .slice none 0 0, hrg0, by simp, World.ownsRow_nil _ _ _ _, hc1, hc2, Collected.start D, hb0⟩
  case round =>
    obtain ⟨left, cnt, ss, kv, hrg, hcs, hrow, hz1, hz2, hC, hnx⟩ := hrel
    go_wp2_with (at_next; go_loud (refine wpList_next_ranges _ rfl _ rfl 9 (Maps.string_keyed Tryz.underlying9) anyR encStr (fun v => v) (fun key kl hk => by obtain ⟨x, hx, _⟩ := Maps.keyOf_str Tryz.underlying9 hk; exact ⟨x, hx⟩) (fun v y hv => ⟨v, rfl⟩) b (w.heap.size + 1 + 1) n _ _ _ (by simp [Act.eval]) hrg ?_ ?_))
    · intro _ hleft
      obtain ⟨hsort, hlen⟩ := sorted_keys hmp (HD.out ▸ hC) hleft
      have hkl : ss.length = ks.length := by rw [hlen, ← hks]; simp
      have hll : ks.length = l.length := by rw [← hks, ← hls]; simp
      clear hC hleft hrg hcs hrg0 hb0 hc1 hc2
      have hss : ss.length ≤ 1000000 := by omega
      have n1 : kv.ownBlock ≠ some w.heap.size := own_ne_blk hrow hz1 (by decide)
      have n2 : kv.ownBlock ≠ some (w.heap.size + 1) := own_ne_blk hrow hz2 (by decide)
      have c5 : wr.cell? ⟨w.heap.size + 1, 5, none⟩ = some kv := blk_cell hz2 5
      go_wp2_with fail
      refine (sort_c hrow hss).mono ?_
      rintro e w3 ⟨rfl, hrow3, hg3⟩
      rw [hsort, hkl, hks] at hrow3
      have hz1' : w3.heap[w.heap.size]? = some z26 := (hg3.block _ (lt_of_block hz1) (fun e => n1 e.symm)).trans hz1
      have hz2' : w3.heap[w.heap.size + 1]? = some (.cells (n26 kv (.slice none 0 0)) 26) := (hg3.block _ (lt_of_block hz2) (fun e => n2 e.symm)).trans hz2
      have hb3 : Below w.heap.size w w3 := hnx.grown hg3 hnx.size (fun x hx => (hrow.lt x hx).1)
      obtain ⟨labr, hN⟩ := NInv.start (B := B) (l := l) hz1' hz2' hrow3 hb3 lab
      clear hz1 hz2 hrow hnx c5 hz1' hz2' hrow3 hb3 hg3 n1 n2 hsort hlen hkl
      go_wp2_with fail
      go_loopw [13] (fun i wr => ∃ (k : Nat) (lv : Value) (cs : List (Array Value)) (labr : Lab), k ≤ l.length ∧ i = .int .i64 k ∧ NInv 6 w lab B (w.heap.size + 1) kv ks l k lv cs wr labr) (fun i _ => l.length - (RowKit.intOf i).toNat)
      case atStart => exact ⟨0, nilS, [], labr, Nat.zero_le _, rfl, hN⟩
      case round =>
        obtain ⟨k, lv, cs, labk, hk, rfl, hI⟩ := hrel
        have hk0 : (0 : Int) ≤ (k : Int) := Int.natCast_nonneg _
        obtain ⟨ka, kcap, hkv⟩ := own_slice hI.keys.1
        have hc5 := hI.cell5
        have hlen : l.length ≤ 1000000 := hsize ▸ hmax
        by_cases hlt : k < l.length
        · have hk1 : (k : Int) < (ks.length : Int) := by omega
          obtain ⟨x, hx⟩ : ∃ x, t[k]? = some x := ⟨t[k]'(by rw [← hls] at hlt; simpa using hlt), List.getElem?_eq_getElem _⟩
          obtain ⟨g, cap, rfl, _, _⟩ := hI.keys.1.form (by omega)
          have hNB := (hI.drew).nb hmp
          obtain ⟨q1, q2, q3, q4, q5⟩ := hNB.reads hks.symm hx
          have hjk : l[k]? = some x.2.1 := by rw [← hls]; simp [hx]
          have hPj : Pnode x.2.1 := HL.out _ (List.mem_of_getElem? hjk)
          have hfj : x.2.1.fits := (fitsL_iff l).1 hfit.2 _ (List.mem_of_getElem? hjk)
          have hjx : isJ B labk wr.drew x.2.1 x.2.2 := isJ.mv hI.drew.toMv (fun h => h) _ _ (isJs.get k _ _ HJ.out hjk (by simp [hx]))
          obtain ⟨i0, hi0, hz0, hz1, hz2⟩ := info_parts info26z
          clear hN
          go_wp2_with fail
          go_region_law (first
              | (go_simp
                 go_at_call 31
                 refine (hPj B _ labk _ (Nat.le_trans hB hI.drew.below.size) hfj hjx).mono ?_
                 rintro e w1 ⟨c, lab1, rfl, hc, m1⟩
                 obtain ⟨kk, n', f', b', s', kv', lv', rfl, hone1, hone2⟩ := hc.shape
                 have hI1 := hI.drew.mv m1
                 have hNB1 := hNB.mv m1 (fun h => h) (fun h => h) (fun h => h)
                 have hB1 := hI1.below.size
                 have p1 := (hNB1.reads hks.symm hx).1
                 have p2 : ∀ o, (w1.alloc o).cell? ⟨w.heap.size + 1, 6, none⟩ = some lv := fun o => (World.cell?_alloc_lt _ _ _ (World.block_lt_of_cell? _ _ p1)).trans p1)
              | (refine step_append_lies _ (by rfl) _ _ _ (by rfl) w.heap.size 26 i0 _ 7 96 Tryz.underlying24 hi0 hz0 hz1 hz2 rfl (by omega) lv k (flat cs) (by rfl) (hI1.list.1.alloc _)
                  ⟨w1.heap.size, 0, none⟩ 1 1 [.int .i64 kk, .int .i64 n', .float .f64 f', .bool b', .string s', kv', lv'] (by rfl) (by rfl) (World.news_of_block (cs := ndC kk n' f' b' s' kv' lv') (t := 26) (fr := (0, 0)) (heap_alloc_new w1 _)) (nd_one hone1 hone2)
                  (by omega) (by simp only [maxLen]; omega) (by omega) (by simp; omega) (w1.heap.size + 1) (by simp) ?_
                 intro gg cap2 w2 hown2 hg2 hat2 hlt2
                 have hg3 := World.grownBy.trans (World.grownBy_alloc w1 (.cells (ndC kk n' f' b' s' kv' lv') 26) lv.ownBlock) hg2
                 have hNB2 := hNB1.mv (M := (· = 30)) (Mv.grown hg3 lab1 30 (fun x hx => (hI1.list.own_lab x hx).1)) (by decide) (by decide) (by decide)
                 obtain ⟨r1, r2, _⟩ := hNB2.reads hks.symm hx))
          all_goals
            have hst := hI1.step hjk hc hown2 hg3 (by
              rcases hat2 with e | e
              · exact .inl e.symm
              · exact .inr ⟨gg, rfl, by omega⟩)
            clear hNB hNB1 hNB2 hI1 hI hc hown2 hg2 hg3 hat2 hlt2 p1 p2 r1 r2 q1 q2 q3 q4 q5 m1 hjx hPj hfj
            go_wp2
            go_roundw
            case rel => exact ⟨_, _, _, _, _, _, _, _, _, _, _, _, _, _, _, _, _, _, _, _, _, ⟨k + 1, _, _, _, by omega, by go_num, hst⟩, by
              simp
              (repeat' apply And.intro) <;> first | rfl | exact hll.symm⟩
            case measure => simp [RowKit.intOf]; omega
        · have hke : k = l.length := by omega
          subst hke
          have hk1 : ¬ ((l.length : Int) < (ks.length : Int)) := by omega
          obtain ⟨la, lcap, hlv⟩ := own_slice hI.list.1
          subst hkv
          subst hlv
          have hres := hI.res.1
          have hout := hI.out.1
          have o0 := blk_cell hout 0
          have o1 := blk_cell hout 1
          have o2 := blk_cell hout 2
          have o3 := blk_cell hout 3
          have o4 := blk_cell hout 4
          have o5 := blk_cell hout 5
          have o6 := blk_cell hout 6
          have z0 := blk_cell hres 0
          have z1 := blk_cell hres 1
          have z2 := blk_cell hres 2
          have z3 := blk_cell hres 3
          have z4 := blk_cell hres 4
          have z5 := blk_cell hres 5
          have z6 := blk_cell hres 6
          have f0 := blk_free hres 0
          have f1 := blk_free hres 1
          have f2 := blk_free hres 2
          have f3 := blk_free hres 3
          have f4 := blk_free hres 4
          have f5 := blk_free hres 5
          have f6 := blk_free hres 6
          have S7 := Lib.hid (set7 (.int .i64 6) (.int .i64 0) (.float .f64 0) (.bool false) (.string { data := #[] }) (.slice ka l.length kcap) (.slice la l.length lcap) hres)
          have HI := Lib.hid hI
          clear hI hres hout hN
          go_wp2
          refine bodyPost_ret (results_cell rfl rfl S7.out.1 Tryz.underlying26 rfl info26) rfl ?_
          obtain ⟨lab', m, r1, r2, r3⟩ := HI.out.told hB S7.out.2
          refine ⟨_, rfl, lab', ?_, m⟩
          simp only [isN]
          exact ⟨.slice ka ks.length kcap, _, cs, by rw [hll], r1, r2, r3⟩
    · intro x c kl yd yp w2 cnt2 hkey hlk hv1 hv2 hat hrg2 hlt hg2 hs2 hen
      obtain ⟨x', ex, rfl, _⟩ := Maps.keyOf_str Tryz.underlying9 hkey
      obtain rfl : x = x' := encStr_inj ex
      have hit : ∃ since seen c0, wr.heap[w.heap.size + 1 + 1]? = some (.mapIter (some b) since seen c0) := by
        obtain ⟨es, clock, since, seen, c0, _, _, _, _, hi, _⟩ := hrg
        exact ⟨_, _, _, hi⟩
      obtain ⟨q1, q2, q3, hit⟩ := hit
      have hkvne : ∀ k, kv.ownBlock = some k → k ≠ w.heap.size + 1 + 1 := by
        rintro k hk rfl
        obtain ⟨_, ⟨h0, _⟩ | ⟨g, cap, cur, hv, _, hblk, _⟩⟩ := hrow
        · rw [h0] at hk; cases hk
        · rw [hv] at hk; simp only [Value.ownBlock, Option.some.injEq] at hk; subst hk; rw [hit] at hblk; cases hblk
      have hrow2 : w2.ownsRow w.heap.size 9 1 kv ss.length (ss.map encStr) := ownsRow_kept hrow hg2 (fun k hk e => hkvne k hk (by simpa using e))
      have hz1' : w2.heap[w.heap.size]? = some z26 := (hg2.block _ (lt_of_block hz1) (by simp; omega)).trans hz1
      have hz2' : w2.heap[w.heap.size + 1]? = some (.cells (n26 kv (.slice none 0 0)) 26) := (hg2.block _ (lt_of_block hz2) (by simp)).trans hz2
      have hnx2 : Below w.heap.size w w2 := hnx.grown hg2 hnx.size (fun j hj => by cases hj; omega)
      have c5 : w2.cell? ⟨w.heap.size + 1, 5, none⟩ = some kv := blk_cell hz2' 5
      have hlt1 := lt_of_block hz2'
      have hB : w.heap.size ≤ w2.heap.size := hnx2.size
      clear hs2 hg2 hit
      go_wp2_with (at_builtin; refine app_one w.heap.size rfl _ _ 23 9 (.string { data := #[] }) 1 16 rfl Tryz.underlying23 info9 rfl (by decide) (by decide) kv ss.length (ss.map encStr) [encStr x] rfl rfl rfl (by simp [Value.oneCell', encStr]) hrow2 hB (by omega) ?_)
      intro v1 w3 hown3 hg3 hat3
      have hne1 : ∀ k, kv.ownBlock = some k → k ≠ w.heap.size ∧ k ≠ w.heap.size + 1 := by
        intro k hk
        obtain ⟨_, ⟨h0, _⟩ | ⟨g, cap, cur, hv, _, hblk, _⟩⟩ := hrow2
        · rw [h0] at hk; cases hk
        · rw [hv] at hk; simp only [Value.ownBlock, Option.some.injEq] at hk; subst hk
          refine ⟨?_, ?_⟩
          · rintro e; rw [e, hz1'] at hblk; injection hblk with hblk; injection hblk with _ h2 _; cases h2
          · rintro e; rw [e, hz2'] at hblk; injection hblk with hblk; injection hblk with _ h2 _; cases h2
      have hz1'' : w3.heap[w.heap.size]? = some z26 := (hg3.block _ (lt_of_block hz1') (fun e => (hne1 _ e.symm).1 rfl)).trans hz1'
      have hz2'' : w3.heap[w.heap.size + 1]? = some (.cells (n26 kv (.slice none 0 0)) 26) := (hg3.block _ hlt1 (fun e => (hne1 _ e.symm).2 rfl)).trans hz2'
      have c5' : w3.cell? ⟨w.heap.size + 1, 5, none⟩ = some kv := blk_cell hz2'' 5
      have f5' : w3.frozen? ⟨w.heap.size + 1, 5, none⟩ = false := blk_free hz2'' 5
      obtain ⟨g, cap, e7, _, _⟩ := hown3.form (by omega)
      subst e7
      have hneb : b ≠ w.heap.size + 1 := by omega
      have hkb : ∀ k, kv.ownBlock = some k → k ≠ b := by
        intro k hk
        obtain ⟨es, clock, since, seen, c0, hb', _⟩ := hrg2
        obtain ⟨_, ⟨h0, _⟩ | ⟨g', cap', cur, hv, _, hblk, _⟩⟩ := hrow2
        · rw [h0] at hk; cases hk
        · rw [hv] at hk; simp only [Value.ownBlock, Option.some.injEq] at hk; subst hk
          rintro e; rw [e, hb'] at hblk; cases hblk
      have hrg3 := (hrg2.kept hg3 (fun e => hkb _ e.symm rfl) (fun e => hkvne _ e.symm rfl)).kept (grown_setCell w3 (w.heap.size + 1) 5 (.slice (some ⟨g, 0, none⟩) (ss.length + 1) cap)) (by simp; omega) (by simp)
      have hgne : g ≠ w.heap.size + 1 := by
        rintro rfl
        obtain ⟨_, ⟨h0, _⟩ | ⟨g', cap', cur, hv, _, hblk, _⟩⟩ := hown3
        · cases h0
        · simp only [Value.slice.injEq, Option.some.injEq, Addr.mk.injEq] at hv
          obtain ⟨⟨rfl, _, _⟩, _, rfl⟩ := hv
          rw [hz2''] at hblk; injection hblk with hblk; injection hblk with _ h2 _; cases h2
      have hrow4 : (w3.setCell ⟨w.heap.size + 1, 5, none⟩ (.slice (some ⟨g, 0, none⟩) (ss.length + 1) cap)).ownsRow w.heap.size 9 1 (.slice (some ⟨g, 0, none⟩) (ss.length + 1) cap) (ss.length + 1) (ss.map encStr ++ [encStr x]) :=
        ownsRow_setCell_other hown3 (by simp only [Value.ownBlock, ne_eq, Option.some.injEq]; exact hgne) _
      have hz1w : (w3.setCell ⟨w.heap.size + 1, 5, none⟩ (.slice (some ⟨g, 0, none⟩) (ss.length + 1) cap)).heap[w.heap.size]? = some z26 := by
        rw [Below.heap_setCell _ _ _ _ (by simp)]; exact hz1''
      have hz2w := blk_setCell hz2'' 5 (.slice (some ⟨g, 0, none⟩) (ss.length + 1) cap)
      have hnx3 : Below w.heap.size w (w3.setCell ⟨w.heap.size + 1, 5, none⟩ (.slice (some ⟨g, 0, none⟩) (ss.length + 1) cap)) :=
        (hnx2.grown hg3 hnx2.size (fun j hj => (hrow2.lt j hj).1)).grown (grown_setCell w3 _ 5 _) (Nat.le_trans hnx2.size hg3.size) (fun j hj => by cases hj; omega)
      clear hneb hkb hgne hown3 hg3 hat3 hne1 hz1'' hz2'' hnx2 hz1' hz2' hrow2 hkvne c5
      go_wp2
      go_roundw
      case rel => exact ⟨_, _, _, _, _, _, _, _, _, _, _, ⟨_, cnt2, ss ++ [x], _, hrg3, by simp; omega, by simpa using hrow4, hz1w, hz2w, hC.step hlk hat, hnx3⟩, by simp; exact ⟨rfl, rfl, rfl, rfl, rfl, rfl, rfl, rfl, rfl, rfl, rfl⟩⟩
      case measure => rw [hrg3.left_eq, hrg.left_eq]; exact hlt
end
end Go.Cf
