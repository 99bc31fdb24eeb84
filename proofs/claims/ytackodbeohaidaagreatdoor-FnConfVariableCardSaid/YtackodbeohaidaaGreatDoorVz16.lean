/-
  Texts joined: Ve.
-/
import Derived.Test.YtackodbeohaidaaGreatDoorVz14
import Derived.Test.YtackodbeohaidaaGreatDoorVz15
/-
  FnConfVariable.
-/
namespace Go.Cf
open Go.RowKit Go.Conc Go.Proofs
attribute [local go_sem] run_store_flt
section
variable {w w1 w2 : World} {k n : Int} {f : Nat} {is : Bool} {t T : ByteArray} {a a1 a2 : Option Addr} {m c m1 m2 c1 c2 gk gl : Nat} {j : JV} {sv : Value} {style : List UInt8}
theorem _root_.Go.RowKit.Below.mv0 (b : Below w.heap.size w w1) : Mv (fun _ => False) w L0 w1 L0 := ⟨b.os, b.tape, b.output, b.size, fun k hk _ => b.block k hk, fun _ _ _ => rfl⟩
theorem awakeB (h : Tb L0 w) : Calls Tryz.prog 13 #[] w fun e w' => e = .returned (.bool true) ∧ Below w.heap.size w w' := by
  refine (awake_c h).mono ?_
  rintro e w' ⟨rfl, lab', m⟩
  exact ⟨rfl, m.toBelow (Nat.le_refl _) (fun _ _ h => h.1 rfl)⟩
def txA3 : ByteArray := { data := #[119, 32, 61, 32, 36, 118, 10, 120, 32, 123, 32, 121, 32, 61, 32, 36, 118, 32, 125, 10, 122, 32, 61, 32, 91, 36, 118, 44, 32, 49, 32, 93, 10] }
theorem txA3_eq : txA3 = txW ++ (txX ++ txZ) := by decide
theorem pos_of_first (h : byteAt T 0 = 123) : 0 < T.size := by
  rcases Nat.eq_zero_or_pos T.size with e | e
  · exfalso
    obtain ⟨⟨l⟩⟩ := T
    cases (show l = [] from List.length_eq_zero_iff.1 e)
    exact absurd h (by decide)
  · exact e
theorem three (w : World) (o1 o2 o3 : Obj) : (((w.alloc o1).alloc o2).alloc o3).heap[w.heap.size]? = some o1 ∧ (((w.alloc o1).alloc o2).alloc o3).heap[w.heap.size + 1]? = some o2 ∧ (((w.alloc o1).alloc o2).alloc o3).heap[w.heap.size + 2]? = some o3 ∧ Below w.heap.size w (((w.alloc o1).alloc o2).alloc o3) ∧ (((w.alloc o1).alloc o2).alloc o3).heap.size = w.heap.size + 3 := by
  have b1 : Below w.heap.size w (w.alloc o1) := (Below.refl _ _).alloc (Nat.le_refl _) _
  have s1 : (w.alloc o1).heap.size = w.heap.size + 1 := World.size_alloc _ _
  have n1 := heap_alloc_new w o1
  obtain ⟨wa, hwa⟩ : ∃ x, x = w.alloc o1 := ⟨_, rfl⟩
  rw [← hwa] at b1 s1 n1 ⊢
  have b2 : Below wa.heap.size wa (wa.alloc o2) := (Below.refl _ _).alloc (Nat.le_refl _) _
  have s2 : (wa.alloc o2).heap.size = wa.heap.size + 1 := World.size_alloc _ _
  have n2 := heap_alloc_new wa o2
  obtain ⟨wb, hwb⟩ : ∃ x, x = wa.alloc o2 := ⟨_, rfl⟩
  rw [← hwb] at b2 s2 n2 ⊢
  have b3 : Below wb.heap.size wb (wb.alloc o3) := (Below.refl _ _).alloc (Nat.le_refl _) _
  have s3 : (wb.alloc o3).heap.size = wb.heap.size + 1 := World.size_alloc _ _
  have n3 := heap_alloc_new wb o3
  refine ⟨?_, ?_, ?_, ?_, by omega⟩
  · rw [b3.block _ (by omega), b2.block _ (by omega)]; exact n1
  · rw [b3.block _ (by omega), ← s1]; exact n2
  · rw [show w.heap.size + 2 = wb.heap.size by omega]; exact n3
  · exact (b1.trans (b2.mono (by omega))).trans (b3.mono (by omega))
theorem ent_read (h : EntSp j T) (hl : byteAt T (T.size - 1) = 10) (hs : T.size ≤ 310) : ReadAs (T ++ txA3) [(bV, j), (bW, j), (bX, .map [bY] [j]), (bZ, .arr [j, .int 1])] := by
  obtain ⟨kb, Kt, q, V, E, hT, hk, hq, hV, hE⟩ := h
  rcases hE with ⟨e, he, rfl, hb⟩ | rfl
  · have e1 : T ++ txA3 = varAll kb Kt q V e := by
      rw [hT, txA3_eq]
      unfold varAll
      simp only [ByteArray.append_assoc]
    have hsz : txA3.size = 33 := rfl
    rw [e1]
    refine read_var kb Kt q V e j hk hq hV he hb ?_
    rw [← e1, ByteArray.size_append]
    omega
  · exfalso
    have e1 : T = (blankT kb ++ ((Kt ++ sepT q) ++ V)) ++ ⟨#[59]⟩ := by rw [hT]; simp only [ByteArray.append_assoc]
    have hz : (⟨#[59]⟩ : ByteArray).size = 1 := rfl
    have hs1 : T.size - 1 = (blankT kb ++ ((Kt ++ sepT q) ++ V)).size + 0 := by rw [e1, ByteArray.size_append, hz]; omega
    rw [hs1, e1, byteAt_app_right] at hl
    exact absurd hl (by decide)
theorem ent_pos (h : EntSp j T) : 0 < T.size := by
  obtain ⟨kb, Kt, q, V, E, hT, hk, hq, hV, hE⟩ := h
  have := (leaf_first hV).1
  have e3 : (V ++ E).size = V.size + E.size := ByteArray.size_append
  rw [hT, ByteArray.size_append, ByteArray.size_append]
  omega
theorem Four.below {gk ck gl cl gi ci gy cy gz cz : Nat} (h : Four w k n is t gk ck gl cl gi ci gy cy gz cz) (b : Below w.heap.size w w1) : Four w1 k n is t gk ck gl cl gi ci gy cy gz cz := by
  have key : ∀ (cs : Array Value) (a : Addr) (i : Nat), i < cs.size → w.cell? a = cs[i]? → w1.cell? a = cs[i]? := fun cs a i hi e => by
    rw [Array.getElem?_eq_getElem hi] at e ⊢
    exact b.cellB e
  exact ⟨fun i hi => key _ _ i hi (h.cv i hi), fun i hi => key _ _ i hi (h.cw i hi), fun i hi => key _ _ i hi (h.cx i hi), fun i hi => key _ _ i hi (h.cl' i hi), fun i hi => key _ _ i hi (h.ci' i hi), fun i hi => key _ _ i hi (h.cz' i hi)⟩
/-- What the slots of the law's last region hold. -/
def CV (s9 gl cl g1 gi ci g2 gz cz : Nat) (G N : Value) : Nat → Value
  | 0 | 7 => .pointer (some ⟨s9, 6, none⟩)
  | 1 | 8 => .slice (some ⟨gl, 0, none⟩) 4 cl
  | 2 => .pointer (some ⟨gl, 0, none⟩)
  | 9 => .pointer (some ⟨gl, 7, none⟩)
  | 3 | 10 | 29 | 48 => G
  | 4 | 11 | 30 | 49 => N
  | 15 => .pointer (some ⟨g1, 0, none⟩)
  | 16 => .int .i64 6
  | 20 | 26 => .pointer (some ⟨g1, 6, none⟩)
  | 21 | 27 => .slice (some ⟨gi, 0, none⟩) 1 ci
  | 22 => .int .i64 1
  | 28 => .pointer (some ⟨gi, 0, none⟩)
  | 34 => .pointer (some ⟨g2, 0, none⟩)
  | 35 => .int .i64 5
  | 39 | 45 => .pointer (some ⟨g2, 6, none⟩)
  | 40 | 46 => .slice (some ⟨gz, 0, none⟩) 2 cz
  | 41 => .int .i64 2
  | 47 => .pointer (some ⟨gz, 0, none⟩)
  | _ => .bool true
theorem leaf_fits (h : LeafOk f k n is t j) : (JV.map ([(bV, j), (bW, j), (bX, JV.map [bY] [j]), (bZ, .arr [j, .int 1])].map (·.1)) ([(bV, j), (bW, j), (bX, JV.map [bY] [j]), (bZ, .arr [j, .int 1])].map (·.2))).fits := by
  cases h <;> simp [JV.fits, fitsL]
set_option maxRecDepth 100000 in
set_option maxHeartbeats 8000000 in
theorem Variable1_below (w : World) (hn0 : -9223372036854775808 ≤ n) (hn1 : n ≤ 9223372036854775807) (h1 : m1 ≤ maxLen) (hk : KeysIn w a1 m1) (ht : t.size ≤ maxLen) (h2 : m2 ≤ maxLen) (hs : Sty L0 w (.slice a style.length c) style) (hsl : style.length ≤ maxLen) (htb : Tb L0 w) :
    Calls Tryz.prog 7 #[nodV 1 n f is t a1 m1 c1 a2 m2 c2, .slice a style.length c] w fun e w' => e = .returned (.bool true) ∧ Below w.heap.size w w' := by
  have hb : ∀ o, Below w.heap.size w (w.alloc o) := fun o => (Below.refl _ _).alloc (Nat.le_refl _) o
  have hft := fun o => fits1_c (w := w.alloc o) (k := 1) (n := n) (f := f) (is := is) (t := t) (a1 := a1) (c1 := c1) (a2 := a2) (c2 := c2) h1 (hk.below (hb o)) ht h2
  have hsx : (style.length : Int) ≤ 9223372036854775807 := by unfold maxLen at hsl; omega
  have HB := Lib.hid hb
  have HFT := Lib.hid hft
  have HS := Lib.hid (And.intro hs (And.intro htb (And.intro hk (And.intro h1 (And.intro h2 ht)))))
  clear hb hft hs htb hk
  unfold nodV at *
  go_enter Tryz.func7, Tryz.ntmps7
  go_wp2_with fail
  refine (HFT.out _).mono ?_
  rintro e w1 ⟨⟨ok, rfl⟩, hb1⟩
  have hx1 := (HB.out _).trans (hb1.mono (by rw [World.size_alloc]; omega))
  have hbx : w1.heap[w.heap.size]? = some (.cells #[.int .i64 1, .int .i64 n, .float .f64 f, .bool is, .string t, .slice a1 m1 c1, .slice a2 m2 c2] 26 (0, 0)) := by
    rw [hb1.block w.heap.size (by rw [World.size_alloc]; omega)]
    exact heap_alloc_new w _
  have hlt1 : w.heap.size < w1.heap.size := Nat.lt_of_lt_of_le (by rw [World.size_alloc]; omega) hb1.size
  cases ok with
  | false =>
    have HX := Lib.hid hx1
    clear hx1 hb1 hbx
    go_wp2
    go_ret
    exact ⟨rfl, HX.out⟩
  | true =>
    by_cases hs31 : style.length ≤ 2147483647
    case neg =>
      have d1 : decide ((2147483647 : Int) < (style.length : Int)) = true := decide_eq_true (by omega)
      have HX := Lib.hid hx1
      clear hx1 hb1 hbx
      go_wp2
      go_ret
      exact ⟨rfl, HX.out⟩
    have d1 : decide ((2147483647 : Int) < (style.length : Int)) = false := decide_eq_false (by omega)
    have b0 : w1.cell? ⟨w.heap.size, 0, none⟩ = some (.int .i64 1) := blk_cell hbx 0
    have b1 : w1.cell? ⟨w.heap.size, 1, none⟩ = some (.int .i64 n) := blk_cell hbx 1
    have b2 : w1.cell? ⟨w.heap.size, 2, none⟩ = some (.float .f64 f) := blk_cell hbx 2
    have b3 : w1.cell? ⟨w.heap.size, 3, none⟩ = some (.bool is) := blk_cell hbx 3
    have b4 : w1.cell? ⟨w.heap.size, 4, none⟩ = some (.string t) := blk_cell hbx 4
    have b5 : w1.cell? ⟨w.heap.size, 5, none⟩ = some (.slice a1 m1 c1) := blk_cell hbx 5
    have b6 : w1.cell? ⟨w.heap.size, 6, none⟩ = some (.slice a2 m2 c2) := blk_cell hbx 6
    have HX1 := Lib.hid (And.intro hx1 hbx)
    clear hx1 hb1 hbx
    have h3 := three w1 (.cells #[.string { data := #[118] }] 9) (.cells #[.int .i64 1, .int .i64 n, .float .f64 f, .bool is, .string t, .slice a1 m1 c1, .slice a2 m2 c2] 26) (.cells #[Value.int .i64 6, .int .i64 0, .float .f64 0, .bool false, .string { data := #[] }, .slice (some ⟨w1.heap.size, 0, none⟩) 1 1, .slice (some ⟨w1.heap.size + 1, 0, none⟩) 1 1] 26)
    obtain ⟨w2, hw2⟩ : ∃ x, x = ((w1.alloc (.cells #[.string { data := #[118] }] 9)).alloc (.cells #[.int .i64 1, .int .i64 n, .float .f64 f, .bool is, .string t, .slice a1 m1 c1, .slice a2 m2 c2] 26)).alloc (.cells #[Value.int .i64 6, .int .i64 0, .float .f64 0, .bool false, .string { data := #[] }, .slice (some ⟨w1.heap.size, 0, none⟩) 1 1, .slice (some ⟨w1.heap.size + 1, 0, none⟩) 1 1] 26) := ⟨_, rfl⟩
    rw [← hw2] at h3
    obtain ⟨hk2, hl2, ho2, hb2, hz2⟩ := h3
    have hx2 := HX1.out.1.trans (hb2.mono (Nat.le_of_lt hlt1))
    have hbx2 := (hb2.block _ hlt1).trans HX1.out.2
    have c0 : w2.cell? ⟨w.heap.size, 0, none⟩ = some (.int .i64 1) := blk_cell hbx2 0
    have o0 : w2.cell? ⟨w1.heap.size + 1 + 1, 0, none⟩ = some (.int .i64 6) := blk_cell ho2 0
    have o1 : w2.cell? ⟨w1.heap.size + 1 + 1, 1, none⟩ = some (.int .i64 0) := blk_cell ho2 1
    have o2 : w2.cell? ⟨w1.heap.size + 1 + 1, 2, none⟩ = some (.float .f64 0) := blk_cell ho2 2
    have o3 : w2.cell? ⟨w1.heap.size + 1 + 1, 3, none⟩ = some (.bool false) := blk_cell ho2 3
    have o4 : w2.cell? ⟨w1.heap.size + 1 + 1, 4, none⟩ = some (.string { data := #[] }) := blk_cell ho2 4
    have o5 : w2.cell? ⟨w1.heap.size + 1 + 1, 5, none⟩ = some (.slice (some ⟨w1.heap.size, 0, none⟩) 1 1) := blk_cell ho2 5
    have o6 : w2.cell? ⟨w1.heap.size + 1 + 1, 6, none⟩ = some (.slice (some ⟨w1.heap.size + 1, 0, none⟩) 1 1) := blk_cell ho2 6
    have HT := Lib.hid (treeOne_c (gk := w1.heap.size) (gl := w1.heap.size + 1) hk2 hl2 (fun w => tree1_c h1 h2 ht))
    have H2 := Lib.hid (And.intro hx2 (And.intro hbx2 (And.intro hk2 (And.intro hl2 (And.intro ho2 hz2)))))
    clear hx2 hbx2 hk2 hl2 ho2 hb2 HX1
    go_upto_region 4 with fail
    rw [← hw2]
    clear hw2 b0 b1 b2 b3 b4 b5 b6
    unfold oneV at *
    go_wp2_with fail
    refine HT.out.mono ?_
    rintro e w3 ⟨⟨ok, rfl, hok⟩, hb3⟩
    obtain ⟨hx2, hbx2, hk2, hl2, ho2, hz2⟩ := H2.out
    have hx3 := hx2.trans (hb3.mono (show w.heap.size ≤ w2.heap.size by omega))
    have htb3 := HS.out.2.1.mv hx3.mv0 (fun h => h)
    cases ok with
    | false =>
      have HX := Lib.hid hx3
      have HTB := Lib.hid htb3
      clear hx3 htb3 hb3 hx2 hbx2 hk2 hl2 ho2
      go_wp2_with fail
      refine (awakeB HTB.out).mono ?_
      rintro e wz ⟨rfl, hbz⟩
      have HZ := Lib.hid (HX.out.trans (hbz.mono HX.out.size))
      clear hbz
      go_wp2
      go_ret
      exact ⟨rfl, HZ.out⟩
    | true =>
      obtain ⟨⟨z1, z2, z3, hfz, z5, z6⟩, ht60⟩ := hok rfl
      have hlo : LeafOk f 1 n is t (.int n) := by
        rw [z3, z5 rfl]; exact .int n hn0 hn1 hfz
      subst z1 z2 z3
      have z7 := z5 rfl
      subst z7
      clear z5 z6
      have hbx3 := (hb3.block _ (show w.heap.size < w2.heap.size by omega)).trans hbx2
      have hk3 := (hb3.block _ (show w1.heap.size < w2.heap.size by omega)).trans hk2
      have hl3 := (hb3.block _ (show w1.heap.size + 1 < w2.heap.size by omega)).trans hl2
      have ho3 := (hb3.block _ (show w1.heap.size + 2 < w2.heap.size by omega)).trans ho2
      have hs3 := HS.out.1.mv hx3.mv0 (fun h => h)
      have p0 : w3.cell? ⟨w1.heap.size + 1 + 1, 0, none⟩ = some (.int .i64 6) := blk_cell ho3 0
      have p1 : w3.cell? ⟨w1.heap.size + 1 + 1, 1, none⟩ = some (.int .i64 0) := blk_cell ho3 1
      have p2 : w3.cell? ⟨w1.heap.size + 1 + 1, 2, none⟩ = some (.float .f64 0) := blk_cell ho3 2
      have p3 : w3.cell? ⟨w1.heap.size + 1 + 1, 3, none⟩ = some (.bool false) := blk_cell ho3 3
      have p4 : w3.cell? ⟨w1.heap.size + 1 + 1, 4, none⟩ = some (.string { data := #[] }) := blk_cell ho3 4
      have p5 : w3.cell? ⟨w1.heap.size + 1 + 1, 5, none⟩ = some (.slice (some ⟨w1.heap.size, 0, none⟩) 1 1) := blk_cell ho3 5
      have p6 : w3.cell? ⟨w1.heap.size + 1 + 1, 6, none⟩ = some (.slice (some ⟨w1.heap.size + 1, 0, none⟩) 1 1) := blk_cell ho3 6
      have HX := Lib.hid hx3
      have HTB := Lib.hid htb3
      have HWR := Lib.hid (written_one (gk := w1.heap.size) (gl := w1.heap.size + 1) ⟨hk3, rfl⟩ ⟨hl3, rfl⟩ hlo hs3)
      have HLO := Lib.hid hlo
      have HBX3 := Lib.hid (And.intro hbx3 (show w.heap.size < w3.heap.size from Nat.lt_of_lt_of_le (by omega) hb3.size))
      clear hx3 htb3 hb3 hx2 hbx2 hk2 hl2 ho2 hbx3 hk3 hl3 ho3 hs3 hlo hok H2 HT
      unfold oneV at *
      by_cases hs100 : style.length ≤ 100
      case neg =>
        have d2 : decide ((100 : Int) < (style.length : Int)) = true := decide_eq_true (by omega)
        go_wp2_with fail
        refine (awakeB HTB.out).mono ?_
        rintro e wz ⟨rfl, hbz⟩
        have HZ := Lib.hid (HX.out.trans (hbz.mono HX.out.size))
        clear hbz
        go_wp2
        go_ret
        exact ⟨rfl, HZ.out⟩
      have d2 : decide ((100 : Int) < (style.length : Int)) = false := decide_eq_false (by omega)
      go_wp2_with fail
      refine HWR.out.mono ?_
      rintro e w4 ⟨T, pv, ok, rfl, hTs, hTo, hb4⟩
      have hx4 := HX.out.trans (hb4.mono HX.out.size)
      have HTB4 := Lib.hid (HS.out.2.1.mv hx4.mv0 (fun h => h))
      have HBX4 := Lib.hid (And.intro ((hb4.block _ HBX3.out.2).trans HBX3.out.1) (Nat.lt_of_lt_of_le HBX3.out.2 hb4.size))
      clear HX
      have HX := Lib.hid hx4
      clear hx4 hb4 HWR HTB HBX3
      cases ok with
      | false =>
        go_wp2_with fail
        refine (awakeB HTB4.out).mono ?_
        rintro e wz ⟨rfl, hbz⟩
        have HZ := Lib.hid (HX.out.trans (hbz.mono HX.out.size))
        clear hbz
        go_wp2
        go_ret
        exact ⟨rfl, HZ.out⟩
      | true =>
        have hTo' := hTo rfl
        have hTp : 0 < T.size := by
          rcases hTo' with h | h
          · exact pos_of_first h
          · exact ent_pos h
        have HTO := Lib.hid hTo'
        clear hTo hTo'
        go_wp2_with fail
        refine (open2_c T hTp (by omega)).mono ?_
        rintro e w4' ⟨⟨ok2, rfl, hop⟩, rfl⟩
        cases ok2 with
        | false =>
          go_wp2_with fail
          refine (awakeB HTB4.out).mono ?_
          rintro e wz ⟨rfl, hbz⟩
          have HZ := Lib.hid (HX.out.trans (hbz.mono HX.out.size))
          clear hbz
          go_wp2
          go_ret
          exact ⟨rfl, HZ.out⟩
        | true =>
          have hen : EntSp (.int n) T := HTO.out.resolve_left (hop rfl).1
          have hrd := ent_read hen (hop rfl).2 hTs
          have hcf := Conf_c (B := 0) (lab := L0) (w := w4') _ _ (Nat.zero_le _) HTB4.out hrd (leaf_fits HLO.out)
          unfold txA3 at hcf
          have HCF := Lib.hid hcf
          clear hcf hrd hen hop
          go_wp2_with fail
          refine HCF.out.mono ?_
          rintro e w5 ⟨c5, lab5, rfl, hc5, m5⟩
          obtain ⟨gk5, ck5, gl5, cl5, gi, ci, gy, cy, gz, cz, rfl, h4⟩ := hc5.four HLO.out
          have hb5 := m5.toBelow (Nat.le_refl _) (fun _ _ h => h.1 rfl)
          obtain ⟨w6, hw6⟩ : ∃ x, x = w5.alloc (.cells (ndC 6 0 0 false { data := #[] } (.slice (some ⟨gk5, 0, none⟩) 4 ck5) (.slice (some ⟨gl5, 0, none⟩) 4 cl5)) 26) := ⟨_, rfl⟩
          have hb6 : Below w5.heap.size w5 w6 := by rw [hw6]; exact (Below.refl _ _).alloc (Nat.le_refl _) _
          have hn6 : w6.heap[w5.heap.size]? = some (.cells (ndC 6 0 0 false { data := #[] } (.slice (some ⟨gk5, 0, none⟩) 4 ck5) (.slice (some ⟨gl5, 0, none⟩) 4 cl5)) 26 (0, 0)) := by rw [hw6]; exact heap_alloc_new _ _
          have hz6 : w6.heap.size = w5.heap.size + 1 := by rw [hw6, World.size_alloc]
          have hx6 := (HX.out.trans (hb5.mono HX.out.size)).trans (hb6.mono (Nat.le_trans HX.out.size hb5.size))
          have h46 := h4.below hb6
          have HTB6 := Lib.hid (HS.out.2.1.mv hx6.mv0 (fun h => h))
          have HBX6 := Lib.hid ((hb6.block _ (Nat.lt_of_lt_of_le HBX4.out.2 hb5.size)).trans ((hb5.block _ HBX4.out.2).trans HBX4.out.1))
          have q5 : w6.cell? ⟨w5.heap.size, 5, none⟩ = some (.slice (some ⟨gk5, 0, none⟩) 4 ck5) := blk_cell hn6 5
          have q6 : w6.cell? ⟨w5.heap.size, 6, none⟩ = some (.slice (some ⟨gl5, 0, none⟩) 4 cl5) := blk_cell hn6 6
          have hlt6 : w.heap.size < w6.heap.size := by have := HBX4.out.2; have := hb5.size; omega
          have H6 := Lib.hid (And.intro hx6 (And.intro h46 (And.intro hn6 (And.intro hz6 hlt6))))
          clear hx6 h46 hn6 hb6 hb5 h4 hc5 m5 HCF HX HTB4 HBX4
          go_upto_region 10 with fail
          rw [← hw6]
          clear hw6
          go_wp2_with fail
          refine two_region w5.heap.size gl5 cl5 (ndC 6 0 0 false { data := #[] } (.slice (some ⟨gy, 0, none⟩) 1 cy) (.slice (some ⟨gi, 0, none⟩) 1 ci)) (ndC 5 0 0 false { data := #[] } nilS (.slice (some ⟨gz, 0, none⟩) 2 cz)) mixed (by kernel_rfl) rfl rfl (show 90 ≤ 142 by omega) ?_ ?_
          · intro L a' lab' w' i o hL ho hf hall hr hcl
            match i, ho with
            | 0, rfl =>
              have e0 : a'.tmps.getD 9 undef = Value.pointer (some ⟨w5.heap.size, 0, none⟩) := hr.keep 9 (by omega) (by omega) (by omega)
              rw [Array.getD_eq_getD_getElem?] at e0
              exact wpOp_run (v := Value.pointer (some ⟨w5.heap.size, 6, none⟩)) (w2 := w') rfl rfl (by simp [execOp, Act.eval, go_sem, e0]) ⟨lab', hr.plain hL (show 90 ≤ 142 by omega) 0 (by decide)⟩
            | 1, rfl =>
              have e0 : a'.tmps.getD 79 undef = Value.pointer (some ⟨w5.heap.size, 6, none⟩) := hr.got 0 (by decide) (hall ⟨0, .data⟩ (by simp) rfl)
              rw [Array.getD_eq_getD_getElem?] at e0
              have q := hr.mv.cell0 (by decide) q6
              exact wpOp_run (v := Value.slice (some ⟨gl5, 0, none⟩) 4 cl5) (w2 := w') rfl rfl (by simp [execOp, Act.eval, go_sem, e0, q]) ⟨lab', hr.plain hL (show 90 ≤ 142 by omega) 1 (by decide)⟩
            | 2, rfl =>
              have e0 : a'.tmps.getD 80 undef = Value.slice (some ⟨gl5, 0, none⟩) 4 cl5 := hr.got 1 (by decide) (hall ⟨1, .data⟩ (by simp) rfl)
              rw [Array.getD_eq_getD_getElem?] at e0
              exact wpOp_run (v := Value.pointer (some ⟨gl5, 14, none⟩)) (w2 := w') rfl rfl (by simp [execOp, Act.eval, go_sem, e0]) ⟨lab', hr.plain hL (show 90 ≤ 142 by omega) 2 (by decide)⟩
            | 3, rfl =>
              have e0 : a'.tmps.getD 81 undef = Value.pointer (some ⟨gl5, 14, none⟩) := hr.got 2 (by decide) (hall ⟨2, .data⟩ (by simp) rfl)
              rw [Array.getD_eq_getD_getElem?] at e0
              have q0 : w'.cell? ⟨gl5, 14, none⟩ = some (.int .i64 6) := hr.mv.cell0 (by decide) (H6.out.2.1.cx 0 (by decide))
              have q1 : w'.cell? ⟨gl5, 15, none⟩ = some (.int .i64 0) := hr.mv.cell0 (by decide) (H6.out.2.1.cx 1 (by decide))
              have q2 : w'.cell? ⟨gl5, 16, none⟩ = some (.float .f64 0) := hr.mv.cell0 (by decide) (H6.out.2.1.cx 2 (by decide))
              have q3 : w'.cell? ⟨gl5, 17, none⟩ = some (.bool false) := hr.mv.cell0 (by decide) (H6.out.2.1.cx 3 (by decide))
              have q4 : w'.cell? ⟨gl5, 18, none⟩ = some (.string { data := #[] }) := hr.mv.cell0 (by decide) (H6.out.2.1.cx 4 (by decide))
              have q5 : w'.cell? ⟨gl5, 19, none⟩ = some (.slice (some ⟨gy, 0, none⟩) 1 cy) := hr.mv.cell0 (by decide) (H6.out.2.1.cx 5 (by decide))
              have q6 : w'.cell? ⟨gl5, 20, none⟩ = some (.slice (some ⟨gi, 0, none⟩) 1 ci) := hr.mv.cell0 (by decide) (H6.out.2.1.cx 6 (by decide))
              exact wpOp_run (v := Value.agg (ndC 6 0 0 false { data := #[] } (.slice (some ⟨gy, 0, none⟩) 1 cy) (.slice (some ⟨gi, 0, none⟩) 1 ci))) (w2 := w') rfl rfl (by simp [execOp, Act.eval, go_sem, e0, q0, q1, q2, q3, q4, q5, q6]) ⟨lab', hr.plain hL (show 90 ≤ 142 by omega) 3 (by decide)⟩
            | 4, rfl =>
              have e0 : a'.tmps.getD 9 undef = Value.pointer (some ⟨w5.heap.size, 0, none⟩) := hr.keep 9 (by omega) (by omega) (by omega)
              rw [Array.getD_eq_getD_getElem?] at e0
              exact wpOp_run (v := Value.pointer (some ⟨w5.heap.size, 6, none⟩)) (w2 := w') rfl rfl (by simp [execOp, Act.eval, go_sem, e0]) ⟨lab', hr.plain hL (show 90 ≤ 142 by omega) 4 (by decide)⟩
            | 5, rfl =>
              have e0 : a'.tmps.getD 83 undef = Value.pointer (some ⟨w5.heap.size, 6, none⟩) := hr.got 4 (by decide) (hall ⟨4, .data⟩ (by simp) rfl)
              rw [Array.getD_eq_getD_getElem?] at e0
              have q := hr.mv.cell0 (by decide) q6
              exact wpOp_run (v := Value.slice (some ⟨gl5, 0, none⟩) 4 cl5) (w2 := w') rfl rfl (by simp [execOp, Act.eval, go_sem, e0, q]) ⟨lab', hr.plain hL (show 90 ≤ 142 by omega) 5 (by decide)⟩
            | 6, rfl =>
              have e0 : a'.tmps.getD 84 undef = Value.slice (some ⟨gl5, 0, none⟩) 4 cl5 := hr.got 5 (by decide) (hall ⟨5, .data⟩ (by simp) rfl)
              rw [Array.getD_eq_getD_getElem?] at e0
              exact wpOp_run (v := Value.pointer (some ⟨gl5, 21, none⟩)) (w2 := w') rfl rfl (by simp [execOp, Act.eval, go_sem, e0]) ⟨lab', hr.plain hL (show 90 ≤ 142 by omega) 6 (by decide)⟩
            | 7, rfl =>
              have e0 : a'.tmps.getD 85 undef = Value.pointer (some ⟨gl5, 21, none⟩) := hr.got 6 (by decide) (hall ⟨6, .data⟩ (by simp) rfl)
              rw [Array.getD_eq_getD_getElem?] at e0
              have q0 : w'.cell? ⟨gl5, 21, none⟩ = some (.int .i64 5) := hr.mv.cell0 (by decide) (H6.out.2.1.cl' 0 (by decide))
              have q1 : w'.cell? ⟨gl5, 22, none⟩ = some (.int .i64 0) := hr.mv.cell0 (by decide) (H6.out.2.1.cl' 1 (by decide))
              have q2 : w'.cell? ⟨gl5, 23, none⟩ = some (.float .f64 0) := hr.mv.cell0 (by decide) (H6.out.2.1.cl' 2 (by decide))
              have q3 : w'.cell? ⟨gl5, 24, none⟩ = some (.bool false) := hr.mv.cell0 (by decide) (H6.out.2.1.cl' 3 (by decide))
              have q4 : w'.cell? ⟨gl5, 25, none⟩ = some (.string { data := #[] }) := hr.mv.cell0 (by decide) (H6.out.2.1.cl' 4 (by decide))
              have q5 : w'.cell? ⟨gl5, 26, none⟩ = some (.slice none 0 0) := hr.mv.cell0 (by decide) (H6.out.2.1.cl' 5 (by decide))
              have q6 : w'.cell? ⟨gl5, 27, none⟩ = some (.slice (some ⟨gz, 0, none⟩) 2 cz) := hr.mv.cell0 (by decide) (H6.out.2.1.cl' 6 (by decide))
              exact wpOp_run (v := Value.agg (ndC 5 0 0 false { data := #[] } nilS (.slice (some ⟨gz, 0, none⟩) 2 cz))) (w2 := w') rfl rfl (by simp [execOp, Act.eval, go_sem, e0, q0, q1, q2, q3, q4, q5, q6]) ⟨lab', hr.plain hL (show 90 ≤ 142 by omega) 7 (by decide)⟩
            | 8, rfl =>
              have hst : L.getD 10 false = false := by
                cases hc : L.getD 10 false with
                | false => rfl
                | true =>
                  have := hcl 10 _ rfl hc ⟨8, .data⟩ (by simp) rfl
                  rw [hf] at this
                  cases this
              exact wpOp_run (v := Value.pointer (some ⟨w'.heap.size, 0, none⟩)) (w2 := w'.alloc (.cells zN 26)) rfl rfl (by simp [execOp, go_sem]; rfl) ⟨_, hr.alloc8 hL (show 90 ≤ 142 by omega) hst⟩
            | 9, rfl =>
              have hst : L.getD 11 false = false := by
                cases hc : L.getD 11 false with
                | false => rfl
                | true =>
                  have := hcl 11 _ rfl hc ⟨9, .data⟩ (by simp) rfl
                  rw [hf] at this
                  cases this
              exact wpOp_run (v := Value.pointer (some ⟨w'.heap.size, 0, none⟩)) (w2 := w'.alloc (.cells zN 26)) rfl rfl (by simp [execOp, go_sem]; rfl) ⟨_, hr.alloc9 hL (show 90 ≤ 142 by omega) hst⟩
            | 10, rfl =>
              have h8 := hall ⟨8, .data⟩ (by simp) rfl
              obtain ⟨g, e0, hc⟩ := hr.g8 h8
              rw [if_neg (by rw [hf]; decide)] at hc
              have hst := hr.store10 hL h8 e0
              have e1 : a'.tmps.getD 82 undef = Value.agg (ndC 6 0 0 false { data := #[] } (.slice (some ⟨gy, 0, none⟩) 1 cy) (.slice (some ⟨gi, 0, none⟩) 1 ci)) := hr.got 3 (by decide) (hall ⟨3, .data⟩ (by simp) rfl)
              rw [Array.getD_eq_getD_getElem?] at e1
              rw [Array.getD_eq_getD_getElem?] at e0
              have hrun := run_storeVar_row (P := Tryz.prog) w' g 26 26 zN (ndC 6 0 0 false { data := #[] } (.slice (some ⟨gy, 0, none⟩) 1 cy) (.slice (some ⟨gi, 0, none⟩) 1 ci)) hc.1 info26 rfl (by simp [Value.oneCell'])
              exact wpOp_skip (w2 := w'.setRow g (ndC 6 0 0 false { data := #[] } (.slice (some ⟨gy, 0, none⟩) 1 cy) (.slice (some ⟨gi, 0, none⟩) 1 ci))) rfl rfl (by simp only [execOp, Act.eval, e0, e1, Array.getD_eq_getD_getElem?, Instr.storeAt, Instr.sureAddr, Sem.run_bind, Sem.run_pure, Result.andThen_ok, hrun]) ⟨lab', hst⟩
            | 11, rfl =>
              have h8 := hall ⟨9, .data⟩ (by simp) rfl
              obtain ⟨g, e0, hc⟩ := hr.g9 h8
              rw [if_neg (by rw [hf]; decide)] at hc
              have hst := hr.store11 hL h8 e0
              have e1 : a'.tmps.getD 86 undef = Value.agg (ndC 5 0 0 false { data := #[] } nilS (.slice (some ⟨gz, 0, none⟩) 2 cz)) := hr.got 7 (by decide) (hall ⟨7, .data⟩ (by simp) rfl)
              rw [Array.getD_eq_getD_getElem?] at e1
              rw [Array.getD_eq_getD_getElem?] at e0
              have hrun := run_storeVar_row (P := Tryz.prog) w' g 26 26 zN (ndC 5 0 0 false { data := #[] } nilS (.slice (some ⟨gz, 0, none⟩) 2 cz)) hc.1 info26 rfl (by simp [Value.oneCell'])
              exact wpOp_skip (w2 := w'.setRow g (ndC 5 0 0 false { data := #[] } nilS (.slice (some ⟨gz, 0, none⟩) 2 cz))) rfl rfl (by simp only [execOp, Act.eval, e0, e1, Array.getD_eq_getD_getElem?, Instr.storeAt, Instr.sureAddr, Sem.run_bind, Sem.run_pure, Result.andThen_ok, hrun]) ⟨lab', hst⟩
          · intro u g1 g2 w7 hu hX hY hb7
            match u, hu with
            | [y79, y80, y81, y82, y83, y84, y85, y86], _ =>
              simp only [List.setIfInBounds_toArray, List.set_cons_succ, List.set_cons_zero, List.take_succ_cons, List.take_zero, List.drop_succ_cons, List.drop_zero, List.cons_append, List.nil_append]
              have hb57 := H6.out
              have H7 := Lib.hid (And.intro (hb57.2.1.below hb7) (And.intro ((hb7.block _ hlt6).trans HBX6.out) (And.intro hX (And.intro hY (And.intro (HTB6.out.mv hb7.mv0 (fun h => h)) (hb57.1.trans (hb7.mono hb57.1.size)))))))
              have r6 : w7.cell? ⟨w5.heap.size, 6, none⟩ = some (Value.slice (some ⟨gl5, 0, none⟩) 4 cl5) := hb7.cellB q6
              clear hb57 hX hY hb7
              go_wp2
              refine wp_region_ands (fun k' v _ _ => v = CV w5.heap.size gl5 cl5 g1 gi ci g2 gz cz (gotV 1 n false { data := #[] }) (nodV 1 n f false { data := #[] } a1 0 c1 a2 0 c2) k') [6, 14, 19, 25, 33, 38, 44, 52] 87 55 4 L0 mixed (by kernel_rfl) rfl (by decide) (show 87 + 55 ≤ 142 by omega) (by kernel_rfl) (by intro g hg v lab w h; simp only [List.mem_cons, List.not_mem_nil, or_false] at hg; rcases hg with rfl | rfl | rfl | rfl | rfl | rfl | rfl | rfl <;> exact h) rfl (fun _ _ _ _ _ _ h _ => h) ?_ ?_
              · intro L a' lab' w' i o ho hall hb
                have kd : ∀ j, j < 87 → j ≠ 4 → ∀ k, k < 56 → dstA 87 55 4 k ≠ j := by
                  intro j hj hj2 k hk e
                  unfold dstA at e
                  split at e <;> omega
                match i, ho with
                | 0, rfl =>
                  have e0 : a'.tmps.getD 9 undef = Value.pointer (some ⟨w5.heap.size, 0, none⟩) := hb.keep 9 (kd 9 (by omega) (by omega))
                  rw [Array.getD_eq_getD_getElem?] at e0
                  exact .inl ⟨Value.pointer (some ⟨w5.heap.size, 6, none⟩), w', lab', by simp [execOp, Act.eval, go_sem, e0], Mv.refl _ _ _, rfl⟩
                | 1, rfl =>
                  have e0 : a'.tmps.getD 87 undef = Value.pointer (some ⟨w5.heap.size, 6, none⟩) := hb.got 0 (by decide) (hall ⟨0, .data⟩ (by simp) rfl)
                  rw [Array.getD_eq_getD_getElem?] at e0
                  have q : w'.cell? ⟨w5.heap.size, 6, none⟩ = some (Value.slice (some ⟨gl5, 0, none⟩) 4 cl5) := hb.mv.cell0 (fun h => h) r6
                  exact .inl ⟨Value.slice (some ⟨gl5, 0, none⟩) 4 cl5, w', lab', by simp [execOp, Act.eval, go_sem, e0, q], Mv.refl _ _ _, rfl⟩
                | 2, rfl =>
                  have e0 : a'.tmps.getD 88 undef = Value.slice (some ⟨gl5, 0, none⟩) 4 cl5 := hb.got 1 (by decide) (hall ⟨1, .data⟩ (by simp) rfl)
                  rw [Array.getD_eq_getD_getElem?] at e0
                  exact .inl ⟨Value.pointer (some ⟨gl5, 0, none⟩), w', lab', by simp [execOp, Act.eval, go_sem, e0], Mv.refl _ _ _, rfl⟩
                | 3, rfl =>
                  have e0 : a'.tmps.getD 89 undef = Value.pointer (some ⟨gl5, 0, none⟩) := hb.got 2 (by decide) (hall ⟨2, .data⟩ (by simp) rfl)
                  rw [Array.getD_eq_getD_getElem?] at e0
                  have q0 : w'.cell? ⟨gl5, 0, none⟩ = some (.int .i64 1) := hb.mv.cell0 (fun h => h) (H7.out.1.cv 0 (by decide))
                  have q1 : w'.cell? ⟨gl5, 1, none⟩ = some (.int .i64 n) := hb.mv.cell0 (fun h => h) (H7.out.1.cv 1 (by decide))
                  have q2 : w'.cell? ⟨gl5, 2, none⟩ = some (.float .f64 0) := hb.mv.cell0 (fun h => h) (H7.out.1.cv 2 (by decide))
                  have q3 : w'.cell? ⟨gl5, 3, none⟩ = some (.bool false) := hb.mv.cell0 (fun h => h) (H7.out.1.cv 3 (by decide))
                  have q4 : w'.cell? ⟨gl5, 4, none⟩ = some (.string { data := #[] }) := hb.mv.cell0 (fun h => h) (H7.out.1.cv 4 (by decide))
                  have q5 : w'.cell? ⟨gl5, 5, none⟩ = some (.slice none 0 0) := hb.mv.cell0 (fun h => h) (H7.out.1.cv 5 (by decide))
                  have q6 : w'.cell? ⟨gl5, 6, none⟩ = some (.slice none 0 0) := hb.mv.cell0 (fun h => h) (H7.out.1.cv 6 (by decide))
                  exact .inl ⟨(gotV 1 n false { data := #[] }), w', lab', by unfold gotV; simp [execOp, Act.eval, go_sem, e0, q0, q1, q2, q3, q4, q5, q6], Mv.refl _ _ _, rfl⟩
                | 4, rfl =>
                  have e0 : a'.tmps.getD 2 undef = Value.pointer (some ⟨w.heap.size, 0, none⟩) := hb.keep 2 (kd 2 (by omega) (by omega))
                  rw [Array.getD_eq_getD_getElem?] at e0
                  have q0 : w'.cell? ⟨w.heap.size, 0, none⟩ = some (.int .i64 1) := hb.mv.cell0 (fun h => h) (blk_cell H7.out.2.1 0)
                  have q1 : w'.cell? ⟨w.heap.size, 1, none⟩ = some (.int .i64 n) := hb.mv.cell0 (fun h => h) (blk_cell H7.out.2.1 1)
                  have q2 : w'.cell? ⟨w.heap.size, 2, none⟩ = some (.float .f64 f) := hb.mv.cell0 (fun h => h) (blk_cell H7.out.2.1 2)
                  have q3 : w'.cell? ⟨w.heap.size, 3, none⟩ = some (.bool false) := hb.mv.cell0 (fun h => h) (blk_cell H7.out.2.1 3)
                  have q4 : w'.cell? ⟨w.heap.size, 4, none⟩ = some (.string { data := #[] }) := hb.mv.cell0 (fun h => h) (blk_cell H7.out.2.1 4)
                  have q5 : w'.cell? ⟨w.heap.size, 5, none⟩ = some (.slice a1 0 c1) := hb.mv.cell0 (fun h => h) (blk_cell H7.out.2.1 5)
                  have q6 : w'.cell? ⟨w.heap.size, 6, none⟩ = some (.slice a2 0 c2) := hb.mv.cell0 (fun h => h) (blk_cell H7.out.2.1 6)
                  exact .inl ⟨(nodV 1 n f false { data := #[] } a1 0 c1 a2 0 c2), w', lab', by unfold nodV; simp [execOp, Act.eval, go_sem, e0, q0, q1, q2, q3, q4, q5, q6], Mv.refl _ _ _, rfl⟩
                | 5, rfl =>
                  have e0 : a'.tmps.getD 90 undef = (gotV 1 n false { data := #[] }) := hb.got 3 (by decide) (hall ⟨3, .data⟩ (by simp) rfl)
                  have e1 : a'.tmps.getD 91 undef = (nodV 1 n f false { data := #[] } a1 0 c1 a2 0 c2) := hb.got 4 (by decide) (hall ⟨4, .data⟩ (by simp) rfl)
                  refine .inr ⟨16, #[a'.tmps.getD 90 undef, a'.tmps.getD 91 undef], by kernel_rfl, ?_⟩
                  rw [e0, e1]
                  refine (same_c hfz).mono ?_
                  rintro e w2 ⟨rfl, hb2⟩
                  exact ⟨_, lab'.ext w'.heap.size 45, rfl, Mv.below hb2 lab' 45, rfl⟩
                | 6, rfl =>
                  have e0 : a'.tmps.getD 92 undef = Value.bool true := hb.got 5 (by decide) (hall ⟨5, .data⟩ (by simp) rfl)
                  exact .inl ⟨_, _, lab', rfl, Mv.refl _ _ _, e0⟩
                | 7, rfl =>
                  have e0 : a'.tmps.getD 9 undef = Value.pointer (some ⟨w5.heap.size, 0, none⟩) := hb.keep 9 (kd 9 (by omega) (by omega))
                  rw [Array.getD_eq_getD_getElem?] at e0
                  exact .inl ⟨Value.pointer (some ⟨w5.heap.size, 6, none⟩), w', lab', by simp [execOp, Act.eval, go_sem, e0], Mv.refl _ _ _, rfl⟩
                | 8, rfl =>
                  have e0 : a'.tmps.getD 94 undef = Value.pointer (some ⟨w5.heap.size, 6, none⟩) := hb.got 7 (by decide) (hall ⟨7, .data⟩ (by simp) rfl)
                  rw [Array.getD_eq_getD_getElem?] at e0
                  have q : w'.cell? ⟨w5.heap.size, 6, none⟩ = some (Value.slice (some ⟨gl5, 0, none⟩) 4 cl5) := hb.mv.cell0 (fun h => h) r6
                  exact .inl ⟨Value.slice (some ⟨gl5, 0, none⟩) 4 cl5, w', lab', by simp [execOp, Act.eval, go_sem, e0, q], Mv.refl _ _ _, rfl⟩
                | 9, rfl =>
                  have e0 : a'.tmps.getD 95 undef = Value.slice (some ⟨gl5, 0, none⟩) 4 cl5 := hb.got 8 (by decide) (hall ⟨8, .data⟩ (by simp) rfl)
                  rw [Array.getD_eq_getD_getElem?] at e0
                  exact .inl ⟨Value.pointer (some ⟨gl5, 7, none⟩), w', lab', by simp [execOp, Act.eval, go_sem, e0], Mv.refl _ _ _, rfl⟩
                | 10, rfl =>
                  have e0 : a'.tmps.getD 96 undef = Value.pointer (some ⟨gl5, 7, none⟩) := hb.got 9 (by decide) (hall ⟨9, .data⟩ (by simp) rfl)
                  rw [Array.getD_eq_getD_getElem?] at e0
                  have q0 : w'.cell? ⟨gl5, 7, none⟩ = some (.int .i64 1) := hb.mv.cell0 (fun h => h) (H7.out.1.cw 0 (by decide))
                  have q1 : w'.cell? ⟨gl5, 8, none⟩ = some (.int .i64 n) := hb.mv.cell0 (fun h => h) (H7.out.1.cw 1 (by decide))
                  have q2 : w'.cell? ⟨gl5, 9, none⟩ = some (.float .f64 0) := hb.mv.cell0 (fun h => h) (H7.out.1.cw 2 (by decide))
                  have q3 : w'.cell? ⟨gl5, 10, none⟩ = some (.bool false) := hb.mv.cell0 (fun h => h) (H7.out.1.cw 3 (by decide))
                  have q4 : w'.cell? ⟨gl5, 11, none⟩ = some (.string { data := #[] }) := hb.mv.cell0 (fun h => h) (H7.out.1.cw 4 (by decide))
                  have q5 : w'.cell? ⟨gl5, 12, none⟩ = some (.slice none 0 0) := hb.mv.cell0 (fun h => h) (H7.out.1.cw 5 (by decide))
                  have q6 : w'.cell? ⟨gl5, 13, none⟩ = some (.slice none 0 0) := hb.mv.cell0 (fun h => h) (H7.out.1.cw 6 (by decide))
                  exact .inl ⟨(gotV 1 n false { data := #[] }), w', lab', by unfold gotV; simp [execOp, Act.eval, go_sem, e0, q0, q1, q2, q3, q4, q5, q6], Mv.refl _ _ _, rfl⟩
                | 11, rfl =>
                  have e0 : a'.tmps.getD 2 undef = Value.pointer (some ⟨w.heap.size, 0, none⟩) := hb.keep 2 (kd 2 (by omega) (by omega))
                  rw [Array.getD_eq_getD_getElem?] at e0
                  have q0 : w'.cell? ⟨w.heap.size, 0, none⟩ = some (.int .i64 1) := hb.mv.cell0 (fun h => h) (blk_cell H7.out.2.1 0)
                  have q1 : w'.cell? ⟨w.heap.size, 1, none⟩ = some (.int .i64 n) := hb.mv.cell0 (fun h => h) (blk_cell H7.out.2.1 1)
                  have q2 : w'.cell? ⟨w.heap.size, 2, none⟩ = some (.float .f64 f) := hb.mv.cell0 (fun h => h) (blk_cell H7.out.2.1 2)
                  have q3 : w'.cell? ⟨w.heap.size, 3, none⟩ = some (.bool false) := hb.mv.cell0 (fun h => h) (blk_cell H7.out.2.1 3)
                  have q4 : w'.cell? ⟨w.heap.size, 4, none⟩ = some (.string { data := #[] }) := hb.mv.cell0 (fun h => h) (blk_cell H7.out.2.1 4)
                  have q5 : w'.cell? ⟨w.heap.size, 5, none⟩ = some (.slice a1 0 c1) := hb.mv.cell0 (fun h => h) (blk_cell H7.out.2.1 5)
                  have q6 : w'.cell? ⟨w.heap.size, 6, none⟩ = some (.slice a2 0 c2) := hb.mv.cell0 (fun h => h) (blk_cell H7.out.2.1 6)
                  exact .inl ⟨(nodV 1 n f false { data := #[] } a1 0 c1 a2 0 c2), w', lab', by unfold nodV; simp [execOp, Act.eval, go_sem, e0, q0, q1, q2, q3, q4, q5, q6], Mv.refl _ _ _, rfl⟩
                | 12, rfl =>
                  have e0 : a'.tmps.getD 97 undef = (gotV 1 n false { data := #[] }) := hb.got 10 (by decide) (hall ⟨10, .data⟩ (by simp) rfl)
                  have e1 : a'.tmps.getD 98 undef = (nodV 1 n f false { data := #[] } a1 0 c1 a2 0 c2) := hb.got 11 (by decide) (hall ⟨11, .data⟩ (by simp) rfl)
                  refine .inr ⟨16, #[a'.tmps.getD 97 undef, a'.tmps.getD 98 undef], by kernel_rfl, ?_⟩
                  rw [e0, e1]
                  refine (same_c hfz).mono ?_
                  rintro e w2 ⟨rfl, hb2⟩
                  exact ⟨_, lab'.ext w'.heap.size 45, rfl, Mv.below hb2 lab' 45, rfl⟩
                | 13, rfl =>
                  have e0 : a'.tmps.getD 93 undef = Value.bool true := hb.got 6 (by decide) (hall ⟨6, .data⟩ (by simp) rfl)
                  rw [Array.getD_eq_getD_getElem?] at e0
                  have e1 : a'.tmps.getD 99 undef = Value.bool true := hb.got 12 (by decide) (hall ⟨12, .data⟩ (by simp) rfl)
                  rw [Array.getD_eq_getD_getElem?] at e1
                  exact .inl ⟨Value.bool true, w', lab', by simp [execOp, Act.eval, go_sem, e0, e1], Mv.refl _ _ _, rfl⟩
                | 14, rfl =>
                  have e0 : a'.tmps.getD 100 undef = Value.bool true := hb.got 13 (by decide) (hall ⟨13, .data⟩ (by simp) rfl)
                  exact .inl ⟨_, _, lab', rfl, Mv.refl _ _ _, e0⟩
                | 15, rfl =>
                  have e0 : a'.tmps.getD 11 undef = Value.pointer (some ⟨g1, 0, none⟩) := hb.keep 11 (kd 11 (by omega) (by omega))
                  rw [Array.getD_eq_getD_getElem?] at e0
                  exact .inl ⟨Value.pointer (some ⟨g1, 0, none⟩), w', lab', by simp [execOp, Act.eval, go_sem, e0], Mv.refl _ _ _, rfl⟩
                | 16, rfl =>
                  have e0 : a'.tmps.getD 102 undef = Value.pointer (some ⟨g1, 0, none⟩) := hb.got 15 (by decide) (hall ⟨15, .data⟩ (by simp) rfl)
                  rw [Array.getD_eq_getD_getElem?] at e0
                  have q : w'.cell? ⟨g1, 0, none⟩ = some (.int .i64 6) := hb.mv.cell0 (fun h => h) (blk_cell H7.out.2.2.1 0)
                  exact .inl ⟨Value.int .i64 6, w', lab', by simp [execOp, Act.eval, go_sem, e0, q], Mv.refl _ _ _, rfl⟩
                | 17, rfl =>
                  have e0 : a'.tmps.getD 103 undef = Value.int .i64 6 := hb.got 16 (by decide) (hall ⟨16, .data⟩ (by simp) rfl)
                  rw [Array.getD_eq_getD_getElem?] at e0
                  exact .inl ⟨Value.bool true, w', lab', by simp [execOp, Act.eval, go_sem, e0], Mv.refl _ _ _, rfl⟩
                | 18, rfl =>
                  have e0 : a'.tmps.getD 101 undef = Value.bool true := hb.got 14 (by decide) (hall ⟨14, .data⟩ (by simp) rfl)
                  rw [Array.getD_eq_getD_getElem?] at e0
                  have e1 : a'.tmps.getD 104 undef = Value.bool true := hb.got 17 (by decide) (hall ⟨17, .data⟩ (by simp) rfl)
                  rw [Array.getD_eq_getD_getElem?] at e1
                  exact .inl ⟨Value.bool true, w', lab', by simp [execOp, Act.eval, go_sem, e0, e1], Mv.refl _ _ _, rfl⟩
                | 19, rfl =>
                  have e0 : a'.tmps.getD 105 undef = Value.bool true := hb.got 18 (by decide) (hall ⟨18, .data⟩ (by simp) rfl)
                  exact .inl ⟨_, _, lab', rfl, Mv.refl _ _ _, e0⟩
                | 20, rfl =>
                  have e0 : a'.tmps.getD 11 undef = Value.pointer (some ⟨g1, 0, none⟩) := hb.keep 11 (kd 11 (by omega) (by omega))
                  rw [Array.getD_eq_getD_getElem?] at e0
                  exact .inl ⟨Value.pointer (some ⟨g1, 6, none⟩), w', lab', by simp [execOp, Act.eval, go_sem, e0], Mv.refl _ _ _, rfl⟩
                | 21, rfl =>
                  have e0 : a'.tmps.getD 107 undef = Value.pointer (some ⟨g1, 6, none⟩) := hb.got 20 (by decide) (hall ⟨20, .data⟩ (by simp) rfl)
                  rw [Array.getD_eq_getD_getElem?] at e0
                  have q : w'.cell? ⟨g1, 6, none⟩ = some (Value.slice (some ⟨gi, 0, none⟩) 1 ci) := hb.mv.cell0 (fun h => h) (blk_cell H7.out.2.2.1 6)
                  exact .inl ⟨Value.slice (some ⟨gi, 0, none⟩) 1 ci, w', lab', by simp [execOp, Act.eval, go_sem, e0, q], Mv.refl _ _ _, rfl⟩
                | 22, rfl =>
                  have e0 : a'.tmps.getD 108 undef = Value.slice (some ⟨gi, 0, none⟩) 1 ci := hb.got 21 (by decide) (hall ⟨21, .data⟩ (by simp) rfl)
                  rw [Array.getD_eq_getD_getElem?] at e0
                  exact .inl ⟨Value.int .i64 1, w', lab', by simp [Act.eval, go_sem, e0], Mv.refl _ _ _, rfl⟩
                | 23, rfl =>
                  have e0 : a'.tmps.getD 109 undef = Value.int .i64 1 := hb.got 22 (by decide) (hall ⟨22, .data⟩ (by simp) rfl)
                  rw [Array.getD_eq_getD_getElem?] at e0
                  exact .inl ⟨Value.bool true, w', lab', by simp [execOp, Act.eval, go_sem, e0], Mv.refl _ _ _, rfl⟩
                | 24, rfl =>
                  have e0 : a'.tmps.getD 106 undef = Value.bool true := hb.got 19 (by decide) (hall ⟨19, .data⟩ (by simp) rfl)
                  rw [Array.getD_eq_getD_getElem?] at e0
                  have e1 : a'.tmps.getD 110 undef = Value.bool true := hb.got 23 (by decide) (hall ⟨23, .data⟩ (by simp) rfl)
                  rw [Array.getD_eq_getD_getElem?] at e1
                  exact .inl ⟨Value.bool true, w', lab', by simp [execOp, Act.eval, go_sem, e0, e1], Mv.refl _ _ _, rfl⟩
                | 25, rfl =>
                  have e0 : a'.tmps.getD 111 undef = Value.bool true := hb.got 24 (by decide) (hall ⟨24, .data⟩ (by simp) rfl)
                  exact .inl ⟨_, _, lab', rfl, Mv.refl _ _ _, e0⟩
                | 26, rfl =>
                  have e0 : a'.tmps.getD 11 undef = Value.pointer (some ⟨g1, 0, none⟩) := hb.keep 11 (kd 11 (by omega) (by omega))
                  rw [Array.getD_eq_getD_getElem?] at e0
                  exact .inl ⟨Value.pointer (some ⟨g1, 6, none⟩), w', lab', by simp [execOp, Act.eval, go_sem, e0], Mv.refl _ _ _, rfl⟩
                | 27, rfl =>
                  have e0 : a'.tmps.getD 113 undef = Value.pointer (some ⟨g1, 6, none⟩) := hb.got 26 (by decide) (hall ⟨26, .data⟩ (by simp) rfl)
                  rw [Array.getD_eq_getD_getElem?] at e0
                  have q : w'.cell? ⟨g1, 6, none⟩ = some (Value.slice (some ⟨gi, 0, none⟩) 1 ci) := hb.mv.cell0 (fun h => h) (blk_cell H7.out.2.2.1 6)
                  exact .inl ⟨Value.slice (some ⟨gi, 0, none⟩) 1 ci, w', lab', by simp [execOp, Act.eval, go_sem, e0, q], Mv.refl _ _ _, rfl⟩
                | 28, rfl =>
                  have e0 : a'.tmps.getD 114 undef = Value.slice (some ⟨gi, 0, none⟩) 1 ci := hb.got 27 (by decide) (hall ⟨27, .data⟩ (by simp) rfl)
                  rw [Array.getD_eq_getD_getElem?] at e0
                  exact .inl ⟨Value.pointer (some ⟨gi, 0, none⟩), w', lab', by simp [execOp, Act.eval, go_sem, e0], Mv.refl _ _ _, rfl⟩
                | 29, rfl =>
                  have e0 : a'.tmps.getD 115 undef = Value.pointer (some ⟨gi, 0, none⟩) := hb.got 28 (by decide) (hall ⟨28, .data⟩ (by simp) rfl)
                  rw [Array.getD_eq_getD_getElem?] at e0
                  have q0 : w'.cell? ⟨gi, 0, none⟩ = some (.int .i64 1) := hb.mv.cell0 (fun h => h) (H7.out.1.ci' 0 (by decide))
                  have q1 : w'.cell? ⟨gi, 1, none⟩ = some (.int .i64 n) := hb.mv.cell0 (fun h => h) (H7.out.1.ci' 1 (by decide))
                  have q2 : w'.cell? ⟨gi, 2, none⟩ = some (.float .f64 0) := hb.mv.cell0 (fun h => h) (H7.out.1.ci' 2 (by decide))
                  have q3 : w'.cell? ⟨gi, 3, none⟩ = some (.bool false) := hb.mv.cell0 (fun h => h) (H7.out.1.ci' 3 (by decide))
                  have q4 : w'.cell? ⟨gi, 4, none⟩ = some (.string { data := #[] }) := hb.mv.cell0 (fun h => h) (H7.out.1.ci' 4 (by decide))
                  have q5 : w'.cell? ⟨gi, 5, none⟩ = some (.slice none 0 0) := hb.mv.cell0 (fun h => h) (H7.out.1.ci' 5 (by decide))
                  have q6 : w'.cell? ⟨gi, 6, none⟩ = some (.slice none 0 0) := hb.mv.cell0 (fun h => h) (H7.out.1.ci' 6 (by decide))
                  exact .inl ⟨(gotV 1 n false { data := #[] }), w', lab', by unfold gotV; simp [execOp, Act.eval, go_sem, e0, q0, q1, q2, q3, q4, q5, q6], Mv.refl _ _ _, rfl⟩
                | 30, rfl =>
                  have e0 : a'.tmps.getD 2 undef = Value.pointer (some ⟨w.heap.size, 0, none⟩) := hb.keep 2 (kd 2 (by omega) (by omega))
                  rw [Array.getD_eq_getD_getElem?] at e0
                  have q0 : w'.cell? ⟨w.heap.size, 0, none⟩ = some (.int .i64 1) := hb.mv.cell0 (fun h => h) (blk_cell H7.out.2.1 0)
                  have q1 : w'.cell? ⟨w.heap.size, 1, none⟩ = some (.int .i64 n) := hb.mv.cell0 (fun h => h) (blk_cell H7.out.2.1 1)
                  have q2 : w'.cell? ⟨w.heap.size, 2, none⟩ = some (.float .f64 f) := hb.mv.cell0 (fun h => h) (blk_cell H7.out.2.1 2)
                  have q3 : w'.cell? ⟨w.heap.size, 3, none⟩ = some (.bool false) := hb.mv.cell0 (fun h => h) (blk_cell H7.out.2.1 3)
                  have q4 : w'.cell? ⟨w.heap.size, 4, none⟩ = some (.string { data := #[] }) := hb.mv.cell0 (fun h => h) (blk_cell H7.out.2.1 4)
                  have q5 : w'.cell? ⟨w.heap.size, 5, none⟩ = some (.slice a1 0 c1) := hb.mv.cell0 (fun h => h) (blk_cell H7.out.2.1 5)
                  have q6 : w'.cell? ⟨w.heap.size, 6, none⟩ = some (.slice a2 0 c2) := hb.mv.cell0 (fun h => h) (blk_cell H7.out.2.1 6)
                  exact .inl ⟨(nodV 1 n f false { data := #[] } a1 0 c1 a2 0 c2), w', lab', by unfold nodV; simp [execOp, Act.eval, go_sem, e0, q0, q1, q2, q3, q4, q5, q6], Mv.refl _ _ _, rfl⟩
                | 31, rfl =>
                  have e0 : a'.tmps.getD 116 undef = (gotV 1 n false { data := #[] }) := hb.got 29 (by decide) (hall ⟨29, .data⟩ (by simp) rfl)
                  have e1 : a'.tmps.getD 117 undef = (nodV 1 n f false { data := #[] } a1 0 c1 a2 0 c2) := hb.got 30 (by decide) (hall ⟨30, .data⟩ (by simp) rfl)
                  refine .inr ⟨16, #[a'.tmps.getD 116 undef, a'.tmps.getD 117 undef], by kernel_rfl, ?_⟩
                  rw [e0, e1]
                  refine (same_c hfz).mono ?_
                  rintro e w2 ⟨rfl, hb2⟩
                  exact ⟨_, lab'.ext w'.heap.size 45, rfl, Mv.below hb2 lab' 45, rfl⟩
                | 32, rfl =>
                  have e0 : a'.tmps.getD 112 undef = Value.bool true := hb.got 25 (by decide) (hall ⟨25, .data⟩ (by simp) rfl)
                  rw [Array.getD_eq_getD_getElem?] at e0
                  have e1 : a'.tmps.getD 118 undef = Value.bool true := hb.got 31 (by decide) (hall ⟨31, .data⟩ (by simp) rfl)
                  rw [Array.getD_eq_getD_getElem?] at e1
                  exact .inl ⟨Value.bool true, w', lab', by simp [execOp, Act.eval, go_sem, e0, e1], Mv.refl _ _ _, rfl⟩
                | 33, rfl =>
                  have e0 : a'.tmps.getD 119 undef = Value.bool true := hb.got 32 (by decide) (hall ⟨32, .data⟩ (by simp) rfl)
                  exact .inl ⟨_, _, lab', rfl, Mv.refl _ _ _, e0⟩
                | 34, rfl =>
                  have e0 : a'.tmps.getD 12 undef = Value.pointer (some ⟨g2, 0, none⟩) := hb.keep 12 (kd 12 (by omega) (by omega))
                  rw [Array.getD_eq_getD_getElem?] at e0
                  exact .inl ⟨Value.pointer (some ⟨g2, 0, none⟩), w', lab', by simp [execOp, Act.eval, go_sem, e0], Mv.refl _ _ _, rfl⟩
                | 35, rfl =>
                  have e0 : a'.tmps.getD 121 undef = Value.pointer (some ⟨g2, 0, none⟩) := hb.got 34 (by decide) (hall ⟨34, .data⟩ (by simp) rfl)
                  rw [Array.getD_eq_getD_getElem?] at e0
                  have q : w'.cell? ⟨g2, 0, none⟩ = some (.int .i64 5) := hb.mv.cell0 (fun h => h) (blk_cell H7.out.2.2.2.1 0)
                  exact .inl ⟨Value.int .i64 5, w', lab', by simp [execOp, Act.eval, go_sem, e0, q], Mv.refl _ _ _, rfl⟩
                | 36, rfl =>
                  have e0 : a'.tmps.getD 122 undef = Value.int .i64 5 := hb.got 35 (by decide) (hall ⟨35, .data⟩ (by simp) rfl)
                  rw [Array.getD_eq_getD_getElem?] at e0
                  exact .inl ⟨Value.bool true, w', lab', by simp [execOp, Act.eval, go_sem, e0], Mv.refl _ _ _, rfl⟩
                | 37, rfl =>
                  have e0 : a'.tmps.getD 120 undef = Value.bool true := hb.got 33 (by decide) (hall ⟨33, .data⟩ (by simp) rfl)
                  rw [Array.getD_eq_getD_getElem?] at e0
                  have e1 : a'.tmps.getD 123 undef = Value.bool true := hb.got 36 (by decide) (hall ⟨36, .data⟩ (by simp) rfl)
                  rw [Array.getD_eq_getD_getElem?] at e1
                  exact .inl ⟨Value.bool true, w', lab', by simp [execOp, Act.eval, go_sem, e0, e1], Mv.refl _ _ _, rfl⟩
                | 38, rfl =>
                  have e0 : a'.tmps.getD 124 undef = Value.bool true := hb.got 37 (by decide) (hall ⟨37, .data⟩ (by simp) rfl)
                  exact .inl ⟨_, _, lab', rfl, Mv.refl _ _ _, e0⟩
                | 39, rfl =>
                  have e0 : a'.tmps.getD 12 undef = Value.pointer (some ⟨g2, 0, none⟩) := hb.keep 12 (kd 12 (by omega) (by omega))
                  rw [Array.getD_eq_getD_getElem?] at e0
                  exact .inl ⟨Value.pointer (some ⟨g2, 6, none⟩), w', lab', by simp [execOp, Act.eval, go_sem, e0], Mv.refl _ _ _, rfl⟩
                | 40, rfl =>
                  have e0 : a'.tmps.getD 126 undef = Value.pointer (some ⟨g2, 6, none⟩) := hb.got 39 (by decide) (hall ⟨39, .data⟩ (by simp) rfl)
                  rw [Array.getD_eq_getD_getElem?] at e0
                  have q : w'.cell? ⟨g2, 6, none⟩ = some (Value.slice (some ⟨gz, 0, none⟩) 2 cz) := hb.mv.cell0 (fun h => h) (blk_cell H7.out.2.2.2.1 6)
                  exact .inl ⟨Value.slice (some ⟨gz, 0, none⟩) 2 cz, w', lab', by simp [execOp, Act.eval, go_sem, e0, q], Mv.refl _ _ _, rfl⟩
                | 41, rfl =>
                  have e0 : a'.tmps.getD 127 undef = Value.slice (some ⟨gz, 0, none⟩) 2 cz := hb.got 40 (by decide) (hall ⟨40, .data⟩ (by simp) rfl)
                  rw [Array.getD_eq_getD_getElem?] at e0
                  exact .inl ⟨Value.int .i64 2, w', lab', by simp [Act.eval, go_sem, e0], Mv.refl _ _ _, rfl⟩
                | 42, rfl =>
                  have e0 : a'.tmps.getD 128 undef = Value.int .i64 2 := hb.got 41 (by decide) (hall ⟨41, .data⟩ (by simp) rfl)
                  rw [Array.getD_eq_getD_getElem?] at e0
                  exact .inl ⟨Value.bool true, w', lab', by simp [execOp, Act.eval, go_sem, e0], Mv.refl _ _ _, rfl⟩
                | 43, rfl =>
                  have e0 : a'.tmps.getD 125 undef = Value.bool true := hb.got 38 (by decide) (hall ⟨38, .data⟩ (by simp) rfl)
                  rw [Array.getD_eq_getD_getElem?] at e0
                  have e1 : a'.tmps.getD 129 undef = Value.bool true := hb.got 42 (by decide) (hall ⟨42, .data⟩ (by simp) rfl)
                  rw [Array.getD_eq_getD_getElem?] at e1
                  exact .inl ⟨Value.bool true, w', lab', by simp [execOp, Act.eval, go_sem, e0, e1], Mv.refl _ _ _, rfl⟩
                | 44, rfl =>
                  have e0 : a'.tmps.getD 130 undef = Value.bool true := hb.got 43 (by decide) (hall ⟨43, .data⟩ (by simp) rfl)
                  exact .inl ⟨_, _, lab', rfl, Mv.refl _ _ _, e0⟩
                | 45, rfl =>
                  have e0 : a'.tmps.getD 12 undef = Value.pointer (some ⟨g2, 0, none⟩) := hb.keep 12 (kd 12 (by omega) (by omega))
                  rw [Array.getD_eq_getD_getElem?] at e0
                  exact .inl ⟨Value.pointer (some ⟨g2, 6, none⟩), w', lab', by simp [execOp, Act.eval, go_sem, e0], Mv.refl _ _ _, rfl⟩
                | 46, rfl =>
                  have e0 : a'.tmps.getD 132 undef = Value.pointer (some ⟨g2, 6, none⟩) := hb.got 45 (by decide) (hall ⟨45, .data⟩ (by simp) rfl)
                  rw [Array.getD_eq_getD_getElem?] at e0
                  have q : w'.cell? ⟨g2, 6, none⟩ = some (Value.slice (some ⟨gz, 0, none⟩) 2 cz) := hb.mv.cell0 (fun h => h) (blk_cell H7.out.2.2.2.1 6)
                  exact .inl ⟨Value.slice (some ⟨gz, 0, none⟩) 2 cz, w', lab', by simp [execOp, Act.eval, go_sem, e0, q], Mv.refl _ _ _, rfl⟩
                | 47, rfl =>
                  have e0 : a'.tmps.getD 133 undef = Value.slice (some ⟨gz, 0, none⟩) 2 cz := hb.got 46 (by decide) (hall ⟨46, .data⟩ (by simp) rfl)
                  rw [Array.getD_eq_getD_getElem?] at e0
                  exact .inl ⟨Value.pointer (some ⟨gz, 0, none⟩), w', lab', by simp [execOp, Act.eval, go_sem, e0], Mv.refl _ _ _, rfl⟩
                | 48, rfl =>
                  have e0 : a'.tmps.getD 134 undef = Value.pointer (some ⟨gz, 0, none⟩) := hb.got 47 (by decide) (hall ⟨47, .data⟩ (by simp) rfl)
                  rw [Array.getD_eq_getD_getElem?] at e0
                  have q0 : w'.cell? ⟨gz, 0, none⟩ = some (.int .i64 1) := hb.mv.cell0 (fun h => h) (H7.out.1.cz' 0 (by decide))
                  have q1 : w'.cell? ⟨gz, 1, none⟩ = some (.int .i64 n) := hb.mv.cell0 (fun h => h) (H7.out.1.cz' 1 (by decide))
                  have q2 : w'.cell? ⟨gz, 2, none⟩ = some (.float .f64 0) := hb.mv.cell0 (fun h => h) (H7.out.1.cz' 2 (by decide))
                  have q3 : w'.cell? ⟨gz, 3, none⟩ = some (.bool false) := hb.mv.cell0 (fun h => h) (H7.out.1.cz' 3 (by decide))
                  have q4 : w'.cell? ⟨gz, 4, none⟩ = some (.string { data := #[] }) := hb.mv.cell0 (fun h => h) (H7.out.1.cz' 4 (by decide))
                  have q5 : w'.cell? ⟨gz, 5, none⟩ = some (.slice none 0 0) := hb.mv.cell0 (fun h => h) (H7.out.1.cz' 5 (by decide))
                  have q6 : w'.cell? ⟨gz, 6, none⟩ = some (.slice none 0 0) := hb.mv.cell0 (fun h => h) (H7.out.1.cz' 6 (by decide))
                  exact .inl ⟨(gotV 1 n false { data := #[] }), w', lab', by unfold gotV; simp [execOp, Act.eval, go_sem, e0, q0, q1, q2, q3, q4, q5, q6], Mv.refl _ _ _, rfl⟩
                | 49, rfl =>
                  have e0 : a'.tmps.getD 2 undef = Value.pointer (some ⟨w.heap.size, 0, none⟩) := hb.keep 2 (kd 2 (by omega) (by omega))
                  rw [Array.getD_eq_getD_getElem?] at e0
                  have q0 : w'.cell? ⟨w.heap.size, 0, none⟩ = some (.int .i64 1) := hb.mv.cell0 (fun h => h) (blk_cell H7.out.2.1 0)
                  have q1 : w'.cell? ⟨w.heap.size, 1, none⟩ = some (.int .i64 n) := hb.mv.cell0 (fun h => h) (blk_cell H7.out.2.1 1)
                  have q2 : w'.cell? ⟨w.heap.size, 2, none⟩ = some (.float .f64 f) := hb.mv.cell0 (fun h => h) (blk_cell H7.out.2.1 2)
                  have q3 : w'.cell? ⟨w.heap.size, 3, none⟩ = some (.bool false) := hb.mv.cell0 (fun h => h) (blk_cell H7.out.2.1 3)
                  have q4 : w'.cell? ⟨w.heap.size, 4, none⟩ = some (.string { data := #[] }) := hb.mv.cell0 (fun h => h) (blk_cell H7.out.2.1 4)
                  have q5 : w'.cell? ⟨w.heap.size, 5, none⟩ = some (.slice a1 0 c1) := hb.mv.cell0 (fun h => h) (blk_cell H7.out.2.1 5)
                  have q6 : w'.cell? ⟨w.heap.size, 6, none⟩ = some (.slice a2 0 c2) := hb.mv.cell0 (fun h => h) (blk_cell H7.out.2.1 6)
                  exact .inl ⟨(nodV 1 n f false { data := #[] } a1 0 c1 a2 0 c2), w', lab', by unfold nodV; simp [execOp, Act.eval, go_sem, e0, q0, q1, q2, q3, q4, q5, q6], Mv.refl _ _ _, rfl⟩
                | 50, rfl =>
                  have e0 : a'.tmps.getD 135 undef = (gotV 1 n false { data := #[] }) := hb.got 48 (by decide) (hall ⟨48, .data⟩ (by simp) rfl)
                  have e1 : a'.tmps.getD 136 undef = (nodV 1 n f false { data := #[] } a1 0 c1 a2 0 c2) := hb.got 49 (by decide) (hall ⟨49, .data⟩ (by simp) rfl)
                  refine .inr ⟨16, #[a'.tmps.getD 135 undef, a'.tmps.getD 136 undef], by kernel_rfl, ?_⟩
                  rw [e0, e1]
                  refine (same_c hfz).mono ?_
                  rintro e w2 ⟨rfl, hb2⟩
                  exact ⟨_, lab'.ext w'.heap.size 45, rfl, Mv.below hb2 lab' 45, rfl⟩
                | 51, rfl =>
                  have e0 : a'.tmps.getD 131 undef = Value.bool true := hb.got 44 (by decide) (hall ⟨44, .data⟩ (by simp) rfl)
                  rw [Array.getD_eq_getD_getElem?] at e0
                  have e1 : a'.tmps.getD 137 undef = Value.bool true := hb.got 50 (by decide) (hall ⟨50, .data⟩ (by simp) rfl)
                  rw [Array.getD_eq_getD_getElem?] at e1
                  exact .inl ⟨Value.bool true, w', lab', by simp [execOp, Act.eval, go_sem, e0, e1], Mv.refl _ _ _, rfl⟩
                | 52, rfl =>
                  have e0 : a'.tmps.getD 138 undef = Value.bool true := hb.got 51 (by decide) (hall ⟨51, .data⟩ (by simp) rfl)
                  exact .inl ⟨_, _, lab', rfl, Mv.refl _ _ _, e0⟩
                | 53, rfl =>
                  refine .inr ⟨13, #[], by kernel_rfl, ?_⟩
                  have hbw : Below w7.heap.size w7 w' := hb.mv.toBelow (Nat.le_refl _) (fun _ _ h => h)
                  refine (awakeB (H7.out.2.2.2.2.1.mv hbw.mv0 (fun h => h))).mono ?_
                  rintro e w2 ⟨rfl, hb2⟩
                  exact ⟨_, lab'.ext w'.heap.size 45, rfl, Mv.below hb2 lab' 45, rfl⟩
                | 54, rfl =>
                  have e0 : a'.tmps.getD 139 undef = Value.bool true := hb.got 52 (by decide) (hall ⟨52, .data⟩ (by simp) rfl)
                  rw [Array.getD_eq_getD_getElem?] at e0
                  have e1 : a'.tmps.getD 140 undef = Value.bool true := hb.got 53 (by decide) (hall ⟨53, .data⟩ (by simp) rfl)
                  rw [Array.getD_eq_getD_getElem?] at e1
                  exact .inl ⟨Value.bool true, w', lab', by simp [execOp, Act.eval, go_sem, e0, e1], Mv.refl _ _ _, rfl⟩
                | 55, rfl =>
                  have e0 : a'.tmps.getD 141 undef = Value.bool true := hb.got 54 (by decide) (hall ⟨54, .data⟩ (by simp) rfl)
                  exact .inl ⟨_, _, lab', rfl, Mv.refl _ _ _, e0⟩
              · intro us v lab' w' hl hv m
                change v = .bool true at hv
                subst hv
                match us, hl with
                | y87 :: y88 :: y89 :: y90 :: y91 :: y92 :: y93 :: y94 :: y95 :: y96 :: y97 :: y98 :: y99 :: y100 :: y101 :: y102 :: y103 :: y104 :: y105 :: y106 :: y107 :: y108 :: y109 :: y110 :: y111 :: y112 :: y113 :: y114 :: y115 :: y116 :: y117 :: y118 :: y119 :: y120 :: y121 :: y122 :: y123 :: y124 :: y125 :: y126 :: y127 :: y128 :: y129 :: y130 :: y131 :: y132 :: y133 :: y134 :: y135 :: y136 :: y137 :: y138 :: y139 :: y140 :: y141 :: [], _ =>
                  have HZ := Lib.hid (H7.out.2.2.2.2.2.trans ((m.toBelow (Nat.le_refl _) (fun _ _ h => h)).mono H7.out.2.2.2.2.2.size))
                  simp only [List.setIfInBounds_toArray, List.set_cons_succ, List.set_cons_zero, List.take_succ_cons, List.take_zero, List.drop_succ_cons, List.drop_zero, List.cons_append, List.nil_append]
                  go_wp2
                  go_ret
                  exact ⟨rfl, HZ.out⟩
set_option maxRecDepth 100000 in
set_option maxHeartbeats 8000000 in
theorem Variable4_below (w : World) (hn0 : -9223372036854775808 ≤ n) (hn1 : n ≤ 9223372036854775807) (h1 : m1 ≤ maxLen) (hk : KeysIn w a1 m1) (ht : t.size ≤ maxLen) (h2 : m2 ≤ maxLen) (hs : Sty L0 w (.slice a style.length c) style) (hsl : style.length ≤ maxLen) (htb : Tb L0 w) :
    Calls Tryz.prog 7 #[nodV 4 n f is t a1 m1 c1 a2 m2 c2, .slice a style.length c] w fun e w' => e = .returned (.bool true) ∧ Below w.heap.size w w' := by
  have hb : ∀ o, Below w.heap.size w (w.alloc o) := fun o => (Below.refl _ _).alloc (Nat.le_refl _) o
  have hft := fun o => fits1_c (w := w.alloc o) (k := 4) (n := n) (f := f) (is := is) (t := t) (a1 := a1) (c1 := c1) (a2 := a2) (c2 := c2) h1 (hk.below (hb o)) ht h2
  have hsx : (style.length : Int) ≤ 9223372036854775807 := by unfold maxLen at hsl; omega
  have HB := Lib.hid hb
  have HFT := Lib.hid hft
  have HS := Lib.hid (And.intro hs (And.intro htb (And.intro hk (And.intro h1 (And.intro h2 ht)))))
  clear hb hft hs htb hk
  unfold nodV at *
  go_enter Tryz.func7, Tryz.ntmps7
  go_wp2_with fail
  refine (HFT.out _).mono ?_
  rintro e w1 ⟨⟨ok, rfl⟩, hb1⟩
  have hx1 := (HB.out _).trans (hb1.mono (by rw [World.size_alloc]; omega))
  have hbx : w1.heap[w.heap.size]? = some (.cells #[.int .i64 4, .int .i64 n, .float .f64 f, .bool is, .string t, .slice a1 m1 c1, .slice a2 m2 c2] 26 (0, 0)) := by
    rw [hb1.block w.heap.size (by rw [World.size_alloc]; omega)]
    exact heap_alloc_new w _
  have hlt1 : w.heap.size < w1.heap.size := Nat.lt_of_lt_of_le (by rw [World.size_alloc]; omega) hb1.size
  cases ok with
  | false =>
    have HX := Lib.hid hx1
    clear hx1 hb1 hbx
    go_wp2
    go_ret
    exact ⟨rfl, HX.out⟩
  | true =>
    by_cases hs31 : style.length ≤ 2147483647
    case neg =>
      have d1 : decide ((2147483647 : Int) < (style.length : Int)) = true := decide_eq_true (by omega)
      have HX := Lib.hid hx1
      clear hx1 hb1 hbx
      go_wp2
      go_ret
      exact ⟨rfl, HX.out⟩
    have d1 : decide ((2147483647 : Int) < (style.length : Int)) = false := decide_eq_false (by omega)
    have b0 : w1.cell? ⟨w.heap.size, 0, none⟩ = some (.int .i64 4) := blk_cell hbx 0
    have b1 : w1.cell? ⟨w.heap.size, 1, none⟩ = some (.int .i64 n) := blk_cell hbx 1
    have b2 : w1.cell? ⟨w.heap.size, 2, none⟩ = some (.float .f64 f) := blk_cell hbx 2
    have b3 : w1.cell? ⟨w.heap.size, 3, none⟩ = some (.bool is) := blk_cell hbx 3
    have b4 : w1.cell? ⟨w.heap.size, 4, none⟩ = some (.string t) := blk_cell hbx 4
    have b5 : w1.cell? ⟨w.heap.size, 5, none⟩ = some (.slice a1 m1 c1) := blk_cell hbx 5
    have b6 : w1.cell? ⟨w.heap.size, 6, none⟩ = some (.slice a2 m2 c2) := blk_cell hbx 6
    have HX1 := Lib.hid (And.intro hx1 hbx)
    clear hx1 hb1 hbx
    have h3 := three w1 (.cells #[.string { data := #[118] }] 9) (.cells #[.int .i64 4, .int .i64 n, .float .f64 f, .bool is, .string t, .slice a1 m1 c1, .slice a2 m2 c2] 26) (.cells #[Value.int .i64 6, .int .i64 0, .float .f64 0, .bool false, .string { data := #[] }, .slice (some ⟨w1.heap.size, 0, none⟩) 1 1, .slice (some ⟨w1.heap.size + 1, 0, none⟩) 1 1] 26)
    obtain ⟨w2, hw2⟩ : ∃ x, x = ((w1.alloc (.cells #[.string { data := #[118] }] 9)).alloc (.cells #[.int .i64 4, .int .i64 n, .float .f64 f, .bool is, .string t, .slice a1 m1 c1, .slice a2 m2 c2] 26)).alloc (.cells #[Value.int .i64 6, .int .i64 0, .float .f64 0, .bool false, .string { data := #[] }, .slice (some ⟨w1.heap.size, 0, none⟩) 1 1, .slice (some ⟨w1.heap.size + 1, 0, none⟩) 1 1] 26) := ⟨_, rfl⟩
    rw [← hw2] at h3
    obtain ⟨hk2, hl2, ho2, hb2, hz2⟩ := h3
    have hx2 := HX1.out.1.trans (hb2.mono (Nat.le_of_lt hlt1))
    have hbx2 := (hb2.block _ hlt1).trans HX1.out.2
    have c0 : w2.cell? ⟨w.heap.size, 0, none⟩ = some (.int .i64 4) := blk_cell hbx2 0
    have o0 : w2.cell? ⟨w1.heap.size + 1 + 1, 0, none⟩ = some (.int .i64 6) := blk_cell ho2 0
    have o1 : w2.cell? ⟨w1.heap.size + 1 + 1, 1, none⟩ = some (.int .i64 0) := blk_cell ho2 1
    have o2 : w2.cell? ⟨w1.heap.size + 1 + 1, 2, none⟩ = some (.float .f64 0) := blk_cell ho2 2
    have o3 : w2.cell? ⟨w1.heap.size + 1 + 1, 3, none⟩ = some (.bool false) := blk_cell ho2 3
    have o4 : w2.cell? ⟨w1.heap.size + 1 + 1, 4, none⟩ = some (.string { data := #[] }) := blk_cell ho2 4
    have o5 : w2.cell? ⟨w1.heap.size + 1 + 1, 5, none⟩ = some (.slice (some ⟨w1.heap.size, 0, none⟩) 1 1) := blk_cell ho2 5
    have o6 : w2.cell? ⟨w1.heap.size + 1 + 1, 6, none⟩ = some (.slice (some ⟨w1.heap.size + 1, 0, none⟩) 1 1) := blk_cell ho2 6
    have HT := Lib.hid (treeOne_c (gk := w1.heap.size) (gl := w1.heap.size + 1) hk2 hl2 (fun w => tree4_c h1 h2 ht))
    have H2 := Lib.hid (And.intro hx2 (And.intro hbx2 (And.intro hk2 (And.intro hl2 (And.intro ho2 hz2)))))
    clear hx2 hbx2 hk2 hl2 ho2 hb2 HX1
    go_upto_region 4 with fail
    rw [← hw2]
    clear hw2 b0 b1 b2 b3 b4 b5 b6
    unfold oneV at *
    go_wp2_with fail
    refine HT.out.mono ?_
    rintro e w3 ⟨⟨ok, rfl, hok⟩, hb3⟩
    obtain ⟨hx2, hbx2, hk2, hl2, ho2, hz2⟩ := H2.out
    have hx3 := hx2.trans (hb3.mono (show w.heap.size ≤ w2.heap.size by omega))
    have htb3 := HS.out.2.1.mv hx3.mv0 (fun h => h)
    cases ok with
    | false =>
      have HX := Lib.hid hx3
      have HTB := Lib.hid htb3
      clear hx3 htb3 hb3 hx2 hbx2 hk2 hl2 ho2
      go_wp2_with fail
      refine (awakeB HTB.out).mono ?_
      rintro e wz ⟨rfl, hbz⟩
      have HZ := Lib.hid (HX.out.trans (hbz.mono HX.out.size))
      clear hbz
      go_wp2
      go_ret
      exact ⟨rfl, HZ.out⟩
    | true =>
      obtain ⟨⟨z1, z2, z3, hfz, z5, z6⟩, ht60⟩ := hok rfl
      have hlo : LeafOk f 4 n is t (.txt t) := by
        rw [z3, z6 rfl]; exact .txt t hfz ht60
      subst z1 z2 z3
      have z7 := z6 rfl
      subst z7
      clear z5 z6
      have hbx3 := (hb3.block _ (show w.heap.size < w2.heap.size by omega)).trans hbx2
      have hk3 := (hb3.block _ (show w1.heap.size < w2.heap.size by omega)).trans hk2
      have hl3 := (hb3.block _ (show w1.heap.size + 1 < w2.heap.size by omega)).trans hl2
      have ho3 := (hb3.block _ (show w1.heap.size + 2 < w2.heap.size by omega)).trans ho2
      have hs3 := HS.out.1.mv hx3.mv0 (fun h => h)
      have p0 : w3.cell? ⟨w1.heap.size + 1 + 1, 0, none⟩ = some (.int .i64 6) := blk_cell ho3 0
      have p1 : w3.cell? ⟨w1.heap.size + 1 + 1, 1, none⟩ = some (.int .i64 0) := blk_cell ho3 1
      have p2 : w3.cell? ⟨w1.heap.size + 1 + 1, 2, none⟩ = some (.float .f64 0) := blk_cell ho3 2
      have p3 : w3.cell? ⟨w1.heap.size + 1 + 1, 3, none⟩ = some (.bool false) := blk_cell ho3 3
      have p4 : w3.cell? ⟨w1.heap.size + 1 + 1, 4, none⟩ = some (.string { data := #[] }) := blk_cell ho3 4
      have p5 : w3.cell? ⟨w1.heap.size + 1 + 1, 5, none⟩ = some (.slice (some ⟨w1.heap.size, 0, none⟩) 1 1) := blk_cell ho3 5
      have p6 : w3.cell? ⟨w1.heap.size + 1 + 1, 6, none⟩ = some (.slice (some ⟨w1.heap.size + 1, 0, none⟩) 1 1) := blk_cell ho3 6
      have HX := Lib.hid hx3
      have HTB := Lib.hid htb3
      have HWR := Lib.hid (written_one (gk := w1.heap.size) (gl := w1.heap.size + 1) ⟨hk3, rfl⟩ ⟨hl3, rfl⟩ hlo hs3)
      have HLO := Lib.hid hlo
      have HBX3 := Lib.hid (And.intro hbx3 (show w.heap.size < w3.heap.size from Nat.lt_of_lt_of_le (by omega) hb3.size))
      clear hx3 htb3 hb3 hx2 hbx2 hk2 hl2 ho2 hbx3 hk3 hl3 ho3 hs3 hlo hok H2 HT
      unfold oneV at *
      by_cases hs100 : style.length ≤ 100
      case neg =>
        have d2 : decide ((100 : Int) < (style.length : Int)) = true := decide_eq_true (by omega)
        go_wp2_with fail
        refine (awakeB HTB.out).mono ?_
        rintro e wz ⟨rfl, hbz⟩
        have HZ := Lib.hid (HX.out.trans (hbz.mono HX.out.size))
        clear hbz
        go_wp2
        go_ret
        exact ⟨rfl, HZ.out⟩
      have d2 : decide ((100 : Int) < (style.length : Int)) = false := decide_eq_false (by omega)
      go_wp2_with fail
      refine HWR.out.mono ?_
      rintro e w4 ⟨T, pv, ok, rfl, hTs, hTo, hb4⟩
      have hx4 := HX.out.trans (hb4.mono HX.out.size)
      have HTB4 := Lib.hid (HS.out.2.1.mv hx4.mv0 (fun h => h))
      have HBX4 := Lib.hid (And.intro ((hb4.block _ HBX3.out.2).trans HBX3.out.1) (Nat.lt_of_lt_of_le HBX3.out.2 hb4.size))
      clear HX
      have HX := Lib.hid hx4
      clear hx4 hb4 HWR HTB HBX3
      cases ok with
      | false =>
        go_wp2_with fail
        refine (awakeB HTB4.out).mono ?_
        rintro e wz ⟨rfl, hbz⟩
        have HZ := Lib.hid (HX.out.trans (hbz.mono HX.out.size))
        clear hbz
        go_wp2
        go_ret
        exact ⟨rfl, HZ.out⟩
      | true =>
        have hTo' := hTo rfl
        have hTp : 0 < T.size := by
          rcases hTo' with h | h
          · exact pos_of_first h
          · exact ent_pos h
        have HTO := Lib.hid hTo'
        clear hTo hTo'
        go_wp2_with fail
        refine (open2_c T hTp (by omega)).mono ?_
        rintro e w4' ⟨⟨ok2, rfl, hop⟩, rfl⟩
        cases ok2 with
        | false =>
          go_wp2_with fail
          refine (awakeB HTB4.out).mono ?_
          rintro e wz ⟨rfl, hbz⟩
          have HZ := Lib.hid (HX.out.trans (hbz.mono HX.out.size))
          clear hbz
          go_wp2
          go_ret
          exact ⟨rfl, HZ.out⟩
        | true =>
          have hen : EntSp (.txt t) T := HTO.out.resolve_left (hop rfl).1
          have hrd := ent_read hen (hop rfl).2 hTs
          have hcf := Conf_c (B := 0) (lab := L0) (w := w4') _ _ (Nat.zero_le _) HTB4.out hrd (leaf_fits HLO.out)
          unfold txA3 at hcf
          have HCF := Lib.hid hcf
          clear hcf hrd hen hop
          go_wp2_with fail
          refine HCF.out.mono ?_
          rintro e w5 ⟨c5, lab5, rfl, hc5, m5⟩
          obtain ⟨gk5, ck5, gl5, cl5, gi, ci, gy, cy, gz, cz, rfl, h4⟩ := hc5.four HLO.out
          have hb5 := m5.toBelow (Nat.le_refl _) (fun _ _ h => h.1 rfl)
          obtain ⟨w6, hw6⟩ : ∃ x, x = w5.alloc (.cells (ndC 6 0 0 false { data := #[] } (.slice (some ⟨gk5, 0, none⟩) 4 ck5) (.slice (some ⟨gl5, 0, none⟩) 4 cl5)) 26) := ⟨_, rfl⟩
          have hb6 : Below w5.heap.size w5 w6 := by rw [hw6]; exact (Below.refl _ _).alloc (Nat.le_refl _) _
          have hn6 : w6.heap[w5.heap.size]? = some (.cells (ndC 6 0 0 false { data := #[] } (.slice (some ⟨gk5, 0, none⟩) 4 ck5) (.slice (some ⟨gl5, 0, none⟩) 4 cl5)) 26 (0, 0)) := by rw [hw6]; exact heap_alloc_new _ _
          have hz6 : w6.heap.size = w5.heap.size + 1 := by rw [hw6, World.size_alloc]
          have hx6 := (HX.out.trans (hb5.mono HX.out.size)).trans (hb6.mono (Nat.le_trans HX.out.size hb5.size))
          have h46 := h4.below hb6
          have HTB6 := Lib.hid (HS.out.2.1.mv hx6.mv0 (fun h => h))
          have HBX6 := Lib.hid ((hb6.block _ (Nat.lt_of_lt_of_le HBX4.out.2 hb5.size)).trans ((hb5.block _ HBX4.out.2).trans HBX4.out.1))
          have q5 : w6.cell? ⟨w5.heap.size, 5, none⟩ = some (.slice (some ⟨gk5, 0, none⟩) 4 ck5) := blk_cell hn6 5
          have q6 : w6.cell? ⟨w5.heap.size, 6, none⟩ = some (.slice (some ⟨gl5, 0, none⟩) 4 cl5) := blk_cell hn6 6
          have hlt6 : w.heap.size < w6.heap.size := by have := HBX4.out.2; have := hb5.size; omega
          have H6 := Lib.hid (And.intro hx6 (And.intro h46 (And.intro hn6 (And.intro hz6 hlt6))))
          clear hx6 h46 hn6 hb6 hb5 h4 hc5 m5 HCF HX HTB4 HBX4
          go_upto_region 10 with fail
          rw [← hw6]
          clear hw6
          go_wp2_with fail
          refine two_region w5.heap.size gl5 cl5 (ndC 6 0 0 false { data := #[] } (.slice (some ⟨gy, 0, none⟩) 1 cy) (.slice (some ⟨gi, 0, none⟩) 1 ci)) (ndC 5 0 0 false { data := #[] } nilS (.slice (some ⟨gz, 0, none⟩) 2 cz)) mixed (by kernel_rfl) rfl rfl (show 90 ≤ 142 by omega) ?_ ?_
          · intro L a' lab' w' i o hL ho hf hall hr hcl
            match i, ho with
            | 0, rfl =>
              have e0 : a'.tmps.getD 9 undef = Value.pointer (some ⟨w5.heap.size, 0, none⟩) := hr.keep 9 (by omega) (by omega) (by omega)
              rw [Array.getD_eq_getD_getElem?] at e0
              exact wpOp_run (v := Value.pointer (some ⟨w5.heap.size, 6, none⟩)) (w2 := w') rfl rfl (by simp [execOp, Act.eval, go_sem, e0]) ⟨lab', hr.plain hL (show 90 ≤ 142 by omega) 0 (by decide)⟩
            | 1, rfl =>
              have e0 : a'.tmps.getD 79 undef = Value.pointer (some ⟨w5.heap.size, 6, none⟩) := hr.got 0 (by decide) (hall ⟨0, .data⟩ (by simp) rfl)
              rw [Array.getD_eq_getD_getElem?] at e0
              have q := hr.mv.cell0 (by decide) q6
              exact wpOp_run (v := Value.slice (some ⟨gl5, 0, none⟩) 4 cl5) (w2 := w') rfl rfl (by simp [execOp, Act.eval, go_sem, e0, q]) ⟨lab', hr.plain hL (show 90 ≤ 142 by omega) 1 (by decide)⟩
            | 2, rfl =>
              have e0 : a'.tmps.getD 80 undef = Value.slice (some ⟨gl5, 0, none⟩) 4 cl5 := hr.got 1 (by decide) (hall ⟨1, .data⟩ (by simp) rfl)
              rw [Array.getD_eq_getD_getElem?] at e0
              exact wpOp_run (v := Value.pointer (some ⟨gl5, 14, none⟩)) (w2 := w') rfl rfl (by simp [execOp, Act.eval, go_sem, e0]) ⟨lab', hr.plain hL (show 90 ≤ 142 by omega) 2 (by decide)⟩
            | 3, rfl =>
              have e0 : a'.tmps.getD 81 undef = Value.pointer (some ⟨gl5, 14, none⟩) := hr.got 2 (by decide) (hall ⟨2, .data⟩ (by simp) rfl)
              rw [Array.getD_eq_getD_getElem?] at e0
              have q0 : w'.cell? ⟨gl5, 14, none⟩ = some (.int .i64 6) := hr.mv.cell0 (by decide) (H6.out.2.1.cx 0 (by decide))
              have q1 : w'.cell? ⟨gl5, 15, none⟩ = some (.int .i64 0) := hr.mv.cell0 (by decide) (H6.out.2.1.cx 1 (by decide))
              have q2 : w'.cell? ⟨gl5, 16, none⟩ = some (.float .f64 0) := hr.mv.cell0 (by decide) (H6.out.2.1.cx 2 (by decide))
              have q3 : w'.cell? ⟨gl5, 17, none⟩ = some (.bool false) := hr.mv.cell0 (by decide) (H6.out.2.1.cx 3 (by decide))
              have q4 : w'.cell? ⟨gl5, 18, none⟩ = some (.string { data := #[] }) := hr.mv.cell0 (by decide) (H6.out.2.1.cx 4 (by decide))
              have q5 : w'.cell? ⟨gl5, 19, none⟩ = some (.slice (some ⟨gy, 0, none⟩) 1 cy) := hr.mv.cell0 (by decide) (H6.out.2.1.cx 5 (by decide))
              have q6 : w'.cell? ⟨gl5, 20, none⟩ = some (.slice (some ⟨gi, 0, none⟩) 1 ci) := hr.mv.cell0 (by decide) (H6.out.2.1.cx 6 (by decide))
              exact wpOp_run (v := Value.agg (ndC 6 0 0 false { data := #[] } (.slice (some ⟨gy, 0, none⟩) 1 cy) (.slice (some ⟨gi, 0, none⟩) 1 ci))) (w2 := w') rfl rfl (by simp [execOp, Act.eval, go_sem, e0, q0, q1, q2, q3, q4, q5, q6]) ⟨lab', hr.plain hL (show 90 ≤ 142 by omega) 3 (by decide)⟩
            | 4, rfl =>
              have e0 : a'.tmps.getD 9 undef = Value.pointer (some ⟨w5.heap.size, 0, none⟩) := hr.keep 9 (by omega) (by omega) (by omega)
              rw [Array.getD_eq_getD_getElem?] at e0
              exact wpOp_run (v := Value.pointer (some ⟨w5.heap.size, 6, none⟩)) (w2 := w') rfl rfl (by simp [execOp, Act.eval, go_sem, e0]) ⟨lab', hr.plain hL (show 90 ≤ 142 by omega) 4 (by decide)⟩
            | 5, rfl =>
              have e0 : a'.tmps.getD 83 undef = Value.pointer (some ⟨w5.heap.size, 6, none⟩) := hr.got 4 (by decide) (hall ⟨4, .data⟩ (by simp) rfl)
              rw [Array.getD_eq_getD_getElem?] at e0
              have q := hr.mv.cell0 (by decide) q6
              exact wpOp_run (v := Value.slice (some ⟨gl5, 0, none⟩) 4 cl5) (w2 := w') rfl rfl (by simp [execOp, Act.eval, go_sem, e0, q]) ⟨lab', hr.plain hL (show 90 ≤ 142 by omega) 5 (by decide)⟩
            | 6, rfl =>
              have e0 : a'.tmps.getD 84 undef = Value.slice (some ⟨gl5, 0, none⟩) 4 cl5 := hr.got 5 (by decide) (hall ⟨5, .data⟩ (by simp) rfl)
              rw [Array.getD_eq_getD_getElem?] at e0
              exact wpOp_run (v := Value.pointer (some ⟨gl5, 21, none⟩)) (w2 := w') rfl rfl (by simp [execOp, Act.eval, go_sem, e0]) ⟨lab', hr.plain hL (show 90 ≤ 142 by omega) 6 (by decide)⟩
            | 7, rfl =>
              have e0 : a'.tmps.getD 85 undef = Value.pointer (some ⟨gl5, 21, none⟩) := hr.got 6 (by decide) (hall ⟨6, .data⟩ (by simp) rfl)
              rw [Array.getD_eq_getD_getElem?] at e0
              have q0 : w'.cell? ⟨gl5, 21, none⟩ = some (.int .i64 5) := hr.mv.cell0 (by decide) (H6.out.2.1.cl' 0 (by decide))
              have q1 : w'.cell? ⟨gl5, 22, none⟩ = some (.int .i64 0) := hr.mv.cell0 (by decide) (H6.out.2.1.cl' 1 (by decide))
              have q2 : w'.cell? ⟨gl5, 23, none⟩ = some (.float .f64 0) := hr.mv.cell0 (by decide) (H6.out.2.1.cl' 2 (by decide))
              have q3 : w'.cell? ⟨gl5, 24, none⟩ = some (.bool false) := hr.mv.cell0 (by decide) (H6.out.2.1.cl' 3 (by decide))
              have q4 : w'.cell? ⟨gl5, 25, none⟩ = some (.string { data := #[] }) := hr.mv.cell0 (by decide) (H6.out.2.1.cl' 4 (by decide))
              have q5 : w'.cell? ⟨gl5, 26, none⟩ = some (.slice none 0 0) := hr.mv.cell0 (by decide) (H6.out.2.1.cl' 5 (by decide))
              have q6 : w'.cell? ⟨gl5, 27, none⟩ = some (.slice (some ⟨gz, 0, none⟩) 2 cz) := hr.mv.cell0 (by decide) (H6.out.2.1.cl' 6 (by decide))
              exact wpOp_run (v := Value.agg (ndC 5 0 0 false { data := #[] } nilS (.slice (some ⟨gz, 0, none⟩) 2 cz))) (w2 := w') rfl rfl (by simp [execOp, Act.eval, go_sem, e0, q0, q1, q2, q3, q4, q5, q6]) ⟨lab', hr.plain hL (show 90 ≤ 142 by omega) 7 (by decide)⟩
            | 8, rfl =>
              have hst : L.getD 10 false = false := by
                cases hc : L.getD 10 false with
                | false => rfl
                | true =>
                  have := hcl 10 _ rfl hc ⟨8, .data⟩ (by simp) rfl
                  rw [hf] at this
                  cases this
              exact wpOp_run (v := Value.pointer (some ⟨w'.heap.size, 0, none⟩)) (w2 := w'.alloc (.cells zN 26)) rfl rfl (by simp [execOp, go_sem]; rfl) ⟨_, hr.alloc8 hL (show 90 ≤ 142 by omega) hst⟩
            | 9, rfl =>
              have hst : L.getD 11 false = false := by
                cases hc : L.getD 11 false with
                | false => rfl
                | true =>
                  have := hcl 11 _ rfl hc ⟨9, .data⟩ (by simp) rfl
                  rw [hf] at this
                  cases this
              exact wpOp_run (v := Value.pointer (some ⟨w'.heap.size, 0, none⟩)) (w2 := w'.alloc (.cells zN 26)) rfl rfl (by simp [execOp, go_sem]; rfl) ⟨_, hr.alloc9 hL (show 90 ≤ 142 by omega) hst⟩
            | 10, rfl =>
              have h8 := hall ⟨8, .data⟩ (by simp) rfl
              obtain ⟨g, e0, hc⟩ := hr.g8 h8
              rw [if_neg (by rw [hf]; decide)] at hc
              have hst := hr.store10 hL h8 e0
              have e1 : a'.tmps.getD 82 undef = Value.agg (ndC 6 0 0 false { data := #[] } (.slice (some ⟨gy, 0, none⟩) 1 cy) (.slice (some ⟨gi, 0, none⟩) 1 ci)) := hr.got 3 (by decide) (hall ⟨3, .data⟩ (by simp) rfl)
              rw [Array.getD_eq_getD_getElem?] at e1
              rw [Array.getD_eq_getD_getElem?] at e0
              have hrun := run_storeVar_row (P := Tryz.prog) w' g 26 26 zN (ndC 6 0 0 false { data := #[] } (.slice (some ⟨gy, 0, none⟩) 1 cy) (.slice (some ⟨gi, 0, none⟩) 1 ci)) hc.1 info26 rfl (by simp [Value.oneCell'])
              exact wpOp_skip (w2 := w'.setRow g (ndC 6 0 0 false { data := #[] } (.slice (some ⟨gy, 0, none⟩) 1 cy) (.slice (some ⟨gi, 0, none⟩) 1 ci))) rfl rfl (by simp only [execOp, Act.eval, e0, e1, Array.getD_eq_getD_getElem?, Instr.storeAt, Instr.sureAddr, Sem.run_bind, Sem.run_pure, Result.andThen_ok, hrun]) ⟨lab', hst⟩
            | 11, rfl =>
              have h8 := hall ⟨9, .data⟩ (by simp) rfl
              obtain ⟨g, e0, hc⟩ := hr.g9 h8
              rw [if_neg (by rw [hf]; decide)] at hc
              have hst := hr.store11 hL h8 e0
              have e1 : a'.tmps.getD 86 undef = Value.agg (ndC 5 0 0 false { data := #[] } nilS (.slice (some ⟨gz, 0, none⟩) 2 cz)) := hr.got 7 (by decide) (hall ⟨7, .data⟩ (by simp) rfl)
              rw [Array.getD_eq_getD_getElem?] at e1
              rw [Array.getD_eq_getD_getElem?] at e0
              have hrun := run_storeVar_row (P := Tryz.prog) w' g 26 26 zN (ndC 5 0 0 false { data := #[] } nilS (.slice (some ⟨gz, 0, none⟩) 2 cz)) hc.1 info26 rfl (by simp [Value.oneCell'])
              exact wpOp_skip (w2 := w'.setRow g (ndC 5 0 0 false { data := #[] } nilS (.slice (some ⟨gz, 0, none⟩) 2 cz))) rfl rfl (by simp only [execOp, Act.eval, e0, e1, Array.getD_eq_getD_getElem?, Instr.storeAt, Instr.sureAddr, Sem.run_bind, Sem.run_pure, Result.andThen_ok, hrun]) ⟨lab', hst⟩
          · intro u g1 g2 w7 hu hX hY hb7
            match u, hu with
            | [y79, y80, y81, y82, y83, y84, y85, y86], _ =>
              simp only [List.setIfInBounds_toArray, List.set_cons_succ, List.set_cons_zero, List.take_succ_cons, List.take_zero, List.drop_succ_cons, List.drop_zero, List.cons_append, List.nil_append]
              have hb57 := H6.out
              have H7 := Lib.hid (And.intro (hb57.2.1.below hb7) (And.intro ((hb7.block _ hlt6).trans HBX6.out) (And.intro hX (And.intro hY (And.intro (HTB6.out.mv hb7.mv0 (fun h => h)) (hb57.1.trans (hb7.mono hb57.1.size)))))))
              have r6 : w7.cell? ⟨w5.heap.size, 6, none⟩ = some (Value.slice (some ⟨gl5, 0, none⟩) 4 cl5) := hb7.cellB q6
              clear hb57 hX hY hb7
              go_wp2
              refine wp_region_ands (fun k' v _ _ => v = CV w5.heap.size gl5 cl5 g1 gi ci g2 gz cz (gotV 4 0 false t) (nodV 4 0 f false t a1 0 c1 a2 0 c2) k') [6, 14, 19, 25, 33, 38, 44, 52] 87 55 4 L0 mixed (by kernel_rfl) rfl (by decide) (show 87 + 55 ≤ 142 by omega) (by kernel_rfl) (by intro g hg v lab w h; simp only [List.mem_cons, List.not_mem_nil, or_false] at hg; rcases hg with rfl | rfl | rfl | rfl | rfl | rfl | rfl | rfl <;> exact h) rfl (fun _ _ _ _ _ _ h _ => h) ?_ ?_
              · intro L a' lab' w' i o ho hall hb
                have kd : ∀ j, j < 87 → j ≠ 4 → ∀ k, k < 56 → dstA 87 55 4 k ≠ j := by
                  intro j hj hj2 k hk e
                  unfold dstA at e
                  split at e <;> omega
                match i, ho with
                | 0, rfl =>
                  have e0 : a'.tmps.getD 9 undef = Value.pointer (some ⟨w5.heap.size, 0, none⟩) := hb.keep 9 (kd 9 (by omega) (by omega))
                  rw [Array.getD_eq_getD_getElem?] at e0
                  exact .inl ⟨Value.pointer (some ⟨w5.heap.size, 6, none⟩), w', lab', by simp [execOp, Act.eval, go_sem, e0], Mv.refl _ _ _, rfl⟩
                | 1, rfl =>
                  have e0 : a'.tmps.getD 87 undef = Value.pointer (some ⟨w5.heap.size, 6, none⟩) := hb.got 0 (by decide) (hall ⟨0, .data⟩ (by simp) rfl)
                  rw [Array.getD_eq_getD_getElem?] at e0
                  have q : w'.cell? ⟨w5.heap.size, 6, none⟩ = some (Value.slice (some ⟨gl5, 0, none⟩) 4 cl5) := hb.mv.cell0 (fun h => h) r6
                  exact .inl ⟨Value.slice (some ⟨gl5, 0, none⟩) 4 cl5, w', lab', by simp [execOp, Act.eval, go_sem, e0, q], Mv.refl _ _ _, rfl⟩
                | 2, rfl =>
                  have e0 : a'.tmps.getD 88 undef = Value.slice (some ⟨gl5, 0, none⟩) 4 cl5 := hb.got 1 (by decide) (hall ⟨1, .data⟩ (by simp) rfl)
                  rw [Array.getD_eq_getD_getElem?] at e0
                  exact .inl ⟨Value.pointer (some ⟨gl5, 0, none⟩), w', lab', by simp [execOp, Act.eval, go_sem, e0], Mv.refl _ _ _, rfl⟩
                | 3, rfl =>
                  have e0 : a'.tmps.getD 89 undef = Value.pointer (some ⟨gl5, 0, none⟩) := hb.got 2 (by decide) (hall ⟨2, .data⟩ (by simp) rfl)
                  rw [Array.getD_eq_getD_getElem?] at e0
                  have q0 : w'.cell? ⟨gl5, 0, none⟩ = some (.int .i64 4) := hb.mv.cell0 (fun h => h) (H7.out.1.cv 0 (by decide))
                  have q1 : w'.cell? ⟨gl5, 1, none⟩ = some (.int .i64 0) := hb.mv.cell0 (fun h => h) (H7.out.1.cv 1 (by decide))
                  have q2 : w'.cell? ⟨gl5, 2, none⟩ = some (.float .f64 0) := hb.mv.cell0 (fun h => h) (H7.out.1.cv 2 (by decide))
                  have q3 : w'.cell? ⟨gl5, 3, none⟩ = some (.bool false) := hb.mv.cell0 (fun h => h) (H7.out.1.cv 3 (by decide))
                  have q4 : w'.cell? ⟨gl5, 4, none⟩ = some (.string t) := hb.mv.cell0 (fun h => h) (H7.out.1.cv 4 (by decide))
                  have q5 : w'.cell? ⟨gl5, 5, none⟩ = some (.slice none 0 0) := hb.mv.cell0 (fun h => h) (H7.out.1.cv 5 (by decide))
                  have q6 : w'.cell? ⟨gl5, 6, none⟩ = some (.slice none 0 0) := hb.mv.cell0 (fun h => h) (H7.out.1.cv 6 (by decide))
                  exact .inl ⟨(gotV 4 0 false t), w', lab', by unfold gotV; simp [execOp, Act.eval, go_sem, e0, q0, q1, q2, q3, q4, q5, q6], Mv.refl _ _ _, rfl⟩
                | 4, rfl =>
                  have e0 : a'.tmps.getD 2 undef = Value.pointer (some ⟨w.heap.size, 0, none⟩) := hb.keep 2 (kd 2 (by omega) (by omega))
                  rw [Array.getD_eq_getD_getElem?] at e0
                  have q0 : w'.cell? ⟨w.heap.size, 0, none⟩ = some (.int .i64 4) := hb.mv.cell0 (fun h => h) (blk_cell H7.out.2.1 0)
                  have q1 : w'.cell? ⟨w.heap.size, 1, none⟩ = some (.int .i64 0) := hb.mv.cell0 (fun h => h) (blk_cell H7.out.2.1 1)
                  have q2 : w'.cell? ⟨w.heap.size, 2, none⟩ = some (.float .f64 f) := hb.mv.cell0 (fun h => h) (blk_cell H7.out.2.1 2)
                  have q3 : w'.cell? ⟨w.heap.size, 3, none⟩ = some (.bool false) := hb.mv.cell0 (fun h => h) (blk_cell H7.out.2.1 3)
                  have q4 : w'.cell? ⟨w.heap.size, 4, none⟩ = some (.string t) := hb.mv.cell0 (fun h => h) (blk_cell H7.out.2.1 4)
                  have q5 : w'.cell? ⟨w.heap.size, 5, none⟩ = some (.slice a1 0 c1) := hb.mv.cell0 (fun h => h) (blk_cell H7.out.2.1 5)
                  have q6 : w'.cell? ⟨w.heap.size, 6, none⟩ = some (.slice a2 0 c2) := hb.mv.cell0 (fun h => h) (blk_cell H7.out.2.1 6)
                  exact .inl ⟨(nodV 4 0 f false t a1 0 c1 a2 0 c2), w', lab', by unfold nodV; simp [execOp, Act.eval, go_sem, e0, q0, q1, q2, q3, q4, q5, q6], Mv.refl _ _ _, rfl⟩
                | 5, rfl =>
                  have e0 : a'.tmps.getD 90 undef = (gotV 4 0 false t) := hb.got 3 (by decide) (hall ⟨3, .data⟩ (by simp) rfl)
                  have e1 : a'.tmps.getD 91 undef = (nodV 4 0 f false t a1 0 c1 a2 0 c2) := hb.got 4 (by decide) (hall ⟨4, .data⟩ (by simp) rfl)
                  refine .inr ⟨16, #[a'.tmps.getD 90 undef, a'.tmps.getD 91 undef], by kernel_rfl, ?_⟩
                  rw [e0, e1]
                  refine (same_c hfz).mono ?_
                  rintro e w2 ⟨rfl, hb2⟩
                  exact ⟨_, lab'.ext w'.heap.size 45, rfl, Mv.below hb2 lab' 45, rfl⟩
                | 6, rfl =>
                  have e0 : a'.tmps.getD 92 undef = Value.bool true := hb.got 5 (by decide) (hall ⟨5, .data⟩ (by simp) rfl)
                  exact .inl ⟨_, _, lab', rfl, Mv.refl _ _ _, e0⟩
                | 7, rfl =>
                  have e0 : a'.tmps.getD 9 undef = Value.pointer (some ⟨w5.heap.size, 0, none⟩) := hb.keep 9 (kd 9 (by omega) (by omega))
                  rw [Array.getD_eq_getD_getElem?] at e0
                  exact .inl ⟨Value.pointer (some ⟨w5.heap.size, 6, none⟩), w', lab', by simp [execOp, Act.eval, go_sem, e0], Mv.refl _ _ _, rfl⟩
                | 8, rfl =>
                  have e0 : a'.tmps.getD 94 undef = Value.pointer (some ⟨w5.heap.size, 6, none⟩) := hb.got 7 (by decide) (hall ⟨7, .data⟩ (by simp) rfl)
                  rw [Array.getD_eq_getD_getElem?] at e0
                  have q : w'.cell? ⟨w5.heap.size, 6, none⟩ = some (Value.slice (some ⟨gl5, 0, none⟩) 4 cl5) := hb.mv.cell0 (fun h => h) r6
                  exact .inl ⟨Value.slice (some ⟨gl5, 0, none⟩) 4 cl5, w', lab', by simp [execOp, Act.eval, go_sem, e0, q], Mv.refl _ _ _, rfl⟩
                | 9, rfl =>
                  have e0 : a'.tmps.getD 95 undef = Value.slice (some ⟨gl5, 0, none⟩) 4 cl5 := hb.got 8 (by decide) (hall ⟨8, .data⟩ (by simp) rfl)
                  rw [Array.getD_eq_getD_getElem?] at e0
                  exact .inl ⟨Value.pointer (some ⟨gl5, 7, none⟩), w', lab', by simp [execOp, Act.eval, go_sem, e0], Mv.refl _ _ _, rfl⟩
                | 10, rfl =>
                  have e0 : a'.tmps.getD 96 undef = Value.pointer (some ⟨gl5, 7, none⟩) := hb.got 9 (by decide) (hall ⟨9, .data⟩ (by simp) rfl)
                  rw [Array.getD_eq_getD_getElem?] at e0
                  have q0 : w'.cell? ⟨gl5, 7, none⟩ = some (.int .i64 4) := hb.mv.cell0 (fun h => h) (H7.out.1.cw 0 (by decide))
                  have q1 : w'.cell? ⟨gl5, 8, none⟩ = some (.int .i64 0) := hb.mv.cell0 (fun h => h) (H7.out.1.cw 1 (by decide))
                  have q2 : w'.cell? ⟨gl5, 9, none⟩ = some (.float .f64 0) := hb.mv.cell0 (fun h => h) (H7.out.1.cw 2 (by decide))
                  have q3 : w'.cell? ⟨gl5, 10, none⟩ = some (.bool false) := hb.mv.cell0 (fun h => h) (H7.out.1.cw 3 (by decide))
                  have q4 : w'.cell? ⟨gl5, 11, none⟩ = some (.string t) := hb.mv.cell0 (fun h => h) (H7.out.1.cw 4 (by decide))
                  have q5 : w'.cell? ⟨gl5, 12, none⟩ = some (.slice none 0 0) := hb.mv.cell0 (fun h => h) (H7.out.1.cw 5 (by decide))
                  have q6 : w'.cell? ⟨gl5, 13, none⟩ = some (.slice none 0 0) := hb.mv.cell0 (fun h => h) (H7.out.1.cw 6 (by decide))
                  exact .inl ⟨(gotV 4 0 false t), w', lab', by unfold gotV; simp [execOp, Act.eval, go_sem, e0, q0, q1, q2, q3, q4, q5, q6], Mv.refl _ _ _, rfl⟩
                | 11, rfl =>
                  have e0 : a'.tmps.getD 2 undef = Value.pointer (some ⟨w.heap.size, 0, none⟩) := hb.keep 2 (kd 2 (by omega) (by omega))
                  rw [Array.getD_eq_getD_getElem?] at e0
                  have q0 : w'.cell? ⟨w.heap.size, 0, none⟩ = some (.int .i64 4) := hb.mv.cell0 (fun h => h) (blk_cell H7.out.2.1 0)
                  have q1 : w'.cell? ⟨w.heap.size, 1, none⟩ = some (.int .i64 0) := hb.mv.cell0 (fun h => h) (blk_cell H7.out.2.1 1)
                  have q2 : w'.cell? ⟨w.heap.size, 2, none⟩ = some (.float .f64 f) := hb.mv.cell0 (fun h => h) (blk_cell H7.out.2.1 2)
                  have q3 : w'.cell? ⟨w.heap.size, 3, none⟩ = some (.bool false) := hb.mv.cell0 (fun h => h) (blk_cell H7.out.2.1 3)
                  have q4 : w'.cell? ⟨w.heap.size, 4, none⟩ = some (.string t) := hb.mv.cell0 (fun h => h) (blk_cell H7.out.2.1 4)
                  have q5 : w'.cell? ⟨w.heap.size, 5, none⟩ = some (.slice a1 0 c1) := hb.mv.cell0 (fun h => h) (blk_cell H7.out.2.1 5)
                  have q6 : w'.cell? ⟨w.heap.size, 6, none⟩ = some (.slice a2 0 c2) := hb.mv.cell0 (fun h => h) (blk_cell H7.out.2.1 6)
                  exact .inl ⟨(nodV 4 0 f false t a1 0 c1 a2 0 c2), w', lab', by unfold nodV; simp [execOp, Act.eval, go_sem, e0, q0, q1, q2, q3, q4, q5, q6], Mv.refl _ _ _, rfl⟩
                | 12, rfl =>
                  have e0 : a'.tmps.getD 97 undef = (gotV 4 0 false t) := hb.got 10 (by decide) (hall ⟨10, .data⟩ (by simp) rfl)
                  have e1 : a'.tmps.getD 98 undef = (nodV 4 0 f false t a1 0 c1 a2 0 c2) := hb.got 11 (by decide) (hall ⟨11, .data⟩ (by simp) rfl)
                  refine .inr ⟨16, #[a'.tmps.getD 97 undef, a'.tmps.getD 98 undef], by kernel_rfl, ?_⟩
                  rw [e0, e1]
                  refine (same_c hfz).mono ?_
                  rintro e w2 ⟨rfl, hb2⟩
                  exact ⟨_, lab'.ext w'.heap.size 45, rfl, Mv.below hb2 lab' 45, rfl⟩
                | 13, rfl =>
                  have e0 : a'.tmps.getD 93 undef = Value.bool true := hb.got 6 (by decide) (hall ⟨6, .data⟩ (by simp) rfl)
                  rw [Array.getD_eq_getD_getElem?] at e0
                  have e1 : a'.tmps.getD 99 undef = Value.bool true := hb.got 12 (by decide) (hall ⟨12, .data⟩ (by simp) rfl)
                  rw [Array.getD_eq_getD_getElem?] at e1
                  exact .inl ⟨Value.bool true, w', lab', by simp [execOp, Act.eval, go_sem, e0, e1], Mv.refl _ _ _, rfl⟩
                | 14, rfl =>
                  have e0 : a'.tmps.getD 100 undef = Value.bool true := hb.got 13 (by decide) (hall ⟨13, .data⟩ (by simp) rfl)
                  exact .inl ⟨_, _, lab', rfl, Mv.refl _ _ _, e0⟩
                | 15, rfl =>
                  have e0 : a'.tmps.getD 11 undef = Value.pointer (some ⟨g1, 0, none⟩) := hb.keep 11 (kd 11 (by omega) (by omega))
                  rw [Array.getD_eq_getD_getElem?] at e0
                  exact .inl ⟨Value.pointer (some ⟨g1, 0, none⟩), w', lab', by simp [execOp, Act.eval, go_sem, e0], Mv.refl _ _ _, rfl⟩
                | 16, rfl =>
                  have e0 : a'.tmps.getD 102 undef = Value.pointer (some ⟨g1, 0, none⟩) := hb.got 15 (by decide) (hall ⟨15, .data⟩ (by simp) rfl)
                  rw [Array.getD_eq_getD_getElem?] at e0
                  have q : w'.cell? ⟨g1, 0, none⟩ = some (.int .i64 6) := hb.mv.cell0 (fun h => h) (blk_cell H7.out.2.2.1 0)
                  exact .inl ⟨Value.int .i64 6, w', lab', by simp [execOp, Act.eval, go_sem, e0, q], Mv.refl _ _ _, rfl⟩
                | 17, rfl =>
                  have e0 : a'.tmps.getD 103 undef = Value.int .i64 6 := hb.got 16 (by decide) (hall ⟨16, .data⟩ (by simp) rfl)
                  rw [Array.getD_eq_getD_getElem?] at e0
                  exact .inl ⟨Value.bool true, w', lab', by simp [execOp, Act.eval, go_sem, e0], Mv.refl _ _ _, rfl⟩
                | 18, rfl =>
                  have e0 : a'.tmps.getD 101 undef = Value.bool true := hb.got 14 (by decide) (hall ⟨14, .data⟩ (by simp) rfl)
                  rw [Array.getD_eq_getD_getElem?] at e0
                  have e1 : a'.tmps.getD 104 undef = Value.bool true := hb.got 17 (by decide) (hall ⟨17, .data⟩ (by simp) rfl)
                  rw [Array.getD_eq_getD_getElem?] at e1
                  exact .inl ⟨Value.bool true, w', lab', by simp [execOp, Act.eval, go_sem, e0, e1], Mv.refl _ _ _, rfl⟩
                | 19, rfl =>
                  have e0 : a'.tmps.getD 105 undef = Value.bool true := hb.got 18 (by decide) (hall ⟨18, .data⟩ (by simp) rfl)
                  exact .inl ⟨_, _, lab', rfl, Mv.refl _ _ _, e0⟩
                | 20, rfl =>
                  have e0 : a'.tmps.getD 11 undef = Value.pointer (some ⟨g1, 0, none⟩) := hb.keep 11 (kd 11 (by omega) (by omega))
                  rw [Array.getD_eq_getD_getElem?] at e0
                  exact .inl ⟨Value.pointer (some ⟨g1, 6, none⟩), w', lab', by simp [execOp, Act.eval, go_sem, e0], Mv.refl _ _ _, rfl⟩
                | 21, rfl =>
                  have e0 : a'.tmps.getD 107 undef = Value.pointer (some ⟨g1, 6, none⟩) := hb.got 20 (by decide) (hall ⟨20, .data⟩ (by simp) rfl)
                  rw [Array.getD_eq_getD_getElem?] at e0
                  have q : w'.cell? ⟨g1, 6, none⟩ = some (Value.slice (some ⟨gi, 0, none⟩) 1 ci) := hb.mv.cell0 (fun h => h) (blk_cell H7.out.2.2.1 6)
                  exact .inl ⟨Value.slice (some ⟨gi, 0, none⟩) 1 ci, w', lab', by simp [execOp, Act.eval, go_sem, e0, q], Mv.refl _ _ _, rfl⟩
                | 22, rfl =>
                  have e0 : a'.tmps.getD 108 undef = Value.slice (some ⟨gi, 0, none⟩) 1 ci := hb.got 21 (by decide) (hall ⟨21, .data⟩ (by simp) rfl)
                  rw [Array.getD_eq_getD_getElem?] at e0
                  exact .inl ⟨Value.int .i64 1, w', lab', by simp [Act.eval, go_sem, e0], Mv.refl _ _ _, rfl⟩
                | 23, rfl =>
                  have e0 : a'.tmps.getD 109 undef = Value.int .i64 1 := hb.got 22 (by decide) (hall ⟨22, .data⟩ (by simp) rfl)
                  rw [Array.getD_eq_getD_getElem?] at e0
                  exact .inl ⟨Value.bool true, w', lab', by simp [execOp, Act.eval, go_sem, e0], Mv.refl _ _ _, rfl⟩
                | 24, rfl =>
                  have e0 : a'.tmps.getD 106 undef = Value.bool true := hb.got 19 (by decide) (hall ⟨19, .data⟩ (by simp) rfl)
                  rw [Array.getD_eq_getD_getElem?] at e0
                  have e1 : a'.tmps.getD 110 undef = Value.bool true := hb.got 23 (by decide) (hall ⟨23, .data⟩ (by simp) rfl)
                  rw [Array.getD_eq_getD_getElem?] at e1
                  exact .inl ⟨Value.bool true, w', lab', by simp [execOp, Act.eval, go_sem, e0, e1], Mv.refl _ _ _, rfl⟩
                | 25, rfl =>
                  have e0 : a'.tmps.getD 111 undef = Value.bool true := hb.got 24 (by decide) (hall ⟨24, .data⟩ (by simp) rfl)
                  exact .inl ⟨_, _, lab', rfl, Mv.refl _ _ _, e0⟩
                | 26, rfl =>
                  have e0 : a'.tmps.getD 11 undef = Value.pointer (some ⟨g1, 0, none⟩) := hb.keep 11 (kd 11 (by omega) (by omega))
                  rw [Array.getD_eq_getD_getElem?] at e0
                  exact .inl ⟨Value.pointer (some ⟨g1, 6, none⟩), w', lab', by simp [execOp, Act.eval, go_sem, e0], Mv.refl _ _ _, rfl⟩
                | 27, rfl =>
                  have e0 : a'.tmps.getD 113 undef = Value.pointer (some ⟨g1, 6, none⟩) := hb.got 26 (by decide) (hall ⟨26, .data⟩ (by simp) rfl)
                  rw [Array.getD_eq_getD_getElem?] at e0
                  have q : w'.cell? ⟨g1, 6, none⟩ = some (Value.slice (some ⟨gi, 0, none⟩) 1 ci) := hb.mv.cell0 (fun h => h) (blk_cell H7.out.2.2.1 6)
                  exact .inl ⟨Value.slice (some ⟨gi, 0, none⟩) 1 ci, w', lab', by simp [execOp, Act.eval, go_sem, e0, q], Mv.refl _ _ _, rfl⟩
                | 28, rfl =>
                  have e0 : a'.tmps.getD 114 undef = Value.slice (some ⟨gi, 0, none⟩) 1 ci := hb.got 27 (by decide) (hall ⟨27, .data⟩ (by simp) rfl)
                  rw [Array.getD_eq_getD_getElem?] at e0
                  exact .inl ⟨Value.pointer (some ⟨gi, 0, none⟩), w', lab', by simp [execOp, Act.eval, go_sem, e0], Mv.refl _ _ _, rfl⟩
                | 29, rfl =>
                  have e0 : a'.tmps.getD 115 undef = Value.pointer (some ⟨gi, 0, none⟩) := hb.got 28 (by decide) (hall ⟨28, .data⟩ (by simp) rfl)
                  rw [Array.getD_eq_getD_getElem?] at e0
                  have q0 : w'.cell? ⟨gi, 0, none⟩ = some (.int .i64 4) := hb.mv.cell0 (fun h => h) (H7.out.1.ci' 0 (by decide))
                  have q1 : w'.cell? ⟨gi, 1, none⟩ = some (.int .i64 0) := hb.mv.cell0 (fun h => h) (H7.out.1.ci' 1 (by decide))
                  have q2 : w'.cell? ⟨gi, 2, none⟩ = some (.float .f64 0) := hb.mv.cell0 (fun h => h) (H7.out.1.ci' 2 (by decide))
                  have q3 : w'.cell? ⟨gi, 3, none⟩ = some (.bool false) := hb.mv.cell0 (fun h => h) (H7.out.1.ci' 3 (by decide))
                  have q4 : w'.cell? ⟨gi, 4, none⟩ = some (.string t) := hb.mv.cell0 (fun h => h) (H7.out.1.ci' 4 (by decide))
                  have q5 : w'.cell? ⟨gi, 5, none⟩ = some (.slice none 0 0) := hb.mv.cell0 (fun h => h) (H7.out.1.ci' 5 (by decide))
                  have q6 : w'.cell? ⟨gi, 6, none⟩ = some (.slice none 0 0) := hb.mv.cell0 (fun h => h) (H7.out.1.ci' 6 (by decide))
                  exact .inl ⟨(gotV 4 0 false t), w', lab', by unfold gotV; simp [execOp, Act.eval, go_sem, e0, q0, q1, q2, q3, q4, q5, q6], Mv.refl _ _ _, rfl⟩
                | 30, rfl =>
                  have e0 : a'.tmps.getD 2 undef = Value.pointer (some ⟨w.heap.size, 0, none⟩) := hb.keep 2 (kd 2 (by omega) (by omega))
                  rw [Array.getD_eq_getD_getElem?] at e0
                  have q0 : w'.cell? ⟨w.heap.size, 0, none⟩ = some (.int .i64 4) := hb.mv.cell0 (fun h => h) (blk_cell H7.out.2.1 0)
                  have q1 : w'.cell? ⟨w.heap.size, 1, none⟩ = some (.int .i64 0) := hb.mv.cell0 (fun h => h) (blk_cell H7.out.2.1 1)
                  have q2 : w'.cell? ⟨w.heap.size, 2, none⟩ = some (.float .f64 f) := hb.mv.cell0 (fun h => h) (blk_cell H7.out.2.1 2)
                  have q3 : w'.cell? ⟨w.heap.size, 3, none⟩ = some (.bool false) := hb.mv.cell0 (fun h => h) (blk_cell H7.out.2.1 3)
                  have q4 : w'.cell? ⟨w.heap.size, 4, none⟩ = some (.string t) := hb.mv.cell0 (fun h => h) (blk_cell H7.out.2.1 4)
                  have q5 : w'.cell? ⟨w.heap.size, 5, none⟩ = some (.slice a1 0 c1) := hb.mv.cell0 (fun h => h) (blk_cell H7.out.2.1 5)
                  have q6 : w'.cell? ⟨w.heap.size, 6, none⟩ = some (.slice a2 0 c2) := hb.mv.cell0 (fun h => h) (blk_cell H7.out.2.1 6)
                  exact .inl ⟨(nodV 4 0 f false t a1 0 c1 a2 0 c2), w', lab', by unfold nodV; simp [execOp, Act.eval, go_sem, e0, q0, q1, q2, q3, q4, q5, q6], Mv.refl _ _ _, rfl⟩
                | 31, rfl =>
                  have e0 : a'.tmps.getD 116 undef = (gotV 4 0 false t) := hb.got 29 (by decide) (hall ⟨29, .data⟩ (by simp) rfl)
                  have e1 : a'.tmps.getD 117 undef = (nodV 4 0 f false t a1 0 c1 a2 0 c2) := hb.got 30 (by decide) (hall ⟨30, .data⟩ (by simp) rfl)
                  refine .inr ⟨16, #[a'.tmps.getD 116 undef, a'.tmps.getD 117 undef], by kernel_rfl, ?_⟩
                  rw [e0, e1]
                  refine (same_c hfz).mono ?_
                  rintro e w2 ⟨rfl, hb2⟩
                  exact ⟨_, lab'.ext w'.heap.size 45, rfl, Mv.below hb2 lab' 45, rfl⟩
                | 32, rfl =>
                  have e0 : a'.tmps.getD 112 undef = Value.bool true := hb.got 25 (by decide) (hall ⟨25, .data⟩ (by simp) rfl)
                  rw [Array.getD_eq_getD_getElem?] at e0
                  have e1 : a'.tmps.getD 118 undef = Value.bool true := hb.got 31 (by decide) (hall ⟨31, .data⟩ (by simp) rfl)
                  rw [Array.getD_eq_getD_getElem?] at e1
                  exact .inl ⟨Value.bool true, w', lab', by simp [execOp, Act.eval, go_sem, e0, e1], Mv.refl _ _ _, rfl⟩
                | 33, rfl =>
                  have e0 : a'.tmps.getD 119 undef = Value.bool true := hb.got 32 (by decide) (hall ⟨32, .data⟩ (by simp) rfl)
                  exact .inl ⟨_, _, lab', rfl, Mv.refl _ _ _, e0⟩
                | 34, rfl =>
                  have e0 : a'.tmps.getD 12 undef = Value.pointer (some ⟨g2, 0, none⟩) := hb.keep 12 (kd 12 (by omega) (by omega))
                  rw [Array.getD_eq_getD_getElem?] at e0
                  exact .inl ⟨Value.pointer (some ⟨g2, 0, none⟩), w', lab', by simp [execOp, Act.eval, go_sem, e0], Mv.refl _ _ _, rfl⟩
                | 35, rfl =>
                  have e0 : a'.tmps.getD 121 undef = Value.pointer (some ⟨g2, 0, none⟩) := hb.got 34 (by decide) (hall ⟨34, .data⟩ (by simp) rfl)
                  rw [Array.getD_eq_getD_getElem?] at e0
                  have q : w'.cell? ⟨g2, 0, none⟩ = some (.int .i64 5) := hb.mv.cell0 (fun h => h) (blk_cell H7.out.2.2.2.1 0)
                  exact .inl ⟨Value.int .i64 5, w', lab', by simp [execOp, Act.eval, go_sem, e0, q], Mv.refl _ _ _, rfl⟩
                | 36, rfl =>
                  have e0 : a'.tmps.getD 122 undef = Value.int .i64 5 := hb.got 35 (by decide) (hall ⟨35, .data⟩ (by simp) rfl)
                  rw [Array.getD_eq_getD_getElem?] at e0
                  exact .inl ⟨Value.bool true, w', lab', by simp [execOp, Act.eval, go_sem, e0], Mv.refl _ _ _, rfl⟩
                | 37, rfl =>
                  have e0 : a'.tmps.getD 120 undef = Value.bool true := hb.got 33 (by decide) (hall ⟨33, .data⟩ (by simp) rfl)
                  rw [Array.getD_eq_getD_getElem?] at e0
                  have e1 : a'.tmps.getD 123 undef = Value.bool true := hb.got 36 (by decide) (hall ⟨36, .data⟩ (by simp) rfl)
                  rw [Array.getD_eq_getD_getElem?] at e1
                  exact .inl ⟨Value.bool true, w', lab', by simp [execOp, Act.eval, go_sem, e0, e1], Mv.refl _ _ _, rfl⟩
                | 38, rfl =>
                  have e0 : a'.tmps.getD 124 undef = Value.bool true := hb.got 37 (by decide) (hall ⟨37, .data⟩ (by simp) rfl)
                  exact .inl ⟨_, _, lab', rfl, Mv.refl _ _ _, e0⟩
                | 39, rfl =>
                  have e0 : a'.tmps.getD 12 undef = Value.pointer (some ⟨g2, 0, none⟩) := hb.keep 12 (kd 12 (by omega) (by omega))
                  rw [Array.getD_eq_getD_getElem?] at e0
                  exact .inl ⟨Value.pointer (some ⟨g2, 6, none⟩), w', lab', by simp [execOp, Act.eval, go_sem, e0], Mv.refl _ _ _, rfl⟩
                | 40, rfl =>
                  have e0 : a'.tmps.getD 126 undef = Value.pointer (some ⟨g2, 6, none⟩) := hb.got 39 (by decide) (hall ⟨39, .data⟩ (by simp) rfl)
                  rw [Array.getD_eq_getD_getElem?] at e0
                  have q : w'.cell? ⟨g2, 6, none⟩ = some (Value.slice (some ⟨gz, 0, none⟩) 2 cz) := hb.mv.cell0 (fun h => h) (blk_cell H7.out.2.2.2.1 6)
                  exact .inl ⟨Value.slice (some ⟨gz, 0, none⟩) 2 cz, w', lab', by simp [execOp, Act.eval, go_sem, e0, q], Mv.refl _ _ _, rfl⟩
                | 41, rfl =>
                  have e0 : a'.tmps.getD 127 undef = Value.slice (some ⟨gz, 0, none⟩) 2 cz := hb.got 40 (by decide) (hall ⟨40, .data⟩ (by simp) rfl)
                  rw [Array.getD_eq_getD_getElem?] at e0
                  exact .inl ⟨Value.int .i64 2, w', lab', by simp [Act.eval, go_sem, e0], Mv.refl _ _ _, rfl⟩
                | 42, rfl =>
                  have e0 : a'.tmps.getD 128 undef = Value.int .i64 2 := hb.got 41 (by decide) (hall ⟨41, .data⟩ (by simp) rfl)
                  rw [Array.getD_eq_getD_getElem?] at e0
                  exact .inl ⟨Value.bool true, w', lab', by simp [execOp, Act.eval, go_sem, e0], Mv.refl _ _ _, rfl⟩
                | 43, rfl =>
                  have e0 : a'.tmps.getD 125 undef = Value.bool true := hb.got 38 (by decide) (hall ⟨38, .data⟩ (by simp) rfl)
                  rw [Array.getD_eq_getD_getElem?] at e0
                  have e1 : a'.tmps.getD 129 undef = Value.bool true := hb.got 42 (by decide) (hall ⟨42, .data⟩ (by simp) rfl)
                  rw [Array.getD_eq_getD_getElem?] at e1
                  exact .inl ⟨Value.bool true, w', lab', by simp [execOp, Act.eval, go_sem, e0, e1], Mv.refl _ _ _, rfl⟩
                | 44, rfl =>
                  have e0 : a'.tmps.getD 130 undef = Value.bool true := hb.got 43 (by decide) (hall ⟨43, .data⟩ (by simp) rfl)
                  exact .inl ⟨_, _, lab', rfl, Mv.refl _ _ _, e0⟩
                | 45, rfl =>
                  have e0 : a'.tmps.getD 12 undef = Value.pointer (some ⟨g2, 0, none⟩) := hb.keep 12 (kd 12 (by omega) (by omega))
                  rw [Array.getD_eq_getD_getElem?] at e0
                  exact .inl ⟨Value.pointer (some ⟨g2, 6, none⟩), w', lab', by simp [execOp, Act.eval, go_sem, e0], Mv.refl _ _ _, rfl⟩
                | 46, rfl =>
                  have e0 : a'.tmps.getD 132 undef = Value.pointer (some ⟨g2, 6, none⟩) := hb.got 45 (by decide) (hall ⟨45, .data⟩ (by simp) rfl)
                  rw [Array.getD_eq_getD_getElem?] at e0
                  have q : w'.cell? ⟨g2, 6, none⟩ = some (Value.slice (some ⟨gz, 0, none⟩) 2 cz) := hb.mv.cell0 (fun h => h) (blk_cell H7.out.2.2.2.1 6)
                  exact .inl ⟨Value.slice (some ⟨gz, 0, none⟩) 2 cz, w', lab', by simp [execOp, Act.eval, go_sem, e0, q], Mv.refl _ _ _, rfl⟩
                | 47, rfl =>
                  have e0 : a'.tmps.getD 133 undef = Value.slice (some ⟨gz, 0, none⟩) 2 cz := hb.got 46 (by decide) (hall ⟨46, .data⟩ (by simp) rfl)
                  rw [Array.getD_eq_getD_getElem?] at e0
                  exact .inl ⟨Value.pointer (some ⟨gz, 0, none⟩), w', lab', by simp [execOp, Act.eval, go_sem, e0], Mv.refl _ _ _, rfl⟩
                | 48, rfl =>
                  have e0 : a'.tmps.getD 134 undef = Value.pointer (some ⟨gz, 0, none⟩) := hb.got 47 (by decide) (hall ⟨47, .data⟩ (by simp) rfl)
                  rw [Array.getD_eq_getD_getElem?] at e0
                  have q0 : w'.cell? ⟨gz, 0, none⟩ = some (.int .i64 4) := hb.mv.cell0 (fun h => h) (H7.out.1.cz' 0 (by decide))
                  have q1 : w'.cell? ⟨gz, 1, none⟩ = some (.int .i64 0) := hb.mv.cell0 (fun h => h) (H7.out.1.cz' 1 (by decide))
                  have q2 : w'.cell? ⟨gz, 2, none⟩ = some (.float .f64 0) := hb.mv.cell0 (fun h => h) (H7.out.1.cz' 2 (by decide))
                  have q3 : w'.cell? ⟨gz, 3, none⟩ = some (.bool false) := hb.mv.cell0 (fun h => h) (H7.out.1.cz' 3 (by decide))
                  have q4 : w'.cell? ⟨gz, 4, none⟩ = some (.string t) := hb.mv.cell0 (fun h => h) (H7.out.1.cz' 4 (by decide))
                  have q5 : w'.cell? ⟨gz, 5, none⟩ = some (.slice none 0 0) := hb.mv.cell0 (fun h => h) (H7.out.1.cz' 5 (by decide))
                  have q6 : w'.cell? ⟨gz, 6, none⟩ = some (.slice none 0 0) := hb.mv.cell0 (fun h => h) (H7.out.1.cz' 6 (by decide))
                  exact .inl ⟨(gotV 4 0 false t), w', lab', by unfold gotV; simp [execOp, Act.eval, go_sem, e0, q0, q1, q2, q3, q4, q5, q6], Mv.refl _ _ _, rfl⟩
                | 49, rfl =>
                  have e0 : a'.tmps.getD 2 undef = Value.pointer (some ⟨w.heap.size, 0, none⟩) := hb.keep 2 (kd 2 (by omega) (by omega))
                  rw [Array.getD_eq_getD_getElem?] at e0
                  have q0 : w'.cell? ⟨w.heap.size, 0, none⟩ = some (.int .i64 4) := hb.mv.cell0 (fun h => h) (blk_cell H7.out.2.1 0)
                  have q1 : w'.cell? ⟨w.heap.size, 1, none⟩ = some (.int .i64 0) := hb.mv.cell0 (fun h => h) (blk_cell H7.out.2.1 1)
                  have q2 : w'.cell? ⟨w.heap.size, 2, none⟩ = some (.float .f64 f) := hb.mv.cell0 (fun h => h) (blk_cell H7.out.2.1 2)
                  have q3 : w'.cell? ⟨w.heap.size, 3, none⟩ = some (.bool false) := hb.mv.cell0 (fun h => h) (blk_cell H7.out.2.1 3)
                  have q4 : w'.cell? ⟨w.heap.size, 4, none⟩ = some (.string t) := hb.mv.cell0 (fun h => h) (blk_cell H7.out.2.1 4)
                  have q5 : w'.cell? ⟨w.heap.size, 5, none⟩ = some (.slice a1 0 c1) := hb.mv.cell0 (fun h => h) (blk_cell H7.out.2.1 5)
                  have q6 : w'.cell? ⟨w.heap.size, 6, none⟩ = some (.slice a2 0 c2) := hb.mv.cell0 (fun h => h) (blk_cell H7.out.2.1 6)
                  exact .inl ⟨(nodV 4 0 f false t a1 0 c1 a2 0 c2), w', lab', by unfold nodV; simp [execOp, Act.eval, go_sem, e0, q0, q1, q2, q3, q4, q5, q6], Mv.refl _ _ _, rfl⟩
                | 50, rfl =>
                  have e0 : a'.tmps.getD 135 undef = (gotV 4 0 false t) := hb.got 48 (by decide) (hall ⟨48, .data⟩ (by simp) rfl)
                  have e1 : a'.tmps.getD 136 undef = (nodV 4 0 f false t a1 0 c1 a2 0 c2) := hb.got 49 (by decide) (hall ⟨49, .data⟩ (by simp) rfl)
                  refine .inr ⟨16, #[a'.tmps.getD 135 undef, a'.tmps.getD 136 undef], by kernel_rfl, ?_⟩
                  rw [e0, e1]
                  refine (same_c hfz).mono ?_
                  rintro e w2 ⟨rfl, hb2⟩
                  exact ⟨_, lab'.ext w'.heap.size 45, rfl, Mv.below hb2 lab' 45, rfl⟩
                | 51, rfl =>
                  have e0 : a'.tmps.getD 131 undef = Value.bool true := hb.got 44 (by decide) (hall ⟨44, .data⟩ (by simp) rfl)
                  rw [Array.getD_eq_getD_getElem?] at e0
                  have e1 : a'.tmps.getD 137 undef = Value.bool true := hb.got 50 (by decide) (hall ⟨50, .data⟩ (by simp) rfl)
                  rw [Array.getD_eq_getD_getElem?] at e1
                  exact .inl ⟨Value.bool true, w', lab', by simp [execOp, Act.eval, go_sem, e0, e1], Mv.refl _ _ _, rfl⟩
                | 52, rfl =>
                  have e0 : a'.tmps.getD 138 undef = Value.bool true := hb.got 51 (by decide) (hall ⟨51, .data⟩ (by simp) rfl)
                  exact .inl ⟨_, _, lab', rfl, Mv.refl _ _ _, e0⟩
                | 53, rfl =>
                  refine .inr ⟨13, #[], by kernel_rfl, ?_⟩
                  have hbw : Below w7.heap.size w7 w' := hb.mv.toBelow (Nat.le_refl _) (fun _ _ h => h)
                  refine (awakeB (H7.out.2.2.2.2.1.mv hbw.mv0 (fun h => h))).mono ?_
                  rintro e w2 ⟨rfl, hb2⟩
                  exact ⟨_, lab'.ext w'.heap.size 45, rfl, Mv.below hb2 lab' 45, rfl⟩
                | 54, rfl =>
                  have e0 : a'.tmps.getD 139 undef = Value.bool true := hb.got 52 (by decide) (hall ⟨52, .data⟩ (by simp) rfl)
                  rw [Array.getD_eq_getD_getElem?] at e0
                  have e1 : a'.tmps.getD 140 undef = Value.bool true := hb.got 53 (by decide) (hall ⟨53, .data⟩ (by simp) rfl)
                  rw [Array.getD_eq_getD_getElem?] at e1
                  exact .inl ⟨Value.bool true, w', lab', by simp [execOp, Act.eval, go_sem, e0, e1], Mv.refl _ _ _, rfl⟩
                | 55, rfl =>
                  have e0 : a'.tmps.getD 141 undef = Value.bool true := hb.got 54 (by decide) (hall ⟨54, .data⟩ (by simp) rfl)
                  exact .inl ⟨_, _, lab', rfl, Mv.refl _ _ _, e0⟩
              · intro us v lab' w' hl hv m
                change v = .bool true at hv
                subst hv
                match us, hl with
                | y87 :: y88 :: y89 :: y90 :: y91 :: y92 :: y93 :: y94 :: y95 :: y96 :: y97 :: y98 :: y99 :: y100 :: y101 :: y102 :: y103 :: y104 :: y105 :: y106 :: y107 :: y108 :: y109 :: y110 :: y111 :: y112 :: y113 :: y114 :: y115 :: y116 :: y117 :: y118 :: y119 :: y120 :: y121 :: y122 :: y123 :: y124 :: y125 :: y126 :: y127 :: y128 :: y129 :: y130 :: y131 :: y132 :: y133 :: y134 :: y135 :: y136 :: y137 :: y138 :: y139 :: y140 :: y141 :: [], _ =>
                  have HZ := Lib.hid (H7.out.2.2.2.2.2.trans ((m.toBelow (Nat.le_refl _) (fun _ _ h => h)).mono H7.out.2.2.2.2.2.size))
                  simp only [List.setIfInBounds_toArray, List.set_cons_succ, List.set_cons_zero, List.take_succ_cons, List.take_zero, List.drop_succ_cons, List.drop_zero, List.cons_append, List.nil_append]
                  go_wp2
                  go_ret
                  exact ⟨rfl, HZ.out⟩
set_option maxRecDepth 100000 in
set_option maxHeartbeats 8000000 in
theorem Variable0_below (w : World) (hk1 : k ≠ 1) (hk4 : k ≠ 4) (h1 : m1 ≤ maxLen) (hk : KeysIn w a1 m1) (ht : t.size ≤ maxLen) (h2 : m2 ≤ maxLen) (hs : Sty L0 w (.slice a style.length c) style) (hsl : style.length ≤ maxLen) (htb : Tb L0 w) :
    Calls Tryz.prog 7 #[nodV k n f is t a1 m1 c1 a2 m2 c2, .slice a style.length c] w fun e w' => e = .returned (.bool true) ∧ Below w.heap.size w w' := by
  have hb : ∀ o, Below w.heap.size w (w.alloc o) := fun o => (Below.refl _ _).alloc (Nat.le_refl _) o
  have hft := fun o => fits1_c (w := w.alloc o) (k := k) (n := n) (f := f) (is := is) (t := t) (a1 := a1) (c1 := c1) (a2 := a2) (c2 := c2) h1 (hk.below (hb o)) ht h2
  have hsx : (style.length : Int) ≤ 9223372036854775807 := by unfold maxLen at hsl; omega
  have HB := Lib.hid hb
  have HFT := Lib.hid hft
  have HS := Lib.hid (And.intro hs (And.intro htb (And.intro hk (And.intro h1 (And.intro h2 ht)))))
  clear hb hft hs htb hk
  unfold nodV at *
  have g1 : (k != 1) = true := bne_iff_ne.2 hk1
  have g4 : (k != 4) = true := bne_iff_ne.2 hk4
  go_enter Tryz.func7, Tryz.ntmps7
  go_wp2_with fail
  refine (HFT.out _).mono ?_
  rintro e w1 ⟨⟨ok, rfl⟩, hb1⟩
  have hx1 := (HB.out _).trans (hb1.mono (by rw [World.size_alloc]; omega))
  have hbx : w1.heap[w.heap.size]? = some (.cells #[.int .i64 k, .int .i64 n, .float .f64 f, .bool is, .string t, .slice a1 m1 c1, .slice a2 m2 c2] 26 (0, 0)) := by
    rw [hb1.block w.heap.size (by rw [World.size_alloc]; omega)]
    exact heap_alloc_new w _
  have hlt1 : w.heap.size < w1.heap.size := Nat.lt_of_lt_of_le (by rw [World.size_alloc]; omega) hb1.size
  cases ok with
  | false =>
    have HX := Lib.hid hx1
    clear hx1 hb1 hbx
    go_wp2
    go_ret
    exact ⟨rfl, HX.out⟩
  | true =>
    by_cases hs31 : style.length ≤ 2147483647
    case neg =>
      have d1 : decide ((2147483647 : Int) < (style.length : Int)) = true := decide_eq_true (by omega)
      have HX := Lib.hid hx1
      clear hx1 hb1 hbx
      go_wp2
      go_ret
      exact ⟨rfl, HX.out⟩
    have d1 : decide ((2147483647 : Int) < (style.length : Int)) = false := decide_eq_false (by omega)
    have b0 : w1.cell? ⟨w.heap.size, 0, none⟩ = some (.int .i64 k) := blk_cell hbx 0
    have b1 : w1.cell? ⟨w.heap.size, 1, none⟩ = some (.int .i64 n) := blk_cell hbx 1
    have b2 : w1.cell? ⟨w.heap.size, 2, none⟩ = some (.float .f64 f) := blk_cell hbx 2
    have b3 : w1.cell? ⟨w.heap.size, 3, none⟩ = some (.bool is) := blk_cell hbx 3
    have b4 : w1.cell? ⟨w.heap.size, 4, none⟩ = some (.string t) := blk_cell hbx 4
    have b5 : w1.cell? ⟨w.heap.size, 5, none⟩ = some (.slice a1 m1 c1) := blk_cell hbx 5
    have b6 : w1.cell? ⟨w.heap.size, 6, none⟩ = some (.slice a2 m2 c2) := blk_cell hbx 6
    have HX1 := Lib.hid (And.intro hx1 hbx)
    clear hx1 hb1 hbx
    have h3 := three w1 (.cells #[.string { data := #[118] }] 9) (.cells #[.int .i64 k, .int .i64 n, .float .f64 f, .bool is, .string t, .slice a1 m1 c1, .slice a2 m2 c2] 26) (.cells #[Value.int .i64 6, .int .i64 0, .float .f64 0, .bool false, .string { data := #[] }, .slice (some ⟨w1.heap.size, 0, none⟩) 1 1, .slice (some ⟨w1.heap.size + 1, 0, none⟩) 1 1] 26)
    obtain ⟨w2, hw2⟩ : ∃ x, x = ((w1.alloc (.cells #[.string { data := #[118] }] 9)).alloc (.cells #[.int .i64 k, .int .i64 n, .float .f64 f, .bool is, .string t, .slice a1 m1 c1, .slice a2 m2 c2] 26)).alloc (.cells #[Value.int .i64 6, .int .i64 0, .float .f64 0, .bool false, .string { data := #[] }, .slice (some ⟨w1.heap.size, 0, none⟩) 1 1, .slice (some ⟨w1.heap.size + 1, 0, none⟩) 1 1] 26) := ⟨_, rfl⟩
    rw [← hw2] at h3
    obtain ⟨hk2, hl2, ho2, hb2, hz2⟩ := h3
    have hx2 := HX1.out.1.trans (hb2.mono (Nat.le_of_lt hlt1))
    have hbx2 := (hb2.block _ hlt1).trans HX1.out.2
    have c0 : w2.cell? ⟨w.heap.size, 0, none⟩ = some (.int .i64 k) := blk_cell hbx2 0
    have HX := Lib.hid hx2
    have HTB := Lib.hid (HS.out.2.1.mv hx2.mv0 (fun h => h))
    clear hx2 hbx2 hk2 hl2 ho2 hb2 HX1
    go_upto_region 4 with fail
    rw [← hw2]
    clear hw2 b0 b1 b2 b3 b4 b5 b6
    go_wp2_with fail
    refine (awakeB HTB.out).mono ?_
    rintro e wz ⟨rfl, hbz⟩
    have HZ := Lib.hid (HX.out.trans (hbz.mono HX.out.size))
    clear hbz
    go_wp2
    go_ret
    exact ⟨rfl, HZ.out⟩
/-- FnConfVariable, in any world that holds the table of strings. -/
theorem Variable_below (w : World) (k n : Int) (f : Nat) (is : Bool) (t : ByteArray) (a1 a2 : Option Addr) (m1 c1 m2 c2 : Nat) (hn0 : -9223372036854775808 ≤ n) (hn1 : n ≤ 9223372036854775807) (h1 : m1 ≤ maxLen) (hk : KeysIn w a1 m1) (ht : t.size ≤ maxLen) (h2 : m2 ≤ maxLen)
    (a : Option Addr) (c : Nat) (style : List UInt8) (hs : Sty L0 w (.slice a style.length c) style) (hsl : style.length ≤ maxLen) (htab : Lib.TabIs Tryz.prog w "strings.asciiSpace" .u8 Lib.asciiSpaceTab) :
    Calls Tryz.prog 7 #[nodV k n f is t a1 m1 c1 a2 m2 c2, .slice a style.length c] w fun e w' => e = .returned (.bool true) ∧ Below w.heap.size w w' := by
  have htb : Tb L0 w := ⟨htab, fun _ _ => rfl⟩
  by_cases hk1 : k = 1
  · subst hk1
    exact Variable1_below w hn0 hn1 h1 hk ht h2 hs hsl htb
  · by_cases hk4 : k = 4
    · subst hk4
      exact Variable4_below w hn0 hn1 h1 hk ht h2 hs hsl htb
    · exact Variable0_below w hk1 hk4 h1 hk ht h2 hs hsl htb
end
end Go.Cf
