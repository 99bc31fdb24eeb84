/-
  FnConfSize answers true.
-/
import Derived.Test.YtackodbeohaidaaGreatDoorAw
import Derived.Test.YtackodbeohaidaaGreatDoorBl
namespace Go.Cf
open Go.RowKit Go.Conc Go.Proofs
attribute [local go_sem] run_store_flt
/-- The letter of a size. -/
def uB : Nat → ByteArray | 0 => ⟨#[107]⟩ | 1 => ⟨#[109]⟩ | 2 => ⟨#[103]⟩ | _ => ⟨#[116]⟩
/-- What may stand behind it. -/
def sB : Nat → ByteArray | 0 => ⟨#[]⟩ | 1 => ⟨#[98]⟩ | 2 => ⟨#[105, 98]⟩ | _ => ⟨#[105]⟩
def szAll (m U H : Nat) : ByteArray := (⟨#[97, 32, 61, 32]⟩ : ByteArray) ++ decB m ++ uB U ++ sB H ++ ⟨#[10]⟩
theorem szAll_eq (m : Nat) (sfx : ByteArray) (U H : Nat) (h : uB U ++ sB H = sfx) : szAll m U H = szText (decB m) sfx := by
  subst h
  simp only [szAll, szText, ByteArray.append_assoc]
def mulN (b : Int) : Nat → Int → Int
  | 0, x => x
  | k + 1, x => mulN b k x * b
def baseH (H : Nat) : Int := if H = 0 then 1000 else 1024
theorem mulN_bd (b x : Int) (hb : b = 1000 ∨ b = 1024) (h0 : 0 ≤ x) (h1 : x ≤ 1000000) : ∀ k, k ≤ 4 → 0 ≤ mulN b k x ∧ mulN b k x ≤ 1099511627776000000
  | 0, _ => by simp only [mulN]; omega
  | 1, _ => by rcases hb with rfl | rfl <;> simp only [mulN] <;> omega
  | 2, _ => by rcases hb with rfl | rfl <;> simp only [mulN] <;> omega
  | 3, _ => by rcases hb with rfl | rfl <;> simp only [mulN] <;> omega
  | 4, _ => by rcases hb with rfl | rfl <;> simp only [mulN] <;> omega
  | k + 5, h => by omega
theorem read_size' (m : Nat) (hm : m ≤ 1000000) (hd : 0 < (decB m).size ∧ (decB m).size ≤ 7) : ∀ U H : Nat, U < 4 → H < 4 → ReadAs (szAll m U H) [(⟨#[97]⟩, .int (mulN (baseH H) (U + 1) m))]
  | 0, 0, _, _ => by
    have h := ra_k (decB m) (decB_dig m) hd.1 (by omega) (by rw [decB_num]; omega)
    rw [decB_num] at h
    rw [szAll_eq m ⟨#[107]⟩ 0 0 (by decide)]
    exact h
  | 0, 1, _, _ => by
    have h := ra_kb (decB m) (decB_dig m) hd.1 (by omega) (by rw [decB_num]; omega)
    rw [decB_num] at h
    rw [szAll_eq m ⟨#[107, 98]⟩ 0 1 (by decide)]
    exact h
  | 0, 2, _, _ => by
    have h := ra_kib (decB m) (decB_dig m) hd.1 (by omega) (by rw [decB_num]; omega)
    rw [decB_num] at h
    rw [szAll_eq m ⟨#[107, 105, 98]⟩ 0 2 (by decide)]
    exact h
  | 0, 3, _, _ => by
    have h := ra_ki (decB m) (decB_dig m) hd.1 (by omega) (by rw [decB_num]; omega)
    rw [decB_num] at h
    rw [szAll_eq m ⟨#[107, 105]⟩ 0 3 (by decide)]
    exact h
  | 1, 0, _, _ => by
    have h := ra_m (decB m) (decB_dig m) hd.1 (by omega) (by rw [decB_num]; omega)
    rw [decB_num] at h
    rw [szAll_eq m ⟨#[109]⟩ 1 0 (by decide)]
    exact h
  | 1, 1, _, _ => by
    have h := ra_mb (decB m) (decB_dig m) hd.1 (by omega) (by rw [decB_num]; omega)
    rw [decB_num] at h
    rw [szAll_eq m ⟨#[109, 98]⟩ 1 1 (by decide)]
    exact h
  | 1, 2, _, _ => by
    have h := ra_mib (decB m) (decB_dig m) hd.1 (by omega) (by rw [decB_num]; omega)
    rw [decB_num] at h
    rw [szAll_eq m ⟨#[109, 105, 98]⟩ 1 2 (by decide)]
    exact h
  | 1, 3, _, _ => by
    have h := ra_mi (decB m) (decB_dig m) hd.1 (by omega) (by rw [decB_num]; omega)
    rw [decB_num] at h
    rw [szAll_eq m ⟨#[109, 105]⟩ 1 3 (by decide)]
    exact h
  | 2, 0, _, _ => by
    have h := ra_g (decB m) (decB_dig m) hd.1 (by omega) (by rw [decB_num]; omega)
    rw [decB_num] at h
    rw [szAll_eq m ⟨#[103]⟩ 2 0 (by decide)]
    exact h
  | 2, 1, _, _ => by
    have h := ra_gb (decB m) (decB_dig m) hd.1 (by omega) (by rw [decB_num]; omega)
    rw [decB_num] at h
    rw [szAll_eq m ⟨#[103, 98]⟩ 2 1 (by decide)]
    exact h
  | 2, 2, _, _ => by
    have h := ra_gib (decB m) (decB_dig m) hd.1 (by omega) (by rw [decB_num]; omega)
    rw [decB_num] at h
    rw [szAll_eq m ⟨#[103, 105, 98]⟩ 2 2 (by decide)]
    exact h
  | 2, 3, _, _ => by
    have h := ra_gi (decB m) (decB_dig m) hd.1 (by omega) (by rw [decB_num]; omega)
    rw [decB_num] at h
    rw [szAll_eq m ⟨#[103, 105]⟩ 2 3 (by decide)]
    exact h
  | 3, 0, _, _ => by
    have h := ra_t (decB m) (decB_dig m) hd.1 (by omega) (by rw [decB_num]; omega)
    rw [decB_num] at h
    rw [szAll_eq m ⟨#[116]⟩ 3 0 (by decide)]
    exact h
  | 3, 1, _, _ => by
    have h := ra_tb (decB m) (decB_dig m) hd.1 (by omega) (by rw [decB_num]; omega)
    rw [decB_num] at h
    rw [szAll_eq m ⟨#[116, 98]⟩ 3 1 (by decide)]
    exact h
  | 3, 2, _, _ => by
    have h := ra_tib (decB m) (decB_dig m) hd.1 (by omega) (by rw [decB_num]; omega)
    rw [decB_num] at h
    rw [szAll_eq m ⟨#[116, 105, 98]⟩ 3 2 (by decide)]
    exact h
  | 3, 3, _, _ => by
    have h := ra_ti (decB m) (decB_dig m) hd.1 (by omega) (by rw [decB_num]; omega)
    rw [decB_num] at h
    rw [szAll_eq m ⟨#[116, 105]⟩ 3 3 (by decide)]
    exact h
  | U + 4, _, h, _ => by omega
  | _, H + 4, _, h => by omega
theorem read_size (m U H : Nat) (hm : m ≤ 1000000) (hU : U < 4) (hH : H < 4) : ReadAs (szAll m U H) [(⟨#[97]⟩, .int (mulN (baseH H) (U + 1) m))] := read_size' m hm (decB_size m hm) U H hU hH
abbrev uRow : Array Value := #[.string ⟨#[107]⟩, .string ⟨#[109]⟩, .string ⟨#[103]⟩, .string ⟨#[116]⟩]
abbrev sRow : Array Value := #[.string ⟨#[]⟩, .string ⟨#[98]⟩, .string ⟨#[105, 98]⟩, .string ⟨#[105]⟩]
theorem uRow_get (U : Nat) (h : U < 4) : uRow[U]? = some (.string (uB U)) := by
  match U, h with
  | 0, _ => rfl
  | 1, _ => rfl
  | 2, _ => rfl
  | 3, _ => rfl
theorem sRow_get (U : Nat) (h : U < 4) : sRow[U]? = some (.string (sB U)) := by
  match U, h with
  | 0, _ => rfl
  | 1, _ => rfl
  | 2, _ => rfl
  | 3, _ => rfl
theorem uB_size (U : Nat) : (uB U).size ≤ 2 := by unfold uB; split <;> decide
theorem sB_size (U : Nat) : (sB U).size ≤ 2 := by unfold sB; split <;> decide
abbrev txA : ByteArray := ⟨#[97, 32, 61, 32]⟩
def CSz (m U h H : Nat) : Nat → Value → Lab → World → Prop
  | 0, v, _, _ => v = .int .i64 m
  | 1, v, _, _ => v = .string (decB m)
  | 2, v, _, _ => v = .string (txA ++ decB m)
  | 3, v, _, w => ∃ g, v = .slice (some ⟨g, 0, none⟩) 4 4 ∧ w.heap[g]? = some (.cells uRow 9)
  | 4, v, _, _ => v = .int .i64 U
  | 5, v, _, w => ∃ g, v = .pointer (some ⟨g, U, none⟩) ∧ w.heap[g]? = some (.cells uRow 9)
  | 6, v, _, _ => v = .string (uB U)
  | 7, v, _, _ => v = .string (txA ++ decB m ++ uB U)
  | 8, v, _, w => ∃ g, v = .slice (some ⟨g, 0, none⟩) 4 4 ∧ w.heap[g]? = some (.cells sRow 9)
  | 9, v, _, _ => v = .int .u8 h
  | 10, v, _, _ => v = .int .u8 H
  | 11, v, _, w => ∃ g, v = .pointer (some ⟨g, H, none⟩) ∧ w.heap[g]? = some (.cells sRow 9)
  | 12, v, _, _ => v = .string (sB H)
  | 13, v, _, _ => v = .string (txA ++ decB m ++ uB U ++ sB H)
  | 14, v, _, _ => v = .string (szAll m U H)
  | 15, v, _, _ => v = .string (szAll m U H)
  | _, _, _, _ => True
theorem CSz.mv {m U h H : Nat} (k : Nat) (v : Value) (lab : Lab) (w : World) (lab' : Lab) (w' : World) (hc : CSz m U h H k v lab w) (mv : Mv (fun _ => False) w lab w' lab') : CSz m U h H k v lab' w' := by
  have hb : ∀ (g : Nat) (cs : Array Value) (t : TypeId), w.heap[g]? = some (Obj.cells cs t) → w'.heap[g]? = some (Obj.cells cs t) := fun g cs t e => (mv.block g (lt_of_block e) (fun h => h)).trans e
  match k, hc with
  | 0, hc => exact hc
  | 1, hc => exact hc
  | 2, hc => exact hc
  | 3, ⟨g, h1, h2⟩ => exact ⟨g, h1, hb _ _ _ h2⟩
  | 4, hc => exact hc
  | 5, ⟨g, h1, h2⟩ => exact ⟨g, h1, hb _ _ _ h2⟩
  | 6, hc => exact hc
  | 7, hc => exact hc
  | 8, ⟨g, h1, h2⟩ => exact ⟨g, h1, hb _ _ _ h2⟩
  | 9, hc => exact hc
  | 10, hc => exact hc
  | 11, ⟨g, h1, h2⟩ => exact ⟨g, h1, hb _ _ _ h2⟩
  | 12, hc => exact hc
  | 13, hc => exact hc
  | 14, hc => exact hc
  | 15, hc => exact hc
  | _ + 16, _ => exact trivial
section
variable {B : Nat} {lab lab1 : Lab} {w w1 : World}
set_option maxRecDepth 100000 in
set_option maxHeartbeats 4000000 in
theorem Size_c (n : Int) (u h : Nat) (hu : u < 256) (hh : h < 256) (htb : Tb lab w) : Calls Tryz.prog 5 #[.int .i64 n, .int .u8 u, .int .u8 h] w fun e w' => e = .returned (.bool true) ∧ ∃ lab', Mv PM w lab w' lab' := by
  by_cases hneg : n < 0
  · have e1 : decide (n < 0) = true := decide_eq_true hneg
    go_enter Tryz.func5, Tryz.ntmps5
    go_wp2_with fail
    refine (awake_c htb).mono ?_
    rintro e w' ⟨rfl, hmv⟩
    have HMV := Lib.hid hmv
    clear hmv
    go_wp2
    go_ret
    exact ⟨rfl, HMV.out⟩
  by_cases hbig : 1000000 < n
  · have e1 : decide (n < 0) = false := decide_eq_false hneg
    have e2 : decide (1000000 < n) = true := decide_eq_true hbig
    go_enter Tryz.func5, Tryz.ntmps5
    go_wp2_with fail
    refine (awake_c htb).mono ?_
    rintro e w' ⟨rfl, hmv⟩
    have HMV := Lib.hid hmv
    clear hmv
    go_wp2
    go_ret
    exact ⟨rfl, HMV.out⟩
  obtain ⟨m, rfl⟩ : ∃ m : Nat, n = m := ⟨n.toNat, by omega⟩
  have hm : m ≤ 1000000 := by omega
  obtain ⟨U, hU, hU4⟩ : ∃ U : Nat, (u : Int) % 4 = U ∧ U < 4 := ⟨u % 4, by omega, by omega⟩
  obtain ⟨H, hH, hH4⟩ : ∃ H : Nat, (h : Int) % 4 = H ∧ H < 4 := ⟨h % 4, by omega, by omega⟩
  have e1 : decide ((m : Int) < 0) = false := decide_eq_false hneg
  have e2 : decide (1000000 < (m : Int)) = false := decide_eq_false hbig
  have hu' : (u : Int) ≤ 255 := by omega
  have hh' : (h : Int) ≤ 255 := by omega
  have hu0 : (0 : Int) ≤ u := Int.natCast_nonneg _
  have hh0 : (0 : Int) ≤ h := Int.natCast_nonneg _
  have hbd : ∀ k, k ≤ 4 → 0 ≤ mulN (baseH H) k m ∧ mulN (baseH H) k m ≤ 1099511627776000000 := mulN_bd _ _ (by unfold baseH; split <;> simp) (by omega) (by omega)
  have HBD := Lib.hid hbd
  have HT := Lib.hid htb
  clear hbd htb
  go_enter Tryz.func5, Tryz.ntmps5
  go_wp2_with fail
  go_loop [8, 9] (fun want i => ∃ k : Nat, k ≤ U + 1 ∧ i = .int .i64 k ∧ want = .int .i64 (mulN (baseH H) k m)) (fun _ i => U + 1 - (RowKit.intOf i).toNat)
  case atStart => exact ⟨0, by omega, rfl, rfl⟩
  case round =>
    obtain ⟨k, hk, rfl, rfl⟩ := hrel
    by_cases hlt : k ≤ U
    · have h1 := (HBD.out k (by omega)).1
      have h2 := (HBD.out k (by omega)).2
      have h3 := (HBD.out (k + 1) (by omega)).2
      obtain ⟨x, hx⟩ : ∃ x, x = mulN (baseH H) k m := ⟨_, rfl⟩
      rw [← hx] at h1 h2 ⊢
      have d1 : decide ((k : Int) ≤ (U : Int)) = true := decide_eq_true (by omega)
      have HX := Lib.hid hx
      clear hx
      by_cases hz : H = 0
      · have e3 : ((H : Int) == 0) = true := by subst hz; rfl
        have hm1 : mulN (baseH H) (k + 1) m = x * 1000 := by rw [HX.out]; simp [mulN, baseH, hz]
        rw [hm1] at h3
        have h4 : (0 : Int) ≤ x * 1000 := by omega
        have h5 : wrap64 (x * 1000) = x * 1000 := by rw [wrap64]; omega
        go_wp2
        go_round
        case rel => exact ⟨k + 1, by omega, by go_num, by rw [hm1]⟩
        case measure => simp [RowKit.intOf]; omega
      · have e3 : ((H : Int) == 0) = false := beq_eq_false_iff_ne.2 (by omega)
        have hm1 : mulN (baseH H) (k + 1) m = x * 1024 := by rw [HX.out]; simp [mulN, baseH, hz]
        rw [hm1] at h3
        have h4 : (0 : Int) ≤ x * 1024 := by omega
        have h5 : wrap64 (x * 1024) = x * 1024 := by rw [wrap64]; omega
        go_wp2
        go_round
        case rel => exact ⟨k + 1, by omega, by go_num, by rw [hm1]⟩
        case measure => simp [RowKit.intOf]; omega
    · obtain rfl : k = U + 1 := by omega
      have d1 : decide (((U + 1 : Nat) : Int) ≤ (U : Int)) = false := decide_eq_false (by omega)
      have h1 := (HBD.out (U + 1) (by omega)).1
      have h2 := (HBD.out (U + 1) (by omega)).2
      have hds := decB_size m hm
      go_wp2
      refine wp_region_assign (CSz m U h H) 43 15 10 lab mixed (by kernel_rfl) rfl (by decide) (show 43 + 15 ≤ 91 by omega) (by kernel_rfl) rfl CSz.mv ?_ ?_
      · intro L a' lab' w' i o ho hall hb
        have kd : ∀ j, j < 10 → ∀ k, k < 16 → dstA 43 15 10 k ≠ j := by
          intro j hj k hk e
          unfold dstA at e
          split at e <;> omega
        have k0 : a'.tmps.getD 0 undef = .int .i64 m := hb.keep 0 (kd 0 (by omega))
        have k2 : a'.tmps.getD 2 undef = .int .u8 h := hb.keep 2 (kd 2 (by omega))
        have k7 : a'.tmps.getD 7 undef = .int .i64 U := hb.keep 7 (kd 7 (by omega))
        have b1 : (0 : Int) ≤ (U : Int) := Int.natCast_nonneg _
        have b2 : (U : Int) < 4 := by omega
        have b3 : (0 : Int) ≤ (H : Int) := Int.natCast_nonneg _
        have b4 : (H : Int) < 4 := by omega
        have s1 := uB_size U
        have ht4 : Int.tmod (h : Int) 4 = (H : Int) := by rw [← hH]; exact Int.tmod_eq_emod_of_nonneg hh0
        have s2 := sB_size H
        match i, ho with
        | 0, rfl => exact .inl ⟨_, _, lab', rfl, Mv.refl _ _ _, k0⟩
        | 1, rfl =>
          have h1 : a'.tmps.getD 43 undef = .int .i64 m := hb.got 0 (by decide) (hall ⟨0, .data⟩ (by simp) rfl)
          refine .inr ⟨18, #[a'.tmps.getD 43 undef], by kernel_rfl, ?_⟩
          rw [h1]
          refine (Decimal_c m hm w').mono ?_
          rintro e w2 ⟨rfl, hb2⟩
          exact ⟨_, lab'.ext w'.heap.size 33, rfl, Mv.below hb2 lab' 33, rfl⟩
        | 2, rfl =>
          have h1 : a'.tmps.getD 44 undef = .string (decB m) := hb.got 1 (by decide) (hall ⟨1, .data⟩ (by simp) rfl)
          rw [Array.getD_eq_getD_getElem?] at h1
          exact .inl ⟨.string (txA ++ decB m), w', lab', by simp [execOp, Act.eval, go_sem, h1]; omega, Mv.refl _ _ _, rfl⟩
        | 3, rfl => exact .inl ⟨.slice (some ⟨w'.heap.size, 0, none⟩) 4 4, w'.alloc (.cells uRow 9), lab'.ext w'.heap.size 33, by simp [execOp, Act.eval, go_sem], Mv.alloc _ _ _ _, w'.heap.size, rfl, heap_alloc_new _ _⟩
        | 4, rfl => exact .inl ⟨_, _, lab', rfl, Mv.refl _ _ _, k7⟩
        | 5, rfl =>
          obtain ⟨g, e3, hg⟩ := hb.got 3 (by decide) (hall ⟨3, .data⟩ (by simp) rfl)
          change a'.tmps.getD 46 undef = _ at e3
          rw [Array.getD_eq_getD_getElem?] at e3
          have e4 : a'.tmps.getD 47 undef = .int .i64 U := hb.got 4 (by decide) (hall ⟨4, .data⟩ (by simp) rfl)
          rw [Array.getD_eq_getD_getElem?] at e4
          exact .inl ⟨.pointer (some ⟨g, U, none⟩), w', lab', by simp [execOp, Act.eval, go_sem, e3, e4, b1, b2], Mv.refl _ _ _, g, rfl, hg⟩
        | 6, rfl =>
          obtain ⟨g, e5, hg⟩ := hb.got 5 (by decide) (hall ⟨5, .data⟩ (by simp) rfl)
          change a'.tmps.getD 48 undef = _ at e5
          rw [Array.getD_eq_getD_getElem?] at e5
          have hc : w'.cell? ⟨g, U, none⟩ = some (.string (uB U)) := (blk_cell hg U).trans (uRow_get U hU4)
          exact .inl ⟨.string (uB U), w', lab', by simp [execOp, Act.eval, go_sem, e5, hc], Mv.refl _ _ _, rfl⟩
        | 7, rfl =>
          have e1 : a'.tmps.getD 45 undef = .string (txA ++ decB m) := hb.got 2 (by decide) (hall ⟨2, .data⟩ (by simp) rfl)
          rw [Array.getD_eq_getD_getElem?] at e1
          have e2 : a'.tmps.getD 49 undef = .string (uB U) := hb.got 6 (by decide) (hall ⟨6, .data⟩ (by simp) rfl)
          rw [Array.getD_eq_getD_getElem?] at e2
          exact .inl ⟨.string (txA ++ decB m ++ uB U), w', lab', by simp [execOp, Act.eval, go_sem, e1, e2]; omega, Mv.refl _ _ _, rfl⟩
        | 8, rfl =>
          exact .inl ⟨.slice (some ⟨w'.heap.size, 0, none⟩) 4 4, w'.alloc (.cells sRow 9), lab'.ext w'.heap.size 33, by simp [execOp, Act.eval, go_sem], Mv.alloc _ _ _ _, w'.heap.size, rfl, heap_alloc_new _ _⟩
        | 9, rfl => exact .inl ⟨_, _, lab', rfl, Mv.refl _ _ _, k2⟩
        | 10, rfl =>
          have e1 : a'.tmps.getD 52 undef = .int .u8 h := hb.got 9 (by decide) (hall ⟨9, .data⟩ (by simp) rfl)
          rw [Array.getD_eq_getD_getElem?] at e1
          exact .inl ⟨.int .u8 H, w', lab', by simp [execOp, Act.eval, go_sem, e1]; exact ht4, Mv.refl _ _ _, rfl⟩
        | 11, rfl =>
          obtain ⟨g, e3, hg⟩ := hb.got 8 (by decide) (hall ⟨8, .data⟩ (by simp) rfl)
          change a'.tmps.getD 51 undef = _ at e3
          rw [Array.getD_eq_getD_getElem?] at e3
          have e4 : a'.tmps.getD 53 undef = .int .u8 H := hb.got 10 (by decide) (hall ⟨10, .data⟩ (by simp) rfl)
          rw [Array.getD_eq_getD_getElem?] at e4
          exact .inl ⟨.pointer (some ⟨g, H, none⟩), w', lab', by simp [execOp, Act.eval, go_sem, e3, e4, b3, b4], Mv.refl _ _ _, g, rfl, hg⟩
        | 12, rfl =>
          obtain ⟨g, e5, hg⟩ := hb.got 11 (by decide) (hall ⟨11, .data⟩ (by simp) rfl)
          change a'.tmps.getD 54 undef = _ at e5
          rw [Array.getD_eq_getD_getElem?] at e5
          have hc : w'.cell? ⟨g, H, none⟩ = some (.string (sB H)) := (blk_cell hg H).trans (sRow_get H hH4)
          exact .inl ⟨.string (sB H), w', lab', by simp [execOp, Act.eval, go_sem, e5, hc], Mv.refl _ _ _, rfl⟩
        | 13, rfl =>
          have e1 : a'.tmps.getD 50 undef = .string (txA ++ decB m ++ uB U) := hb.got 7 (by decide) (hall ⟨7, .data⟩ (by simp) rfl)
          rw [Array.getD_eq_getD_getElem?] at e1
          have e2 : a'.tmps.getD 55 undef = .string (sB H) := hb.got 12 (by decide) (hall ⟨12, .data⟩ (by simp) rfl)
          rw [Array.getD_eq_getD_getElem?] at e2
          exact .inl ⟨.string (txA ++ decB m ++ uB U ++ sB H), w', lab', by simp [execOp, Act.eval, go_sem, e1, e2]; omega, Mv.refl _ _ _, rfl⟩
        | 14, rfl =>
          have e1 : a'.tmps.getD 56 undef = .string (txA ++ decB m ++ uB U ++ sB H) := hb.got 13 (by decide) (hall ⟨13, .data⟩ (by simp) rfl)
          rw [Array.getD_eq_getD_getElem?] at e1
          exact .inl ⟨.string (szAll m U H), w', lab', by simp [execOp, Act.eval, go_sem, e1]; rw [if_neg (by omega)]; rfl, Mv.refl _ _ _, rfl⟩
        | 15, rfl =>
          have e1 : a'.tmps.getD 57 undef = .string (szAll m U H) := hb.got 14 (by decide) (hall ⟨14, .data⟩ (by simp) rfl)
          exact .inl ⟨_, _, lab', rfl, Mv.refl _ _ _, e1⟩
      · intro us v lab' w' hl hv mv
        change v = .string (szAll m U H) at hv
        subst hv
        match us, hl with
        | [v43, v44, v45, v46, v47, v48, v49, v50, v51, v52, v53, v54, v55, v56, v57], _ =>
          have htb' := HT.out.mv mv (fun h => h)
          simp only [List.setIfInBounds_toArray, List.set_cons_succ, List.set_cons_zero, List.take_succ_cons, List.take_zero, List.drop_succ_cons, List.drop_zero, List.cons_append, List.nil_append]
          go_wp2_with fail
          refine (Conf_c (B := 0) _ _ (Nat.zero_le _) htb' (read_size m U H hm hU4 hH4) (by simp [JV.fits, fitsL])).mono ?_
          rintro e w1 ⟨c, lab1, rfl, hc, m2⟩
          obtain ⟨gk, ck, gl, cl, rfl, _, q2, q3, _, hgl⟩ := hc.one
          have q2' : ∀ o, (w1.alloc o).cell? ⟨gl, 0, none⟩ = some (.int .i64 1) := fun o => (World.cell?_alloc_lt _ _ _ hgl).trans q2
          have q3' : ∀ o, (w1.alloc o).cell? ⟨gl, 1, none⟩ = some (.int .i64 (mulN (baseH H) (U + 1) m)) := fun o => (World.cell?_alloc_lt _ _ _ hgl).trans q3
          have hta : ∀ o, Tb (lab1.ext w1.heap.size 33) (w1.alloc o) := fun o => (htb'.mv m2 (by decide)).mv (Mv.alloc (M := fun _ => False) w1 lab1 o 33) (fun h => h)
          have hmm : ∀ o, Mv PM w lab (w1.alloc o) (lab1.ext w1.heap.size 33) := fun o => ((mv.mono (M' := PM) (fun _ (h : False) => h.elim)).trans m2 (fun _ h => h)).trans (Mv.alloc (M := fun _ => False) w1 lab1 o 33) (fun _ (h : False) => h.elim)
          have HA := Lib.hid hta
          have HMM := Lib.hid hmm
          clear htb' hta q2 q3 hc m2 mv hmm
          go_wp2_with fail
          refine (awake_c (HA.out _)).mono ?_
          rintro e w2 ⟨rfl, lab3, m3⟩
          have m4 := (HMM.out _).trans m3 (fun _ h => h)
          have HM4 := Lib.hid m4
          clear m3 m4
          go_wp2
          go_ret
          exact ⟨rfl, _, HM4.out⟩
end
/-- FnConfSize, in any world that holds the table of strings. -/
theorem Size_below (w : World) (n : Int) (u h : Nat) (hu : u < 256) (hh : h < 256) (htab : Lib.TabIs Tryz.prog w "strings.asciiSpace" .u8 Lib.asciiSpaceTab) :
    Calls Tryz.prog 5 #[.int .i64 n, .int .u8 u, .int .u8 h] w fun e w' => e = .returned (.bool true) ∧ Below w.heap.size w w' := by
  refine (Size_c (lab := fun _ => 0) n u h hu hh ⟨htab, fun _ _ => rfl⟩).mono ?_
  rintro e w' ⟨rfl, lab', m⟩
  exact ⟨rfl, m.toBelow (Nat.le_refl _) (fun _ _ => by decide)⟩
end Go.Cf
