/-
  Texts joined: Vb Vc Ry Vd In Wt Cw.
-/
import Derived.Test.YtackodbeohaidaaGreatDoorVz2
import Derived.Test.YtackodbeohaidaaGreatDoorVz5
import Derived.Test.YtackodbeohaidaaGreatDoorVz8
import Derived.Test.YtackodbeohaidaaGreatDoorVz12
import Derived.Test.YtackodbeohaidaaGreatDoorVz13
/-
  The law's guard: a tree of one number or one text.
-/
namespace Go.Cf
open Go.RowKit Go.Conc Go.Proofs
attribute [local go_sem] run_store_flt
section
variable {w w1 w2 : World} {k n : Int} {f : Nat} {is : Bool} {t : ByteArray} {a a1 a2 : Option Addr} {m c m1 m2 c1 c2 gk gl : Nat}
set_option maxRecDepth 100000 in
set_option maxHeartbeats 4000000 in
theorem tree1_c (h1 : m1 ≤ maxLen) (h2 : m2 ≤ maxLen) (ht : t.size ≤ maxLen) : Calls Tryz.prog 12 #[nodV 1 n f is t a1 m1 c1 a2 m2 c2, .int .i64 2] w fun e w' => (∃ ok, e = .returned (.bool ok) ∧ (ok = true → PureOk 1 n f is t m1 m2 ∧ t.size ≤ 60)) ∧ Below w.heap.size w w' := by
  have hb : ∀ o, Below w.heap.size w (w.alloc o) := fun o => (Below.refl _ _).alloc (Nat.le_refl _) o
  have hp := fun w => pure1_c (w := w) (n := n) (f := f) (is := is) (t := t) (a1 := a1) (m1 := m1) (c1 := c1) (a2 := a2) (m2 := m2) (c2 := c2)
  have h1x : (m1 : Int) ≤ 9223372036854775807 := by unfold maxLen at h1; omega
  have h2x : (m2 : Int) ≤ 9223372036854775807 := by unfold maxLen at h2; omega
  have htx : (t.size : Int) ≤ 9223372036854775807 := by unfold maxLen at ht; omega
  have HB := Lib.hid hb
  have HP := Lib.hid hp
  clear hb hp
  unfold nodV at *
  go_enter Tryz.func12, Tryz.ntmps12
  by_cases d2 : m2 ≤ 8
  case neg =>
    have e2 : decide ((8 : Int) < (m2 : Int)) = true := decide_eq_true (by omega)
    go_wp2
    go_ret
    exact ⟨⟨_, rfl, fun h => by cases h⟩, HB.out _⟩
  have e2 : decide ((8 : Int) < (m2 : Int)) = false := decide_eq_false (by omega)
  by_cases d1 : m1 ≤ 8
  case neg =>
    have e1 : decide ((8 : Int) < (m1 : Int)) = true := decide_eq_true (by omega)
    go_wp2
    go_ret
    exact ⟨⟨_, rfl, fun h => by cases h⟩, HB.out _⟩
  have e1 : decide ((8 : Int) < (m1 : Int)) = false := decide_eq_false (by omega)
  by_cases d3 : t.size ≤ 60
  case neg =>
    have e3 : decide ((60 : Int) < (t.size : Int)) = true := decide_eq_true (by omega)
    go_wp2
    go_ret
    exact ⟨⟨_, rfl, fun h => by cases h⟩, HB.out _⟩
  have e3 : decide ((60 : Int) < (t.size : Int)) = false := decide_eq_false (by omega)
  go_wp2_with fail
  refine (HP.out _).mono ?_
  rintro e w1 ⟨⟨ok, rfl, hok⟩, hb1⟩
  cases ok with
  | false =>
    have HX := Lib.hid ((HB.out _).trans (hb1.mono (by rw [World.size_alloc]; omega)))
    clear hb1
    go_wp2
    go_ret
    exact ⟨⟨_, rfl, fun h => by cases h⟩, HX.out⟩
  | true =>
    have hpo := hok rfl
    obtain ⟨z1, z2, _⟩ := id hpo
    subst z1 z2
    have hbx : w1.heap[w.heap.size]? = some (.cells #[.int .i64 1, .int .i64 n, .float .f64 f, .bool is, .string t, .slice a1 0 c1, .slice a2 0 c2] 26 (0, 0)) := by
      rw [hb1.block w.heap.size (by rw [World.size_alloc]; omega)]
      exact heap_alloc_new w _
    have q5 : w1.cell? ⟨w.heap.size, 5, none⟩ = some (.slice a1 0 c1) := (blk_cell hbx 5)
    have q6 : w1.cell? ⟨w.heap.size, 6, none⟩ = some (.slice a2 0 c2) := (blk_cell hbx 6)
    have HX := Lib.hid ((HB.out _).trans (hb1.mono (by rw [World.size_alloc]; omega)))
    clear hb1 hbx
    go_wp2
    go_loopw [5] (fun i wr => i = .int .i64 0 ∧ wr = w1) (fun _ _ => 0)
    case atStart => exact ⟨rfl, rfl⟩
    case round =>
      obtain ⟨rfl, hwr⟩ := hrel
      have hwr' := hwr.symm
      clear hwr
      subst hwr'
      go_wp2
      go_loopw [6] (fun i wr => i = .int .i64 0 ∧ wr = w1) (fun _ _ => 0)
      case atStart => exact ⟨rfl, rfl⟩
      case round =>
        obtain ⟨rfl, hwr⟩ := hrel
        have hwr' := hwr.symm
        clear hwr
        subst hwr'
        go_wp2
        go_ret
        exact ⟨⟨_, rfl, fun _ => ⟨hpo, d3⟩⟩, HX.out⟩
set_option maxRecDepth 100000 in
set_option maxHeartbeats 4000000 in
theorem tree4_c (h1 : m1 ≤ maxLen) (h2 : m2 ≤ maxLen) (ht : t.size ≤ maxLen) : Calls Tryz.prog 12 #[nodV 4 n f is t a1 m1 c1 a2 m2 c2, .int .i64 2] w fun e w' => (∃ ok, e = .returned (.bool ok) ∧ (ok = true → PureOk 4 n f is t m1 m2 ∧ t.size ≤ 60)) ∧ Below w.heap.size w w' := by
  have hb : ∀ o, Below w.heap.size w (w.alloc o) := fun o => (Below.refl _ _).alloc (Nat.le_refl _) o
  have hp := fun w => pure4_c (w := w) (n := n) (f := f) (is := is) (t := t) (a1 := a1) (m1 := m1) (c1 := c1) (a2 := a2) (m2 := m2) (c2 := c2)
  have h1x : (m1 : Int) ≤ 9223372036854775807 := by unfold maxLen at h1; omega
  have h2x : (m2 : Int) ≤ 9223372036854775807 := by unfold maxLen at h2; omega
  have htx : (t.size : Int) ≤ 9223372036854775807 := by unfold maxLen at ht; omega
  have HB := Lib.hid hb
  have HP := Lib.hid hp
  clear hb hp
  unfold nodV at *
  go_enter Tryz.func12, Tryz.ntmps12
  by_cases d2 : m2 ≤ 8
  case neg =>
    have e2 : decide ((8 : Int) < (m2 : Int)) = true := decide_eq_true (by omega)
    go_wp2
    go_ret
    exact ⟨⟨_, rfl, fun h => by cases h⟩, HB.out _⟩
  have e2 : decide ((8 : Int) < (m2 : Int)) = false := decide_eq_false (by omega)
  by_cases d1 : m1 ≤ 8
  case neg =>
    have e1 : decide ((8 : Int) < (m1 : Int)) = true := decide_eq_true (by omega)
    go_wp2
    go_ret
    exact ⟨⟨_, rfl, fun h => by cases h⟩, HB.out _⟩
  have e1 : decide ((8 : Int) < (m1 : Int)) = false := decide_eq_false (by omega)
  by_cases d3 : t.size ≤ 60
  case neg =>
    have e3 : decide ((60 : Int) < (t.size : Int)) = true := decide_eq_true (by omega)
    go_wp2
    go_ret
    exact ⟨⟨_, rfl, fun h => by cases h⟩, HB.out _⟩
  have e3 : decide ((60 : Int) < (t.size : Int)) = false := decide_eq_false (by omega)
  go_wp2_with fail
  refine (HP.out _).mono ?_
  rintro e w1 ⟨⟨ok, rfl, hok⟩, hb1⟩
  cases ok with
  | false =>
    have HX := Lib.hid ((HB.out _).trans (hb1.mono (by rw [World.size_alloc]; omega)))
    clear hb1
    go_wp2
    go_ret
    exact ⟨⟨_, rfl, fun h => by cases h⟩, HX.out⟩
  | true =>
    have hpo := hok rfl
    obtain ⟨z1, z2, _⟩ := id hpo
    subst z1 z2
    have hbx : w1.heap[w.heap.size]? = some (.cells #[.int .i64 4, .int .i64 n, .float .f64 f, .bool is, .string t, .slice a1 0 c1, .slice a2 0 c2] 26 (0, 0)) := by
      rw [hb1.block w.heap.size (by rw [World.size_alloc]; omega)]
      exact heap_alloc_new w _
    have q5 : w1.cell? ⟨w.heap.size, 5, none⟩ = some (.slice a1 0 c1) := (blk_cell hbx 5)
    have q6 : w1.cell? ⟨w.heap.size, 6, none⟩ = some (.slice a2 0 c2) := (blk_cell hbx 6)
    have HX := Lib.hid ((HB.out _).trans (hb1.mono (by rw [World.size_alloc]; omega)))
    clear hb1 hbx
    go_wp2
    go_loopw [5] (fun i wr => i = .int .i64 0 ∧ wr = w1) (fun _ _ => 0)
    case atStart => exact ⟨rfl, rfl⟩
    case round =>
      obtain ⟨rfl, hwr⟩ := hrel
      have hwr' := hwr.symm
      clear hwr
      subst hwr'
      go_wp2
      go_loopw [6] (fun i wr => i = .int .i64 0 ∧ wr = w1) (fun _ _ => 0)
      case atStart => exact ⟨rfl, rfl⟩
      case round =>
        obtain ⟨rfl, hwr⟩ := hrel
        have hwr' := hwr.symm
        clear hwr
        subst hwr'
        go_wp2
        go_ret
        exact ⟨⟨_, rfl, fun _ => ⟨hpo, d3⟩⟩, HX.out⟩
theorem _root_.Go.RowKit.Below.cellB {a : Addr} {v : Value} (b : Below w.heap.size w w1) (h : w.cell? a = some v) : w1.cell? a = some v := by
  have hl := World.block_lt_of_cell? w _ h
  unfold World.cell? at h ⊢
  rw [b.block _ hl]
  exact h
theorem ord00 : FloatKind.f64.format.order 0 0 = some .eq := by kernel_rfl
set_option maxRecDepth 100000 in
set_option maxHeartbeats 4000000 in
theorem pure6_c : Calls Tryz.prog 24 #[oneV gk gl] w fun e w' => e = .returned (.bool true) ∧ Below w.heap.size w w' := by
  have hb : ∀ o o2, Below w.heap.size w ((w.alloc o).alloc o2) := fun o o2 => ((Below.refl _ _).alloc (Nat.le_refl _) o).alloc (by rw [World.size_alloc]; omega) o2
  have HB := Lib.hid hb
  have hp := ord00
  have e1 : (FloatKind.f64.format.order 0 0 != some .eq) = false := by rw [hp]; rfl
  clear hb
  unfold oneV
  go_enter Tryz.func24, Tryz.ntmps24
  go_wp2
  go_ret
  exact ⟨rfl, HB.out _ _⟩
set_option maxRecDepth 100000 in
set_option maxHeartbeats 4000000 in
theorem treeOne_c (hk : w.heap[gk]? = some (.cells #[.string bV] 9 (0, 0))) (hl : w.heap[gl]? = some (.cells #[.int .i64 k, .int .i64 n, .float .f64 f, .bool is, .string t, .slice a1 m1 c1, .slice a2 m2 c2] 26 (0, 0)))
    (hT : ∀ w, Calls Tryz.prog 12 #[nodV k n f is t a1 m1 c1 a2 m2 c2, .int .i64 2] w fun e w' => (∃ ok, e = .returned (.bool ok) ∧ (ok = true → PureOk k n f is t m1 m2 ∧ t.size ≤ 60)) ∧ Below w.heap.size w w') :
    Calls Tryz.prog 12 #[oneV gk gl, .int .i64 3] w fun e w' => (∃ ok, e = .returned (.bool ok) ∧ (ok = true → PureOk k n f is t m1 m2 ∧ t.size ≤ 60)) ∧ Below w.heap.size w w' := by
  have hb : ∀ o, Below w.heap.size w (w.alloc o) := fun o => (Below.refl _ _).alloc (Nat.le_refl _) o
  have HB := Lib.hid hb
  have HT := Lib.hid hT
  have hp := fun w => pure6_c (w := w) (gk := gk) (gl := gl)
  clear hb hT
  unfold oneV nodV at *
  go_enter Tryz.func12, Tryz.ntmps12
  go_wp2_with fail
  refine (hp _).mono ?_
  rintro e w1 ⟨rfl, hb1⟩
  have hbx : w1.heap[w.heap.size]? = some (.cells #[Value.int .i64 6, .int .i64 0, .float .f64 0, .bool false, .string { data := #[] }, .slice (some ⟨gk, 0, none⟩) 1 1, .slice (some ⟨gl, 0, none⟩) 1 1] 26 (0, 0)) := by
    rw [hb1.block w.heap.size (by rw [World.size_alloc]; omega)]
    exact heap_alloc_new w _
  have q5 : w1.cell? ⟨w.heap.size, 5, none⟩ = some (.slice (some ⟨gk, 0, none⟩) 1 1) := blk_cell hbx 5
  have q6 : w1.cell? ⟨w.heap.size, 6, none⟩ = some (.slice (some ⟨gl, 0, none⟩) 1 1) := blk_cell hbx 6
  have hx := (HB.out _).trans (hb1.mono (by rw [World.size_alloc]; omega))
  have HX := Lib.hid hx
  have g0 : w1.cell? ⟨gk, 0, none⟩ = some (.string bV) := hx.cellB (blk_cell hk 0)
  have l0 : w1.cell? ⟨gl, 0, none⟩ = some (.int .i64 k) := hx.cellB (blk_cell hl 0)
  have l1 : w1.cell? ⟨gl, 1, none⟩ = some (.int .i64 n) := hx.cellB (blk_cell hl 1)
  have l2 : w1.cell? ⟨gl, 2, none⟩ = some (.float .f64 f) := hx.cellB (blk_cell hl 2)
  have l3 : w1.cell? ⟨gl, 3, none⟩ = some (.bool is) := hx.cellB (blk_cell hl 3)
  have l4 : w1.cell? ⟨gl, 4, none⟩ = some (.string t) := hx.cellB (blk_cell hl 4)
  have l5 : w1.cell? ⟨gl, 5, none⟩ = some (.slice a1 m1 c1) := hx.cellB (blk_cell hl 5)
  have l6 : w1.cell? ⟨gl, 6, none⟩ = some (.slice a2 m2 c2) := hx.cellB (blk_cell hl 6)
  have hbs : bV.size = 1 := rfl
  have d0 : decide ((20 : Int) < (bV.size : Int)) = false := by rw [hbs]; rfl
  have hlw : w.heap.size < w1.heap.size := Nat.lt_of_lt_of_le (by rw [World.size_alloc]; omega) hb1.size
  have HBX := Lib.hid hbx
  clear hb1 hbx hx hp
  go_wp2
  go_loopw [5] (fun i wr => ∃ j : Nat, i = .int .i64 j ∧ j ≤ 1 ∧ wr = w1) (fun i _ => 1 - (RowKit.intOf i).toNat)
  case atStart => exact ⟨0, rfl, by omega, rfl⟩
  case round =>
    obtain ⟨j, rfl, hj, hwr⟩ := hrel
    have hwr' := hwr.symm
    clear hwr
    subst hwr'
    match j, hj with
    | 0, _ =>
      go_wp2
      exact ⟨⟨1, rfl, by omega, trivial⟩, by simp [RowKit.intOf]⟩
    | 1, _ =>
      go_wp2
      go_loopw [6] (fun i wr => (i = .int .i64 0 ∧ wr = w1) ∨ (i = .int .i64 1 ∧ Below w.heap.size w wr ∧ wr.cell? ⟨w.heap.size, 6, none⟩ = some (.slice (some ⟨gl, 0, none⟩) 1 1) ∧ PureOk k n f is t m1 m2 ∧ t.size ≤ 60)) (fun i _ => 1 - (RowKit.intOf i).toNat)
      case atStart => exact .inl ⟨rfl, rfl⟩
      case round =>
        rcases hrel with ⟨rfl, hwr⟩ | ⟨rfl, hwr, r6, hres⟩
        · have hwr' := hwr.symm
          clear hwr
          subst hwr'
          go_wp2_with fail
          refine (HT.out _).mono ?_
          rintro e w2 ⟨⟨ok, rfl, hok⟩, hb2⟩
          have HX2 := Lib.hid (HX.out.trans (hb2.mono (Nat.le_of_lt hlw)))
          cases ok with
          | false =>
            clear hb2
            go_wp2
            go_ret
            exact ⟨⟨_, rfl, fun h => by cases h⟩, HX2.out⟩
          | true =>
            have hres := hok rfl
            have r6 : w2.cell? ⟨w.heap.size, 6, none⟩ = some (.slice (some ⟨gl, 0, none⟩) 1 1) := hb2.cellB q6
            clear hb2
            go_wp2
            go_roundw
            case rel => exact ⟨_, _, _, _, _, _, _, _, _, _, _, _, _, _, _, _, _, _, .inr ⟨rfl, HX2.out, r6, hres⟩, rfl⟩
            case measure => simp [RowKit.intOf]
        · have HX2 := Lib.hid hwr
          clear hwr
          go_wp2
          go_ret
          exact ⟨⟨_, rfl, fun _ => hres⟩, HX2.out⟩
end
end Go.Cf

/-
  The law's comparison of two values without others in them; whether a text may be gone on with.
-/
namespace Go.Cf
open Go.RowKit Go.Conc Go.Proofs
attribute [local go_sem] run_store_flt
section
variable {w w1 w2 : World} {k n : Int} {f : Nat} {is : Bool} {t : ByteArray} {a a1 a2 : Option Addr} {m c m1 m2 c1 c2 gk gl : Nat}
/-- A value as the reader gives it. -/
def gotV (k n : Int) (is : Bool) (t : ByteArray) : Value := .agg #[.int .i64 k, .int .i64 n, .float .f64 0, .bool is, .string t, .slice none 0 0, .slice none 0 0]
set_option maxRecDepth 100000 in
set_option maxHeartbeats 4000000 in
theorem same_c (hf : FZ f) : Calls Tryz.prog 16 #[gotV k n is t, nodV k n f is t a1 0 c1 a2 0 c2] w fun e w' => e = .returned (.bool true) ∧ Below w.heap.size w w' := by
  have hb : ∀ o o2, Below w.heap.size w ((w.alloc o).alloc o2) := fun o o2 => ((Below.refl _ _).alloc (Nat.le_refl _) o).alloc (by rw [World.size_alloc]; omega) o2
  have HB := Lib.hid hb
  have hp : FloatKind.f64.format.order 0 f = some .eq := beq_iff_eq.1 hf.2
  have e1 : (FloatKind.f64.format.order 0 f != some .eq) = false := by rw [hp]; rfl
  clear hb
  unfold gotV nodV
  go_enter Tryz.func16, Tryz.ntmps16
  go_wp2
  go_loopw [61] (fun i wr => i = .int .i64 0 ∧ Below w.heap.size w wr ∧ wr.cell? ⟨w.heap.size, 6, none⟩ = some (.slice none 0 0)) (fun _ _ => 0)
  case atStart => exact ⟨rfl, HB.out _ _, by simp [go_sem]⟩
  case round =>
    obtain ⟨rfl, hwr, q6⟩ := hrel
    have HX := Lib.hid hwr
    clear hwr
    go_wp2
    go_loopw [79] (fun i wz => i = .int .i64 0 ∧ wz = wr) (fun _ _ => 0)
    case atStart => exact ⟨rfl, rfl⟩
    case round =>
      obtain ⟨rfl, hwz⟩ := hrel
      have hwz' := hwz.symm
      clear hwz
      subst hwz'
      go_wp2
      go_ret
      exact ⟨rfl, HX.out⟩
set_option maxRecDepth 100000 in
set_option maxHeartbeats 4000000 in
theorem open2_c (T : ByteArray) (h0 : 0 < T.size) (h1 : T.size ≤ 1000000) : Calls Tryz.prog 17 #[.string T] w fun e w' => (∃ ok, e = .returned (.bool ok) ∧ (ok = true → byteAt T 0 ≠ 123 ∧ byteAt T (T.size - 1) = 10)) ∧ w' = w := by
  have es := toList_some h0
  obtain ⟨mz, hmz⟩ : ∃ mz, T.size = mz + 1 := ⟨T.size - 1, by omega⟩
  go_enter Tryz.func17, Tryz.ntmps17
  have hidx : (mz : Int) < (mz : Int) + 1 := by omega
  by_cases hx : ((T[0]'h0).toNat : Int) = 123
  · go_wp2
    go_ret
    exact ⟨⟨_, rfl, fun h => by cases h⟩, rfl⟩
  · have hmlt : mz < T.size := by omega
    go_wp2
    go_ret
    refine ⟨⟨_, rfl, fun h => ?_⟩, rfl⟩
    rw [Bool.and_eq_true, beq_iff_eq] at h
    refine ⟨fun e => ?_, ?_⟩
    · rw [← byteAt_get T 0 h0] at e
      exact hx (by omega)
    · rw [show T.size - 1 = mz from by omega, ← byteAt_get T mz hmlt]
      have := h.2
      omega
end
end Go.Cf

/-
  The text of FnConfVariable is read as its four values.
-/
namespace Go.Cf
open Go.RowKit Go.Conc Go.Proofs
def Asc (s : ByteArray) : Prop := ∀ i, i < s.size → byteAt s i < 128
theorem Asc.app {a b : ByteArray} (ha : Asc a) (hb : Asc b) : Asc (a ++ b) := fun i hi => by
  rw [ByteArray.size_append] at hi
  rcases Nat.lt_or_ge i a.size with h | h
  · rw [byteAt_app_left _ _ _ h]; exact ha i h
  · obtain ⟨j, rfl⟩ := Nat.exists_eq_add_of_le h
    rw [byteAt_app_right]
    exact hb j (by omega)
theorem Asc.plain {s nn : ByteArray} (h : Plain s nn) : Asc s := fun i hi => by have := h i hi; omega
theorem Asc.bare {s : ByteArray} (h : Bare s) : Asc s := fun i hi => by
  have := h.bytes i hi
  unfold bareB letB goodB at this
  omega
theorem Asc.one (c : UInt8) (h : c.toNat < 128) : Asc ⟨#[c]⟩ := fun i hi => by
  have : i = 0 := by have : i < 1 := hi; omega
  subst this
  exact h
theorem Asc.blank (k : Nat) : Asc (blankT k) := by
  match k with
  | 0 => exact fun i hi => absurd hi (Nat.not_lt_zero i)
  | 1 => exact fun i hi => (show ∀ i, i < 2 → byteAt (blankT 1) i < 128 by decide) i hi
  | 2 => exact fun i hi => (show ∀ i, i < 16 → byteAt (blankT 2) i < 128 by decide) i hi
  | 3 => exact fun i hi => (show ∀ i, i < 12 → byteAt (blankT 3) i < 128 by decide) i hi
  | 4 => exact fun i hi => (show ∀ i, i < 1 → byteAt (blankT 4) i < 128 by decide) i hi
  | k + 5 => exact fun i hi => absurd hi (Nat.not_lt_zero i)
theorem Asc.sep (j : Nat) (hj : j < 6) : Asc (sepT j) := by
  match j, hj with
  | 0, _ => exact fun i hi => (show ∀ i, i < 3 → byteAt (sepT 0) i < 128 by decide) i hi
  | 1, _ => exact fun i hi => (show ∀ i, i < 1 → byteAt (sepT 1) i < 128 by decide) i hi
  | 2, _ => exact fun i hi => (show ∀ i, i < 2 → byteAt (sepT 2) i < 128 by decide) i hi
  | 3, _ => exact fun i hi => (show ∀ i, i < 1 → byteAt (sepT 3) i < 128 by decide) i hi
  | 4, _ => exact fun i hi => (show ∀ i, i < 1 → byteAt (sepT 4) i < 128 by decide) i hi
  | 5, _ => exact fun i hi => (show ∀ i, i < 3 → byteAt (sepT 5) i < 128 by decide) i hi
theorem Asc.end (e : Nat) (he : e < 5) : Asc (endT e) := by
  match e, he with
  | 0, _ => exact fun i hi => (show ∀ i, i < 1 → byteAt (endT 0) i < 128 by decide) i hi
  | 1, _ => exact fun i hi => (show ∀ i, i < 2 → byteAt (endT 1) i < 128 by decide) i hi
  | 2, _ => exact fun i hi => (show ∀ i, i < 7 → byteAt (endT 2) i < 128 by decide) i hi
  | 3, _ => exact fun i hi => (show ∀ i, i < 2 → byteAt (endT 3) i < 128 by decide) i hi
  | 4, _ => exact fun i hi => (show ∀ i, i < 8 → byteAt (endT 4) i < 128 by decide) i hi
theorem Asc.key {k Kt : ByteArray} (h : KeySp k Kt) : Asc Kt := by
  cases h with
  | dq hP => exact ((Asc.one 34 (by decide)).app (Asc.plain hP)).app (Asc.one 34 (by decide))
  | sq hP => exact ((Asc.one 39 (by decide)).app (Asc.plain hP)).app (Asc.one 39 (by decide))
  | bare hB => exact Asc.bare hB
theorem Asc.of_list (l : List UInt8) (h : ∀ c ∈ l, c.toNat < 128) : Asc ⟨l.toArray⟩ := fun i hi => by
  have hl : i < l.length := hi
  have : byteAt ⟨l.toArray⟩ i = (l[i]'hl).toNat := by
    show (l.getD i 0).toNat = _
    rw [List.getD_eq_getElem?_getD, List.getElem?_eq_getElem hl]
    rfl
  rw [this]
  exact h _ (List.getElem_mem hl)
theorem Asc.esc {t : ByteArray} (h : ∀ i, i < t.size → escOk (byteAt t i)) : Asc (escT t) := by
  refine Asc.of_list _ fun c hc => ?_
  obtain ⟨x, hx, hcx⟩ := List.mem_flatMap.1 hc
  obtain ⟨i, hi, rfl⟩ := List.getElem_of_mem hx
  have hi2 : i < t.size := by rw [data_length] at hi; exact hi
  have hok := h i hi2
  rw [← byteAt_get t i hi2] at hok
  have hxl : (t.data.toList[i]'hi).toNat < 128 := by unfold escOk at hok; have : (t.data.toList[i]'hi).toNat = (t[i]'hi2).toNat := rfl; omega
  unfold escC at hcx
  split at hcx
  · simp only [List.mem_cons, List.not_mem_nil, or_false] at hcx; rcases hcx with rfl | rfl <;> decide
  · split at hcx
    · simp only [List.mem_cons, List.not_mem_nil, or_false] at hcx; rcases hcx with rfl | rfl <;> decide
    · split at hcx
      · simp only [List.mem_cons, List.not_mem_nil, or_false] at hcx
        rcases hcx with rfl | rfl
        · decide
        · exact hxl
      · simp only [List.mem_cons, List.not_mem_nil, or_false] at hcx
        subst hcx
        exact hxl
theorem Asc.txt {t T : ByteArray} {li : Bool} (h : TxtSp t li T) : Asc T := by
  cases h with
  | blk hb _ =>
    refine ((Asc.one 40 (by decide)).app fun i hi => ?_).app fun i hi => (show ∀ i, i < 2 → byteAt ⟨#[41, 10]⟩ i < 128 by decide) i hi
    rcases Nat.eq_zero_or_pos i with rfl | h0
    · rw [hb.first]; decide
    · rcases (hb.mid i h0 hi).2 with h | h <;> omega
  | sq hP => exact ((Asc.one 39 (by decide)).app (Asc.plain hP)).app (Asc.one 39 (by decide))
  | bare hB _ => exact Asc.bare hB
  | dq hP => exact ((Asc.one 34 (by decide)).app (Asc.esc hP)).app (Asc.one 34 (by decide))
theorem Asc.int {v : Int} {T : ByteArray} (h : IntSp v T) : Asc T := by
  obtain ⟨sg, m, sf, u, rfl, hsf, hn, hb⟩ := h
  have hsg : sg = ⟨#[]⟩ ∨ sg = ⟨#[45]⟩ := by rcases hn with ⟨h, _⟩ | ⟨h, _⟩; exact .inl h; exact .inr h
  refine Asc.app (fun i hi => ?_) ?_
  · have := sgdig sg m hsg i hi; omega
  · rcases hsf.item with ⟨rfl, _⟩ | hI
    · exact fun i hi => absurd hi (Nat.not_lt_zero i)
    · exact hI.asc
theorem Asc.leaf {j : JV} {T : ByteArray} (h : LeafSp j T) : Asc T := by
  cases h with
  | int v T h => exact Asc.int h
  | txt t T h => exact Asc.txt h
def varAll (k : Nat) (Kt : ByteArray) (q : Nat) (T : ByteArray) (e : Nat) : ByteArray := blankT k ++ ((Kt ++ sepT q) ++ ((T ++ endT e) ++ (txW ++ (txX ++ txZ))))
theorem read_var (k : Nat) (Kt : ByteArray) (q : Nat) (T : ByteArray) (e : Nat) (j : JV) (hk : KeySp bV Kt) (hq : q < 6) (hT : LeafSp j T) (he : e < 5) (hblk : byteAt T (T.size - 1) = 10 → e = 0) (hsz : (varAll k Kt q T e).size ≤ 1000000) :
    ReadAs (varAll k Kt q T e) [(bV, j), (bW, j), (bX, .map [bY] [j]), (bZ, .arr [j, .int 1])] := by
  have ha : Asc (varAll k Kt q T e) := (Asc.blank k).app (((Asc.key hk).app (Asc.sep q hq)).app (((Asc.leaf hT).app (Asc.end e he)).app (Asc.app (fun i hi => (show ∀ i, i < 7 → byteAt txW i < 128 by decide) i hi) (Asc.app (fun i hi => (show ∀ i, i < 13 → byteAt txX i < 128 by decide) i hi) (fun i hi => (show ∀ i, i < 13 → byteAt txZ i < 128 by decide) i hi)))))
  obtain ⟨s, hs⟩ : ∃ s, s = varAll k Kt q T e := ⟨_, rfl⟩
  rw [← hs] at hsz ha ⊢
  have h : Has s 0 (varAll k Kt q T e) := by rw [← hs]; exact Has.all s
  have htot : s.size = (blankT k).size + (Kt.size + (sepT q).size + (T.size + (endT e).size + (7 + (13 + 13)))) := by
    rw [hs]
    unfold varAll
    simp only [ByteArray.size_append]
    rfl
  unfold varAll at h
  have h1 := h.left
  have hr := h.right
  rw [Nat.zero_add] at hr
  have h2 := hr.left
  have h3 := hr.right
  rw [ByteArray.size_append] at h3
  have h4 := h3.left
  have h5 := h3.right
  rw [ByteArray.size_append] at h5
  have hw := h5.left
  have h6 := h5.right
  have hx := h6.left
  have hz := h6.right
  have e7 : txW.size = 7 := rfl
  have e13 : txX.size = 13 := rfl
  rw [e7] at hx
  rw [e7, e13] at hz
  have hf := leaf_first hT
  have b0 : byteAt s ((blankT k).size + (Kt.size + (sepT q).size)) = byteAt T 0 := h4.left.at 0 hf.1
  refine readAs_of hsz ha fun K hK => ?_
  refine fd_blank k h1 (by simp) (by decide) fun pt hpt => ?_
  rw [Nat.zero_add]
  refine fd_key hK hk (by rfl) q hq h2 (by omega) (by rw [b0]; exact hf.2) (by simp) (by simp) ?_
  refine fd_leaf hK hT e he hblk h4 (by simp) (fun L => .map [] [] [] bV rfl rfl (by simp) (by simp) (by decide)) fun pt2 hpt2 => ?_
  refine fd_w (j := j) hK hw rfl (by simp [putL, insL]) fun pt3 hpt3 => ?_
  refine fd_x (j := j) hK hx rfl (Nat.le_trans (show 2 ≤ 3 by decide) (by decide)) fun pt4 hpt4 => ?_
  refine fd_z (j := j) hK hz rfl (Nat.le_trans (show 3 ≤ 3 by decide) (by decide)) fun pt5 hpt5 => ?_
  exact Fd.eof (ld_top_eof (by omega) rfl) hpt5
end Go.Cf

/-
  A region that draws its order, with operations that are guarded; what the configuration with a variable is read as, in memory.
-/
namespace Go.Cf
open Go.RowKit Go.Conc Go.Proofs
section
variable {P : Program} {Q : Exit → Act → World → Prop}
theorem wp_region_framew {id : Nat} {l : List Oper} {a : Act} {w : World} (C : Nat → Value → Lab → World → Prop) (dst : Nat → Nat) (lab : Lab) (hm : P.follows .mixedOrders = true)
    (hdep : (List.range l.length).all (fun i => ((l[i]?).map fun o => o.after.all fun e => !Region.binds .any e || decide (e.on < i)).getD true) = true)
    (hdst : ∀ i o, l[i]? = some o → o.dst = some (dst i) ∧ dst i < a.tmps.size ∧ ∀ k, k < l.length → dst k = dst i → k = i)
    (hd0 : a.defers = [])
    (hC : ∀ k v lab w lab' w', C k v lab w → Mv (fun _ => False) w lab w' lab' → C k v lab' w')
    (hwant : ∀ (L : Array Bool) (a' : Act) (lab' : Lab) (w' : World) (i : Nat) (o : Oper), l[i]? = some o → (∀ e ∈ o.after, Region.binds .any e = true → L.getD e.on false = true) → BlAt C dst a w lab l.length L a' lab' w' → Region.wanted o (yielded l.toArray a'.tmps) = true)
    (hstep : ∀ L a' lab' w' i o, l[i]? = some o → (∀ e ∈ o.after, Region.binds .any e = true → L.getD e.on false = true) → BlAt C dst a w lab l.length L a' lab' w' → Does P o a' lab' w' (C i))
    (hend : ∀ a' lab' w', (∀ k, k < l.length → C k (a'.tmps.getD (dst k) undef) lab' w') → a'.defers = [] → a'.tmps.size = a.tmps.size → (∀ j, (∀ k, k < l.length → dst k ≠ j) → a'.tmps.getD j undef = a.tmps.getD j undef) → Mv (fun _ => False) w lab w' lab' → Q .normal a' w') :
    (Code.region id l.toArray true).wp P Q a w := by
  refine wp_region_inv (fun L a' w' => ∃ lab', BlAt C dst a w lab l.length L a' lab' w') hm hdep ?_ ?_ ?_
  · refine ⟨lab, hd0, rfl, fun _ _ => rfl, ⟨rfl, rfl, rfl, Nat.le_refl _, fun _ _ _ => rfl, fun _ _ _ => rfl⟩, fun k hk h => ?_⟩
    simp [Array.getD] at h
  · rintro L a' w' i o hL ho hf hall ⟨lab', hb⟩
    have hs := hstep L a' lab' w' i o ho hall hb
    have hw := hwant L a' lab' w' i o ho hall hb
    obtain ⟨h1, h3, h5⟩ := hdst i o ho
    have hi : i < l.length := (List.getElem?_eq_some_iff.1 ho).1
    have key : ∀ v lab2 w2, Mv (fun _ => False) w' lab' w2 lab2 → C i v lab2 w2 → ∃ lab3, BlAt C dst a w lab l.length (L.setIfInBounds i true) (a'.put o.dst v) lab3 w2 := by
      intro v lab2 w2 m hc
      rw [h1]
      have hsz : dst i < a'.tmps.size := by rw [hb.size]; exact h3
      refine ⟨lab2, hb.defers, by simpa [Act.put] using hb.size, fun j hj => ?_, hb.mv.trans m (fun _ h => h), fun k hk hlk => ?_⟩
      · rw [put_getD hsz, if_neg (fun e => hj i hi e.symm)]
        exact hb.keep j hj
      · rw [put_getD hsz]
        by_cases hki : k = i
        · subst hki; rw [if_pos rfl]; exact hc
        · rw [if_neg (fun e => hki (h5 k hk e))]
          refine hC k _ _ _ _ _ (hb.got k hk ?_) m
          rw [Array.getD_eq_getD_getElem?, Array.getElem?_setIfInBounds_ne (fun e => hki e.symm), ← Array.getD_eq_getD_getElem?] at hlk
          exact hlk
    unfold wpOp
    simp only [List.getElem?_toArray, ho, hw, if_true]
    left
    unfold Oper.wp
    rcases hs with ⟨v, w2, lab2, hrun, m, hc⟩ | ⟨f, args, hrun, hcalls⟩
    · rw [hrun]
      exact key v lab2 w2 m hc
    · rw [hrun, Oper.upon_enter]
      refine hcalls.mono ?_
      rintro e w2 ⟨v, lab2, rfl, m, hc⟩
      exact key v lab2 w2 m hc
  · rintro L a' w' hL hall ⟨lab', hb⟩
    exact hend a' lab' w' (fun k hk => hb.got k hk (hall k hk)) hb.defers hb.size hb.keep hb.mv
/-- 'x := a && b && ..' in a region that draws its order, all of whose guards are met. -/
theorem wp_region_ands {id : Nat} {l : List Oper} {a : Act} {w : World} (C : Nat → Value → Lab → World → Prop) (gs : List Nat) (lo m r : Nat) (lab : Lab) (hm : P.follows .mixedOrders = true)
    (hdep : (List.range l.length).all (fun i => ((l[i]?).map fun o => o.after.all fun e => !Region.binds .any e || decide (e.on < i)).getD true) = true)
    (hlen : l.length = m + 1) (hr : r < lo) (hlo : lo + m ≤ a.tmps.size)
    (hdst : (List.range l.length).all (fun i => ((l[i]?).map fun o => o.dst == some (dstA lo m r i) && (match o.guard with
      | none => true
      | some (g, b) => b && gs.contains g && decide (g < m) && o.after.any fun e => Region.binds .any e && e.on == g)).getD true) = true)
    (hgs : ∀ g ∈ gs, ∀ v lab w, C g v lab w → v = .bool true)
    (hd0 : a.defers = [])
    (hC : ∀ k v lab w lab' w', C k v lab w → Mv (fun _ => False) w lab w' lab' → C k v lab' w')
    (hstep : ∀ L a' lab' w' i o, l[i]? = some o → (∀ e ∈ o.after, Region.binds .any e = true → L.getD e.on false = true) → BlAt C (dstA lo m r) a w lab l.length L a' lab' w' → Does P o a' lab' w' (C i))
    (hend : ∀ us v lab' w', us.length = m → C m v lab' w' → Mv (fun _ => False) w lab w' lab' → Q .normal ⟨((a.tmps.setIfInBounds r v).toList.take lo ++ (us ++ (a.tmps.setIfInBounds r v).toList.drop (lo + m))).toArray, []⟩ w') :
    (Code.region id l.toArray true).wp P Q a w := by
  have hd : ∀ i o, l[i]? = some o → o.dst = some (dstA lo m r i) ∧ (∀ g b, o.guard = some (g, b) → b = true ∧ g ∈ gs ∧ g < m ∧ ∃ e ∈ o.after, Region.binds .any e = true ∧ e.on = g) := by
    intro i o ho
    have hi : i < l.length := (List.getElem?_eq_some_iff.1 ho).1
    have h1 := List.all_eq_true.1 hdst i (List.mem_range.2 hi)
    rw [ho] at h1
    simp only [Option.map_some, Option.getD_some, Bool.and_eq_true, beq_iff_eq] at h1
    refine ⟨h1.1, fun g b hg => ?_⟩
    have h2 := h1.2
    rw [hg] at h2
    simp only [Bool.and_eq_true, decide_eq_true_eq, Array.any_eq_true] at h2
    obtain ⟨⟨⟨h3, h4⟩, h5⟩, ei, hei, h6⟩ := h2
    refine ⟨h3, by simpa using h4, h5, _, Array.getElem_mem hei, ?_⟩
    simpa using h6
  refine wp_region_framew C (dstA lo m r) lab hm hdep (fun i o ho => ?_) hd0 hC ?_ hstep ?_
  · have hi : i < l.length := (List.getElem?_eq_some_iff.1 ho).1
    refine ⟨(hd i o ho).1, ?_, fun k hk e => dstA_inj hr e (by omega) (by omega)⟩
    unfold dstA
    split <;> omega
  · intro L a' lab' w' i o ho hall hb
    unfold Region.wanted
    cases hg : o.guard with
    | none => rfl
    | some x =>
      obtain ⟨g, b⟩ := x
      obtain ⟨rfl, hgm, hlt, e, he, hbe, rfl⟩ := (hd i o ho).2 g b hg
      have hv := hgs _ hgm _ _ _ (hb.got e.on (by omega) (hall e he hbe))
      obtain ⟨og, hog⟩ : ∃ og, l[e.on]? = some og := ⟨_, List.getElem?_eq_getElem (show e.on < l.length by omega)⟩
      have hdg := (hd e.on og hog).1
      have hsome : a'.tmps[dstA lo m r e.on]? = some (.bool true) := by
        rw [Array.getD_eq_getD_getElem?] at hv
        cases hc : a'.tmps[dstA lo m r e.on]? with
        | none => rw [hc] at hv; cases hv
        | some v => rw [hc] at hv; exact congrArg some hv
      simp [yielded, hog, hdg, hsome]
  · intro a' lab' w' hgot hdf hs hkeep mv
    have hv := hgot m (by omega)
    have hdm : dstA lo m r m = r := if_pos rfl
    rw [hdm] at hv
    obtain ⟨us, hl, ht⟩ := frame_range a'.tmps (a.tmps.setIfInBounds r (a'.tmps.getD r undef)) lo m (by simpa using hs) (by simpa using hlo) (fun j hj => by
      by_cases hjr : j = r
      · subst hjr
        simp only [Array.getD_eq_getD_getElem?]
        rw [Array.getElem?_setIfInBounds_self_of_lt (by omega)]
        rfl
      · have : a'.tmps.getD j undef = a.tmps.getD j undef := hkeep j (fun k hk e => by
          unfold dstA at e
          split at e <;> omega)
        rw [this]
        simp only [Array.getD_eq_getD_getElem?]
        rw [Array.getElem?_setIfInBounds_ne (fun e => hjr e.symm)])
    have := hend us _ lab' w' hl hv mv
    obtain ⟨t, d⟩ := a'
    simp only at hdf ht this
    subst hdf
    rw [ht]
    exact this
end
section
variable {B : Nat} {lab lab1 : Lab} {w w1 : World} {k n : Int} {f : Nat} {is : Bool} {t : ByteArray} {j : JV}
theorem leaf_got (hl : LeafOk f k n is t j) {c : Array Value} (h : isN B lab w j c) : c = ndC k n 0 is t nilS nilS := by
  cases hl with
  | int n h0 h1 hf => simpa [isN] using h
  | txt t hf ht => simpa [isN] using h
/-- What is read, in memory. -/
structure Four (w : World) (k n : Int) (is : Bool) (t : ByteArray) (gk ck gl cl gi ci gy cy gz cz : Nat) : Prop where
  cv : ∀ i, i < 7 → w.cell? ⟨gl, i, none⟩ = (ndC k n 0 is t nilS nilS)[i]?
  cw : ∀ i, i < 7 → w.cell? ⟨gl, 7 + i, none⟩ = (ndC k n 0 is t nilS nilS)[i]?
  cx : ∀ i, i < 7 → w.cell? ⟨gl, 14 + i, none⟩ = (ndC 6 0 0 false { data := #[] } (.slice (some ⟨gy, 0, none⟩) 1 cy) (.slice (some ⟨gi, 0, none⟩) 1 ci))[i]?
  cl' : ∀ i, i < 7 → w.cell? ⟨gl, 21 + i, none⟩ = (ndC 5 0 0 false { data := #[] } nilS (.slice (some ⟨gz, 0, none⟩) 2 cz))[i]?
  ci' : ∀ i, i < 7 → w.cell? ⟨gi, i, none⟩ = (ndC k n 0 is t nilS nilS)[i]?
  cz' : ∀ i, i < 7 → w.cell? ⟨gz, i, none⟩ = (ndC k n 0 is t nilS nilS)[i]?
theorem isC.four (hl : LeafOk f k n is t j) {c : Array Value} (h : isC B lab w [(bV, j), (bW, j), (bX, .map [bY] [j]), (bZ, .arr [j, .int 1])] c) :
    ∃ gk ck gl cl gi ci gy cy gz cz, c = ndC 6 0 0 false { data := #[] } (.slice (some ⟨gk, 0, none⟩) 4 ck) (.slice (some ⟨gl, 0, none⟩) 4 cl) ∧ Four w k n is t gk ck gl cl gi ci gy cy gz cz := by
  simp only [isC, isN, List.map_cons, List.map_nil, List.length_cons, List.length_nil] at h
  obtain ⟨kv, lv, cs, rfl, hk, hl4, hn⟩ := h
  obtain ⟨gk, ck, rfl, _, _⟩ := hk.1.form (by decide)
  obtain ⟨gl, cl, rfl, _, _⟩ := hl4.1.form (by decide)
  match cs, hn with
  | [c0, c1, c2, c3], hn =>
    simp only [isNs, isN, and_true] at hn
    obtain ⟨h0, h1, ⟨kv2, lv2, cs2, rfl, hk2, hl2, hn2⟩, lv3, cs3, rfl, hl3, hn3⟩ := hn
    obtain rfl := leaf_got hl h0
    obtain rfl := leaf_got hl h1
    simp only [List.length_cons, List.length_nil] at hk2 hl2 hl3
    obtain ⟨gy, cy, rfl, _, _⟩ := hk2.1.form (by decide)
    obtain ⟨gi, ci, rfl, _, _⟩ := hl2.1.form (by decide)
    obtain ⟨gz, cz, rfl, _, _⟩ := hl3.1.form (by decide)
    match cs2, hn2, cs3, hn3 with
    | [d0], hn2, [e0, e1], hn3 =>
      simp only [isNs, isN, and_true] at hn2 hn3
      obtain rfl := leaf_got hl hn2
      obtain ⟨hn3, rfl⟩ := hn3
      obtain rfl := leaf_got hl hn3
      refine ⟨gk, ck, gl, cl, gi, ci, gy, cy, gz, cz, rfl, ⟨fun i hi => ?_, fun i hi => ?_, fun i hi => ?_, fun i hi => ?_, fun i hi => ?_, fun i hi => ?_⟩⟩
      · rw [hl4.1.cellAt (i) (by omega)]
        match i, hi with
        | 0, _ | 1, _ | 2, _ | 3, _ | 4, _ | 5, _ | 6, _ => rfl
      · rw [hl4.1.cellAt (7 + i) (by omega)]
        match i, hi with
        | 0, _ | 1, _ | 2, _ | 3, _ | 4, _ | 5, _ | 6, _ => rfl
      · rw [hl4.1.cellAt (14 + i) (by omega)]
        match i, hi with
        | 0, _ | 1, _ | 2, _ | 3, _ | 4, _ | 5, _ | 6, _ => rfl
      · rw [hl4.1.cellAt (21 + i) (by omega)]
        match i, hi with
        | 0, _ | 1, _ | 2, _ | 3, _ | 4, _ | 5, _ | 6, _ => rfl
      · rw [hl2.1.cellAt i (by omega)]
        match i, hi with
        | 0, _ | 1, _ | 2, _ | 3, _ | 4, _ | 5, _ | 6, _ => rfl
      · rw [hl3.1.cellAt i (by omega)]
        match i, hi with
        | 0, _ | 1, _ | 2, _ | 3, _ | 4, _ | 5, _ | 6, _ => rfl
end
end Go.Cf

/-
  The specification's writer: the keys within a value without others in it.
-/
namespace Go.Cf
open Go.RowKit Go.Conc Go.Proofs
section
variable {k n : Int} {f : Nat} {is : Bool} {t : ByteArray} {a1 a2 : Option Addr} {c1 c2 : Nat}
/-- Nothing is appended to nothing. -/
theorem app_none (a : Option Addr) (c : Nat) (w : World) : (Builtin.append_ #[23, 23] 23 #[.slice none 0 0, .slice a 0 c]).run Tryz.prog w = .ok (.slice none 0 0) w := by
  cases a <;> simp [Builtin.append_, go_sem]
attribute [local go_sem ↓] appX_eq
set_option maxRecDepth 100000 in
set_option maxHeartbeats 2000000 in
theorem inner_leaf (w : World) : Calls Tryz.prog 26 #[leafV k n f is t a1 c1 a2 c2] w fun e w' => e = .returned (.slice none 0 0) ∧ Below w.heap.size w w' := by
  unfold leafV
  have hb : ∀ o, Below w.heap.size w (w.alloc o) := fun o => (Below.refl _ _).alloc (Nat.le_refl _) o
  have ha := fun w => app_none a1 c1 w
  simp only [appX_eq] at ha
  have HB := Lib.hid hb
  clear hb
  go_enter Tryz.func26, Tryz.ntmps26
  go_wp2
  go_loopw [3, 12] (fun s i wr => s = .slice none 0 0 ∧ i = .int .i64 0 ∧ Below w.heap.size w wr) (fun _ _ _ => 0)
  case atStart => exact ⟨rfl, rfl, HB.out _⟩
  case round =>
    obtain ⟨rfl, rfl, hwr⟩ := hrel
    have HW := Lib.hid hwr
    clear hwr
    go_wp2
    go_ret
    exact ⟨rfl, HW.out⟩
end
end Go.Cf

/-
  A region that draws its order, whose last operation stores.
-/
namespace Go.Cf
open Go.RowKit Go.Conc Go.Proofs
section
variable {P : Program} {Q : Exit → Act → World → Prop}
theorem getD_set2 (L : Array Bool) (i j : Nat) (hi : i < L.size) : (L.setIfInBounds i true).getD j false = if j = i then true else L.getD j false := by
  rw [Array.getD_eq_getD_getElem?, Array.getD_eq_getD_getElem?]
  by_cases h : j = i
  · subst h
    rw [if_pos rfl, Array.getElem?_setIfInBounds_self_of_lt hi]
    rfl
  · rw [if_neg h, Array.getElem?_setIfInBounds_ne (fun e => h e.symm)]
/-- The whole frame behind a region of assignments and one store at its end. -/
theorem wp_region_store {id : Nat} {l : List Oper} {a : Act} {w : World} (C : Nat → Value → Lab → World → Prop) (R : Lab → World → World → Prop) (lo m : Nat) (lab : Lab) (hm : P.follows .mixedOrders = true)
    (hdep : (List.range l.length).all (fun i => ((l[i]?).map fun o => o.after.all fun e => !Region.binds .any e || decide (e.on < i)).getD true) = true)
    (hlen : l.length = m + 1) (hlo : lo + m ≤ a.tmps.size)
    (hdst : (List.range m).all (fun i => ((l[i]?).map fun o => o.dst == some (lo + i) && o.guard.isNone).getD true) = true)
    (hlast : ((l[m]?).map fun o => o.dst.isNone && o.guard.isNone && (List.range m).all fun k => o.after.any fun e => Region.binds .any e && (e.on == k || ((l[e.on]?).map fun o2 => o2.after.any fun e2 => Region.binds .any e2 && e2.on == k).getD false)).getD false = true)
    (hd0 : a.defers = [])
    (hC : ∀ k v lab w lab' w', C k v lab w → Mv (fun _ => False) w lab w' lab' → C k v lab' w')
    (hstep : ∀ L a' lab' w' i o, i < m → l[i]? = some o → (∀ e ∈ o.after, Region.binds .any e = true → L.getD e.on false = true) → BlAt C (lo + ·) a w lab m L a' lab' w' → Does P o a' lab' w' (C i))
    (hst : ∀ (a' : Act) lab' w' o, l[m]? = some o → (∀ k, k < m → C k (a'.tmps.getD (lo + k) undef) lab' w') → (∀ j, ¬ (lo ≤ j ∧ j < lo + m) → a'.tmps.getD j undef = a.tmps.getD j undef) → Mv (fun _ => False) w lab w' lab' → ∃ w2, (execOp a'.eval o).run P w' = .ok .skip w2 ∧ R lab' w' w2)
    (hend : ∀ us lab' w' w2, us.length = m → Mv (fun _ => False) w lab w' lab' → R lab' w' w2 → Q .normal ⟨(a.tmps.toList.take lo ++ (us ++ a.tmps.toList.drop (lo + m))).toArray, []⟩ w2) :
    (Code.region id l.toArray true).wp P Q a w := by
  have hd : ∀ i o, i < m → l[i]? = some o → o.dst = some (lo + i) ∧ o.guard = none := by
    intro i o hi ho
    have h1 := List.all_eq_true.1 hdst i (List.mem_range.2 hi)
    rw [ho] at h1
    simpa using h1
  have hrep : ∀ i, (Array.replicate l.length false).getD i false = false := fun i => by
    rw [Array.getD_eq_getD_getElem?, Array.getElem?_replicate]
    split <;> rfl
  refine wp_region_inv (fun L a' w' => (L.getD m false = false ∧ (∀ i o, l[i]? = some o → L.getD i false = true → ∀ e ∈ o.after, Region.binds .any e = true → L.getD e.on false = true) ∧ ∃ lab', BlAt C (lo + ·) a w lab m L a' lab' w') ∨
    ((∀ k, k < m → L.getD k false = true) ∧ L.getD m false = true ∧ a'.defers = [] ∧ a'.tmps.size = a.tmps.size ∧ (∀ j, ¬ (lo ≤ j ∧ j < lo + m) → a'.tmps.getD j undef = a.tmps.getD j undef) ∧ ∃ lab1 w1, Mv (fun _ => False) w lab w1 lab1 ∧ R lab1 w1 w')) hm hdep ?_ ?_ ?_
  · exact .inl ⟨hrep m, fun i o _ h => (by rw [hrep] at h; cases h), lab, hd0, rfl, fun _ _ => rfl, ⟨rfl, rfl, rfl, Nat.le_refl _, fun _ _ _ => rfl, fun _ _ _ => rfl⟩, fun k hk h => by rw [hrep] at h; cases h⟩
  · rintro L a' w' i o hL ho hf hall hI
    have hi : i < m + 1 := by rw [← hlen]; exact (List.getElem?_eq_some_iff.1 ho).1
    have hsz : L.size = m + 1 := by rw [hL, hlen]
    have hf2 : L.getD i false = false := by
      rw [Array.getD_eq_getD_getElem?] at hf ⊢
      cases hc : L[i]? with
      | none => rfl
      | some x => rw [hc] at hf; exact hf
    have hg := fun j => getD_set2 L i j (by omega)
    have hmono : ∀ j, L.getD j false = true → (L.setIfInBounds i true).getD j false = true := fun j h => by
      rw [hg]
      split
      · rfl
      · exact h
    rcases hI with ⟨hm0, hcl, lab', hb⟩ | ⟨hk, hm1, _⟩
    · rcases Nat.lt_or_ge i m with him | him
      · obtain ⟨h1, h2⟩ := hd i o him ho
        have hs := hstep L a' lab' w' i o him ho hall hb
        have key : ∀ v lab2 w2, Mv (fun _ => False) w' lab' w2 lab2 → C i v lab2 w2 → (L.setIfInBounds i true).getD m false = false ∧ (∀ i' o, l[i']? = some o → (L.setIfInBounds i true).getD i' false = true → ∀ e ∈ o.after, Region.binds .any e = true → (L.setIfInBounds i true).getD e.on false = true) ∧ ∃ lab3, BlAt C (lo + ·) a w lab m (L.setIfInBounds i true) (a'.put o.dst v) lab3 w2 := by
          intro v lab2 w2 mv hc
          rw [h1]
          have hsz : lo + i < a'.tmps.size := by rw [hb.size]; omega
          have hcl2 : ∀ i' o, l[i']? = some o → (L.setIfInBounds i true).getD i' false = true → ∀ e ∈ o.after, Region.binds .any e = true → (L.setIfInBounds i true).getD e.on false = true := by
            intro i' o' ho' hi' e he hbe
            rw [hg] at hi'
            split at hi'
            · next h =>
              subst h
              rw [ho] at ho'
              cases ho'
              exact hmono _ (hall e he hbe)
            · exact hmono _ (hcl i' o' ho' hi' e he hbe)
          refine ⟨by rw [hg, if_neg (by omega)]; exact hm0, hcl2, lab2, hb.defers, by simpa [Act.put] using hb.size, fun j hj => ?_, hb.mv.trans mv (fun _ h => h), fun k hk hlk => ?_⟩
          · rw [put_getD hsz, if_neg (fun e => hj i him e.symm)]
            exact hb.keep j hj
          · show C k ((a'.put (some (lo + i)) v).tmps.getD (lo + k) undef) lab2 w2
            rw [put_getD hsz]
            by_cases hki : k = i
            · subst hki; rw [if_pos rfl]; exact hc
            · rw [if_neg (by omega)]
              rw [hg, if_neg hki] at hlk
              exact hC k _ _ _ _ _ (hb.got k hk hlk) mv
        have hw : Region.wanted o (yielded l.toArray a'.tmps) = true := by simp [Region.wanted, h2]
        unfold wpOp
        simp only [List.getElem?_toArray, ho, hw, if_true]
        left
        unfold Oper.wp
        rcases hs with ⟨v, w2, lab2, hrun, mv, hc⟩ | ⟨f, args, hrun, hcalls⟩
        · rw [hrun]
          exact .inl (key v lab2 w2 mv hc)
        · rw [hrun, Oper.upon_enter]
          refine hcalls.mono ?_
          rintro e w2 ⟨v, lab2, rfl, mv, hc⟩
          exact .inl (key v lab2 w2 mv hc)
      · have him' : i = m := by omega
        subst him'
        rw [ho] at hlast
        simp only [Option.map_some, Option.getD_some, Bool.and_eq_true, Option.isNone_iff_eq_none] at hlast
        obtain ⟨⟨h1, h2⟩, h3⟩ := hlast
        have hal : ∀ k, k < i → L.getD k false = true := by
          intro k hk
          have h4 := List.all_eq_true.1 h3 k (List.mem_range.2 hk)
          rw [Array.any_eq_true] at h4
          obtain ⟨ei, hei, h5⟩ := h4
          have he := Array.getElem_mem hei
          revert h5 he
          generalize o.after[ei] = e
          intro h5 he
          rw [Bool.and_eq_true, Bool.or_eq_true, beq_iff_eq] at h5
          obtain ⟨h6, h7 | h7⟩ := h5
          · rw [← h7]
            exact hall e he h6
          · cases hx : l[e.on]? with
            | none => rw [hx] at h7; cases h7
            | some o2 =>
              rw [hx] at h7
              simp only [Option.map_some, Option.getD_some] at h7
              rw [Array.any_eq_true] at h7
              obtain ⟨e2i, he2i, h8⟩ := h7
              have he2 := Array.getElem_mem he2i
              rw [Bool.and_eq_true, beq_iff_eq] at h8
              rw [← h8.2]
              exact hcl e.on o2 hx (hall e he h6) _ he2 h8.1
        have hkeep : ∀ j, ¬ (lo ≤ j ∧ j < lo + i) → a'.tmps.getD j undef = a.tmps.getD j undef := fun j hj => hb.keep j (fun k hk e => hj (by have e' : lo + k = j := e; omega))
        obtain ⟨w2, hrun, hR⟩ := hst a' lab' w' o ho (fun k hk => hb.got k hk (hal k hk)) hkeep hb.mv
        have hw : Region.wanted o (yielded l.toArray a'.tmps) = true := by simp [Region.wanted, h2]
        unfold wpOp
        simp only [List.getElem?_toArray, ho, hw, if_true]
        left
        unfold Oper.wp
        rw [hrun, Oper.upon_skip, h1]
        refine .inr ⟨fun k hk => by rw [hg, if_neg (by omega)]; exact hal k hk, by rw [hg, if_pos rfl], hb.defers, hb.size, hkeep, lab', w', hb.mv, hR⟩
    · rcases Nat.lt_or_ge i m with him | him
      · rw [hk i him] at hf2; cases hf2
      · have : i = m := by omega
        subst this
        rw [hm1] at hf2; cases hf2
  · rintro L a' w' hL hall hI
    rcases hI with ⟨hm0, _, _⟩ | ⟨_, _, hdf, hsz, hkeep, lab1, w1, mv, hR⟩
    · rw [hall m (by omega)] at hm0; cases hm0
    · obtain ⟨us, hu, ht⟩ := frame_range a'.tmps a.tmps lo m hsz hlo hkeep
      have := hend us lab1 w1 w' hu mv hR
      obtain ⟨t, d⟩ := a'
      simp only at hdf ht this
      subst hdf
      rw [ht]
      exact this
end
end Go.Cf

/-
  The specification's writer: a configuration of one key.
-/
namespace Go.Cf
open Go.RowKit Go.Conc Go.Proofs
attribute [local go_sem ↓] appX_eq
attribute [local go_sem] run_store_flt
section
variable {lab lab1 : Lab} {w w1 : World} {b : Nat} {W W1 W2 : CW} {T T2 : ByteArray} {k n : Int} {f : Nat} {is : Bool} {t : ByteArray} {a1 a2 : Option Addr} {c1 c2 : Nat} {j : JV} {gk gl : Nat}
/-- The place of the one key can be read. -/
theorem PlAt.open {pc : Nat} (h : PlAt lab w pc) : ∃ g c x0 x1 x2 x3, w.cell? ⟨pc, 0, none⟩ = some (.slice (some ⟨g, 0, none⟩) 1 c) ∧ w.frozen? ⟨pc, 0, none⟩ = false ∧ w.cell? ⟨g, 0, none⟩ = some (.string x0) ∧ w.cell? ⟨g, 1, none⟩ = some (.int .i64 x1) ∧ w.cell? ⟨g, 2, none⟩ = some (.int .i64 x2) ∧ w.cell? ⟨g, 3, none⟩ = some (.bool x3) ∧ lab pc = 47 := by
  obtain ⟨pv, x0, x1, x2, x3, h1, ⟨hx, ⟨_, h0⟩ | ⟨g, cap, cur, rfl, _, hblk, h2, h3, h4, h5⟩⟩, _⟩ := h.ex
  · omega
  · have key : ∀ i u, [Value.string x0, .int .i64 x1, .int .i64 x2, .bool x3][i]? = some u → w.cell? ⟨g, i, none⟩ = some u := by
      intro i u hi
      rw [blk_cell hblk, ← Array.getElem?_toList]
      rw [← h5, List.getElem?_take] at hi
      split at hi
      · exact hi
      · cases hi
    exact ⟨g, cap, x0, x1, x2, x3, h1.cell 0, h1.free 0, key 0 _ rfl, key 1 _ rfl, key 2 _ rfl, key 3 _ rfl, h1.2⟩
def wr0 (sv : Value) : Array Value := #[.string ⟨#[]⟩, .int .i64 1, sv, .bool false, .slice none 0 0, .slice none 0 0, .slice none 0 0, .slice none 0 0]
def W0 (style : List UInt8) : CW := { text := ⟨#[]⟩, line := 1, style := style, bad := false, known := [], nv := 0, vals := [], used := [], inner := [] }
theorem results_tct {P : Program} {fn : Func} {t p u : Tmp} {ty : TypeId} {tmps : Array Value} {W : World} {a : Addr} {v : Value} (h : fn.results = #[.tmp t, .cell p ty, .tmp u]) (hp : tmps.getD p undef = .pointer (some a)) (hl : (loadVar ty a).run P W = .ok v W) : (results fn tmps).run P W = .ok (.tuple #[tmps.getD t undef, v, tmps.getD u undef]) W := by
  rw [Array.getD_eq_getD_getElem?] at hp
  simp only [results, h]
  simp [asAddr, Result.andThen, hp, hl]
theorem Mv.cellF {a : Addr} {v : Value} (m : Mv (fun _ => False) w lab w1 lab1) (h : w.cell? a = some v) : w1.cell? a = some v := by
  have hb := m.block a.block (World.block_lt_of_cell? w _ h) (fun h => h)
  unfold World.cell? at h ⊢
  rw [hb]
  exact h
theorem pick_bad (W : CW) (n : Nat) : (W.pick n).2.bad = W.bad := by
  unfold CW.pick
  split <;> rfl
def labW (s : Nat) : Lab := Lab.ext (Lab.ext (Lab.ext (fun _ => 0) s 45) (s + 1) 47) (s + 2) 40
/-- The three blocks that the writer begins with. -/
structure Beg (lab : Lab) (w : World) (s gk gl : Nat) (style : List UInt8) (W : CW) (k n : Int) (f : Nat) (is : Bool) (t : ByteArray) (a1 : Option Addr) (c1 : Nat) (a2 : Option Addr) (c2 : Nat) : Prop where
  box : Cl 45 lab w s #[Value.int IntKind.i64 6, .int .i64 0, .float .f64 0, .bool false, .string { data := #[] }, .slice (some ⟨gk, 0, none⟩) 1 1, .slice (some ⟨gl, 0, none⟩) 1 1] 26
  one : OneAt lab w gk gl (s + 1) k n f is t a1 c1 a2 c2
  wrx : ∃ sv kn va us, WAtX lab w (s + 2) W sv kn va us (.slice none 0 0)
theorem Beg.mv {M : Nat → Prop} {s : Nat} {style : List UInt8} (h : Beg lab w s gk gl style W k n f is t a1 c1 a2 c2) (m : Mv M w lab w1 lab1) (hM : ∀ x, x = 0 ∨ (40 ≤ x ∧ x ≤ 47) → ¬ M x) : Beg lab1 w1 s gk gl style W k n f is t a1 c1 a2 c2 :=
  by
  obtain ⟨sv, kn, va, us, hx⟩ := h.wrx
  exact ⟨h.box.mv m (hM _ (by omega)), h.one.mv m (hM _ (by omega)) (hM _ (by omega)), sv, kn, va, us, hx.mv m (fun x hx => hM x (by omega))⟩
theorem Beg.wr {s : Nat} {style : List UInt8} (h : Beg lab w s gk gl style W k n f is t a1 c1 a2 c2) : WAt lab w (s + 2) W := by
  obtain ⟨sv, kn, va, us, hx⟩ := h.wrx
  exact ⟨_, _, _, _, _, hx⟩
theorem Beg.c7 {s : Nat} {style : List UInt8} (h : Beg lab w s gk gl style W k n f is t a1 c1 a2 c2) : w.cell? ⟨s + 2, 7, none⟩ = some (.slice none 0 0) := by
  obtain ⟨sv, kn, va, us, hx⟩ := h.wrx
  exact hx.cl.cell 7
theorem Beg.f7 {s : Nat} {style : List UInt8} (h : Beg lab w s gk gl style W k n f is t a1 c1 a2 c2) : w.frozen? ⟨s + 2, 7, none⟩ = false := by
  obtain ⟨sv, kn, va, us, hx⟩ := h.wrx
  exact hx.cl.free 7
theorem Beg.set7 {s : Nat} {style : List UInt8} (h : Beg lab w s gk gl style W k n f is t a1 c1 a2 c2) : Beg lab (w.setCell ⟨s + 2, 7, none⟩ (.slice none 0 0)) s gk gl style W k n f is t a1 c1 a2 c2 ∧ Mv (· = 40) w lab (w.setCell ⟨s + 2, 7, none⟩ (.slice none 0 0)) lab := by
  obtain ⟨sv, kn, va, us, hx⟩ := h.wrx
  have m : Mv (· = 40) w lab (w.setCell ⟨s + 2, 7, none⟩ (.slice none 0 0)) lab := Mv.setCell _ _ _ _ hx.cl.2
  exact ⟨⟨h.box.mv m (by decide), h.one.mv m (by decide) (by decide), sv, kn, va, us, hx.set (W' := W) 7 _ rfl hx.sty rfl rfl rfl rfl rfl⟩, m⟩
/-- What the slots of the region hold that collects the keys within a value. -/
def CIn (b : Nat) (lf : Value) : Nat → Value
  | 3 => .pointer (some ⟨b, 7, none⟩)
  | 9 => .pointer (some ⟨b, 7, none⟩)
  | 4 => .slice none 0 0
  | 6 => .slice none 0 0
  | 7 => .slice none 0 0
  | 5 => lf
  | _ => .pointer (some ⟨b, 0, none⟩)
theorem Rw.none (lab : Lab) (w : World) (ℓ e size : Nat) : Rw 0 ℓ lab w e size (.slice none 0 0) 0 [] := ⟨⟨by simp, .inl ⟨rfl, rfl⟩⟩, fun k hk => by cases hk⟩
theorem beg0 {sv : Value} {style : List UInt8} (hk : Cl 0 (fun _ => 0) w gk #[.string bV] 9) (hl : Cl 0 (fun _ => 0) w gl #[Value.int IntKind.i64 k, .int .i64 n, .float .f64 f, .bool is, .string t, .slice a1 0 c1, .slice a2 0 c2] 26) (hs : Sty (fun _ => 0) w sv style) :
    Beg (labW w.heap.size) (((w.alloc (.cells #[Value.int IntKind.i64 6, .int .i64 0, .float .f64 0, .bool false, .string { data := #[] }, .slice (some ⟨gk, 0, none⟩) 1 1, .slice (some ⟨gl, 0, none⟩) 1 1] 26)).alloc (.cells #[.slice none 0 0] 31)).alloc (.cells (wr0 sv) 53)) w.heap.size gk gl style (W0 style) k n f is t a1 c1 a2 c2 ∧
    Mv (fun _ => False) w (fun _ => 0) (((w.alloc (.cells #[Value.int IntKind.i64 6, .int .i64 0, .float .f64 0, .bool false, .string { data := #[] }, .slice (some ⟨gk, 0, none⟩) 1 1, .slice (some ⟨gl, 0, none⟩) 1 1] 26)).alloc (.cells #[.slice none 0 0] 31)).alloc (.cells (wr0 sv) 53)) (labW w.heap.size) := by
  have m1 : Mv (fun _ => False) w (fun _ => 0) (w.alloc (.cells #[Value.int IntKind.i64 6, .int .i64 0, .float .f64 0, .bool false, .string { data := #[] }, .slice (some ⟨gk, 0, none⟩) 1 1, .slice (some ⟨gl, 0, none⟩) 1 1] 26)) (Lab.ext (fun _ => 0) w.heap.size 45) := Mv.alloc _ _ _ _
  have b1 := Cl.alloc w (fun _ => 0) #[Value.int IntKind.i64 6, .int .i64 0, .float .f64 0, .bool false, .string { data := #[] }, .slice (some ⟨gk, 0, none⟩) 1 1, .slice (some ⟨gl, 0, none⟩) 1 1] 26 45
  obtain ⟨wa, hwa⟩ : ∃ x, x = w.alloc (.cells #[Value.int IntKind.i64 6, .int .i64 0, .float .f64 0, .bool false, .string { data := #[] }, .slice (some ⟨gk, 0, none⟩) 1 1, .slice (some ⟨gl, 0, none⟩) 1 1] 26) := ⟨_, rfl⟩
  have sa : wa.heap.size = w.heap.size + 1 := by rw [hwa, World.size_alloc]
  rw [← hwa] at m1 b1 ⊢
  have m2 : Mv (fun _ => False) wa (Lab.ext (fun _ => 0) w.heap.size 45) (wa.alloc (.cells #[.slice none 0 0] 31)) (Lab.ext (Lab.ext (fun _ => 0) w.heap.size 45) wa.heap.size 47) := Mv.alloc _ _ _ _
  have b2 := Cl.alloc wa (Lab.ext (fun _ => 0) w.heap.size 45) #[.slice none 0 0] 31 47
  rw [sa] at m2 b2
  obtain ⟨wb, hwb⟩ : ∃ x, x = wa.alloc (.cells #[.slice none 0 0] 31) := ⟨_, rfl⟩
  have sb : wb.heap.size = w.heap.size + 2 := by rw [hwb, World.size_alloc, sa]
  rw [← hwb] at m2 b2 ⊢
  have m3 : Mv (fun _ => False) wb (Lab.ext (Lab.ext (fun _ => 0) w.heap.size 45) (w.heap.size + 1) 47) (wb.alloc (.cells (wr0 sv) 53)) (Lab.ext (Lab.ext (Lab.ext (fun _ => 0) w.heap.size 45) (w.heap.size + 1) 47) wb.heap.size 40) := Mv.alloc _ _ _ _
  have b3 := Cl.alloc wb (Lab.ext (Lab.ext (fun _ => 0) w.heap.size 45) (w.heap.size + 1) 47) (wr0 sv) 53 40
  rw [sb] at m3 b3
  have m13 := (m1.trans m2 (fun _ h => h)).trans m3 (fun _ h => h)
  refine ⟨⟨(b1.mv m2 (fun h => h)).mv m3 (fun h => h), ⟨hk.mv m13 (fun h => h), hl.mv m13 (fun h => h), b2.mv m3 (fun h => h)⟩, ?_⟩, m13⟩
  exact ⟨sv, _, _, _, b3, hs.mv m13 (fun h => h), Rw.none _ _ _ _ _, Rw.none _ _ _ _ _, Rw.none _ _ _ _ _, Rw.none _ _ _ _ _⟩
set_option maxRecDepth 100000 in
set_option maxHeartbeats 4000000 in
theorem written_one {sv : Value} {style : List UInt8} (hk : Cl 0 (fun _ => 0) w gk #[.string bV] 9) (hl : Cl 0 (fun _ => 0) w gl #[Value.int IntKind.i64 k, .int .i64 n, .float .f64 f, .bool is, .string t, .slice a1 0 c1, .slice a2 0 c2] 26)
    (hf : LeafOk f k n is t j) (hs : Sty (fun _ => 0) w sv style) :
    Calls Tryz.prog 14 #[oneV gk gl, sv] w fun e w' => ∃ T pv ok, e = .returned (.tuple #[.string T, pv, .bool ok]) ∧ T.size ≤ 310 ∧ (ok = true → byteAt T 0 = 123 ∨ EntSp j T) ∧ Below w.heap.size w w' := by
  have hbg := beg0 hk hl hs
  obtain ⟨ss, sl, sc, rfl⟩ : ∃ ss sl sc, sv = .slice ss sl sc := by
    obtain ⟨a, c, h, _⟩ := hs
    exact ⟨_, _, _, h⟩
  have hcl := fun w => clean_one (gk := gk) (gl := gl) w
  have HIN := Lib.hid (fun w => inner_leaf (k := k) (n := n) (f := f) (is := is) (t := t) (a1 := a1) (c1 := c1) (a2 := a2) (c2 := c2) w)
  have HBG := Lib.hid hbg
  have HF := Lib.hid hf
  clear hk hl hf hs hbg
  unfold oneV at *
  go_enter Tryz.func14, Tryz.ntmps14
  go_wp2_with fail
  refine (hcl _).mono ?_
  rintro e w1 ⟨rfl, hb1⟩
  obtain ⟨lab1, hlab1⟩ : ∃ l, l = (labW w.heap.size).ext (w.heap.size + 3) 45 := ⟨_, rfl⟩
  have m01 := Mv.below (M := fun _ => False) hb1 (labW w.heap.size) 45
  have hsz : (((w.alloc (.cells #[Value.int IntKind.i64 6, .int .i64 0, .float .f64 0, .bool false, .string { data := #[] }, .slice (some ⟨gk, 0, none⟩) 1 1, .slice (some ⟨gl, 0, none⟩) 1 1] 26)).alloc (.cells #[.slice none 0 0] 31)).alloc (.cells (wr0 (.slice ss sl sc)) 53)).heap.size = w.heap.size + 3 := by simp only [World.size_alloc]
  unfold wr0 at *
  rw [hsz, ← hlab1] at m01
  have B1 := HBG.out.1.mv m01 (fun _ _ h => h)
  have M1 := HBG.out.2.trans m01 (fun _ h => h)
  have q6 : w1.cell? ⟨w.heap.size, 6, none⟩ = some (.slice (some ⟨gl, 0, none⟩) 1 1) := B1.box.cell 6
  have HB1 := Lib.hid B1
  have HM1 := Lib.hid M1
  clear B1 M1 m01 hsz hb1 HBG hcl
  go_wp2_with fail
  go_loopw [29] (fun i wr => (i = .int .i64 0 ∧ wr = w1) ∨ (i = .int .i64 1 ∧ ∃ lab2, Beg lab2 wr w.heap.size gk gl style (W0 style) k n f is t a1 c1 a2 c2 ∧ Mv EM w (fun _ => 0) wr lab2)) (fun i _ => 1 - (RowKit.intOf i).toNat)
  case atStart => exact .inl ⟨rfl, rfl⟩
  case round =>
    rcases hrel with ⟨rfl, hwr⟩ | ⟨rfl, lab2, B2, M2⟩
    · have hwr' := hwr.symm
      clear hwr
      subst hwr'
      have l0 : w1.cell? ⟨gl, 0, none⟩ = some (.int .i64 k) := HB1.out.one.list.cell 0
      have l1 : w1.cell? ⟨gl, 1, none⟩ = some (.int .i64 n) := HB1.out.one.list.cell 1
      have l2 : w1.cell? ⟨gl, 2, none⟩ = some (.float .f64 f) := HB1.out.one.list.cell 2
      have l3 : w1.cell? ⟨gl, 3, none⟩ = some (.bool is) := HB1.out.one.list.cell 3
      have l4 : w1.cell? ⟨gl, 4, none⟩ = some (.string t) := HB1.out.one.list.cell 4
      have l5 : w1.cell? ⟨gl, 5, none⟩ = some (.slice a1 0 c1) := HB1.out.one.list.cell 5
      have l6 : w1.cell? ⟨gl, 6, none⟩ = some (.slice a2 0 c2) := HB1.out.one.list.cell 6
      go_wp2_with fail
      have mL : Mv (fun _ => False) w1 lab1 (w1.alloc (.cells #[Value.int IntKind.i64 k, .int .i64 n, .float .f64 f, .bool is, .string t, .slice a1 0 c1, .slice a2 0 c2] 26)) (lab1.ext w1.heap.size 45) := Mv.alloc _ _ _ _
      have HL := Lib.hid (HB1.out.mv mL (fun _ _ h => h))
      have HLF := Lib.hid (Cl.alloc w1 lab1 #[Value.int IntKind.i64 k, .int .i64 n, .float .f64 f, .bool is, .string t, .slice a1 0 c1, .slice a2 0 c2] 26 45)
      have HM2 := Lib.hid (HM1.out.trans mL (fun _ h => h))
      clear l0 l1 l2 l3 l4 l5 l6 mL q6
      refine wp_region_store (fun k' v _ _ => v = CIn (w.heap.size + 2) (leafV k n f is t a1 c1 a2 c2) k') (fun lab' w' w2 => w2 = w'.setCell ⟨w.heap.size + 2, 7, none⟩ (.slice none 0 0)) 33 10 (lab1.ext w1.heap.size 45) mixed (by kernel_rfl) rfl (show 33 + 10 ≤ 106 by omega) (by kernel_rfl) (by kernel_rfl) rfl (fun _ _ _ _ _ _ h _ => h) ?_ ?_ ?_
      · intro L a' lab' w' i o hi ho hall hb
        have k7 : a'.tmps.getD 7 undef = Value.pointer (some ⟨w.heap.size + 2, 0, none⟩) := hb.keep 7 (fun k hk e => by have e' : 33 + k = 7 := e; omega)
        have k9 : a'.tmps.getD 9 undef = Value.pointer (some ⟨w1.heap.size, 0, none⟩) := hb.keep 9 (fun k hk e => by have e' : 33 + k = 9 := e; omega)
        match i, ho with
        | 0, rfl => exact .inl ⟨_, _, lab', rfl, Mv.refl _ _ _, k7⟩
        | 1, rfl => exact .inl ⟨_, _, lab', rfl, Mv.refl _ _ _, k7⟩
        | 2, rfl =>
          have e0 : a'.tmps.getD 34 undef = Value.pointer (some ⟨w.heap.size + 2, 0, none⟩) := hb.got 1 (by decide) (hall ⟨1, .data⟩ (by simp) rfl)
          rw [Array.getD_eq_getD_getElem?] at e0
          exact .inl ⟨Value.pointer (some ⟨w.heap.size + 2, 0, none⟩), w', lab', by simp [execOp, Act.eval, go_sem, e0], Mv.refl _ _ _, rfl⟩
        | 3, rfl =>
          have e0 : a'.tmps.getD 35 undef = Value.pointer (some ⟨w.heap.size + 2, 0, none⟩) := hb.got 2 (by decide) (hall ⟨2, .data⟩ (by simp) rfl)
          rw [Array.getD_eq_getD_getElem?] at e0
          exact .inl ⟨Value.pointer (some ⟨w.heap.size + 2, 7, none⟩), w', lab', by simp [execOp, Act.eval, go_sem, e0], Mv.refl _ _ _, rfl⟩
        | 4, rfl =>
          have e0 : a'.tmps.getD 36 undef = Value.pointer (some ⟨w.heap.size + 2, 7, none⟩) := hb.got 3 (by decide) (hall ⟨3, .data⟩ (by simp) rfl)
          rw [Array.getD_eq_getD_getElem?] at e0
          have q := (HL.out.mv hb.mv (fun _ _ h => h)).c7
          exact .inl ⟨Value.slice none 0 0, w', lab', by simp [execOp, Act.eval, go_sem, e0, q], Mv.refl _ _ _, rfl⟩
        | 5, rfl =>
          have e0 : a'.tmps.getD 9 undef = Value.pointer (some ⟨w1.heap.size, 0, none⟩) := k9
          rw [Array.getD_eq_getD_getElem?] at e0
          have hlf := HLF.out.mv hb.mv (fun h => h)
          have q0 : w'.cell? ⟨w1.heap.size, 0, none⟩ = some (.int .i64 k) := hlf.cell 0
          have q1 : w'.cell? ⟨w1.heap.size, 1, none⟩ = some (.int .i64 n) := hlf.cell 1
          have q2 : w'.cell? ⟨w1.heap.size, 2, none⟩ = some (.float .f64 f) := hlf.cell 2
          have q3 : w'.cell? ⟨w1.heap.size, 3, none⟩ = some (.bool is) := hlf.cell 3
          have q4 : w'.cell? ⟨w1.heap.size, 4, none⟩ = some (.string t) := hlf.cell 4
          have q5 : w'.cell? ⟨w1.heap.size, 5, none⟩ = some (.slice a1 0 c1) := hlf.cell 5
          have q6 : w'.cell? ⟨w1.heap.size, 6, none⟩ = some (.slice a2 0 c2) := hlf.cell 6
          exact .inl ⟨leafV k n f is t a1 c1 a2 c2, w', lab', by unfold leafV; simp [execOp, Act.eval, go_sem, e0, q0, q1, q2, q3, q4, q5, q6], Mv.refl _ _ _, rfl⟩
        | 6, rfl =>
          have e0 : a'.tmps.getD 38 undef = leafV k n f is t a1 c1 a2 c2 := hb.got 5 (by decide) (hall ⟨5, .data⟩ (by simp) rfl)
          refine .inr ⟨26, #[a'.tmps.getD 38 undef], by kernel_rfl, ?_⟩
          rw [e0]
          refine (HIN.out w').mono ?_
          rintro e w2 ⟨rfl, hb2⟩
          exact ⟨_, _, rfl, Mv.below hb2 lab' 45, rfl⟩
        | 7, rfl =>
          have e0 : a'.tmps.getD 37 undef = Value.slice none 0 0 := hb.got 4 (by decide) (hall ⟨4, .data⟩ (by simp) rfl)
          rw [Array.getD_eq_getD_getElem?] at e0
          have e1 : a'.tmps.getD 39 undef = Value.slice none 0 0 := hb.got 6 (by decide) (hall ⟨6, .data⟩ (by simp) rfl)
          rw [Array.getD_eq_getD_getElem?] at e1
          have hrun := app_none none 0 w'
          rw [appX_eq] at hrun
          exact .inl ⟨Value.slice none 0 0, w', lab', by simp [Act.eval, go_sem, e0, e1, hrun], Mv.refl _ _ _, rfl⟩
        | 8, rfl =>
          have e0 : a'.tmps.getD 33 undef = Value.pointer (some ⟨w.heap.size + 2, 0, none⟩) := hb.got 0 (by decide) (hall ⟨0, .data⟩ (by simp) rfl)
          rw [Array.getD_eq_getD_getElem?] at e0
          exact .inl ⟨Value.pointer (some ⟨w.heap.size + 2, 0, none⟩), w', lab', by simp [execOp, Act.eval, go_sem, e0], Mv.refl _ _ _, rfl⟩
        | 9, rfl =>
          have e0 : a'.tmps.getD 41 undef = Value.pointer (some ⟨w.heap.size + 2, 0, none⟩) := hb.got 8 (by decide) (hall ⟨8, .data⟩ (by simp) rfl)
          rw [Array.getD_eq_getD_getElem?] at e0
          exact .inl ⟨Value.pointer (some ⟨w.heap.size + 2, 7, none⟩), w', lab', by simp [execOp, Act.eval, go_sem, e0], Mv.refl _ _ _, rfl⟩
      · intro a' lab' w' o ho hC hk m
        cases ho
        have e0 : a'.tmps.getD 42 undef = Value.pointer (some ⟨w.heap.size + 2, 7, none⟩) := hC 9 (by decide)
        have e1 : a'.tmps.getD 40 undef = Value.slice none 0 0 := hC 7 (by decide)
        rw [Array.getD_eq_getD_getElem?] at e0 e1
        have q := (HL.out.mv m (fun _ _ h => h)).c7
        have fz := (HL.out.mv m (fun _ _ h => h)).f7
        exact ⟨_, by simp [execOp, Act.eval, go_sem, e0, e1, q, fz], rfl⟩
      · rintro us lab' w' w2 hu m rfl
        match us, hu with
        | [y33, y34, y35, y36, y37, y38, y39, y40, y41, y42], _ =>
          have hS := (HL.out.mv m (fun _ _ h => h)).set7
          have HN := Lib.hid (And.intro hS.1 (((HM2.out.trans m (fun _ h => h)).mono (M' := EM) (fun _ h => h.elim)).trans hS.2 (fun _ h => .inl h)))
          clear hS
          simp only [List.take_succ_cons, List.take_zero, List.drop_succ_cons, List.drop_zero, List.cons_append, List.nil_append]
          go_wp2
          go_roundw
          case rel => exact .inr ⟨rfl, _, HN.out⟩
          case measure => simp [RowKit.intOf]
    · have b0 : wr.cell? ⟨w.heap.size, 0, none⟩ = some (.int .i64 6) := B2.box.cell 0
      have b1 : wr.cell? ⟨w.heap.size, 1, none⟩ = some (.int .i64 0) := B2.box.cell 1
      have b2 : wr.cell? ⟨w.heap.size, 2, none⟩ = some (.float .f64 0) := B2.box.cell 2
      have b3 : wr.cell? ⟨w.heap.size, 3, none⟩ = some (.bool false) := B2.box.cell 3
      have b4 : wr.cell? ⟨w.heap.size, 4, none⟩ = some (.string { data := #[] }) := B2.box.cell 4
      have b5 : wr.cell? ⟨w.heap.size, 5, none⟩ = some (.slice (some ⟨gk, 0, none⟩) 1 1) := B2.box.cell 5
      have b6 : wr.cell? ⟨w.heap.size, 6, none⟩ = some (.slice (some ⟨gl, 0, none⟩) 1 1) := B2.box.cell 6
      have HM2 := Lib.hid M2
      have HO2 := Lib.hid B2.one
      have HX2 := Lib.hid B2.box
      have HW2 := Lib.hid B2.wr
      have hpk := Wrote.pick (W0 style) 8
      have hplt := pick_lt (W0 style) 8 (by decide)
      have hpb := pick_bad (W0 style) 8
      clear B2 M2 HB1 HM1 q6
      go_wp2_with fail
      refine (pick_c HW2.out 8 (by decide) (by decide)).mono ?_
      rintro e w3 ⟨rfl, h3, m3⟩
      obtain ⟨u, W1, hj⟩ : ∃ u W1, (W0 style).pick 8 = (u, W1) := ⟨_, _, rfl⟩
      rw [hj] at h3 hpk hplt hpb ⊢
      simp only at h3 hpk hplt hpb ⊢
      have ht1 : W1.text = ⟨#[]⟩ := by rw [hpk.text]; rfl
      have hl1 : W1.line ≤ 1 := hpk.line_le
      have hn1 : W1.nv = 0 := hpk.nv
      have hu1 : W1.used = [] := hpk.used
      have hk1 : W1.known = [] := hpk.known
      have hb1 : W1.bad = false := hpb
      have hB3 := HX2.out.mv m3 (by decide)
      have HO3 := Lib.hid (HO2.out.mv m3 (by decide) (by decide))
      have HM3 := Lib.hid (HM2.out.trans m3 (fun _ h => .inl h))
      have d0 : w3.cell? ⟨w.heap.size, 0, none⟩ = some (.int .i64 6) := hB3.cell 0
      have d1 : w3.cell? ⟨w.heap.size, 1, none⟩ = some (.int .i64 0) := hB3.cell 1
      have d2 : w3.cell? ⟨w.heap.size, 2, none⟩ = some (.float .f64 0) := hB3.cell 2
      have d3 : w3.cell? ⟨w.heap.size, 3, none⟩ = some (.bool false) := hB3.cell 3
      have d4 : w3.cell? ⟨w.heap.size, 4, none⟩ = some (.string { data := #[] }) := hB3.cell 4
      have d5 : w3.cell? ⟨w.heap.size, 5, none⟩ = some (.slice (some ⟨gk, 0, none⟩) 1 1) := hB3.cell 5
      have d6 : w3.cell? ⟨w.heap.size, 6, none⟩ = some (.slice (some ⟨gl, 0, none⟩) 1 1) := hB3.cell 6
      have HB3 := Lib.hid hB3
      clear hB3 m3 HX2 HO2 HW2 HM2 hpk hpb hj hplt b0 b1 b2 b3 b4 b5 b6
      by_cases hu : u = 1
      · have e1 : ((u : Int) == 1) = true := beq_iff_eq.2 (by omega)
        have e2 : ((u : Int) != 1) = false := by rw [bne, e1]; rfl
        clear hu
        go_wp2_with fail
        refine (put_c h3 ⟨#[123]⟩ (by decide) (by rw [ht1]; decide) (by omega)).mono ?_
        rintro e w4 ⟨rfl, h4, m4⟩
        have hB4 := HB3.out.mv m4 (by decide)
        have f0 : w4.cell? ⟨w.heap.size, 0, none⟩ = some (.int .i64 6) := hB4.cell 0
        have f1 : w4.cell? ⟨w.heap.size, 1, none⟩ = some (.int .i64 0) := hB4.cell 1
        have f2 : w4.cell? ⟨w.heap.size, 2, none⟩ = some (.float .f64 0) := hB4.cell 2
        have f3 : w4.cell? ⟨w.heap.size, 3, none⟩ = some (.bool false) := hB4.cell 3
        have f4 : w4.cell? ⟨w.heap.size, 4, none⟩ = some (.string { data := #[] }) := hB4.cell 4
        have f5 : w4.cell? ⟨w.heap.size, 5, none⟩ = some (.slice (some ⟨gk, 0, none⟩) 1 1) := hB4.cell 5
        have f6 : w4.cell? ⟨w.heap.size, 6, none⟩ = some (.slice (some ⟨gl, 0, none⟩) 1 1) := hB4.cell 6
        have HO4 := Lib.hid (HO3.out.mv m4 (by decide) (by decide))
        have HM4 := Lib.hid (HM3.out.trans m4 (fun _ h => .inl h))
        have hb4 : (W1.put ⟨#[123]⟩).bad = false := by show (W1.bad || _) = false; rw [hb1, ht1]; rfl
        have hs4 : (W1.put ⟨#[123]⟩).text = ⟨#[123]⟩ := by show W1.text ++ _ = _; rw [ht1]; rfl
        have hl4 : (W1.put ⟨#[123]⟩).line ≤ 2 := by have h1 := (Wrote.put W1 ⟨#[123]⟩).line_le; have h2 : (⟨#[123]⟩ : ByteArray).size = 1 := rfl; omega
        have HE := Lib.hid (entries1 (k := k) (n := n) (f := f) (is := is) (t := t) (a1 := a1) (c1 := c1) (a2 := a2) (c2 := c2) (j := j) h4 hn1 hb4 HO4.out HF.out (by rw [hs4]; decide) (by omega) (by show W1.known.length ≤ _; rw [hk1]; decide))
        clear h4 m4 hB4 HB3 HO3 HM3 h3 d0 d1 d2 d3 d4 d5 d6
        unfold oneV at HE
        go_wp2_with fail
        refine HE.out.mono ?_
        rintro e w5 ⟨rfl, W5, T, lab5, h5, htx, hsz, hlin, hok, hus, hpl, m5⟩
        have ht5 : W5.text = ⟨#[123]⟩ ++ T := by rw [htx, hs4]
        have HL5 : Hid (W5.line ≤ 1000000000) := Lib.hid (by omega)
        go_wp2_with fail
        refine (put_c h5 ⟨#[125]⟩ (by decide) (by rw [ht5, ByteArray.size_append]; have h2 : (⟨#[123]⟩ : ByteArray).size = 1 := rfl; omega) HL5.out).mono ?_
        rintro e wx ⟨rfl, h6, m6⟩
        obtain ⟨WX, hWX⟩ : ∃ WX, WX = W5.put ⟨#[125]⟩ := ⟨_, rfl⟩
        obtain ⟨labX, hlabX⟩ : ∃ l, l = lab5 := ⟨_, rfl⟩
        rw [← hWX, ← hlabX] at h6
        rw [← hlabX] at m6 hpl m5
        have HX := Lib.hid (And.intro h6 (And.intro (hpl.mv m6 (by decide) (by decide)) ((HM4.out.trans m5 (fun _ h => h)).trans m6 (fun _ h => .inl h))))
        have HU : Hid (WX.used = []) := Lib.hid (by rw [hWX]; show W5.used = []; rw [hus]; exact hu1)
        have HR : Hid (WX.text.size ≤ 310 ∧ (WX.bad = false → byteAt WX.text 0 = 123 ∨ EntSp j WX.text)) := Lib.hid (by
          have e1 : WX.text = ⟨#[123]⟩ ++ (T ++ ⟨#[125]⟩) := by rw [hWX]; show W5.text ++ _ = _; rw [ht5, ByteArray.append_assoc]
          have h2 : (⟨#[123]⟩ : ByteArray).size = 1 := rfl
          have h3 : (⟨#[125]⟩ : ByteArray).size = 1 := rfl
          refine ⟨by rw [e1, ByteArray.size_append, ByteArray.size_append]; omega, fun _ => .inl ?_⟩
          rw [e1, byteAt_app_left _ _ _ (by decide)]
          rfl)
        clear hlin h5 h6 m6 m5 hpl hWX hus hok htx ht5 HE HM4 HO4 hlabX f0 f1 f2 f3 f4 f5 f6 HL5 hsz hs4 hl4 hb4
        -- the tail: HX : WAt, PlAt, Mv; HU : used; HR: what is claimed
        obtain ⟨A, c, u6⟩ : ∃ A c, wx.cell? ⟨w.heap.size + 1 + 1, 6, none⟩ = some (.slice A 0 c) := by
          obtain ⟨sv, kn, va, us, inn, hx⟩ := HX.out.1
          obtain ⟨A, c, rfl⟩ := hx.us.shape
          exact ⟨A, c, by have := hx.cl.cell 6; rw [HU.out] at this; exact this⟩
        obtain ⟨pg, pc, x0, x1, x2, x3, p0, pf, d0, d1, d2, d3, plb⟩ := HX.out.2.1.open
        go_wp2_with fail
        go_loopw [64] (fun i wr => (i = .int .i64 0 ∧ wr = wx) ∨ (i = .int .i64 1 ∧ ∃ labY, WAt labY wr (w.heap.size + 2) WX ∧ PlAt labY wr (w.heap.size + 1) ∧ Mv EM w (fun _ => 0) wr labY)) (fun i _ => 1 - (RowKit.intOf i).toNat)
        case atStart => exact .inl ⟨rfl, rfl⟩
        case round =>
          rcases hrel with ⟨rfl, hwr⟩ | ⟨rfl, labY, hY, hpY, mY⟩
          · have hwr' := hwr.symm
            clear hwr
            subst hwr'
            have mL : ∀ o, Mv (fun _ => False) wx labX (wx.alloc o) (labX.ext wx.heap.size 45) := fun o => Mv.alloc _ _ _ _
            have HL : Hid (∀ o, WAt (labX.ext wx.heap.size 45) (wx.alloc o) (w.heap.size + 2) WX ∧ PlAt (labX.ext wx.heap.size 45) (wx.alloc o) (w.heap.size + 1) ∧ Mv EM w (fun _ => 0) (wx.alloc o) (labX.ext wx.heap.size 45)) := Lib.hid fun o => ⟨HX.out.1.mv (mL o) (fun _ _ h => h), HX.out.2.1.mv (mL o) (fun h => h) (fun h => h), HX.out.2.2.trans (mL o) (fun _ h => h.elim)⟩
            have u6a : ∀ o, (wx.alloc o).cell? ⟨w.heap.size + 1 + 1, 6, none⟩ = some (.slice A 0 c) := fun o => (mL o).cellF u6
            clear mL
            go_wp2_with fail
            go_loopw [74] (fun i wz => i = .int .i64 0 ∧ wz = wx.alloc (.cells #[.string x0, .int .i64 x1, .int .i64 x2, .bool x3] 60)) (fun _ _ => 0)
            case atStart => exact ⟨rfl, rfl⟩
            case round =>
              obtain ⟨rfl, hwz⟩ := hrel
              subst hwz
              go_wp2
              go_roundw
              case rel => exact .inr ⟨rfl, _, HL.out _⟩
              case measure => simp [RowKit.intOf]
          · obtain ⟨qg, qc, y0, y1, y2, y3, r0, rf, _, _, _, _, rlb⟩ := hpY.open
            have e0 : wr.cell? ⟨w.heap.size + 1 + 1, 0, none⟩ = some (.string WX.text) := hY.cText
            have e3 : wr.cell? ⟨w.heap.size + 1 + 1, 3, none⟩ = some (.bool WX.bad) := hY.c3
            have HY := Lib.hid (And.intro hY (And.intro hpY mY))
            clear hY hpY mY
            go_wp2_with fail
            go_region
            have hfin : Below w.heap.size w (wr.setCell ⟨w.heap.size + 1, 0, none⟩ (.slice (some ⟨qg, 0, none⟩) 1 qc)).drew := by
              have m : Mv (· = 47) wr labY (wr.setCell ⟨w.heap.size + 1, 0, none⟩ (.slice (some ⟨qg, 0, none⟩) 1 qc)) labY := Mv.setCell _ _ _ _ rlb
              exact ((HY.out.2.2.trans m (fun _ h => .inr (.inr (.inr (.inr h))))).trans (Mv.aDraw EM _ _) (fun _ h => h)).toBelow (Nat.le_refl _) (fun _ _ h => by rcases h with h | h | h | h | h <;> cases h)
            have HFI := Lib.hid hfin
            clear hfin
            have hv : ((wr.setCell ⟨w.heap.size + 1, 0, none⟩ (.slice (some ⟨qg, 0, none⟩) 1 qc)).drew).cell? ⟨w.heap.size + 1, 0, none⟩ = some (.slice (some ⟨qg, 0, none⟩) 1 qc) := by
              obtain ⟨pv, _, _, _, _, h1, _⟩ := HY.out.2.1.ex
              exact (h1.set 0 (.slice (some ⟨qg, 0, none⟩) 1 qc)).cell 0
            go_wp2
            refine bodyPost_ret (results_tct rfl rfl (v := .slice (some ⟨qg, 0, none⟩) 1 qc) (by simp [go_sem, hv])) rfl ?_
            exact ⟨WX.text, _, !WX.bad, rfl, HR.out.1, fun e => HR.out.2 (by simpa using e), HFI.out⟩
      · have e1 : ((u : Int) == 1) = false := beq_eq_false_iff_ne.2 (by omega)
        have e2 : ((u : Int) != 1) = true := by rw [bne, e1]; rfl
        clear hu
        have HE := Lib.hid (entries1 (k := k) (n := n) (f := f) (is := is) (t := t) (a1 := a1) (c1 := c1) (a2 := a2) (c2 := c2) (j := j) h3 hn1 hb1 HO3.out HF.out (by rw [ht1]; decide) (by omega) (by rw [hk1]; decide))
        clear HB3 HO3 h3
        unfold oneV at HE
        go_wp2_with fail
        refine HE.out.mono ?_
        rintro e wx ⟨rfl, WX, T, labX, h5, htx, hsz, hlin, hok, hus, hpl, m5⟩
        have ht5 : WX.text = T := by rw [htx, ht1]; exact ByteArray.empty_append
        have HX := Lib.hid (And.intro h5 (And.intro hpl (HM3.out.trans m5 (fun _ h => h))))
        have HU : Hid (WX.used = []) := Lib.hid (by rw [hus]; exact hu1)
        have HR : Hid (WX.text.size ≤ 310 ∧ (WX.bad = false → byteAt WX.text 0 = 123 ∨ EntSp j WX.text)) := Lib.hid ⟨by rw [ht5]; omega, fun e => .inr (by rw [ht5]; exact hok e)⟩
        clear hlin h5 m5 hpl hus hok htx ht5 HE HM3 d0 d1 d2 d3 d4 d5 d6 hsz
        -- the tail: HX : WAt, PlAt, Mv; HU : used; HR: what is claimed
        obtain ⟨A, c, u6⟩ : ∃ A c, wx.cell? ⟨w.heap.size + 1 + 1, 6, none⟩ = some (.slice A 0 c) := by
          obtain ⟨sv, kn, va, us, inn, hx⟩ := HX.out.1
          obtain ⟨A, c, rfl⟩ := hx.us.shape
          exact ⟨A, c, by have := hx.cl.cell 6; rw [HU.out] at this; exact this⟩
        obtain ⟨pg, pc, x0, x1, x2, x3, p0, pf, d0, d1, d2, d3, plb⟩ := HX.out.2.1.open
        go_wp2_with fail
        go_loopw [64] (fun i wr => (i = .int .i64 0 ∧ wr = wx) ∨ (i = .int .i64 1 ∧ ∃ labY, WAt labY wr (w.heap.size + 2) WX ∧ PlAt labY wr (w.heap.size + 1) ∧ Mv EM w (fun _ => 0) wr labY)) (fun i _ => 1 - (RowKit.intOf i).toNat)
        case atStart => exact .inl ⟨rfl, rfl⟩
        case round =>
          rcases hrel with ⟨rfl, hwr⟩ | ⟨rfl, labY, hY, hpY, mY⟩
          · have hwr' := hwr.symm
            clear hwr
            subst hwr'
            have mL : ∀ o, Mv (fun _ => False) wx labX (wx.alloc o) (labX.ext wx.heap.size 45) := fun o => Mv.alloc _ _ _ _
            have HL : Hid (∀ o, WAt (labX.ext wx.heap.size 45) (wx.alloc o) (w.heap.size + 2) WX ∧ PlAt (labX.ext wx.heap.size 45) (wx.alloc o) (w.heap.size + 1) ∧ Mv EM w (fun _ => 0) (wx.alloc o) (labX.ext wx.heap.size 45)) := Lib.hid fun o => ⟨HX.out.1.mv (mL o) (fun _ _ h => h), HX.out.2.1.mv (mL o) (fun h => h) (fun h => h), HX.out.2.2.trans (mL o) (fun _ h => h.elim)⟩
            have u6a : ∀ o, (wx.alloc o).cell? ⟨w.heap.size + 1 + 1, 6, none⟩ = some (.slice A 0 c) := fun o => (mL o).cellF u6
            clear mL
            go_wp2_with fail
            go_loopw [74] (fun i wz => i = .int .i64 0 ∧ wz = wx.alloc (.cells #[.string x0, .int .i64 x1, .int .i64 x2, .bool x3] 60)) (fun _ _ => 0)
            case atStart => exact ⟨rfl, rfl⟩
            case round =>
              obtain ⟨rfl, hwz⟩ := hrel
              subst hwz
              go_wp2
              go_roundw
              case rel => exact .inr ⟨rfl, _, HL.out _⟩
              case measure => simp [RowKit.intOf]
          · obtain ⟨qg, qc, y0, y1, y2, y3, r0, rf, _, _, _, _, rlb⟩ := hpY.open
            have e0 : wr.cell? ⟨w.heap.size + 1 + 1, 0, none⟩ = some (.string WX.text) := hY.cText
            have e3 : wr.cell? ⟨w.heap.size + 1 + 1, 3, none⟩ = some (.bool WX.bad) := hY.c3
            have HY := Lib.hid (And.intro hY (And.intro hpY mY))
            clear hY hpY mY
            go_wp2_with fail
            go_region
            have hfin : Below w.heap.size w (wr.setCell ⟨w.heap.size + 1, 0, none⟩ (.slice (some ⟨qg, 0, none⟩) 1 qc)).drew := by
              have m : Mv (· = 47) wr labY (wr.setCell ⟨w.heap.size + 1, 0, none⟩ (.slice (some ⟨qg, 0, none⟩) 1 qc)) labY := Mv.setCell _ _ _ _ rlb
              exact ((HY.out.2.2.trans m (fun _ h => .inr (.inr (.inr (.inr h))))).trans (Mv.aDraw EM _ _) (fun _ h => h)).toBelow (Nat.le_refl _) (fun _ _ h => by rcases h with h | h | h | h | h <;> cases h)
            have HFI := Lib.hid hfin
            clear hfin
            have hv : ((wr.setCell ⟨w.heap.size + 1, 0, none⟩ (.slice (some ⟨qg, 0, none⟩) 1 qc)).drew).cell? ⟨w.heap.size + 1, 0, none⟩ = some (.slice (some ⟨qg, 0, none⟩) 1 qc) := by
              obtain ⟨pv, _, _, _, _, h1, _⟩ := HY.out.2.1.ex
              exact (h1.set 0 (.slice (some ⟨qg, 0, none⟩) 1 qc)).cell 0
            go_wp2
            refine bodyPost_ret (results_tct rfl rfl (v := .slice (some ⟨qg, 0, none⟩) 1 qc) (by simp [go_sem, hv])) rfl ?_
            exact ⟨WX.text, _, !WX.bad, rfl, HR.out.1, fun e => HR.out.2 (by simpa using e), HFI.out⟩
end
end Go.Cf
