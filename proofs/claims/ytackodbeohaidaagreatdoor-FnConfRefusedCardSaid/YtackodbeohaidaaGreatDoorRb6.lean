/-
  Texts joined: V2 AB AC Vw Ld.
-/
import Derived.Test.YtackodbeohaidaaGreatDoorRb1
import Derived.Test.YtackodbeohaidaaGreatDoorRb2
import Derived.Test.YtackodbeohaidaaGreatDoorRb3
import Derived.Test.YtackodbeohaidaaGreatDoorRb5
import Derived.Laws.RangeString
/-
  processItem: a whole number, perhaps with a size.
-/
namespace Go.Cf
open Go.RowKit Go.Conc Go.Proofs
section
variable {B : Nat} {lab lab1 : Lab} {w w1 : World} {K : PK} {X X' : PX} {M : Nat → Prop}
set_option maxRecDepth 100000 in
set_option maxHeartbeats 4000000 in
theorem item_int_g (h : PAt B lab w K X) (hB : B ≤ w.heap.size) (hped : K.ped = false) (xv : ByteArray) (xl xp : Int) (d : Nat) (hd : d < xv.size) (hsz : xv.size ≤ 1000000)
    (hdig : ∀ i, i < d → isDig (byteAt xv i) = true) (hstop : isDig (byteAt xv d) = false) (hstop2 : byteAt xv d ≠ 45) (hasc : ∀ i, i < xv.size → byteAt xv i < 128) 
    (n : Int) (hpi : ∀ w, Calls Tryz.prog 68 #[.string (xv.extract 0 d), i64 10, i64 64] w fun e w' => e = .returned (.tuple #[.int .i64 n, .nilIface]) ∧ Below w.heap.size w w')
    (sf : ByteArray) (hsf : xv.extract d xv.size = sf) (hsa : ∀ (j : Nat) b, sf.data.toList[j]? = some b → b.toNat < 128) (htrim : Lib.trimSpace sf.data.toList = sf.data.toList) (hlow : Lib.toLowerA sf.data.toList = sf.data.toList) (hsfv : sf = ⟨#[103]⟩) (hb1 : -4611686018427387904 ≤ n * 1000 * 1000 * 1000) (hb2 : n * 1000 * 1000 * 1000 ≤ 4611686018427387904)
    (htb : Tb lab w) (hs : X.Sets (.int (n * 1000 * 1000 * 1000)) X') :
    Calls Tryz.prog 57 #[.pointer (some ⟨K.p, 0, none⟩), .agg #[i64 7, .string xv, i64 xl, i64 xp], .string { data := #[] }] w fun e w' => e = .returned .nilIface ∧ ∃ lab', PAt B lab' w' K X' ∧ Mv PM w lab w' lab' := by
  obtain ⟨lab1, hb, m1⟩ := h.boxed hB 7 xv xl xp
  have HD := Lib.hid hdig
  have HS1 := Lib.hid hstop
  have HS2 := Lib.hid hstop2
  have HA := Lib.hid hasc
  have HT := Lib.hid htrim
  have HL := Lib.hid hlow
  have HF := Lib.hid hsfv
  have HX := Lib.hid hsf
  have HP := Lib.hid hped
  have HAS := Lib.hid hsa
  clear hdig hstop hstop2 hasc htrim hlow hsfv hsf hped hsa
  go_enter Tryz.func57, Tryz.ntmps57
  go_wp2_with fail
  have hWs : (Boxed w K 7 xv xl xp).heap.size = w.heap.size + 1 + 1 + 1 := by unfold Boxed; simp [World.size_alloc]
  have HW := Lib.hid hWs
  clear hWs
  go_loopw [9] (fun i wr => ∃ k : Nat, k ≤ d ∧ i = .int .i64 k ∧ wr = (Boxed w K 7 xv xl xp).iter xv k) (fun i _ => d - (RowKit.intOf i).toNat)
  case atStart => exact ⟨0, Nat.zero_le _, rfl, rfl⟩
  case round =>
    obtain ⟨k, hk, rfl, rfl⟩ := hrel
    have hk2 : k < xv.size := by omega
    have hnx : ∀ ty, (Instr.next (.pointer (some ⟨w.heap.size + 1 + 1 + 1, 0, none⟩)) true ty).run Tryz.prog ((Boxed w K 7 xv xl xp).iter xv k) = .ok (.tuple #[.bool true, .int .i64 k, .int .i32 (byteAt xv k : Nat)]) ((Boxed w K 7 xv xl xp).iter xv (k + 1)) := fun ty => by
      have := run_next_ascii (P := Tryz.prog) (Boxed w K 7 xv xl xp) xv k ty hk2 (by rw [byteAt_get]; exact HA.out k hk2)
      rwa [HW.out, byteAt_get] at this
    have hc := HA.out k hk2
    by_cases hlt : k < d
    · have e1 := HD.out k hlt
      go_wp2_with fail
      refine (isDig_c _ hc _).mono ?_
      rintro e w' ⟨rfl, rfl⟩
      go_wp2
      go_roundw
      case rel => exact ⟨k + 1, by omega, by go_num, rfl⟩
      case measure => simp [RowKit.intOf]; omega
    · obtain rfl : k = d := by omega
      have e1 := HS1.out
      have e2 : (((byteAt xv k : Nat) : Int) == 45) = false := beq_eq_false_iff_ne.2 (by have := HS2.out; omega)
      have e3 : (((byteAt xv k : Nat) : Int) != 45) = true := by rw [bne, e2]; rfl
      go_wp2_with fail
      refine (isDig_c _ hc _).mono ?_
      rintro e w' ⟨rfl, rfl⟩
      have m2 := (iter_mv (Boxed w K 7 xv xl xp) lab1 xv (k + 1))
      have hb2 := hb.mv (hb.pat.mv m2 (fun _ _ h => h)) (m2.mono (fun _ h => h.elim))
      have m2' := m1.trans m2 (fun _ h => h.elim)
      obtain ⟨W, hW⟩ : ∃ W, W = (Boxed w K 7 xv xl xp).iter xv (k + 1) := ⟨_, rfl⟩
      rw [← hW] at hb2 m2 m2' ⊢
      have d1 := hb2.b1.cell 1
      clear hW hb hnx
      go_wp2_with fail
      refine (hpi W).mono ?_
      rintro e w3 ⟨rfl, hbl⟩
      have m3 := Mv.below (M := fun _ => False) hbl (lab1.ext (Boxed w K 7 xv xl xp).heap.size 7) 7
      have hb3 := hb2.mv (hb2.pat.mv m3 (fun _ _ h => h)) (m3.mono (fun _ h => h.elim))
      have m3' := m2'.trans m3 (fun _ h => h.elim)
      have htb3 := htb.mv m3' (by simp [PM])
      have d1 := hb3.b1.cell 1
      have hsl : xv.extract k xv.size = sf := HX.out
      clear hbl m3 hb2 hpi
      go_wp2_with fail
      refine (Tryz.strings_TrimSpace sf w3 (by rw [← hsl]; simp; omega) HAS.out htb3.1).mono ?_
      rintro e w4 ⟨rfl, hw4⟩
      have hbl4 : Below w3.heap.size w3 w4 := by rw [hw4]; exact ⟨rfl, rfl, rfl, by rw [Go.Lib.bytesWorld_size]; omega, fun k hk => Go.Lib.bytesWorld_at_old w3 5 sf k hk⟩
      have m4 := Mv.below (M := fun _ => False) hbl4 ((lab1.ext (Boxed w K 7 xv xl xp).heap.size 7).ext W.heap.size 7) 7
      have hb4 := hb3.mv (hb3.pat.mv m4 (fun _ _ h => h)) (m4.mono (fun _ h => h.elim))
      have m4' := m3'.trans m4 (fun _ h => h.elim)
      rw [HT.out]
      clear hw4 hbl4 m4 hb3 hsl
      go_wp2_with fail
      refine (Tryz.strings_ToLower_ascii ⟨sf.data.toList.toArray⟩ w4 ?_ ?_).mono ?_
      · have := congrArg ByteArray.size HX.out
        simp at this
        show sf.data.toList.toArray.size ≤ _
        simp
        omega
      · simpa using HAS.out
      rintro e w5 ⟨rfl, hbl5⟩
      have m5 := Mv.below (M := fun _ => False) hbl5 (((lab1.ext (Boxed w K 7 xv xl xp).heap.size 7).ext W.heap.size 7).ext w3.heap.size 7) 7
      have hb5 := hb4.mv (hb4.pat.mv m5 (fun _ _ h => h)) (m5.mono (fun _ h => h.elim))
      have m5' := m4'.trans m5 (fun _ h => h.elim)
      have e0 : (⟨(Lib.toLowerA sf.data.toList).toArray⟩ : ByteArray) = ⟨#[103]⟩ := by rw [HL.out, HF.out]
      have d0 := hb5.b0.cell 0
      have d1 := hb5.b1.cell 0
      have d2 := hb5.b1.cell 1
      have d3 := hb5.b1.cell 2
      have d4 := hb5.b1.cell 3
      simp at d0 d1 d2 d3 d4
      simp only [e0]
      clear hbl5 m5 hb4 e0
      go_wp2_with fail
      refine (lay_c hb5.pat hb5.hB HP.out hs 2 _ rfl _ _ hb5.b0 7 xv xl xp).mono ?_
      rintro e w6 ⟨rfl, lab6, h6, m6⟩
      go_wp2
      go_ret
      exact ⟨rfl, lab6, h6, m5'.trans m6 (fun _ h => h)⟩
set_option maxRecDepth 100000 in
set_option maxHeartbeats 4000000 in
theorem item_int_gb (h : PAt B lab w K X) (hB : B ≤ w.heap.size) (hped : K.ped = false) (xv : ByteArray) (xl xp : Int) (d : Nat) (hd : d < xv.size) (hsz : xv.size ≤ 1000000)
    (hdig : ∀ i, i < d → isDig (byteAt xv i) = true) (hstop : isDig (byteAt xv d) = false) (hstop2 : byteAt xv d ≠ 45) (hasc : ∀ i, i < xv.size → byteAt xv i < 128) 
    (n : Int) (hpi : ∀ w, Calls Tryz.prog 68 #[.string (xv.extract 0 d), i64 10, i64 64] w fun e w' => e = .returned (.tuple #[.int .i64 n, .nilIface]) ∧ Below w.heap.size w w')
    (sf : ByteArray) (hsf : xv.extract d xv.size = sf) (hsa : ∀ (j : Nat) b, sf.data.toList[j]? = some b → b.toNat < 128) (htrim : Lib.trimSpace sf.data.toList = sf.data.toList) (hlow : Lib.toLowerA sf.data.toList = sf.data.toList) (hsfv : sf = ⟨#[103, 98]⟩) (hb1 : -4611686018427387904 ≤ n * 1024 * 1024 * 1024) (hb2 : n * 1024 * 1024 * 1024 ≤ 4611686018427387904)
    (htb : Tb lab w) (hs : X.Sets (.int (n * 1024 * 1024 * 1024)) X') :
    Calls Tryz.prog 57 #[.pointer (some ⟨K.p, 0, none⟩), .agg #[i64 7, .string xv, i64 xl, i64 xp], .string { data := #[] }] w fun e w' => e = .returned .nilIface ∧ ∃ lab', PAt B lab' w' K X' ∧ Mv PM w lab w' lab' := by
  obtain ⟨lab1, hb, m1⟩ := h.boxed hB 7 xv xl xp
  have HD := Lib.hid hdig
  have HS1 := Lib.hid hstop
  have HS2 := Lib.hid hstop2
  have HA := Lib.hid hasc
  have HT := Lib.hid htrim
  have HL := Lib.hid hlow
  have HF := Lib.hid hsfv
  have HX := Lib.hid hsf
  have HP := Lib.hid hped
  have HAS := Lib.hid hsa
  clear hdig hstop hstop2 hasc htrim hlow hsfv hsf hped hsa
  go_enter Tryz.func57, Tryz.ntmps57
  go_wp2_with fail
  have hWs : (Boxed w K 7 xv xl xp).heap.size = w.heap.size + 1 + 1 + 1 := by unfold Boxed; simp [World.size_alloc]
  have HW := Lib.hid hWs
  clear hWs
  go_loopw [9] (fun i wr => ∃ k : Nat, k ≤ d ∧ i = .int .i64 k ∧ wr = (Boxed w K 7 xv xl xp).iter xv k) (fun i _ => d - (RowKit.intOf i).toNat)
  case atStart => exact ⟨0, Nat.zero_le _, rfl, rfl⟩
  case round =>
    obtain ⟨k, hk, rfl, rfl⟩ := hrel
    have hk2 : k < xv.size := by omega
    have hnx : ∀ ty, (Instr.next (.pointer (some ⟨w.heap.size + 1 + 1 + 1, 0, none⟩)) true ty).run Tryz.prog ((Boxed w K 7 xv xl xp).iter xv k) = .ok (.tuple #[.bool true, .int .i64 k, .int .i32 (byteAt xv k : Nat)]) ((Boxed w K 7 xv xl xp).iter xv (k + 1)) := fun ty => by
      have := run_next_ascii (P := Tryz.prog) (Boxed w K 7 xv xl xp) xv k ty hk2 (by rw [byteAt_get]; exact HA.out k hk2)
      rwa [HW.out, byteAt_get] at this
    have hc := HA.out k hk2
    by_cases hlt : k < d
    · have e1 := HD.out k hlt
      go_wp2_with fail
      refine (isDig_c _ hc _).mono ?_
      rintro e w' ⟨rfl, rfl⟩
      go_wp2
      go_roundw
      case rel => exact ⟨k + 1, by omega, by go_num, rfl⟩
      case measure => simp [RowKit.intOf]; omega
    · obtain rfl : k = d := by omega
      have e1 := HS1.out
      have e2 : (((byteAt xv k : Nat) : Int) == 45) = false := beq_eq_false_iff_ne.2 (by have := HS2.out; omega)
      have e3 : (((byteAt xv k : Nat) : Int) != 45) = true := by rw [bne, e2]; rfl
      go_wp2_with fail
      refine (isDig_c _ hc _).mono ?_
      rintro e w' ⟨rfl, rfl⟩
      have m2 := (iter_mv (Boxed w K 7 xv xl xp) lab1 xv (k + 1))
      have hb2 := hb.mv (hb.pat.mv m2 (fun _ _ h => h)) (m2.mono (fun _ h => h.elim))
      have m2' := m1.trans m2 (fun _ h => h.elim)
      obtain ⟨W, hW⟩ : ∃ W, W = (Boxed w K 7 xv xl xp).iter xv (k + 1) := ⟨_, rfl⟩
      rw [← hW] at hb2 m2 m2' ⊢
      have d1 := hb2.b1.cell 1
      clear hW hb hnx
      go_wp2_with fail
      refine (hpi W).mono ?_
      rintro e w3 ⟨rfl, hbl⟩
      have m3 := Mv.below (M := fun _ => False) hbl (lab1.ext (Boxed w K 7 xv xl xp).heap.size 7) 7
      have hb3 := hb2.mv (hb2.pat.mv m3 (fun _ _ h => h)) (m3.mono (fun _ h => h.elim))
      have m3' := m2'.trans m3 (fun _ h => h.elim)
      have htb3 := htb.mv m3' (by simp [PM])
      have d1 := hb3.b1.cell 1
      have hsl : xv.extract k xv.size = sf := HX.out
      clear hbl m3 hb2 hpi
      go_wp2_with fail
      refine (Tryz.strings_TrimSpace sf w3 (by rw [← hsl]; simp; omega) HAS.out htb3.1).mono ?_
      rintro e w4 ⟨rfl, hw4⟩
      have hbl4 : Below w3.heap.size w3 w4 := by rw [hw4]; exact ⟨rfl, rfl, rfl, by rw [Go.Lib.bytesWorld_size]; omega, fun k hk => Go.Lib.bytesWorld_at_old w3 5 sf k hk⟩
      have m4 := Mv.below (M := fun _ => False) hbl4 ((lab1.ext (Boxed w K 7 xv xl xp).heap.size 7).ext W.heap.size 7) 7
      have hb4 := hb3.mv (hb3.pat.mv m4 (fun _ _ h => h)) (m4.mono (fun _ h => h.elim))
      have m4' := m3'.trans m4 (fun _ h => h.elim)
      rw [HT.out]
      clear hw4 hbl4 m4 hb3 hsl
      go_wp2_with fail
      refine (Tryz.strings_ToLower_ascii ⟨sf.data.toList.toArray⟩ w4 ?_ ?_).mono ?_
      · have := congrArg ByteArray.size HX.out
        simp at this
        show sf.data.toList.toArray.size ≤ _
        simp
        omega
      · simpa using HAS.out
      rintro e w5 ⟨rfl, hbl5⟩
      have m5 := Mv.below (M := fun _ => False) hbl5 (((lab1.ext (Boxed w K 7 xv xl xp).heap.size 7).ext W.heap.size 7).ext w3.heap.size 7) 7
      have hb5 := hb4.mv (hb4.pat.mv m5 (fun _ _ h => h)) (m5.mono (fun _ h => h.elim))
      have m5' := m4'.trans m5 (fun _ h => h.elim)
      have e0 : (⟨(Lib.toLowerA sf.data.toList).toArray⟩ : ByteArray) = ⟨#[103, 98]⟩ := by rw [HL.out, HF.out]
      have d0 := hb5.b0.cell 0
      have d1 := hb5.b1.cell 0
      have d2 := hb5.b1.cell 1
      have d3 := hb5.b1.cell 2
      have d4 := hb5.b1.cell 3
      simp at d0 d1 d2 d3 d4
      simp only [e0]
      clear hbl5 m5 hb4 e0
      go_wp2_with fail
      refine (lay_c hb5.pat hb5.hB HP.out hs 2 _ rfl _ _ hb5.b0 7 xv xl xp).mono ?_
      rintro e w6 ⟨rfl, lab6, h6, m6⟩
      go_wp2
      go_ret
      exact ⟨rfl, lab6, h6, m5'.trans m6 (fun _ h => h)⟩
set_option maxRecDepth 100000 in
set_option maxHeartbeats 4000000 in
theorem item_int_gib (h : PAt B lab w K X) (hB : B ≤ w.heap.size) (hped : K.ped = false) (xv : ByteArray) (xl xp : Int) (d : Nat) (hd : d < xv.size) (hsz : xv.size ≤ 1000000)
    (hdig : ∀ i, i < d → isDig (byteAt xv i) = true) (hstop : isDig (byteAt xv d) = false) (hstop2 : byteAt xv d ≠ 45) (hasc : ∀ i, i < xv.size → byteAt xv i < 128) 
    (n : Int) (hpi : ∀ w, Calls Tryz.prog 68 #[.string (xv.extract 0 d), i64 10, i64 64] w fun e w' => e = .returned (.tuple #[.int .i64 n, .nilIface]) ∧ Below w.heap.size w w')
    (sf : ByteArray) (hsf : xv.extract d xv.size = sf) (hsa : ∀ (j : Nat) b, sf.data.toList[j]? = some b → b.toNat < 128) (htrim : Lib.trimSpace sf.data.toList = sf.data.toList) (hlow : Lib.toLowerA sf.data.toList = sf.data.toList) (hsfv : sf = ⟨#[103, 105, 98]⟩) (hb1 : -4611686018427387904 ≤ n * 1024 * 1024 * 1024) (hb2 : n * 1024 * 1024 * 1024 ≤ 4611686018427387904)
    (htb : Tb lab w) (hs : X.Sets (.int (n * 1024 * 1024 * 1024)) X') :
    Calls Tryz.prog 57 #[.pointer (some ⟨K.p, 0, none⟩), .agg #[i64 7, .string xv, i64 xl, i64 xp], .string { data := #[] }] w fun e w' => e = .returned .nilIface ∧ ∃ lab', PAt B lab' w' K X' ∧ Mv PM w lab w' lab' := by
  obtain ⟨lab1, hb, m1⟩ := h.boxed hB 7 xv xl xp
  have HD := Lib.hid hdig
  have HS1 := Lib.hid hstop
  have HS2 := Lib.hid hstop2
  have HA := Lib.hid hasc
  have HT := Lib.hid htrim
  have HL := Lib.hid hlow
  have HF := Lib.hid hsfv
  have HX := Lib.hid hsf
  have HP := Lib.hid hped
  have HAS := Lib.hid hsa
  clear hdig hstop hstop2 hasc htrim hlow hsfv hsf hped hsa
  go_enter Tryz.func57, Tryz.ntmps57
  go_wp2_with fail
  have hWs : (Boxed w K 7 xv xl xp).heap.size = w.heap.size + 1 + 1 + 1 := by unfold Boxed; simp [World.size_alloc]
  have HW := Lib.hid hWs
  clear hWs
  go_loopw [9] (fun i wr => ∃ k : Nat, k ≤ d ∧ i = .int .i64 k ∧ wr = (Boxed w K 7 xv xl xp).iter xv k) (fun i _ => d - (RowKit.intOf i).toNat)
  case atStart => exact ⟨0, Nat.zero_le _, rfl, rfl⟩
  case round =>
    obtain ⟨k, hk, rfl, rfl⟩ := hrel
    have hk2 : k < xv.size := by omega
    have hnx : ∀ ty, (Instr.next (.pointer (some ⟨w.heap.size + 1 + 1 + 1, 0, none⟩)) true ty).run Tryz.prog ((Boxed w K 7 xv xl xp).iter xv k) = .ok (.tuple #[.bool true, .int .i64 k, .int .i32 (byteAt xv k : Nat)]) ((Boxed w K 7 xv xl xp).iter xv (k + 1)) := fun ty => by
      have := run_next_ascii (P := Tryz.prog) (Boxed w K 7 xv xl xp) xv k ty hk2 (by rw [byteAt_get]; exact HA.out k hk2)
      rwa [HW.out, byteAt_get] at this
    have hc := HA.out k hk2
    by_cases hlt : k < d
    · have e1 := HD.out k hlt
      go_wp2_with fail
      refine (isDig_c _ hc _).mono ?_
      rintro e w' ⟨rfl, rfl⟩
      go_wp2
      go_roundw
      case rel => exact ⟨k + 1, by omega, by go_num, rfl⟩
      case measure => simp [RowKit.intOf]; omega
    · obtain rfl : k = d := by omega
      have e1 := HS1.out
      have e2 : (((byteAt xv k : Nat) : Int) == 45) = false := beq_eq_false_iff_ne.2 (by have := HS2.out; omega)
      have e3 : (((byteAt xv k : Nat) : Int) != 45) = true := by rw [bne, e2]; rfl
      go_wp2_with fail
      refine (isDig_c _ hc _).mono ?_
      rintro e w' ⟨rfl, rfl⟩
      have m2 := (iter_mv (Boxed w K 7 xv xl xp) lab1 xv (k + 1))
      have hb2 := hb.mv (hb.pat.mv m2 (fun _ _ h => h)) (m2.mono (fun _ h => h.elim))
      have m2' := m1.trans m2 (fun _ h => h.elim)
      obtain ⟨W, hW⟩ : ∃ W, W = (Boxed w K 7 xv xl xp).iter xv (k + 1) := ⟨_, rfl⟩
      rw [← hW] at hb2 m2 m2' ⊢
      have d1 := hb2.b1.cell 1
      clear hW hb hnx
      go_wp2_with fail
      refine (hpi W).mono ?_
      rintro e w3 ⟨rfl, hbl⟩
      have m3 := Mv.below (M := fun _ => False) hbl (lab1.ext (Boxed w K 7 xv xl xp).heap.size 7) 7
      have hb3 := hb2.mv (hb2.pat.mv m3 (fun _ _ h => h)) (m3.mono (fun _ h => h.elim))
      have m3' := m2'.trans m3 (fun _ h => h.elim)
      have htb3 := htb.mv m3' (by simp [PM])
      have d1 := hb3.b1.cell 1
      have hsl : xv.extract k xv.size = sf := HX.out
      clear hbl m3 hb2 hpi
      go_wp2_with fail
      refine (Tryz.strings_TrimSpace sf w3 (by rw [← hsl]; simp; omega) HAS.out htb3.1).mono ?_
      rintro e w4 ⟨rfl, hw4⟩
      have hbl4 : Below w3.heap.size w3 w4 := by rw [hw4]; exact ⟨rfl, rfl, rfl, by rw [Go.Lib.bytesWorld_size]; omega, fun k hk => Go.Lib.bytesWorld_at_old w3 5 sf k hk⟩
      have m4 := Mv.below (M := fun _ => False) hbl4 ((lab1.ext (Boxed w K 7 xv xl xp).heap.size 7).ext W.heap.size 7) 7
      have hb4 := hb3.mv (hb3.pat.mv m4 (fun _ _ h => h)) (m4.mono (fun _ h => h.elim))
      have m4' := m3'.trans m4 (fun _ h => h.elim)
      rw [HT.out]
      clear hw4 hbl4 m4 hb3 hsl
      go_wp2_with fail
      refine (Tryz.strings_ToLower_ascii ⟨sf.data.toList.toArray⟩ w4 ?_ ?_).mono ?_
      · have := congrArg ByteArray.size HX.out
        simp at this
        show sf.data.toList.toArray.size ≤ _
        simp
        omega
      · simpa using HAS.out
      rintro e w5 ⟨rfl, hbl5⟩
      have m5 := Mv.below (M := fun _ => False) hbl5 (((lab1.ext (Boxed w K 7 xv xl xp).heap.size 7).ext W.heap.size 7).ext w3.heap.size 7) 7
      have hb5 := hb4.mv (hb4.pat.mv m5 (fun _ _ h => h)) (m5.mono (fun _ h => h.elim))
      have m5' := m4'.trans m5 (fun _ h => h.elim)
      have e0 : (⟨(Lib.toLowerA sf.data.toList).toArray⟩ : ByteArray) = ⟨#[103, 105, 98]⟩ := by rw [HL.out, HF.out]
      have d0 := hb5.b0.cell 0
      have d1 := hb5.b1.cell 0
      have d2 := hb5.b1.cell 1
      have d3 := hb5.b1.cell 2
      have d4 := hb5.b1.cell 3
      simp at d0 d1 d2 d3 d4
      simp only [e0]
      clear hbl5 m5 hb4 e0
      go_wp2_with fail
      refine (lay_c hb5.pat hb5.hB HP.out hs 2 _ rfl _ _ hb5.b0 7 xv xl xp).mono ?_
      rintro e w6 ⟨rfl, lab6, h6, m6⟩
      go_wp2
      go_ret
      exact ⟨rfl, lab6, h6, m5'.trans m6 (fun _ h => h)⟩
set_option maxRecDepth 100000 in
set_option maxHeartbeats 4000000 in
theorem item_int_gi (h : PAt B lab w K X) (hB : B ≤ w.heap.size) (hped : K.ped = false) (xv : ByteArray) (xl xp : Int) (d : Nat) (hd : d < xv.size) (hsz : xv.size ≤ 1000000)
    (hdig : ∀ i, i < d → isDig (byteAt xv i) = true) (hstop : isDig (byteAt xv d) = false) (hstop2 : byteAt xv d ≠ 45) (hasc : ∀ i, i < xv.size → byteAt xv i < 128) 
    (n : Int) (hpi : ∀ w, Calls Tryz.prog 68 #[.string (xv.extract 0 d), i64 10, i64 64] w fun e w' => e = .returned (.tuple #[.int .i64 n, .nilIface]) ∧ Below w.heap.size w w')
    (sf : ByteArray) (hsf : xv.extract d xv.size = sf) (hsa : ∀ (j : Nat) b, sf.data.toList[j]? = some b → b.toNat < 128) (htrim : Lib.trimSpace sf.data.toList = sf.data.toList) (hlow : Lib.toLowerA sf.data.toList = sf.data.toList) (hsfv : sf = ⟨#[103, 105]⟩) (hb1 : -4611686018427387904 ≤ n * 1024 * 1024 * 1024) (hb2 : n * 1024 * 1024 * 1024 ≤ 4611686018427387904)
    (htb : Tb lab w) (hs : X.Sets (.int (n * 1024 * 1024 * 1024)) X') :
    Calls Tryz.prog 57 #[.pointer (some ⟨K.p, 0, none⟩), .agg #[i64 7, .string xv, i64 xl, i64 xp], .string { data := #[] }] w fun e w' => e = .returned .nilIface ∧ ∃ lab', PAt B lab' w' K X' ∧ Mv PM w lab w' lab' := by
  obtain ⟨lab1, hb, m1⟩ := h.boxed hB 7 xv xl xp
  have HD := Lib.hid hdig
  have HS1 := Lib.hid hstop
  have HS2 := Lib.hid hstop2
  have HA := Lib.hid hasc
  have HT := Lib.hid htrim
  have HL := Lib.hid hlow
  have HF := Lib.hid hsfv
  have HX := Lib.hid hsf
  have HP := Lib.hid hped
  have HAS := Lib.hid hsa
  clear hdig hstop hstop2 hasc htrim hlow hsfv hsf hped hsa
  go_enter Tryz.func57, Tryz.ntmps57
  go_wp2_with fail
  have hWs : (Boxed w K 7 xv xl xp).heap.size = w.heap.size + 1 + 1 + 1 := by unfold Boxed; simp [World.size_alloc]
  have HW := Lib.hid hWs
  clear hWs
  go_loopw [9] (fun i wr => ∃ k : Nat, k ≤ d ∧ i = .int .i64 k ∧ wr = (Boxed w K 7 xv xl xp).iter xv k) (fun i _ => d - (RowKit.intOf i).toNat)
  case atStart => exact ⟨0, Nat.zero_le _, rfl, rfl⟩
  case round =>
    obtain ⟨k, hk, rfl, rfl⟩ := hrel
    have hk2 : k < xv.size := by omega
    have hnx : ∀ ty, (Instr.next (.pointer (some ⟨w.heap.size + 1 + 1 + 1, 0, none⟩)) true ty).run Tryz.prog ((Boxed w K 7 xv xl xp).iter xv k) = .ok (.tuple #[.bool true, .int .i64 k, .int .i32 (byteAt xv k : Nat)]) ((Boxed w K 7 xv xl xp).iter xv (k + 1)) := fun ty => by
      have := run_next_ascii (P := Tryz.prog) (Boxed w K 7 xv xl xp) xv k ty hk2 (by rw [byteAt_get]; exact HA.out k hk2)
      rwa [HW.out, byteAt_get] at this
    have hc := HA.out k hk2
    by_cases hlt : k < d
    · have e1 := HD.out k hlt
      go_wp2_with fail
      refine (isDig_c _ hc _).mono ?_
      rintro e w' ⟨rfl, rfl⟩
      go_wp2
      go_roundw
      case rel => exact ⟨k + 1, by omega, by go_num, rfl⟩
      case measure => simp [RowKit.intOf]; omega
    · obtain rfl : k = d := by omega
      have e1 := HS1.out
      have e2 : (((byteAt xv k : Nat) : Int) == 45) = false := beq_eq_false_iff_ne.2 (by have := HS2.out; omega)
      have e3 : (((byteAt xv k : Nat) : Int) != 45) = true := by rw [bne, e2]; rfl
      go_wp2_with fail
      refine (isDig_c _ hc _).mono ?_
      rintro e w' ⟨rfl, rfl⟩
      have m2 := (iter_mv (Boxed w K 7 xv xl xp) lab1 xv (k + 1))
      have hb2 := hb.mv (hb.pat.mv m2 (fun _ _ h => h)) (m2.mono (fun _ h => h.elim))
      have m2' := m1.trans m2 (fun _ h => h.elim)
      obtain ⟨W, hW⟩ : ∃ W, W = (Boxed w K 7 xv xl xp).iter xv (k + 1) := ⟨_, rfl⟩
      rw [← hW] at hb2 m2 m2' ⊢
      have d1 := hb2.b1.cell 1
      clear hW hb hnx
      go_wp2_with fail
      refine (hpi W).mono ?_
      rintro e w3 ⟨rfl, hbl⟩
      have m3 := Mv.below (M := fun _ => False) hbl (lab1.ext (Boxed w K 7 xv xl xp).heap.size 7) 7
      have hb3 := hb2.mv (hb2.pat.mv m3 (fun _ _ h => h)) (m3.mono (fun _ h => h.elim))
      have m3' := m2'.trans m3 (fun _ h => h.elim)
      have htb3 := htb.mv m3' (by simp [PM])
      have d1 := hb3.b1.cell 1
      have hsl : xv.extract k xv.size = sf := HX.out
      clear hbl m3 hb2 hpi
      go_wp2_with fail
      refine (Tryz.strings_TrimSpace sf w3 (by rw [← hsl]; simp; omega) HAS.out htb3.1).mono ?_
      rintro e w4 ⟨rfl, hw4⟩
      have hbl4 : Below w3.heap.size w3 w4 := by rw [hw4]; exact ⟨rfl, rfl, rfl, by rw [Go.Lib.bytesWorld_size]; omega, fun k hk => Go.Lib.bytesWorld_at_old w3 5 sf k hk⟩
      have m4 := Mv.below (M := fun _ => False) hbl4 ((lab1.ext (Boxed w K 7 xv xl xp).heap.size 7).ext W.heap.size 7) 7
      have hb4 := hb3.mv (hb3.pat.mv m4 (fun _ _ h => h)) (m4.mono (fun _ h => h.elim))
      have m4' := m3'.trans m4 (fun _ h => h.elim)
      rw [HT.out]
      clear hw4 hbl4 m4 hb3 hsl
      go_wp2_with fail
      refine (Tryz.strings_ToLower_ascii ⟨sf.data.toList.toArray⟩ w4 ?_ ?_).mono ?_
      · have := congrArg ByteArray.size HX.out
        simp at this
        show sf.data.toList.toArray.size ≤ _
        simp
        omega
      · simpa using HAS.out
      rintro e w5 ⟨rfl, hbl5⟩
      have m5 := Mv.below (M := fun _ => False) hbl5 (((lab1.ext (Boxed w K 7 xv xl xp).heap.size 7).ext W.heap.size 7).ext w3.heap.size 7) 7
      have hb5 := hb4.mv (hb4.pat.mv m5 (fun _ _ h => h)) (m5.mono (fun _ h => h.elim))
      have m5' := m4'.trans m5 (fun _ h => h.elim)
      have e0 : (⟨(Lib.toLowerA sf.data.toList).toArray⟩ : ByteArray) = ⟨#[103, 105]⟩ := by rw [HL.out, HF.out]
      have d0 := hb5.b0.cell 0
      have d1 := hb5.b1.cell 0
      have d2 := hb5.b1.cell 1
      have d3 := hb5.b1.cell 2
      have d4 := hb5.b1.cell 3
      simp at d0 d1 d2 d3 d4
      simp only [e0]
      clear hbl5 m5 hb4 e0
      go_wp2_with fail
      refine (lay_c hb5.pat hb5.hB HP.out hs 2 _ rfl _ _ hb5.b0 7 xv xl xp).mono ?_
      rintro e w6 ⟨rfl, lab6, h6, m6⟩
      go_wp2
      go_ret
      exact ⟨rfl, lab6, h6, m5'.trans m6 (fun _ h => h)⟩
set_option maxRecDepth 100000 in
set_option maxHeartbeats 4000000 in
theorem item_int_t (h : PAt B lab w K X) (hB : B ≤ w.heap.size) (hped : K.ped = false) (xv : ByteArray) (xl xp : Int) (d : Nat) (hd : d < xv.size) (hsz : xv.size ≤ 1000000)
    (hdig : ∀ i, i < d → isDig (byteAt xv i) = true) (hstop : isDig (byteAt xv d) = false) (hstop2 : byteAt xv d ≠ 45) (hasc : ∀ i, i < xv.size → byteAt xv i < 128) 
    (n : Int) (hpi : ∀ w, Calls Tryz.prog 68 #[.string (xv.extract 0 d), i64 10, i64 64] w fun e w' => e = .returned (.tuple #[.int .i64 n, .nilIface]) ∧ Below w.heap.size w w')
    (sf : ByteArray) (hsf : xv.extract d xv.size = sf) (hsa : ∀ (j : Nat) b, sf.data.toList[j]? = some b → b.toNat < 128) (htrim : Lib.trimSpace sf.data.toList = sf.data.toList) (hlow : Lib.toLowerA sf.data.toList = sf.data.toList) (hsfv : sf = ⟨#[116]⟩) (hb1 : -4611686018427387904 ≤ n * 1000 * 1000 * 1000 * 1000) (hb2 : n * 1000 * 1000 * 1000 * 1000 ≤ 4611686018427387904)
    (htb : Tb lab w) (hs : X.Sets (.int (n * 1000 * 1000 * 1000 * 1000)) X') :
    Calls Tryz.prog 57 #[.pointer (some ⟨K.p, 0, none⟩), .agg #[i64 7, .string xv, i64 xl, i64 xp], .string { data := #[] }] w fun e w' => e = .returned .nilIface ∧ ∃ lab', PAt B lab' w' K X' ∧ Mv PM w lab w' lab' := by
  obtain ⟨lab1, hb, m1⟩ := h.boxed hB 7 xv xl xp
  have HD := Lib.hid hdig
  have HS1 := Lib.hid hstop
  have HS2 := Lib.hid hstop2
  have HA := Lib.hid hasc
  have HT := Lib.hid htrim
  have HL := Lib.hid hlow
  have HF := Lib.hid hsfv
  have HX := Lib.hid hsf
  have HP := Lib.hid hped
  have HAS := Lib.hid hsa
  clear hdig hstop hstop2 hasc htrim hlow hsfv hsf hped hsa
  go_enter Tryz.func57, Tryz.ntmps57
  go_wp2_with fail
  have hWs : (Boxed w K 7 xv xl xp).heap.size = w.heap.size + 1 + 1 + 1 := by unfold Boxed; simp [World.size_alloc]
  have HW := Lib.hid hWs
  clear hWs
  go_loopw [9] (fun i wr => ∃ k : Nat, k ≤ d ∧ i = .int .i64 k ∧ wr = (Boxed w K 7 xv xl xp).iter xv k) (fun i _ => d - (RowKit.intOf i).toNat)
  case atStart => exact ⟨0, Nat.zero_le _, rfl, rfl⟩
  case round =>
    obtain ⟨k, hk, rfl, rfl⟩ := hrel
    have hk2 : k < xv.size := by omega
    have hnx : ∀ ty, (Instr.next (.pointer (some ⟨w.heap.size + 1 + 1 + 1, 0, none⟩)) true ty).run Tryz.prog ((Boxed w K 7 xv xl xp).iter xv k) = .ok (.tuple #[.bool true, .int .i64 k, .int .i32 (byteAt xv k : Nat)]) ((Boxed w K 7 xv xl xp).iter xv (k + 1)) := fun ty => by
      have := run_next_ascii (P := Tryz.prog) (Boxed w K 7 xv xl xp) xv k ty hk2 (by rw [byteAt_get]; exact HA.out k hk2)
      rwa [HW.out, byteAt_get] at this
    have hc := HA.out k hk2
    by_cases hlt : k < d
    · have e1 := HD.out k hlt
      go_wp2_with fail
      refine (isDig_c _ hc _).mono ?_
      rintro e w' ⟨rfl, rfl⟩
      go_wp2
      go_roundw
      case rel => exact ⟨k + 1, by omega, by go_num, rfl⟩
      case measure => simp [RowKit.intOf]; omega
    · obtain rfl : k = d := by omega
      have e1 := HS1.out
      have e2 : (((byteAt xv k : Nat) : Int) == 45) = false := beq_eq_false_iff_ne.2 (by have := HS2.out; omega)
      have e3 : (((byteAt xv k : Nat) : Int) != 45) = true := by rw [bne, e2]; rfl
      go_wp2_with fail
      refine (isDig_c _ hc _).mono ?_
      rintro e w' ⟨rfl, rfl⟩
      have m2 := (iter_mv (Boxed w K 7 xv xl xp) lab1 xv (k + 1))
      have hb2 := hb.mv (hb.pat.mv m2 (fun _ _ h => h)) (m2.mono (fun _ h => h.elim))
      have m2' := m1.trans m2 (fun _ h => h.elim)
      obtain ⟨W, hW⟩ : ∃ W, W = (Boxed w K 7 xv xl xp).iter xv (k + 1) := ⟨_, rfl⟩
      rw [← hW] at hb2 m2 m2' ⊢
      have d1 := hb2.b1.cell 1
      clear hW hb hnx
      go_wp2_with fail
      refine (hpi W).mono ?_
      rintro e w3 ⟨rfl, hbl⟩
      have m3 := Mv.below (M := fun _ => False) hbl (lab1.ext (Boxed w K 7 xv xl xp).heap.size 7) 7
      have hb3 := hb2.mv (hb2.pat.mv m3 (fun _ _ h => h)) (m3.mono (fun _ h => h.elim))
      have m3' := m2'.trans m3 (fun _ h => h.elim)
      have htb3 := htb.mv m3' (by simp [PM])
      have d1 := hb3.b1.cell 1
      have hsl : xv.extract k xv.size = sf := HX.out
      clear hbl m3 hb2 hpi
      go_wp2_with fail
      refine (Tryz.strings_TrimSpace sf w3 (by rw [← hsl]; simp; omega) HAS.out htb3.1).mono ?_
      rintro e w4 ⟨rfl, hw4⟩
      have hbl4 : Below w3.heap.size w3 w4 := by rw [hw4]; exact ⟨rfl, rfl, rfl, by rw [Go.Lib.bytesWorld_size]; omega, fun k hk => Go.Lib.bytesWorld_at_old w3 5 sf k hk⟩
      have m4 := Mv.below (M := fun _ => False) hbl4 ((lab1.ext (Boxed w K 7 xv xl xp).heap.size 7).ext W.heap.size 7) 7
      have hb4 := hb3.mv (hb3.pat.mv m4 (fun _ _ h => h)) (m4.mono (fun _ h => h.elim))
      have m4' := m3'.trans m4 (fun _ h => h.elim)
      rw [HT.out]
      clear hw4 hbl4 m4 hb3 hsl
      go_wp2_with fail
      refine (Tryz.strings_ToLower_ascii ⟨sf.data.toList.toArray⟩ w4 ?_ ?_).mono ?_
      · have := congrArg ByteArray.size HX.out
        simp at this
        show sf.data.toList.toArray.size ≤ _
        simp
        omega
      · simpa using HAS.out
      rintro e w5 ⟨rfl, hbl5⟩
      have m5 := Mv.below (M := fun _ => False) hbl5 (((lab1.ext (Boxed w K 7 xv xl xp).heap.size 7).ext W.heap.size 7).ext w3.heap.size 7) 7
      have hb5 := hb4.mv (hb4.pat.mv m5 (fun _ _ h => h)) (m5.mono (fun _ h => h.elim))
      have m5' := m4'.trans m5 (fun _ h => h.elim)
      have e0 : (⟨(Lib.toLowerA sf.data.toList).toArray⟩ : ByteArray) = ⟨#[116]⟩ := by rw [HL.out, HF.out]
      have d0 := hb5.b0.cell 0
      have d1 := hb5.b1.cell 0
      have d2 := hb5.b1.cell 1
      have d3 := hb5.b1.cell 2
      have d4 := hb5.b1.cell 3
      simp at d0 d1 d2 d3 d4
      simp only [e0]
      clear hbl5 m5 hb4 e0
      go_wp2_with fail
      refine (lay_c hb5.pat hb5.hB HP.out hs 2 _ rfl _ _ hb5.b0 7 xv xl xp).mono ?_
      rintro e w6 ⟨rfl, lab6, h6, m6⟩
      go_wp2
      go_ret
      exact ⟨rfl, lab6, h6, m5'.trans m6 (fun _ h => h)⟩
set_option maxRecDepth 100000 in
set_option maxHeartbeats 4000000 in
theorem item_int_tb (h : PAt B lab w K X) (hB : B ≤ w.heap.size) (hped : K.ped = false) (xv : ByteArray) (xl xp : Int) (d : Nat) (hd : d < xv.size) (hsz : xv.size ≤ 1000000)
    (hdig : ∀ i, i < d → isDig (byteAt xv i) = true) (hstop : isDig (byteAt xv d) = false) (hstop2 : byteAt xv d ≠ 45) (hasc : ∀ i, i < xv.size → byteAt xv i < 128) 
    (n : Int) (hpi : ∀ w, Calls Tryz.prog 68 #[.string (xv.extract 0 d), i64 10, i64 64] w fun e w' => e = .returned (.tuple #[.int .i64 n, .nilIface]) ∧ Below w.heap.size w w')
    (sf : ByteArray) (hsf : xv.extract d xv.size = sf) (hsa : ∀ (j : Nat) b, sf.data.toList[j]? = some b → b.toNat < 128) (htrim : Lib.trimSpace sf.data.toList = sf.data.toList) (hlow : Lib.toLowerA sf.data.toList = sf.data.toList) (hsfv : sf = ⟨#[116, 98]⟩) (hb1 : -4611686018427387904 ≤ n * 1024 * 1024 * 1024 * 1024) (hb2 : n * 1024 * 1024 * 1024 * 1024 ≤ 4611686018427387904)
    (htb : Tb lab w) (hs : X.Sets (.int (n * 1024 * 1024 * 1024 * 1024)) X') :
    Calls Tryz.prog 57 #[.pointer (some ⟨K.p, 0, none⟩), .agg #[i64 7, .string xv, i64 xl, i64 xp], .string { data := #[] }] w fun e w' => e = .returned .nilIface ∧ ∃ lab', PAt B lab' w' K X' ∧ Mv PM w lab w' lab' := by
  obtain ⟨lab1, hb, m1⟩ := h.boxed hB 7 xv xl xp
  have HD := Lib.hid hdig
  have HS1 := Lib.hid hstop
  have HS2 := Lib.hid hstop2
  have HA := Lib.hid hasc
  have HT := Lib.hid htrim
  have HL := Lib.hid hlow
  have HF := Lib.hid hsfv
  have HX := Lib.hid hsf
  have HP := Lib.hid hped
  have HAS := Lib.hid hsa
  clear hdig hstop hstop2 hasc htrim hlow hsfv hsf hped hsa
  go_enter Tryz.func57, Tryz.ntmps57
  go_wp2_with fail
  have hWs : (Boxed w K 7 xv xl xp).heap.size = w.heap.size + 1 + 1 + 1 := by unfold Boxed; simp [World.size_alloc]
  have HW := Lib.hid hWs
  clear hWs
  go_loopw [9] (fun i wr => ∃ k : Nat, k ≤ d ∧ i = .int .i64 k ∧ wr = (Boxed w K 7 xv xl xp).iter xv k) (fun i _ => d - (RowKit.intOf i).toNat)
  case atStart => exact ⟨0, Nat.zero_le _, rfl, rfl⟩
  case round =>
    obtain ⟨k, hk, rfl, rfl⟩ := hrel
    have hk2 : k < xv.size := by omega
    have hnx : ∀ ty, (Instr.next (.pointer (some ⟨w.heap.size + 1 + 1 + 1, 0, none⟩)) true ty).run Tryz.prog ((Boxed w K 7 xv xl xp).iter xv k) = .ok (.tuple #[.bool true, .int .i64 k, .int .i32 (byteAt xv k : Nat)]) ((Boxed w K 7 xv xl xp).iter xv (k + 1)) := fun ty => by
      have := run_next_ascii (P := Tryz.prog) (Boxed w K 7 xv xl xp) xv k ty hk2 (by rw [byteAt_get]; exact HA.out k hk2)
      rwa [HW.out, byteAt_get] at this
    have hc := HA.out k hk2
    by_cases hlt : k < d
    · have e1 := HD.out k hlt
      go_wp2_with fail
      refine (isDig_c _ hc _).mono ?_
      rintro e w' ⟨rfl, rfl⟩
      go_wp2
      go_roundw
      case rel => exact ⟨k + 1, by omega, by go_num, rfl⟩
      case measure => simp [RowKit.intOf]; omega
    · obtain rfl : k = d := by omega
      have e1 := HS1.out
      have e2 : (((byteAt xv k : Nat) : Int) == 45) = false := beq_eq_false_iff_ne.2 (by have := HS2.out; omega)
      have e3 : (((byteAt xv k : Nat) : Int) != 45) = true := by rw [bne, e2]; rfl
      go_wp2_with fail
      refine (isDig_c _ hc _).mono ?_
      rintro e w' ⟨rfl, rfl⟩
      have m2 := (iter_mv (Boxed w K 7 xv xl xp) lab1 xv (k + 1))
      have hb2 := hb.mv (hb.pat.mv m2 (fun _ _ h => h)) (m2.mono (fun _ h => h.elim))
      have m2' := m1.trans m2 (fun _ h => h.elim)
      obtain ⟨W, hW⟩ : ∃ W, W = (Boxed w K 7 xv xl xp).iter xv (k + 1) := ⟨_, rfl⟩
      rw [← hW] at hb2 m2 m2' ⊢
      have d1 := hb2.b1.cell 1
      clear hW hb hnx
      go_wp2_with fail
      refine (hpi W).mono ?_
      rintro e w3 ⟨rfl, hbl⟩
      have m3 := Mv.below (M := fun _ => False) hbl (lab1.ext (Boxed w K 7 xv xl xp).heap.size 7) 7
      have hb3 := hb2.mv (hb2.pat.mv m3 (fun _ _ h => h)) (m3.mono (fun _ h => h.elim))
      have m3' := m2'.trans m3 (fun _ h => h.elim)
      have htb3 := htb.mv m3' (by simp [PM])
      have d1 := hb3.b1.cell 1
      have hsl : xv.extract k xv.size = sf := HX.out
      clear hbl m3 hb2 hpi
      go_wp2_with fail
      refine (Tryz.strings_TrimSpace sf w3 (by rw [← hsl]; simp; omega) HAS.out htb3.1).mono ?_
      rintro e w4 ⟨rfl, hw4⟩
      have hbl4 : Below w3.heap.size w3 w4 := by rw [hw4]; exact ⟨rfl, rfl, rfl, by rw [Go.Lib.bytesWorld_size]; omega, fun k hk => Go.Lib.bytesWorld_at_old w3 5 sf k hk⟩
      have m4 := Mv.below (M := fun _ => False) hbl4 ((lab1.ext (Boxed w K 7 xv xl xp).heap.size 7).ext W.heap.size 7) 7
      have hb4 := hb3.mv (hb3.pat.mv m4 (fun _ _ h => h)) (m4.mono (fun _ h => h.elim))
      have m4' := m3'.trans m4 (fun _ h => h.elim)
      rw [HT.out]
      clear hw4 hbl4 m4 hb3 hsl
      go_wp2_with fail
      refine (Tryz.strings_ToLower_ascii ⟨sf.data.toList.toArray⟩ w4 ?_ ?_).mono ?_
      · have := congrArg ByteArray.size HX.out
        simp at this
        show sf.data.toList.toArray.size ≤ _
        simp
        omega
      · simpa using HAS.out
      rintro e w5 ⟨rfl, hbl5⟩
      have m5 := Mv.below (M := fun _ => False) hbl5 (((lab1.ext (Boxed w K 7 xv xl xp).heap.size 7).ext W.heap.size 7).ext w3.heap.size 7) 7
      have hb5 := hb4.mv (hb4.pat.mv m5 (fun _ _ h => h)) (m5.mono (fun _ h => h.elim))
      have m5' := m4'.trans m5 (fun _ h => h.elim)
      have e0 : (⟨(Lib.toLowerA sf.data.toList).toArray⟩ : ByteArray) = ⟨#[116, 98]⟩ := by rw [HL.out, HF.out]
      have d0 := hb5.b0.cell 0
      have d1 := hb5.b1.cell 0
      have d2 := hb5.b1.cell 1
      have d3 := hb5.b1.cell 2
      have d4 := hb5.b1.cell 3
      simp at d0 d1 d2 d3 d4
      simp only [e0]
      clear hbl5 m5 hb4 e0
      go_wp2_with fail
      refine (lay_c hb5.pat hb5.hB HP.out hs 2 _ rfl _ _ hb5.b0 7 xv xl xp).mono ?_
      rintro e w6 ⟨rfl, lab6, h6, m6⟩
      go_wp2
      go_ret
      exact ⟨rfl, lab6, h6, m5'.trans m6 (fun _ h => h)⟩
set_option maxRecDepth 100000 in
set_option maxHeartbeats 4000000 in
theorem item_int_tib (h : PAt B lab w K X) (hB : B ≤ w.heap.size) (hped : K.ped = false) (xv : ByteArray) (xl xp : Int) (d : Nat) (hd : d < xv.size) (hsz : xv.size ≤ 1000000)
    (hdig : ∀ i, i < d → isDig (byteAt xv i) = true) (hstop : isDig (byteAt xv d) = false) (hstop2 : byteAt xv d ≠ 45) (hasc : ∀ i, i < xv.size → byteAt xv i < 128) 
    (n : Int) (hpi : ∀ w, Calls Tryz.prog 68 #[.string (xv.extract 0 d), i64 10, i64 64] w fun e w' => e = .returned (.tuple #[.int .i64 n, .nilIface]) ∧ Below w.heap.size w w')
    (sf : ByteArray) (hsf : xv.extract d xv.size = sf) (hsa : ∀ (j : Nat) b, sf.data.toList[j]? = some b → b.toNat < 128) (htrim : Lib.trimSpace sf.data.toList = sf.data.toList) (hlow : Lib.toLowerA sf.data.toList = sf.data.toList) (hsfv : sf = ⟨#[116, 105, 98]⟩) (hb1 : -4611686018427387904 ≤ n * 1024 * 1024 * 1024 * 1024) (hb2 : n * 1024 * 1024 * 1024 * 1024 ≤ 4611686018427387904)
    (htb : Tb lab w) (hs : X.Sets (.int (n * 1024 * 1024 * 1024 * 1024)) X') :
    Calls Tryz.prog 57 #[.pointer (some ⟨K.p, 0, none⟩), .agg #[i64 7, .string xv, i64 xl, i64 xp], .string { data := #[] }] w fun e w' => e = .returned .nilIface ∧ ∃ lab', PAt B lab' w' K X' ∧ Mv PM w lab w' lab' := by
  obtain ⟨lab1, hb, m1⟩ := h.boxed hB 7 xv xl xp
  have HD := Lib.hid hdig
  have HS1 := Lib.hid hstop
  have HS2 := Lib.hid hstop2
  have HA := Lib.hid hasc
  have HT := Lib.hid htrim
  have HL := Lib.hid hlow
  have HF := Lib.hid hsfv
  have HX := Lib.hid hsf
  have HP := Lib.hid hped
  have HAS := Lib.hid hsa
  clear hdig hstop hstop2 hasc htrim hlow hsfv hsf hped hsa
  go_enter Tryz.func57, Tryz.ntmps57
  go_wp2_with fail
  have hWs : (Boxed w K 7 xv xl xp).heap.size = w.heap.size + 1 + 1 + 1 := by unfold Boxed; simp [World.size_alloc]
  have HW := Lib.hid hWs
  clear hWs
  go_loopw [9] (fun i wr => ∃ k : Nat, k ≤ d ∧ i = .int .i64 k ∧ wr = (Boxed w K 7 xv xl xp).iter xv k) (fun i _ => d - (RowKit.intOf i).toNat)
  case atStart => exact ⟨0, Nat.zero_le _, rfl, rfl⟩
  case round =>
    obtain ⟨k, hk, rfl, rfl⟩ := hrel
    have hk2 : k < xv.size := by omega
    have hnx : ∀ ty, (Instr.next (.pointer (some ⟨w.heap.size + 1 + 1 + 1, 0, none⟩)) true ty).run Tryz.prog ((Boxed w K 7 xv xl xp).iter xv k) = .ok (.tuple #[.bool true, .int .i64 k, .int .i32 (byteAt xv k : Nat)]) ((Boxed w K 7 xv xl xp).iter xv (k + 1)) := fun ty => by
      have := run_next_ascii (P := Tryz.prog) (Boxed w K 7 xv xl xp) xv k ty hk2 (by rw [byteAt_get]; exact HA.out k hk2)
      rwa [HW.out, byteAt_get] at this
    have hc := HA.out k hk2
    by_cases hlt : k < d
    · have e1 := HD.out k hlt
      go_wp2_with fail
      refine (isDig_c _ hc _).mono ?_
      rintro e w' ⟨rfl, rfl⟩
      go_wp2
      go_roundw
      case rel => exact ⟨k + 1, by omega, by go_num, rfl⟩
      case measure => simp [RowKit.intOf]; omega
    · obtain rfl : k = d := by omega
      have e1 := HS1.out
      have e2 : (((byteAt xv k : Nat) : Int) == 45) = false := beq_eq_false_iff_ne.2 (by have := HS2.out; omega)
      have e3 : (((byteAt xv k : Nat) : Int) != 45) = true := by rw [bne, e2]; rfl
      go_wp2_with fail
      refine (isDig_c _ hc _).mono ?_
      rintro e w' ⟨rfl, rfl⟩
      have m2 := (iter_mv (Boxed w K 7 xv xl xp) lab1 xv (k + 1))
      have hb2 := hb.mv (hb.pat.mv m2 (fun _ _ h => h)) (m2.mono (fun _ h => h.elim))
      have m2' := m1.trans m2 (fun _ h => h.elim)
      obtain ⟨W, hW⟩ : ∃ W, W = (Boxed w K 7 xv xl xp).iter xv (k + 1) := ⟨_, rfl⟩
      rw [← hW] at hb2 m2 m2' ⊢
      have d1 := hb2.b1.cell 1
      clear hW hb hnx
      go_wp2_with fail
      refine (hpi W).mono ?_
      rintro e w3 ⟨rfl, hbl⟩
      have m3 := Mv.below (M := fun _ => False) hbl (lab1.ext (Boxed w K 7 xv xl xp).heap.size 7) 7
      have hb3 := hb2.mv (hb2.pat.mv m3 (fun _ _ h => h)) (m3.mono (fun _ h => h.elim))
      have m3' := m2'.trans m3 (fun _ h => h.elim)
      have htb3 := htb.mv m3' (by simp [PM])
      have d1 := hb3.b1.cell 1
      have hsl : xv.extract k xv.size = sf := HX.out
      clear hbl m3 hb2 hpi
      go_wp2_with fail
      refine (Tryz.strings_TrimSpace sf w3 (by rw [← hsl]; simp; omega) HAS.out htb3.1).mono ?_
      rintro e w4 ⟨rfl, hw4⟩
      have hbl4 : Below w3.heap.size w3 w4 := by rw [hw4]; exact ⟨rfl, rfl, rfl, by rw [Go.Lib.bytesWorld_size]; omega, fun k hk => Go.Lib.bytesWorld_at_old w3 5 sf k hk⟩
      have m4 := Mv.below (M := fun _ => False) hbl4 ((lab1.ext (Boxed w K 7 xv xl xp).heap.size 7).ext W.heap.size 7) 7
      have hb4 := hb3.mv (hb3.pat.mv m4 (fun _ _ h => h)) (m4.mono (fun _ h => h.elim))
      have m4' := m3'.trans m4 (fun _ h => h.elim)
      rw [HT.out]
      clear hw4 hbl4 m4 hb3 hsl
      go_wp2_with fail
      refine (Tryz.strings_ToLower_ascii ⟨sf.data.toList.toArray⟩ w4 ?_ ?_).mono ?_
      · have := congrArg ByteArray.size HX.out
        simp at this
        show sf.data.toList.toArray.size ≤ _
        simp
        omega
      · simpa using HAS.out
      rintro e w5 ⟨rfl, hbl5⟩
      have m5 := Mv.below (M := fun _ => False) hbl5 (((lab1.ext (Boxed w K 7 xv xl xp).heap.size 7).ext W.heap.size 7).ext w3.heap.size 7) 7
      have hb5 := hb4.mv (hb4.pat.mv m5 (fun _ _ h => h)) (m5.mono (fun _ h => h.elim))
      have m5' := m4'.trans m5 (fun _ h => h.elim)
      have e0 : (⟨(Lib.toLowerA sf.data.toList).toArray⟩ : ByteArray) = ⟨#[116, 105, 98]⟩ := by rw [HL.out, HF.out]
      have d0 := hb5.b0.cell 0
      have d1 := hb5.b1.cell 0
      have d2 := hb5.b1.cell 1
      have d3 := hb5.b1.cell 2
      have d4 := hb5.b1.cell 3
      simp at d0 d1 d2 d3 d4
      simp only [e0]
      clear hbl5 m5 hb4 e0
      go_wp2_with fail
      refine (lay_c hb5.pat hb5.hB HP.out hs 2 _ rfl _ _ hb5.b0 7 xv xl xp).mono ?_
      rintro e w6 ⟨rfl, lab6, h6, m6⟩
      go_wp2
      go_ret
      exact ⟨rfl, lab6, h6, m5'.trans m6 (fun _ h => h)⟩
set_option maxRecDepth 100000 in
set_option maxHeartbeats 4000000 in
theorem item_int_ti (h : PAt B lab w K X) (hB : B ≤ w.heap.size) (hped : K.ped = false) (xv : ByteArray) (xl xp : Int) (d : Nat) (hd : d < xv.size) (hsz : xv.size ≤ 1000000)
    (hdig : ∀ i, i < d → isDig (byteAt xv i) = true) (hstop : isDig (byteAt xv d) = false) (hstop2 : byteAt xv d ≠ 45) (hasc : ∀ i, i < xv.size → byteAt xv i < 128) 
    (n : Int) (hpi : ∀ w, Calls Tryz.prog 68 #[.string (xv.extract 0 d), i64 10, i64 64] w fun e w' => e = .returned (.tuple #[.int .i64 n, .nilIface]) ∧ Below w.heap.size w w')
    (sf : ByteArray) (hsf : xv.extract d xv.size = sf) (hsa : ∀ (j : Nat) b, sf.data.toList[j]? = some b → b.toNat < 128) (htrim : Lib.trimSpace sf.data.toList = sf.data.toList) (hlow : Lib.toLowerA sf.data.toList = sf.data.toList) (hsfv : sf = ⟨#[116, 105]⟩) (hb1 : -4611686018427387904 ≤ n * 1024 * 1024 * 1024 * 1024) (hb2 : n * 1024 * 1024 * 1024 * 1024 ≤ 4611686018427387904)
    (htb : Tb lab w) (hs : X.Sets (.int (n * 1024 * 1024 * 1024 * 1024)) X') :
    Calls Tryz.prog 57 #[.pointer (some ⟨K.p, 0, none⟩), .agg #[i64 7, .string xv, i64 xl, i64 xp], .string { data := #[] }] w fun e w' => e = .returned .nilIface ∧ ∃ lab', PAt B lab' w' K X' ∧ Mv PM w lab w' lab' := by
  obtain ⟨lab1, hb, m1⟩ := h.boxed hB 7 xv xl xp
  have HD := Lib.hid hdig
  have HS1 := Lib.hid hstop
  have HS2 := Lib.hid hstop2
  have HA := Lib.hid hasc
  have HT := Lib.hid htrim
  have HL := Lib.hid hlow
  have HF := Lib.hid hsfv
  have HX := Lib.hid hsf
  have HP := Lib.hid hped
  have HAS := Lib.hid hsa
  clear hdig hstop hstop2 hasc htrim hlow hsfv hsf hped hsa
  go_enter Tryz.func57, Tryz.ntmps57
  go_wp2_with fail
  have hWs : (Boxed w K 7 xv xl xp).heap.size = w.heap.size + 1 + 1 + 1 := by unfold Boxed; simp [World.size_alloc]
  have HW := Lib.hid hWs
  clear hWs
  go_loopw [9] (fun i wr => ∃ k : Nat, k ≤ d ∧ i = .int .i64 k ∧ wr = (Boxed w K 7 xv xl xp).iter xv k) (fun i _ => d - (RowKit.intOf i).toNat)
  case atStart => exact ⟨0, Nat.zero_le _, rfl, rfl⟩
  case round =>
    obtain ⟨k, hk, rfl, rfl⟩ := hrel
    have hk2 : k < xv.size := by omega
    have hnx : ∀ ty, (Instr.next (.pointer (some ⟨w.heap.size + 1 + 1 + 1, 0, none⟩)) true ty).run Tryz.prog ((Boxed w K 7 xv xl xp).iter xv k) = .ok (.tuple #[.bool true, .int .i64 k, .int .i32 (byteAt xv k : Nat)]) ((Boxed w K 7 xv xl xp).iter xv (k + 1)) := fun ty => by
      have := run_next_ascii (P := Tryz.prog) (Boxed w K 7 xv xl xp) xv k ty hk2 (by rw [byteAt_get]; exact HA.out k hk2)
      rwa [HW.out, byteAt_get] at this
    have hc := HA.out k hk2
    by_cases hlt : k < d
    · have e1 := HD.out k hlt
      go_wp2_with fail
      refine (isDig_c _ hc _).mono ?_
      rintro e w' ⟨rfl, rfl⟩
      go_wp2
      go_roundw
      case rel => exact ⟨k + 1, by omega, by go_num, rfl⟩
      case measure => simp [RowKit.intOf]; omega
    · obtain rfl : k = d := by omega
      have e1 := HS1.out
      have e2 : (((byteAt xv k : Nat) : Int) == 45) = false := beq_eq_false_iff_ne.2 (by have := HS2.out; omega)
      have e3 : (((byteAt xv k : Nat) : Int) != 45) = true := by rw [bne, e2]; rfl
      go_wp2_with fail
      refine (isDig_c _ hc _).mono ?_
      rintro e w' ⟨rfl, rfl⟩
      have m2 := (iter_mv (Boxed w K 7 xv xl xp) lab1 xv (k + 1))
      have hb2 := hb.mv (hb.pat.mv m2 (fun _ _ h => h)) (m2.mono (fun _ h => h.elim))
      have m2' := m1.trans m2 (fun _ h => h.elim)
      obtain ⟨W, hW⟩ : ∃ W, W = (Boxed w K 7 xv xl xp).iter xv (k + 1) := ⟨_, rfl⟩
      rw [← hW] at hb2 m2 m2' ⊢
      have d1 := hb2.b1.cell 1
      clear hW hb hnx
      go_wp2_with fail
      refine (hpi W).mono ?_
      rintro e w3 ⟨rfl, hbl⟩
      have m3 := Mv.below (M := fun _ => False) hbl (lab1.ext (Boxed w K 7 xv xl xp).heap.size 7) 7
      have hb3 := hb2.mv (hb2.pat.mv m3 (fun _ _ h => h)) (m3.mono (fun _ h => h.elim))
      have m3' := m2'.trans m3 (fun _ h => h.elim)
      have htb3 := htb.mv m3' (by simp [PM])
      have d1 := hb3.b1.cell 1
      have hsl : xv.extract k xv.size = sf := HX.out
      clear hbl m3 hb2 hpi
      go_wp2_with fail
      refine (Tryz.strings_TrimSpace sf w3 (by rw [← hsl]; simp; omega) HAS.out htb3.1).mono ?_
      rintro e w4 ⟨rfl, hw4⟩
      have hbl4 : Below w3.heap.size w3 w4 := by rw [hw4]; exact ⟨rfl, rfl, rfl, by rw [Go.Lib.bytesWorld_size]; omega, fun k hk => Go.Lib.bytesWorld_at_old w3 5 sf k hk⟩
      have m4 := Mv.below (M := fun _ => False) hbl4 ((lab1.ext (Boxed w K 7 xv xl xp).heap.size 7).ext W.heap.size 7) 7
      have hb4 := hb3.mv (hb3.pat.mv m4 (fun _ _ h => h)) (m4.mono (fun _ h => h.elim))
      have m4' := m3'.trans m4 (fun _ h => h.elim)
      rw [HT.out]
      clear hw4 hbl4 m4 hb3 hsl
      go_wp2_with fail
      refine (Tryz.strings_ToLower_ascii ⟨sf.data.toList.toArray⟩ w4 ?_ ?_).mono ?_
      · have := congrArg ByteArray.size HX.out
        simp at this
        show sf.data.toList.toArray.size ≤ _
        simp
        omega
      · simpa using HAS.out
      rintro e w5 ⟨rfl, hbl5⟩
      have m5 := Mv.below (M := fun _ => False) hbl5 (((lab1.ext (Boxed w K 7 xv xl xp).heap.size 7).ext W.heap.size 7).ext w3.heap.size 7) 7
      have hb5 := hb4.mv (hb4.pat.mv m5 (fun _ _ h => h)) (m5.mono (fun _ h => h.elim))
      have m5' := m4'.trans m5 (fun _ h => h.elim)
      have e0 : (⟨(Lib.toLowerA sf.data.toList).toArray⟩ : ByteArray) = ⟨#[116, 105]⟩ := by rw [HL.out, HF.out]
      have d0 := hb5.b0.cell 0
      have d1 := hb5.b1.cell 0
      have d2 := hb5.b1.cell 1
      have d3 := hb5.b1.cell 2
      have d4 := hb5.b1.cell 3
      simp at d0 d1 d2 d3 d4
      simp only [e0]
      clear hbl5 m5 hb4 e0
      go_wp2_with fail
      refine (lay_c hb5.pat hb5.hB HP.out hs 2 _ rfl _ _ hb5.b0 7 xv xl xp).mono ?_
      rintro e w6 ⟨rfl, lab6, h6, m6⟩
      go_wp2
      go_ret
      exact ⟨rfl, lab6, h6, m5'.trans m6 (fun _ h => h)⟩
end
end Go.Cf

/-
  The parser runs: item after item.
-/
namespace Go.Cf
open Go.RowKit Go.Conc Go.Proofs
/-- processItem at x turns X into X'. -/
def Works (K : PK) (X : PX) (x : It) (X' : PX) : Prop :=
  ∀ (B : Nat) (lab : Lab) (w : World), B ≤ w.heap.size → PAt B lab w K X → Tb lab w →
    Calls Tryz.prog 57 #[.pointer (some ⟨K.p, 0, none⟩), x.v, .string { data := #[] }] w fun e w' => e = .returned .nilIface ∧ ∃ lab', PAt B lab' w' K X' ∧ Mv PM w lab w' lab'
/-- A text's items, one after another, up to its end; 'prev' is the item before. -/
inductive Feeds (K : PK) : PX → It → PX → Prop
  | eof {n : Nat} {X : PX} {L' : LX} {x prev : It} {q : List It} (R : Run n X.L L') (hx : L'.q = x :: q) (ht : x.typ = 2) (hp : prev.typ ≠ 3) : Feeds K X prev { X with L := L'.took q }
  | step {n : Nat} {X X2 X' : PX} {L' : LX} {x prev : It} {q : List It} (R : Run n X.L L') (hx : L'.q = x :: q) (ht : x.typ ≠ 2) (hw : Works K { X with L := L'.took q } x X2) (h : Feeds K X2 x X') : Feeds K X prev X'
section
variable {B : Nat} {lab lab1 : Lab} {w w1 : World} {K : PK} {X X' : PX}
/-- Between two rounds. -/
def PI (B : Nat) (lab0 : Lab) (w0 : World) (K : PK) (r : Nat) (X : PX) (prev : It) (a : Act) (w : World) : Prop :=
  (∃ t2 t3 t6 t7 t8 t9 t10 t11 t12 t13 t14 t15 t16 t17 t18 t19 t20 t21 t22 t23 t24 t25 t26 t27 t28 t29 t30 t31 t32 t33 t34 t35 t36 : Value, a = { tmps := #[.pointer (some ⟨K.p, 0, none⟩), .string { data := #[] }, t2, t3, .nilIface, .pointer (some ⟨r, 0, none⟩), t6, t7, t8, t9, t10, t11, t12, t13, t14, t15, t16, t17, t18, t19, t20, t21, t22, t23, t24, t25, t26, t27, t28, t29, t30, t31, t32, t33, t34, t35, t36], defers := [] }) ∧
  ∃ lab, PAt B lab w K X ∧ B ≤ w.heap.size ∧ Tb lab w ∧ Cl 7 lab w r #[i64 prev.typ, .string prev.val, i64 prev.line, i64 prev.pos] 98 ∧ Mv PM w0 lab0 w lab
theorem wpL_feeds {P : Program} {Q : Exit → Act → World → Prop} {c : Code} {I : PX → It → Act → World → Prop} {prev : It} {a : Act} (F : Feeds K X prev X') (hI : I X prev a w)
    (heof : ∀ (n : Nat) (X : PX) (L' : LX) (x prev : It) (q : List It) (a : Act) (w : World), Run n X.L L' → L'.q = x :: q → x.typ = 2 → prev.typ ≠ 3 → X' = { X with L := L'.took q } → I X prev a w → wpN P c (Exit.then (fun _ _ => False) Q) a w)
    (hstep : ∀ (n : Nat) (X X2 : PX) (L' : LX) (x prev : It) (q : List It) (a : Act) (w : World), Run n X.L L' → L'.q = x :: q → x.typ ≠ 2 → Works K { X with L := L'.took q } x X2 → I X prev a w → wpN P c (Exit.then (I X2 x) Q) a w) : wpL P c Q a w := by
  induction F generalizing a w with
  | eof R hx ht hp => exact wpL_round (wpN_mono (heof _ _ _ _ _ _ _ _ R hx ht hp rfl hI) (fun e a w q => by cases e <;> first | exact q | exact q.elim))
  | step R hx ht hw _ ih => exact wpL_round (wpN_mono (hstep _ _ _ _ _ _ _ _ _ R hx ht hw hI) (fun e a w q => by cases e <;> first | exact q | exact ih q heof))
theorem PAt.c0 (h : PAt B lab w K X) : w.cell? ⟨K.p, 0, none⟩ = some (.map (some K.mp)) := by
  obtain ⟨top, cv, kv, vs, h⟩ := h
  exact h.cl.cell 0
set_option maxRecDepth 100000 in
set_option maxHeartbeats 4000000 in
theorem parse48_c {s : ByteArray} {c : Nat} (h : NewP B lab w K s c) (hB : B ≤ w.heap.size) (htb : Tb lab w) (F : Feeds K ⟨LX.new s c, [.map []], []⟩ ⟨0, { data := #[] }, 0, 0⟩ X') :
    Calls Tryz.prog 48 #[.pointer (some ⟨K.p, 0, none⟩), .string { data := #[] }] w fun e w' => e = .returned .nilIface ∧ ∃ lab', PAt B lab' w' K X' ∧ Mv PM w lab w' lab' := by
  have c0 := h.1.c0
  refine calls_of_wpN Tryz.func48 rfl ?_
  simp only [Tryz.ntmps48, List.size_toArray, List.length_cons, List.length_nil, Nat.reduceAdd, Nat.reduceSub, Array.replicate_succ, Array.replicate_zero, List.push_toArray, List.append_toArray, List.nil_append, List.cons_append]
  refine wpN_seq_k (fun K0 hK0 => ?_)
  go_wp2
  refine wpN_seq_k (fun K1 hK1 => ?_)
  go_wp2_with fail
  refine (pushContext_c h.1 hB (by simp) (.map []) 61 (.map (some K.mp)) ⟨K.mp, [], rfl, h.2.1, rfl, trivial⟩ (fun _ => rfl)).mono ?_
  rintro e w1 ⟨rfl, lab1, hp1, m1⟩
  go_wp2
  refine wpN_seq_k (fun K2 hK2 => ?_)
  go_wp2
  have hz : Cl 7 (lab1.ext w1.heap.size 7) (w1.alloc Zero98) w1.heap.size #[i64 0, .string { data := #[] }, i64 0, i64 0] 98 := Cl.alloc _ _ _ _ _
  have mz : Mv (fun _ => False) w1 lab1 (w1.alloc Zero98) (lab1.ext w1.heap.size 7) := Mv.alloc _ _ _ _
  have hpz := hp1.alloc7 Zero98
  have mmz := m1.trans mz (fun _ h => h.elim)
  have htz := htb.mv mmz (by simp [PM])
  have hBz : B ≤ (w1.alloc Zero98).heap.size := Nat.le_trans hB mmz.size
  obtain ⟨W, hW⟩ : ∃ W, W = w1.alloc Zero98 := ⟨_, rfl⟩
  have hW2 : w1.alloc (Obj.cells #[Value.int IntKind.i64 0, Value.string { data := #[] }, Value.int IntKind.i64 0, Value.int IntKind.i64 0] 98) = W := hW.symm
  rw [← hW] at hz hpz mmz htz hBz
  rw [hW2]
  obtain ⟨r, hr⟩ : ∃ r, r = w1.heap.size := ⟨_, rfl⟩
  rw [← hr] at hz hpz mmz htz ⊢
  have hwr : w.heap.size ≤ r := by rw [hr]; exact m1.size
  clear hr hW hW2
  refine wpN_seq (wpN_block (wpL.loop ?_))
  refine wpL_feeds (I := PI B lab w K r) F ⟨⟨_, _, _, _, _, _, _, _, _, _, _, _, _, _, _, _, _, _, _, _, _, _, _, _, _, _, _, _, _, _, _, _, _, rfl⟩, _, hpz, hBz, htz, hz, mmz⟩ ?_ ?_
  · rintro n X L' ⟨xt, xv, xl, xp⟩ prev q a w2 R hx ht hp hX ⟨⟨t2, t3, t6, t7, t8, t9, t10, t11, t12, t13, t14, t15, t16, t17, t18, t19, t20, t21, t22, t23, t24, t25, t26, t27, t28, t29, t30, t31, t32, t33, t34, t35, t36, rfl⟩, lab2, hp2, hB2, ht2, hz2, mm2⟩
    obtain ⟨pt, pv, pl, pp⟩ := prev
    obtain rfl : xt = 2 := ht
    refine wpN_of_wp ?_
    go_wp2_with fail
    refine (next_item_c hp2 R hx).mono ?_
    rintro e w3 ⟨rfl, lab3, hp3, m3⟩
    have hz3 := hz2.mv m3 (by simp [PM])
    have d0 : w3.cell? ⟨r, 0, none⟩ = some (i64 pt) := hz3.cell 0
    have e0 : ∀ o, (w3.alloc o).cell? ⟨r, 0, none⟩ = some (i64 pt) := fun o => (World.cell?_alloc_lt w3 o _ (World.block_lt_of_cell? w3 _ d0)).trans d0
    have e1 : (((pt : Nat) : Int) == 3) = false := beq_eq_false_iff_ne.2 (by have h3 : pt ≠ 3 := hp; omega)
    have hp4 := hp3.alloc7 (.cells #[i64 (2 : Nat), .string xv, i64 xl, i64 xp] 98)
    have m4 := (mm2.trans m3 (fun _ h => h)).trans (Mv.alloc (M := fun _ => False) w3 lab3 (.cells #[i64 (2 : Nat), .string xv, i64 xl, i64 xp] 98) 7) (fun _ h => h.elim)
    have HX := Lib.hid hX
    have HP := Lib.hid hp
    try simp only [It.v]
    clear d0 hX hp hx
    go_wp2
    refine wpN_of_wp ?_
    go_wp2
    go_ret
    exact ⟨rfl, _, by rw [HX.out]; exact hp4, m4⟩
  · rintro n X X2 L' ⟨xt, xv, xl, xp⟩ prev q a w2 R hx ht hw ⟨⟨t2, t3, t6, t7, t8, t9, t10, t11, t12, t13, t14, t15, t16, t17, t18, t19, t20, t21, t22, t23, t24, t25, t26, t27, t28, t29, t30, t31, t32, t33, t34, t35, t36, rfl⟩, lab2, hp2, hB2, ht2, hz2, mm2⟩
    obtain ⟨pt, pv, pl, pp⟩ := prev
    have e1 : (((xt : Nat) : Int) == 2) = false := beq_eq_false_iff_ne.2 (by have h3 : xt ≠ 2 := ht; omega)
    refine wpN_of_wp ?_
    go_wp2_with fail
    refine (next_item_c hp2 R hx).mono ?_
    rintro e w3 ⟨rfl, lab3, hp3, m3⟩
    have hz3 := hz2.mv m3 (by simp [PM])
    have d0 : w3.cell? ⟨r, 0, none⟩ = some (i64 pt) := hz3.cell 0
    have d1 : w3.cell? ⟨r, 1, none⟩ = some (.string pv) := hz3.cell 1
    have d2 : w3.cell? ⟨r, 2, none⟩ = some (i64 pl) := hz3.cell 2
    have d3 : w3.cell? ⟨r, 3, none⟩ = some (i64 pp) := hz3.cell 3
    have f0 := hz3.free 0
    have f1 := hz3.free 1
    have f2 := hz3.free 2
    have f3 := hz3.free 3
    have hlt3 := lt_of_block hz3.1
    have hne : r ≠ w3.heap.size := by omega
    have HT := Lib.hid ht
    have HX := Lib.hid hx
    try simp only [It.v]
    clear ht hx
    go_wp2_with fail
    have m7 : Mv (· = 7) w3 lab3 ((((w3.setCell ⟨r, 0, none⟩ (i64 xt)).setCell ⟨r, 1, none⟩ (.string xv)).setCell ⟨r, 2, none⟩ (i64 xl)).setCell ⟨r, 3, none⟩ (i64 xp)) lab3 :=
      (((Mv.setCell _ _ _ _ hz3.2).trans (Mv.setCell _ _ _ _ hz3.2) (fun _ h => h)).trans (Mv.setCell _ _ _ _ hz3.2) (fun _ h => h)).trans (Mv.setCell _ _ _ _ hz3.2) (fun _ h => h)
    have hp4 := hp3.mv m7 (fun x hx e => hx e)
    have mm3 := mm2.trans m3 (fun _ h => h)
    have HM : Mv PM w lab ((((w3.setCell ⟨r, 0, none⟩ (i64 xt)).setCell ⟨r, 1, none⟩ (.string xv)).setCell ⟨r, 2, none⟩ (i64 xl)).setCell ⟨r, 3, none⟩ (i64 xp)) lab3 := by
      refine ⟨mm3.os, mm3.tape, mm3.output, Nat.le_trans mm3.size m7.size, fun k hk hn => ?_, mm3.lab⟩
      refine Eq.trans ?_ (mm3.block k hk hn)
      have hne : k ≠ r := by omega
      rw [Below.heap_setCell _ _ _ _ hne, Below.heap_setCell _ _ _ _ hne, Below.heap_setCell _ _ _ _ hne, Below.heap_setCell _ _ _ _ hne]
    have hz4 : Cl 7 lab3 ((((w3.setCell ⟨r, 0, none⟩ (i64 xt)).setCell ⟨r, 1, none⟩ (.string xv)).setCell ⟨r, 2, none⟩ (i64 xl)).setCell ⟨r, 3, none⟩ (i64 xp)) r #[i64 xt, .string xv, i64 xl, i64 xp] 98 := (((hz3.set 0 (i64 xt)).set 1 (.string xv)).set 2 (i64 xl)).set 3 (i64 xp)
    have ht4 := (ht2.mv m3 (by simp [PM])).mv m7 (by decide)
    obtain ⟨W4, hW4⟩ : ∃ W4, W4 = ((((w3.setCell ⟨r, 0, none⟩ (i64 xt)).setCell ⟨r, 1, none⟩ (.string xv)).setCell ⟨r, 2, none⟩ (i64 xl)).setCell ⟨r, 3, none⟩ (i64 xp)) := ⟨_, rfl⟩
    rw [← hW4] at hp4 HM hz4 ht4 ⊢
    clear hW4 m7 d0 d1 d2 d3 f0 f1 f2 f3 hz3 hp3
    have m5 := Mv.alloc (M := fun _ => False) W4 lab3 (Obj.cells #[i64 xt, .string xv, i64 xl, i64 xp] 98) 7
    have M5 := HM.trans m5 (fun _ h => h.elim)
    refine (hw B _ _ (Nat.le_trans hB M5.size) (hp4.mv m5 (fun _ _ h => h)) (ht4.mv m5 (fun h => h))).mono ?_
    rintro e w6 ⟨rfl, lab6, hp6, m6⟩
    have M6 := M5.trans m6 (fun _ h => h)
    have hz6 := (hz4.mv m5 (fun h => h)).mv m6 (by simp [PM])
    have ht6 := (ht4.mv m5 (fun h => h)).mv m6 (by simp [PM])
    have hB6 := Nat.le_trans hB M6.size
    clear hz4 ht4 hp4 HM m5 M5 m6 hw
    go_wp2
    exact ⟨⟨_, _, _, _, _, _, _, _, _, _, _, _, _, _, _, _, _, _, _, _, _, _, _, _, _, _, _, _, _, _, _, _, _, rfl⟩, _, hp6, hB6, ht6, hz6, M6⟩
end
end Go.Cf

/-
  A text is parsed.
-/
namespace Go.Cf
open Go.RowKit Go.Conc Go.Proofs
section
variable {B : Nat} {lab lab1 : Lab} {w w1 : World} {X X' : PX}
/-- A text that is read as the map m, whatever the parser's numbers. -/
def ReadAs (s : ByteArray) (m : List (ByteArray × JV)) : Prop :=
  ∀ (K : PK) (c : Nat), K.ped = false → ∃ X', Feeds K ⟨LX.new s c, [.map []], []⟩ ⟨0, { data := #[] }, 0, 0⟩ X' ∧ X'.cx = [.map m]
set_option maxRecDepth 100000 in
set_option maxHeartbeats 1000000 in
theorem parse39_c (s : ByteArray) (m : List (ByteArray × JV)) (hB : B ≤ w.heap.size) (htb : Tb lab w) (hr : ReadAs s m) :
    Calls Tryz.prog 39 #[.string s, .string { data := #[] }, .bool false] w fun e w' => ∃ p mp lab', e = .returned (.tuple #[.pointer (some ⟨p, 0, none⟩), .nilIface]) ∧
      w'.cell? ⟨p, 0, none⟩ = some (.map (some mp)) ∧ CAt B 10 lab' w' (.map m) (.iface 61 (.map (some mp))) ∧ Mv PM w lab w' lab' := by
  go_enter Tryz.func39, Tryz.ntmps39
  go_wp2_with fail
  refine (newParser_c (lab := lab) s false hB).mono ?_
  rintro e w1 ⟨K, c, lab1, hped, rfl, hn, m1⟩
  obtain ⟨X', hF, hcx⟩ := hr K c hped
  go_wp2_with fail
  refine (parse48_c hn (Nat.le_trans hB m1.size) (htb.mv m1 (fun h => h)) hF).mono ?_
  rintro e w2 ⟨rfl, lab2, h2, m2⟩
  obtain ⟨top, cv, kv, vs, hx⟩ := id h2
  obtain ⟨v, vs', rfl, hc, hcs⟩ := CsAt.form (hcx ▸ hx.cs)
  have hvs : vs' = [] := by
    cases vs' with
    | nil => rfl
    | cons x xs => exact hcs.elim
  subst hvs
  have hv := hx.root v (by simp)
  subst hv
  have c0 := h2.c0
  have M2 := (m1.mono (M' := PM) (fun _ h => h.elim)).trans m2 (fun _ h => h)
  clear hx hcs h2 hn hF hcx m1 m2 hped
  go_wp2
  go_ret2
  exact ⟨K.p, K.mp, lab2, rfl, c0, hc, M2⟩
set_option maxRecDepth 100000 in
set_option maxHeartbeats 1000000 in
theorem Parse_c (s : ByteArray) (m : List (ByteArray × JV)) (hB : B ≤ w.heap.size) (htb : Tb lab w) (hr : ReadAs s m) :
    Calls Tryz.prog 30 #[.string s] w fun e w' => ∃ mp lab', e = .returned (.tuple #[.map (some mp), .nilIface]) ∧ CAt B 10 lab' w' (.map m) (.iface 61 (.map (some mp))) ∧ Mv PM w lab w' lab' := by
  go_enter Tryz.func30, Tryz.ntmps30
  go_wp2_with fail
  refine (parse39_c s m hB htb hr).mono ?_
  rintro e w1 ⟨p, mp, lab1, rfl, c0, hc, m1⟩
  go_wp2
  go_ret2
  exact ⟨mp, lab1, rfl, hc, m1⟩
end
end Go.Cf

/-
  The lexer by plain data: where it stands, from where on, what is stacked, which state comes next.
-/
namespace Go.Cf
open Go.RowKit Go.Conc Go.Proofs
structure LX.Is0 (L : LX) (s : ByteArray) (p st : Nat) (stk : List Nat) : Prop where
  ok : L.Ok
  inp : L.inp = s
  pos : L.pos = p
  start : L.start = st
  stack : L.stack = stk
  parts : L.parts = []
  q : L.q = []
def LX.Is (L : LX) (s : ByteArray) (p st : Nat) (stk : List Nat) (t : Tag) : Prop := L.Is0 s p st stk ∧ L.state = t
/-- From where it stands, with no item. -/
def Leads (s : ByteArray) (p st : Nat) (stk : List Nat) (t : Tag) (p' st' : Nat) (stk' : List Nat) (t' : Tag) : Prop :=
  ∀ L : LX, L.Is s p st stk t → ∃ n L', Run n L L' ∧ L'.Is s p' st' stk' t'
/-- From where it stands, with one item: its kind, its text, its line. -/
def Emits (s : ByteArray) (p st : Nat) (stk : List Nat) (t : Tag) (ty : Nat) (val : ByteArray) (line : Int) (p' st' : Nat) (stk' : List Nat) (t' : Tag) : Prop :=
  ∀ L : LX, L.Is s p st stk t → ∃ n L' x, Run n L L' ∧ L'.q = [x] ∧ x.typ = ty ∧ x.val = val ∧ x.line = line ∧ (L'.took []).Is s p' st' stk' t'
section
variable {s : ByteArray} {p st p1 st1 p2 st2 : Nat} {stk stk1 stk2 : List Nat} {t t1 t2 : Tag} {L L1 : LX}
theorem Leads.trans (h : Leads s p st stk t p1 st1 stk1 t1) (k : Leads s p1 st1 stk1 t1 p2 st2 stk2 t2) : Leads s p st stk t p2 st2 stk2 t2 := by
  intro L hL
  obtain ⟨n, L1, r1, h1⟩ := h L hL
  obtain ⟨m, L2, r2, h2⟩ := k L1 h1
  exact ⟨_, L2, r1.trans r2, h2⟩
theorem Leads.refl : Leads s p st stk t p st stk t := fun L hL => ⟨0, L, .refl L, hL⟩
theorem Leads.emits {ty : Nat} {val : ByteArray} {line : Int} (h : Leads s p st stk t p1 st1 stk1 t1) (k : Emits s p1 st1 stk1 t1 ty val line p2 st2 stk2 t2) : Emits s p st stk t ty val line p2 st2 stk2 t2 := by
  intro L hL
  obtain ⟨n, L1, r1, h1⟩ := h L hL
  obtain ⟨m, L2, x, r2, h2⟩ := k L1 h1
  exact ⟨_, L2, x, r1.trans r2, h2⟩
theorem run1 {f : Nat} (hs : L.state = some (false, f)) (he : Enters f) (hq : L.q = []) (g : Goes1 f L L1 t) : Run 1 L (L1.goes t) := .step hq (.plain hs he g) (.refl _)
theorem run_skip {f : Nat} (hs : L.state = some (true, f)) (hq : L.q = []) : Run 1 L (L.ign.goes (some (false, f))) := .step hq (.skip hs) (.refl _)
theorem LX.Is0.goes (h : L.Is0 s p st stk) (t : Tag) : (L.goes t).Is s p st stk t := ⟨⟨h.ok.goes t, h.inp, h.pos, h.start, h.stack, h.parts, h.q⟩, rfl⟩
theorem LX.Is0.nxt (h : L.Is0 s p st stk) (hp : p < s.size) : L.nxt.Is0 s (p + 1) st stk := by
  obtain ⟨h1, h2, h3, h4, h5, h6, h7, h8⟩ := nxt_same L
  refine ⟨h.ok.nxt, by rw [h5]; exact h.inp, ?_, by rw [h4]; exact h.start, by rw [h1]; exact h.stack, by rw [h2]; exact h.parts, by rw [h3]; exact h.q⟩
  rw [nxt_pos, h.inp, h.pos, if_neg (by omega)]
theorem LX.Is0.nxtEnd (h : L.Is0 s p st stk) (hp : s.size ≤ p) : L.nxt.Is0 s p st stk := by
  obtain ⟨h1, h2, h3, h4, h5, h6, h7, h8⟩ := nxt_same L
  refine ⟨h.ok.nxt, by rw [h5]; exact h.inp, ?_, by rw [h4]; exact h.start, by rw [h1]; exact h.stack, by rw [h2]; exact h.parts, by rw [h3]; exact h.q⟩
  rw [nxt_pos, h.inp, h.pos, if_pos hp]
theorem LX.Is0.pk (h : L.Is0 s p st stk) : L.pk.Is0 s p st stk := by
  obtain ⟨h1, h2, h3, h4, h5, h6, h7, h8, h9, h10⟩ := pk_same L
  exact ⟨h.ok.pk, by rw [h5]; exact h.inp, by rw [h9]; exact h.pos, by rw [h4]; exact h.start, by rw [h1]; exact h.stack, by rw [h2]; exact h.parts, by rw [h3]; exact h.q⟩
theorem LX.Is0.ign (h : L.Is0 s p st stk) : L.ign.Is0 s p p stk := ⟨h.ok.ign, h.inp, h.pos, h.pos, h.stack, h.parts, h.q⟩
theorem LX.Is0.psh (h : L.Is0 s p st stk) (n : Nat) : (L.psh n).Is0 s p st (stk ++ [n]) := ⟨h.ok.psh n, h.inp, h.pos, h.start, by show L.stack ++ [n] = _; rw [h.stack], h.parts, h.q⟩
theorem LX.Is0.chr (h : L.Is0 s p st stk) (hp : p < s.size) : L.chr = byteAt s p := by unfold LX.chr; rw [h.inp, h.pos, if_neg (by omega)]
theorem LX.Is0.chrEnd (h : L.Is0 s p st stk) (hp : s.size ≤ p) : L.chr = 0 := by unfold LX.chr; rw [h.inp, h.pos, if_pos hp]
theorem LX.Is0.rdy (h : L.Is0 s p st stk) (hst : st ≤ p) : L.Rdy := ⟨h.parts, by rw [h.start, h.pos]; exact hst, by rw [h.q]; simp⟩
theorem LX.Is0.txt (h : L.Is0 s p st stk) : L.txt = s.extract st p := by unfold LX.txt; rw [h.inp, h.start, h.pos]
/-- An item was handed on, and is taken. -/
theorem LX.Is0.emitted (h : L.Is0 s p st stk) (ty : Nat) (st' : List Nat) (t : Tag) : ((((L.emit ty L.txt).stk st').goes t).took []).Is s p p st' t ∧ (((L.emit ty L.txt).stk st').goes t).q = [⟨ty, s.extract st p, 1 + (nlc s p : Nat), (L.pos : Int) - L.ilstart - L.txt.size⟩] := by
  refine ⟨⟨⟨?_, h.inp, h.pos, h.pos, rfl, h.parts, rfl⟩, rfl⟩, ?_⟩
  · have := h.ok.emit ty L.txt
    exact ⟨this.small, this.pos, this.start, this.width, this.lstart, this.ilstart, this.line, this.asc⟩
  · show L.q ++ [_] = _
    rw [h.q, h.txt]
    have := h.ok.line
    rw [h.inp, h.pos] at this
    simp [this]
end
end Go.Cf

/-
  The lexer's steps, by plain data.
-/
namespace Go.Cf
open Go.RowKit Go.Conc Go.Proofs
section
variable {s : ByteArray} {p st : Nat} {stk : List Nat} {L : LX}
theorem LX.Is0.emitted0 (h : L.Is0 s p st stk) (ty : Nat) (t : Tag) : ((((L.emit ty L.txt)).goes t).took []).Is s p p stk t ∧ (((L.emit ty L.txt)).goes t).q = [⟨ty, s.extract st p, 1 + (nlc s p : Nat), (L.pos : Int) - L.ilstart - L.txt.size⟩] := by
  have := h.emitted ty L.stack t
  rw [h.stack] at this
  have k := h.ok.emit ty L.txt
  refine ⟨⟨⟨⟨k.small, k.pos, k.start, k.width, k.lstart, k.ilstart, k.line, k.asc⟩, h.inp, h.pos, h.pos, h.stack, h.parts, rfl⟩, rfl⟩, this.2⟩
theorem ld_skip (f : Nat) : Leads s p st stk (skipT f) p p stk (plainT f) := by
  rintro L ⟨h, hs⟩
  exact ⟨1, _, run_skip hs h.q, h.ign.goes _⟩
theorem enters60 : Enters 60 := fun args w => by kernel_rfl
theorem ld_top_sp (hp : p < s.size) (e : isSp (byteAt s p) = true) : Leads s p st stk (plainT 60) (p + 1) st stk (skipT 60) := by
  rintro L ⟨h, hs⟩
  have hc := h.chr hp
  exact ⟨1, _, run1 hs enters60 h.q (top_sp h.ok (by rw [hc]; exact e)), (h.nxt hp).goes _⟩
theorem ld_top_key (hp : p < s.size) (hl : stk.length ≤ 1000000) (e : isSp (byteAt s p) = false) (e1 : byteAt s p ≠ 123) (e2 : byteAt s p ≠ 35) (e3 : byteAt s p ≠ 47) (e4 : byteAt s p ≠ 0) : Leads s p st stk (plainT 60) p st (stk ++ [94]) (plainT 95) := by
  rintro L ⟨h, hs⟩
  have hc := h.chr hp
  exact ⟨1, _, run1 hs enters60 h.q (top_key h.ok (by rw [h.stack]; exact hl) (by rw [hc]; exact e) (by rw [hc]; exact e1) (by rw [hc]; exact e2) (by rw [hc]; exact e3) (by rw [hc]; exact e4)), (h.pk.psh 94).goes _⟩
theorem ld_top_eof (hp : s.size ≤ p) (hst : st = p)  : Emits s p st stk (plainT 60) 2 (s.extract st p) (1 + (nlc s p : Nat)) p p stk (none) := by
  rintro L ⟨h, hs⟩
  have hc := h.chrEnd hp
  obtain ⟨h1, h2⟩ := (h.nxtEnd hp).emitted0 2 (none)
  exact ⟨1, _, _, run1 hs enters60 h.q (top_eof h.ok (h.rdy (Nat.le_of_eq hst)) hc (by rw [(h.nxtEnd hp).start, (h.nxtEnd hp).pos]; omega)), h2, rfl, rfl, rfl, h1⟩
theorem enters94 : Enters 94 := fun args w => by kernel_rfl
theorem ld_tve_nl (hp : p < s.size) (e : byteAt s p = 10) : Leads s p st stk (plainT 94) (p + 1) (p + 1) stk (plainT 60) := by
  rintro L ⟨h, hs⟩
  have hc := h.chr hp
  exact ⟨1, _, run1 hs enters94 h.q (tve_nl h.ok (by rw [hc]; exact e)), ((h.nxt hp).ign).goes _⟩
theorem ld_tve_ws (hp : p < s.size) (e : isWS (byteAt s p) = true) (e1 : byteAt s p ≠ 35) (e2 : byteAt s p ≠ 47) : Leads s p st stk (plainT 94) (p + 1) st stk (plainT 94) := by
  rintro L ⟨h, hs⟩
  have hc := h.chr hp
  exact ⟨1, _, run1 hs enters94 h.q (tve_ws h.ok (by rw [hc]; exact e1) (by rw [hc]; exact e2) (by rw [hc]; exact e)), (h.nxt hp).goes _⟩
theorem enters95 : Enters 95 := fun args w => by kernel_rfl
theorem ld_ks_key (hp : p < s.size) (e1 : isSep (byteAt s p) = false) (e2 : isSp (byteAt s p) = false) (e3 : byteAt s p ≠ 34) (e4 : byteAt s p ≠ 39) : Leads s p st stk (plainT 95) (p + 1) p stk (plainT 139) := by
  rintro L ⟨h, hs⟩
  have hc := h.chr hp
  exact ⟨1, _, run1 hs enters95 h.q (ks_key h.ok (by rw [hc]; exact e1) (by rw [hc]; exact e2) (by rw [hc]; exact e3) (by rw [hc]; exact e4)), ((h.pk.ign).nxt hp).goes _⟩
theorem enters139 : Enters 139 := fun args w => by kernel_rfl
theorem ld_key_more (hp : p < s.size) (e1 : isSp (byteAt s p) = false) (e2 : isSep (byteAt s p) = false) (e3 : byteAt s p ≠ 0) : Leads s p st stk (plainT 139) (p + 1) st stk (plainT 139) := by
  rintro L ⟨h, hs⟩
  have hc := h.chr hp
  exact ⟨1, _, run1 hs enters139 h.q (key_more h.ok (by rw [hc]; exact e1) (by rw [hc]; exact e2) (by rw [hc]; exact e3)), ((h.pk).nxt hp).goes _⟩
theorem ld_key_sp (hp : p < s.size) (hst : st ≤ p) (e1 : isSp (byteAt s p) = true) (hk : noKw (s.extract st p)) : Emits s p st stk (plainT 139) 3 (s.extract st p) (1 + (nlc s p : Nat)) p p stk (plainT 163) := by
  rintro L ⟨h, hs⟩
  have hc := h.chr hp
  obtain ⟨h1, h2⟩ := (h.pk).emitted0 3 (plainT 163)
  exact ⟨1, _, _, run1 hs enters139 h.q (key_sp h.ok (h.rdy hst) (by rw [hc]; exact e1) (by rw [h.pk.txt]; exact hk)), h2, rfl, rfl, rfl, h1⟩
theorem ld_key_sep (hp : p < s.size) (hst : st ≤ p) (e1 : isSp (byteAt s p) = false) (e2 : isSep (byteAt s p) = true) : Emits s p st stk (plainT 139) 3 (s.extract st p) (1 + (nlc s p : Nat)) p p stk (plainT 163) := by
  rintro L ⟨h, hs⟩
  have hc := h.chr hp
  obtain ⟨h1, h2⟩ := (h.pk).emitted0 3 (plainT 163)
  exact ⟨1, _, _, run1 hs enters139 h.q (key_sep h.ok (h.rdy hst) (by rw [hc]; exact e1) (by rw [hc]; exact e2)), h2, rfl, rfl, rfl, h1⟩
theorem ld_key_eof (hp : s.size ≤ p) (hst : st ≤ p) : Emits s p st stk (plainT 139) 3 (s.extract st p) (1 + (nlc s p : Nat)) p p stk (plainT 163) := by
  rintro L ⟨h, hs⟩
  have hc := h.chrEnd hp
  obtain ⟨h1, h2⟩ := (h.pk).emitted0 3 (plainT 163)
  exact ⟨1, _, _, run1 hs enters139 h.q (key_eof h.ok (h.rdy hst) hc), h2, rfl, rfl, rfl, h1⟩
theorem enters163 : Enters 163 := fun args w => by kernel_rfl
theorem ld_ke_sp (hp : p < s.size) (e1 : isSp (byteAt s p) = true) : Leads s p st stk (plainT 163) (p + 1) st stk (skipT 163) := by
  rintro L ⟨h, hs⟩
  have hc := h.chr hp
  exact ⟨1, _, run1 hs enters163 h.q (ke_sp h.ok (by rw [hc]; exact e1)), (h.nxt hp).goes _⟩
theorem ld_ke_sep (hp : p < s.size) (e1 : isSp (byteAt s p) = false) (e2 : isSep (byteAt s p) = true) : Leads s p st stk (plainT 163) (p + 1) st stk (skipT 174) := by
  rintro L ⟨h, hs⟩
  have hc := h.chr hp
  exact ⟨1, _, run1 hs enters163 h.q (ke_sep h.ok (by rw [hc]; exact e1) (by rw [hc]; exact e2)), (h.nxt hp).goes _⟩
theorem ld_ke_eof (hp : s.size ≤ p) (hst : st ≤ p) : Emits s p st stk (plainT 163) 2 (s.extract st p) (1 + (nlc s p : Nat)) p p stk (none) := by
  rintro L ⟨h, hs⟩
  have hc := h.chrEnd hp
  obtain ⟨h1, h2⟩ := (h.nxtEnd hp).emitted0 2 (none)
  exact ⟨1, _, _, run1 hs enters163 h.q (ke_eof h.ok (h.rdy hst) hc), h2, rfl, rfl, rfl, h1⟩
theorem ld_ke_other (hp : p < s.size) (e1 : isSp (byteAt s p) = false) (e2 : isSep (byteAt s p) = false) (e3 : byteAt s p ≠ 0) : Leads s p st stk (plainT 163) p st stk (plainT 174) := by
  rintro L ⟨h, hs⟩
  have hc := h.chr hp
  exact ⟨1, _, run1 hs enters163 h.q (ke_other h.ok (by rw [hc]; exact e1) (by rw [hc]; exact e2) (by rw [hc]; exact e3)), (h.pk).goes _⟩
theorem enters174 : Enters 174 := fun args w => by kernel_rfl
theorem ld_val_ws (hp : p < s.size) (e1 : isWS (byteAt s p) = true) : Leads s p st stk (plainT 174) (p + 1) st stk (skipT 174) := by
  rintro L ⟨h, hs⟩
  have hc := h.chr hp
  exact ⟨1, _, run1 hs enters174 h.q (val_ws h.ok (by rw [hc]; exact e1)), (h.nxt hp).goes _⟩
theorem ld_val_dig (hp : p < s.size) (e1 : isWS (byteAt s p) = false) (e2 : isDig (byteAt s p) = true) (e3 : 48 ≤ byteAt s p ∧ byteAt s p ≤ 57) : Leads s p st stk (plainT 174) p st stk (plainT 186) := by
  rintro L ⟨h, hs⟩
  have hc := h.chr hp
  exact ⟨1, _, run1 hs enters174 h.q (val_dig h.ok (by rw [hc]; exact e1) (by rw [hc]; exact e2) (by rw [hc]; exact e3)), (h.pk).goes _⟩
theorem enters186 : Enters 186 := fun args w => by kernel_rfl
theorem ld_num_start (hp : p < s.size) (e2 : isDig (byteAt s p) = true) : Leads s p st stk (plainT 186) (p + 1) st stk (plainT 199) := by
  rintro L ⟨h, hs⟩
  have hc := h.chr hp
  exact ⟨1, _, run1 hs enters186 h.q (num_start h.ok (by rw [hc]; exact e2)), (h.nxt hp).goes _⟩
theorem enters199 : Enters 199 := fun args w => by kernel_rfl
theorem ld_num_dig (hp : p < s.size) (e2 : isDig (byteAt s p) = true) (e3 : byteAt s p ≠ 45) : Leads s p st stk (plainT 199) (p + 1) st stk (plainT 199) := by
  rintro L ⟨h, hs⟩
  have hc := h.chr hp
  exact ⟨1, _, run1 hs enters199 h.q (num_dig h.ok (by rw [hc]; exact e2) (by rw [hc]; exact e3)), (h.nxt hp).goes _⟩
theorem ld_num_suf (hp : p < s.size) (e2 : isDig (byteAt s p) = false) (e3 : isSuf (byteAt s p) = true) (e4 : byteAt s p ≠ 45) (e5 : byteAt s p ≠ 46) : Leads s p st stk (plainT 199) (p + 1) st stk (plainT 212) := by
  rintro L ⟨h, hs⟩
  have hc := h.chr hp
  exact ⟨1, _, run1 hs enters199 h.q (num_suf h.ok (by rw [hc]; exact e2) (by rw [hc]; exact e3) (by rw [hc]; exact e4) (by rw [hc]; exact e5)), (h.nxt hp).goes _⟩
theorem ld_num_nl (hp : p < s.size) (hsp : st ≤ p) (e : byteAt s p = 10) (sk : List Nat) (n : Nat) (hk : stk = sk ++ [n]) (hl : sk.length ≤ 1000000) : Emits s p st stk (plainT 199) 7 (s.extract st p) (1 + (nlc s p : Nat)) p p sk (plainT n) := by
  rintro L ⟨h, hs⟩
  have hc := h.chr hp
  have hst := h.stack.trans hk
  obtain ⟨h1, h2⟩ := (h.pk).emitted 7 sk (plainT n)
  exact ⟨1, _, _, run1 hs enters199 h.q (num_nl h.ok (h.rdy hsp) sk n hst hl (by rw [hc]; exact e)), h2, rfl, rfl, rfl, h1⟩
theorem enters212 : Enters 212 := fun args w => by kernel_rfl
theorem ld_suf_b (hp : p < s.size) (e : byteAt s p = 98) : Leads s p st stk (plainT 212) (p + 1) st stk (plainT 212) := by
  rintro L ⟨h, hs⟩
  have hc := h.chr hp
  exact ⟨1, _, run1 hs enters212 h.q (suf_b h.ok (by rw [hc]; exact e)), (h.nxt hp).goes _⟩
theorem ld_suf_B (hp : p < s.size) (e : byteAt s p = 66) : Leads s p st stk (plainT 212) (p + 1) st stk (plainT 212) := by
  rintro L ⟨h, hs⟩
  have hc := h.chr hp
  exact ⟨1, _, run1 hs enters212 h.q (suf_B h.ok (by rw [hc]; exact e)), (h.nxt hp).goes _⟩
theorem ld_suf_i (hp : p < s.size) (e : byteAt s p = 105) : Leads s p st stk (plainT 212) (p + 1) st stk (plainT 212) := by
  rintro L ⟨h, hs⟩
  have hc := h.chr hp
  exact ⟨1, _, run1 hs enters212 h.q (suf_i h.ok (by rw [hc]; exact e)), (h.nxt hp).goes _⟩
theorem ld_suf_nl (hp : p < s.size) (hsp : st ≤ p) (e : byteAt s p = 10) (sk : List Nat) (n : Nat) (hk : stk = sk ++ [n]) (hl : sk.length ≤ 1000000) : Emits s p st stk (plainT 212) 7 (s.extract st p) (1 + (nlc s p : Nat)) p p sk (plainT n) := by
  rintro L ⟨h, hs⟩
  have hc := h.chr hp
  have hst := h.stack.trans hk
  obtain ⟨h1, h2⟩ := (h.pk).emitted 7 sk (plainT n)
  exact ⟨1, _, _, run1 hs enters212 h.q (suf_nl h.ok (h.rdy hsp) sk n hst hl (by rw [hc]; exact e)), h2, rfl, rfl, rfl, h1⟩
end
end Go.Cf
