/-
  Texts joined: V5 V6 Wj.
-/
import Derived.Test.YtackodbeohaidaaGreatDoorVz4
import Derived.Test.YtackodbeohaidaaGreatDoorVz7
import Derived.Test.YtackodbeohaidaaGreatDoorVz10
/-
  processItem: a whole number with a sign, perhaps with a size: more.
-/
namespace Go.Cf
open Go.RowKit Go.Conc Go.Proofs
section
variable {B : Nat} {lab lab1 : Lab} {w w1 : World} {K : PK} {X X' : PX} {M : Nat → Prop}
set_option maxRecDepth 100000 in
set_option maxHeartbeats 4000000 in
theorem item_ng_g (h : PAt B lab w K X) (hB : B ≤ w.heap.size) (hped : K.ped = false) (xv : ByteArray) (xl xp : Int) (d : Nat) (hd : d < xv.size) (hsz : xv.size ≤ 1000000)
    (hdig : ∀ i, i < d → isDig (byteAt xv i) = true ∨ byteAt xv i = 45) (hstop : isDig (byteAt xv d) = false) (hstop2 : byteAt xv d ≠ 45) (hasc : ∀ i, i < xv.size → byteAt xv i < 128) 
    (n : Int) (hpi : ∀ w, Calls Tryz.prog 68 #[.string (xv.extract 0 d), i64 10, i64 64] w fun e w' => e = .returned (.tuple #[.int .i64 n, .nilIface]) ∧ Below w.heap.size w w')
    (sf : ByteArray) (hsf : xv.extract d xv.size = sf) (hsa : ∀ (j : Nat) b, sf.data.toList[j]? = some b → b.toNat < 128) (htrim : Lib.trimSpace sf.data.toList = sf.data.toList) (hlow : (⟨(Lib.toLowerA sf.data.toList).toArray⟩ : ByteArray) = ⟨#[103]⟩) (hb1 : -4611686018427387904 ≤ n * 1000 * 1000 * 1000) (hb2 : n * 1000 * 1000 * 1000 ≤ 4611686018427387904)
    (htb : Tb lab w) (hs : X.Sets (.int (n * 1000 * 1000 * 1000)) X') :
    Calls Tryz.prog 57 #[.pointer (some ⟨K.p, 0, none⟩), .agg #[i64 7, .string xv, i64 xl, i64 xp], .string { data := #[] }] w fun e w' => e = .returned .nilIface ∧ ∃ lab', PAt B lab' w' K X' ∧ Mv PM w lab w' lab' := by
  obtain ⟨lab1, hb, m1⟩ := h.boxed hB 7 xv xl xp
  have HD := Lib.hid hdig
  have HS1 := Lib.hid hstop
  have HS2 := Lib.hid hstop2
  have HA := Lib.hid hasc
  have HT := Lib.hid htrim
  have HL := Lib.hid hlow
  have HX := Lib.hid hsf
  have HP := Lib.hid hped
  have HAS := Lib.hid hsa
  clear hdig hstop hstop2 hasc htrim hlow hsf hped hsa
  go_enter Tryz.func57, Tryz.ntmps57
  go_wp2_with fail
  have hWs : (Boxed w K 7 xv xl xp).heap.size = w.heap.size + 1 + 1 + 1 := by unfold Boxed; simp [World.size_alloc]
  have HW := Lib.hid hWs
  clear hWs
  go_loopw [9] (fun i wr => ∃ k : Nat, k ≤ d ∧ i = .int .i64 k ∧ wr = (Boxed w K 7 xv xl xp).iter xv k) (fun i _ => d - (RowKit.intOf i).toNat)
  case atStart => exact ⟨0, Nat.zero_le _, rfl, rfl⟩
  case round =>
    obtain ⟨k, hk, rfl, rfl⟩ := hrel
    have hk2 : k < xv.size := by omega
    have hnx : ∀ ty, (Instr.next (.pointer (some ⟨w.heap.size + 1 + 1 + 1, 0, none⟩)) true ty).run Tryz.prog ((Boxed w K 7 xv xl xp).iter xv k) = .ok (.tuple #[.bool true, .int .i64 k, .int .i32 (byteAt xv k : Nat)]) ((Boxed w K 7 xv xl xp).iter xv (k + 1)) := fun ty => by
      have := run_next_ascii (P := Tryz.prog) (Boxed w K 7 xv xl xp) xv k ty hk2 (by rw [byteAt_get]; exact HA.out k hk2)
      rwa [HW.out, byteAt_get] at this
    have hc := HA.out k hk2
    by_cases hlt : k < d
    · rcases HD.out k hlt with e1 | e1
      · go_wp2_with fail
        refine (isDig_c _ hc _).mono ?_
        rintro e w' ⟨rfl, rfl⟩
        go_wp2
        go_roundw
        case rel => exact ⟨k + 1, by omega, by go_num, rfl⟩
        case measure => simp [RowKit.intOf]; omega
      · have e0 : isDig (byteAt xv k) = false := by rw [e1]; rfl
        have e2 : (((byteAt xv k : Nat) : Int) == 45) = true := beq_iff_eq.2 (by omega)
        have e3 : (((byteAt xv k : Nat) : Int) != 45) = false := by rw [bne, e2]; rfl
        clear e1
        go_wp2_with fail
        refine (isDig_c _ hc _).mono ?_
        rintro e w' ⟨rfl, rfl⟩
        go_wp2
        go_roundw
        case rel => exact ⟨k + 1, by omega, by go_num, rfl⟩
        case measure => simp [RowKit.intOf]; omega
    · obtain rfl : k = d := by omega
      have e1 := HS1.out
      have e2 : (((byteAt xv k : Nat) : Int) == 45) = false := beq_eq_false_iff_ne.2 (by have := HS2.out; omega)
      have e3 : (((byteAt xv k : Nat) : Int) != 45) = true := by rw [bne, e2]; rfl
      go_wp2_with fail
      refine (isDig_c _ hc _).mono ?_
      rintro e w' ⟨rfl, rfl⟩
      have m2 := (iter_mv (Boxed w K 7 xv xl xp) lab1 xv (k + 1))
      have hb2 := hb.mv (hb.pat.mv m2 (fun _ _ h => h)) (m2.mono (fun _ h => h.elim))
      have m2' := m1.trans m2 (fun _ h => h.elim)
      obtain ⟨W, hW⟩ : ∃ W, W = (Boxed w K 7 xv xl xp).iter xv (k + 1) := ⟨_, rfl⟩
      rw [← hW] at hb2 m2 m2' ⊢
      have d1 := hb2.b1.cell 1
      clear hW hb hnx
      go_wp2_with fail
      refine (hpi W).mono ?_
      rintro e w3 ⟨rfl, hbl⟩
      have m3 := Mv.below (M := fun _ => False) hbl (lab1.ext (Boxed w K 7 xv xl xp).heap.size 7) 7
      have hb3 := hb2.mv (hb2.pat.mv m3 (fun _ _ h => h)) (m3.mono (fun _ h => h.elim))
      have m3' := m2'.trans m3 (fun _ h => h.elim)
      have htb3 := htb.mv m3' (by simp [PM])
      have d1 := hb3.b1.cell 1
      have hsl : xv.extract k xv.size = sf := HX.out
      clear hbl m3 hb2 hpi
      go_wp2_with fail
      refine (Tryz.strings_TrimSpace sf w3 (by rw [← hsl]; simp; omega) HAS.out htb3.1).mono ?_
      rintro e w4 ⟨rfl, hw4⟩
      have hbl4 : Below w3.heap.size w3 w4 := by rw [hw4]; exact ⟨rfl, rfl, rfl, by rw [Go.Lib.bytesWorld_size]; omega, fun k hk => Go.Lib.bytesWorld_at_old w3 5 sf k hk⟩
      have m4 := Mv.below (M := fun _ => False) hbl4 ((lab1.ext (Boxed w K 7 xv xl xp).heap.size 7).ext W.heap.size 7) 7
      have hb4 := hb3.mv (hb3.pat.mv m4 (fun _ _ h => h)) (m4.mono (fun _ h => h.elim))
      have m4' := m3'.trans m4 (fun _ h => h.elim)
      rw [HT.out]
      clear hw4 hbl4 m4 hb3 hsl
      go_wp2_with fail
      refine (Tryz.strings_ToLower_ascii ⟨sf.data.toList.toArray⟩ w4 ?_ ?_).mono ?_
      · have := congrArg ByteArray.size HX.out
        simp at this
        show sf.data.toList.toArray.size ≤ _
        simp
        omega
      · simpa using HAS.out
      rintro e w5 ⟨rfl, hbl5⟩
      have m5 := Mv.below (M := fun _ => False) hbl5 (((lab1.ext (Boxed w K 7 xv xl xp).heap.size 7).ext W.heap.size 7).ext w3.heap.size 7) 7
      have hb5 := hb4.mv (hb4.pat.mv m5 (fun _ _ h => h)) (m5.mono (fun _ h => h.elim))
      have m5' := m4'.trans m5 (fun _ h => h.elim)
      have e0 : (⟨(Lib.toLowerA sf.data.toList).toArray⟩ : ByteArray) = ⟨#[103]⟩ := HL.out
      have d0 := hb5.b0.cell 0
      have d1 := hb5.b1.cell 0
      have d2 := hb5.b1.cell 1
      have d3 := hb5.b1.cell 2
      have d4 := hb5.b1.cell 3
      simp at d0 d1 d2 d3 d4
      simp only [e0]
      clear hbl5 m5 hb4 e0
      go_wp2_with fail
      refine (lay_c hb5.pat hb5.hB HP.out hs 2 _ rfl _ _ hb5.b0 7 xv xl xp).mono ?_
      rintro e w6 ⟨rfl, lab6, h6, m6⟩
      go_wp2
      go_ret
      exact ⟨rfl, lab6, h6, m5'.trans m6 (fun _ h => h)⟩
set_option maxRecDepth 100000 in
set_option maxHeartbeats 4000000 in
theorem item_ng_gb (h : PAt B lab w K X) (hB : B ≤ w.heap.size) (hped : K.ped = false) (xv : ByteArray) (xl xp : Int) (d : Nat) (hd : d < xv.size) (hsz : xv.size ≤ 1000000)
    (hdig : ∀ i, i < d → isDig (byteAt xv i) = true ∨ byteAt xv i = 45) (hstop : isDig (byteAt xv d) = false) (hstop2 : byteAt xv d ≠ 45) (hasc : ∀ i, i < xv.size → byteAt xv i < 128) 
    (n : Int) (hpi : ∀ w, Calls Tryz.prog 68 #[.string (xv.extract 0 d), i64 10, i64 64] w fun e w' => e = .returned (.tuple #[.int .i64 n, .nilIface]) ∧ Below w.heap.size w w')
    (sf : ByteArray) (hsf : xv.extract d xv.size = sf) (hsa : ∀ (j : Nat) b, sf.data.toList[j]? = some b → b.toNat < 128) (htrim : Lib.trimSpace sf.data.toList = sf.data.toList) (hlow : (⟨(Lib.toLowerA sf.data.toList).toArray⟩ : ByteArray) = ⟨#[103, 98]⟩) (hb1 : -4611686018427387904 ≤ n * 1024 * 1024 * 1024) (hb2 : n * 1024 * 1024 * 1024 ≤ 4611686018427387904)
    (htb : Tb lab w) (hs : X.Sets (.int (n * 1024 * 1024 * 1024)) X') :
    Calls Tryz.prog 57 #[.pointer (some ⟨K.p, 0, none⟩), .agg #[i64 7, .string xv, i64 xl, i64 xp], .string { data := #[] }] w fun e w' => e = .returned .nilIface ∧ ∃ lab', PAt B lab' w' K X' ∧ Mv PM w lab w' lab' := by
  obtain ⟨lab1, hb, m1⟩ := h.boxed hB 7 xv xl xp
  have HD := Lib.hid hdig
  have HS1 := Lib.hid hstop
  have HS2 := Lib.hid hstop2
  have HA := Lib.hid hasc
  have HT := Lib.hid htrim
  have HL := Lib.hid hlow
  have HX := Lib.hid hsf
  have HP := Lib.hid hped
  have HAS := Lib.hid hsa
  clear hdig hstop hstop2 hasc htrim hlow hsf hped hsa
  go_enter Tryz.func57, Tryz.ntmps57
  go_wp2_with fail
  have hWs : (Boxed w K 7 xv xl xp).heap.size = w.heap.size + 1 + 1 + 1 := by unfold Boxed; simp [World.size_alloc]
  have HW := Lib.hid hWs
  clear hWs
  go_loopw [9] (fun i wr => ∃ k : Nat, k ≤ d ∧ i = .int .i64 k ∧ wr = (Boxed w K 7 xv xl xp).iter xv k) (fun i _ => d - (RowKit.intOf i).toNat)
  case atStart => exact ⟨0, Nat.zero_le _, rfl, rfl⟩
  case round =>
    obtain ⟨k, hk, rfl, rfl⟩ := hrel
    have hk2 : k < xv.size := by omega
    have hnx : ∀ ty, (Instr.next (.pointer (some ⟨w.heap.size + 1 + 1 + 1, 0, none⟩)) true ty).run Tryz.prog ((Boxed w K 7 xv xl xp).iter xv k) = .ok (.tuple #[.bool true, .int .i64 k, .int .i32 (byteAt xv k : Nat)]) ((Boxed w K 7 xv xl xp).iter xv (k + 1)) := fun ty => by
      have := run_next_ascii (P := Tryz.prog) (Boxed w K 7 xv xl xp) xv k ty hk2 (by rw [byteAt_get]; exact HA.out k hk2)
      rwa [HW.out, byteAt_get] at this
    have hc := HA.out k hk2
    by_cases hlt : k < d
    · rcases HD.out k hlt with e1 | e1
      · go_wp2_with fail
        refine (isDig_c _ hc _).mono ?_
        rintro e w' ⟨rfl, rfl⟩
        go_wp2
        go_roundw
        case rel => exact ⟨k + 1, by omega, by go_num, rfl⟩
        case measure => simp [RowKit.intOf]; omega
      · have e0 : isDig (byteAt xv k) = false := by rw [e1]; rfl
        have e2 : (((byteAt xv k : Nat) : Int) == 45) = true := beq_iff_eq.2 (by omega)
        have e3 : (((byteAt xv k : Nat) : Int) != 45) = false := by rw [bne, e2]; rfl
        clear e1
        go_wp2_with fail
        refine (isDig_c _ hc _).mono ?_
        rintro e w' ⟨rfl, rfl⟩
        go_wp2
        go_roundw
        case rel => exact ⟨k + 1, by omega, by go_num, rfl⟩
        case measure => simp [RowKit.intOf]; omega
    · obtain rfl : k = d := by omega
      have e1 := HS1.out
      have e2 : (((byteAt xv k : Nat) : Int) == 45) = false := beq_eq_false_iff_ne.2 (by have := HS2.out; omega)
      have e3 : (((byteAt xv k : Nat) : Int) != 45) = true := by rw [bne, e2]; rfl
      go_wp2_with fail
      refine (isDig_c _ hc _).mono ?_
      rintro e w' ⟨rfl, rfl⟩
      have m2 := (iter_mv (Boxed w K 7 xv xl xp) lab1 xv (k + 1))
      have hb2 := hb.mv (hb.pat.mv m2 (fun _ _ h => h)) (m2.mono (fun _ h => h.elim))
      have m2' := m1.trans m2 (fun _ h => h.elim)
      obtain ⟨W, hW⟩ : ∃ W, W = (Boxed w K 7 xv xl xp).iter xv (k + 1) := ⟨_, rfl⟩
      rw [← hW] at hb2 m2 m2' ⊢
      have d1 := hb2.b1.cell 1
      clear hW hb hnx
      go_wp2_with fail
      refine (hpi W).mono ?_
      rintro e w3 ⟨rfl, hbl⟩
      have m3 := Mv.below (M := fun _ => False) hbl (lab1.ext (Boxed w K 7 xv xl xp).heap.size 7) 7
      have hb3 := hb2.mv (hb2.pat.mv m3 (fun _ _ h => h)) (m3.mono (fun _ h => h.elim))
      have m3' := m2'.trans m3 (fun _ h => h.elim)
      have htb3 := htb.mv m3' (by simp [PM])
      have d1 := hb3.b1.cell 1
      have hsl : xv.extract k xv.size = sf := HX.out
      clear hbl m3 hb2 hpi
      go_wp2_with fail
      refine (Tryz.strings_TrimSpace sf w3 (by rw [← hsl]; simp; omega) HAS.out htb3.1).mono ?_
      rintro e w4 ⟨rfl, hw4⟩
      have hbl4 : Below w3.heap.size w3 w4 := by rw [hw4]; exact ⟨rfl, rfl, rfl, by rw [Go.Lib.bytesWorld_size]; omega, fun k hk => Go.Lib.bytesWorld_at_old w3 5 sf k hk⟩
      have m4 := Mv.below (M := fun _ => False) hbl4 ((lab1.ext (Boxed w K 7 xv xl xp).heap.size 7).ext W.heap.size 7) 7
      have hb4 := hb3.mv (hb3.pat.mv m4 (fun _ _ h => h)) (m4.mono (fun _ h => h.elim))
      have m4' := m3'.trans m4 (fun _ h => h.elim)
      rw [HT.out]
      clear hw4 hbl4 m4 hb3 hsl
      go_wp2_with fail
      refine (Tryz.strings_ToLower_ascii ⟨sf.data.toList.toArray⟩ w4 ?_ ?_).mono ?_
      · have := congrArg ByteArray.size HX.out
        simp at this
        show sf.data.toList.toArray.size ≤ _
        simp
        omega
      · simpa using HAS.out
      rintro e w5 ⟨rfl, hbl5⟩
      have m5 := Mv.below (M := fun _ => False) hbl5 (((lab1.ext (Boxed w K 7 xv xl xp).heap.size 7).ext W.heap.size 7).ext w3.heap.size 7) 7
      have hb5 := hb4.mv (hb4.pat.mv m5 (fun _ _ h => h)) (m5.mono (fun _ h => h.elim))
      have m5' := m4'.trans m5 (fun _ h => h.elim)
      have e0 : (⟨(Lib.toLowerA sf.data.toList).toArray⟩ : ByteArray) = ⟨#[103, 98]⟩ := HL.out
      have d0 := hb5.b0.cell 0
      have d1 := hb5.b1.cell 0
      have d2 := hb5.b1.cell 1
      have d3 := hb5.b1.cell 2
      have d4 := hb5.b1.cell 3
      simp at d0 d1 d2 d3 d4
      simp only [e0]
      clear hbl5 m5 hb4 e0
      go_wp2_with fail
      refine (lay_c hb5.pat hb5.hB HP.out hs 2 _ rfl _ _ hb5.b0 7 xv xl xp).mono ?_
      rintro e w6 ⟨rfl, lab6, h6, m6⟩
      go_wp2
      go_ret
      exact ⟨rfl, lab6, h6, m5'.trans m6 (fun _ h => h)⟩
set_option maxRecDepth 100000 in
set_option maxHeartbeats 4000000 in
theorem item_ng_gib (h : PAt B lab w K X) (hB : B ≤ w.heap.size) (hped : K.ped = false) (xv : ByteArray) (xl xp : Int) (d : Nat) (hd : d < xv.size) (hsz : xv.size ≤ 1000000)
    (hdig : ∀ i, i < d → isDig (byteAt xv i) = true ∨ byteAt xv i = 45) (hstop : isDig (byteAt xv d) = false) (hstop2 : byteAt xv d ≠ 45) (hasc : ∀ i, i < xv.size → byteAt xv i < 128) 
    (n : Int) (hpi : ∀ w, Calls Tryz.prog 68 #[.string (xv.extract 0 d), i64 10, i64 64] w fun e w' => e = .returned (.tuple #[.int .i64 n, .nilIface]) ∧ Below w.heap.size w w')
    (sf : ByteArray) (hsf : xv.extract d xv.size = sf) (hsa : ∀ (j : Nat) b, sf.data.toList[j]? = some b → b.toNat < 128) (htrim : Lib.trimSpace sf.data.toList = sf.data.toList) (hlow : (⟨(Lib.toLowerA sf.data.toList).toArray⟩ : ByteArray) = ⟨#[103, 105, 98]⟩) (hb1 : -4611686018427387904 ≤ n * 1024 * 1024 * 1024) (hb2 : n * 1024 * 1024 * 1024 ≤ 4611686018427387904)
    (htb : Tb lab w) (hs : X.Sets (.int (n * 1024 * 1024 * 1024)) X') :
    Calls Tryz.prog 57 #[.pointer (some ⟨K.p, 0, none⟩), .agg #[i64 7, .string xv, i64 xl, i64 xp], .string { data := #[] }] w fun e w' => e = .returned .nilIface ∧ ∃ lab', PAt B lab' w' K X' ∧ Mv PM w lab w' lab' := by
  obtain ⟨lab1, hb, m1⟩ := h.boxed hB 7 xv xl xp
  have HD := Lib.hid hdig
  have HS1 := Lib.hid hstop
  have HS2 := Lib.hid hstop2
  have HA := Lib.hid hasc
  have HT := Lib.hid htrim
  have HL := Lib.hid hlow
  have HX := Lib.hid hsf
  have HP := Lib.hid hped
  have HAS := Lib.hid hsa
  clear hdig hstop hstop2 hasc htrim hlow hsf hped hsa
  go_enter Tryz.func57, Tryz.ntmps57
  go_wp2_with fail
  have hWs : (Boxed w K 7 xv xl xp).heap.size = w.heap.size + 1 + 1 + 1 := by unfold Boxed; simp [World.size_alloc]
  have HW := Lib.hid hWs
  clear hWs
  go_loopw [9] (fun i wr => ∃ k : Nat, k ≤ d ∧ i = .int .i64 k ∧ wr = (Boxed w K 7 xv xl xp).iter xv k) (fun i _ => d - (RowKit.intOf i).toNat)
  case atStart => exact ⟨0, Nat.zero_le _, rfl, rfl⟩
  case round =>
    obtain ⟨k, hk, rfl, rfl⟩ := hrel
    have hk2 : k < xv.size := by omega
    have hnx : ∀ ty, (Instr.next (.pointer (some ⟨w.heap.size + 1 + 1 + 1, 0, none⟩)) true ty).run Tryz.prog ((Boxed w K 7 xv xl xp).iter xv k) = .ok (.tuple #[.bool true, .int .i64 k, .int .i32 (byteAt xv k : Nat)]) ((Boxed w K 7 xv xl xp).iter xv (k + 1)) := fun ty => by
      have := run_next_ascii (P := Tryz.prog) (Boxed w K 7 xv xl xp) xv k ty hk2 (by rw [byteAt_get]; exact HA.out k hk2)
      rwa [HW.out, byteAt_get] at this
    have hc := HA.out k hk2
    by_cases hlt : k < d
    · rcases HD.out k hlt with e1 | e1
      · go_wp2_with fail
        refine (isDig_c _ hc _).mono ?_
        rintro e w' ⟨rfl, rfl⟩
        go_wp2
        go_roundw
        case rel => exact ⟨k + 1, by omega, by go_num, rfl⟩
        case measure => simp [RowKit.intOf]; omega
      · have e0 : isDig (byteAt xv k) = false := by rw [e1]; rfl
        have e2 : (((byteAt xv k : Nat) : Int) == 45) = true := beq_iff_eq.2 (by omega)
        have e3 : (((byteAt xv k : Nat) : Int) != 45) = false := by rw [bne, e2]; rfl
        clear e1
        go_wp2_with fail
        refine (isDig_c _ hc _).mono ?_
        rintro e w' ⟨rfl, rfl⟩
        go_wp2
        go_roundw
        case rel => exact ⟨k + 1, by omega, by go_num, rfl⟩
        case measure => simp [RowKit.intOf]; omega
    · obtain rfl : k = d := by omega
      have e1 := HS1.out
      have e2 : (((byteAt xv k : Nat) : Int) == 45) = false := beq_eq_false_iff_ne.2 (by have := HS2.out; omega)
      have e3 : (((byteAt xv k : Nat) : Int) != 45) = true := by rw [bne, e2]; rfl
      go_wp2_with fail
      refine (isDig_c _ hc _).mono ?_
      rintro e w' ⟨rfl, rfl⟩
      have m2 := (iter_mv (Boxed w K 7 xv xl xp) lab1 xv (k + 1))
      have hb2 := hb.mv (hb.pat.mv m2 (fun _ _ h => h)) (m2.mono (fun _ h => h.elim))
      have m2' := m1.trans m2 (fun _ h => h.elim)
      obtain ⟨W, hW⟩ : ∃ W, W = (Boxed w K 7 xv xl xp).iter xv (k + 1) := ⟨_, rfl⟩
      rw [← hW] at hb2 m2 m2' ⊢
      have d1 := hb2.b1.cell 1
      clear hW hb hnx
      go_wp2_with fail
      refine (hpi W).mono ?_
      rintro e w3 ⟨rfl, hbl⟩
      have m3 := Mv.below (M := fun _ => False) hbl (lab1.ext (Boxed w K 7 xv xl xp).heap.size 7) 7
      have hb3 := hb2.mv (hb2.pat.mv m3 (fun _ _ h => h)) (m3.mono (fun _ h => h.elim))
      have m3' := m2'.trans m3 (fun _ h => h.elim)
      have htb3 := htb.mv m3' (by simp [PM])
      have d1 := hb3.b1.cell 1
      have hsl : xv.extract k xv.size = sf := HX.out
      clear hbl m3 hb2 hpi
      go_wp2_with fail
      refine (Tryz.strings_TrimSpace sf w3 (by rw [← hsl]; simp; omega) HAS.out htb3.1).mono ?_
      rintro e w4 ⟨rfl, hw4⟩
      have hbl4 : Below w3.heap.size w3 w4 := by rw [hw4]; exact ⟨rfl, rfl, rfl, by rw [Go.Lib.bytesWorld_size]; omega, fun k hk => Go.Lib.bytesWorld_at_old w3 5 sf k hk⟩
      have m4 := Mv.below (M := fun _ => False) hbl4 ((lab1.ext (Boxed w K 7 xv xl xp).heap.size 7).ext W.heap.size 7) 7
      have hb4 := hb3.mv (hb3.pat.mv m4 (fun _ _ h => h)) (m4.mono (fun _ h => h.elim))
      have m4' := m3'.trans m4 (fun _ h => h.elim)
      rw [HT.out]
      clear hw4 hbl4 m4 hb3 hsl
      go_wp2_with fail
      refine (Tryz.strings_ToLower_ascii ⟨sf.data.toList.toArray⟩ w4 ?_ ?_).mono ?_
      · have := congrArg ByteArray.size HX.out
        simp at this
        show sf.data.toList.toArray.size ≤ _
        simp
        omega
      · simpa using HAS.out
      rintro e w5 ⟨rfl, hbl5⟩
      have m5 := Mv.below (M := fun _ => False) hbl5 (((lab1.ext (Boxed w K 7 xv xl xp).heap.size 7).ext W.heap.size 7).ext w3.heap.size 7) 7
      have hb5 := hb4.mv (hb4.pat.mv m5 (fun _ _ h => h)) (m5.mono (fun _ h => h.elim))
      have m5' := m4'.trans m5 (fun _ h => h.elim)
      have e0 : (⟨(Lib.toLowerA sf.data.toList).toArray⟩ : ByteArray) = ⟨#[103, 105, 98]⟩ := HL.out
      have d0 := hb5.b0.cell 0
      have d1 := hb5.b1.cell 0
      have d2 := hb5.b1.cell 1
      have d3 := hb5.b1.cell 2
      have d4 := hb5.b1.cell 3
      simp at d0 d1 d2 d3 d4
      simp only [e0]
      clear hbl5 m5 hb4 e0
      go_wp2_with fail
      refine (lay_c hb5.pat hb5.hB HP.out hs 2 _ rfl _ _ hb5.b0 7 xv xl xp).mono ?_
      rintro e w6 ⟨rfl, lab6, h6, m6⟩
      go_wp2
      go_ret
      exact ⟨rfl, lab6, h6, m5'.trans m6 (fun _ h => h)⟩
set_option maxRecDepth 100000 in
set_option maxHeartbeats 4000000 in
theorem item_ng_gi (h : PAt B lab w K X) (hB : B ≤ w.heap.size) (hped : K.ped = false) (xv : ByteArray) (xl xp : Int) (d : Nat) (hd : d < xv.size) (hsz : xv.size ≤ 1000000)
    (hdig : ∀ i, i < d → isDig (byteAt xv i) = true ∨ byteAt xv i = 45) (hstop : isDig (byteAt xv d) = false) (hstop2 : byteAt xv d ≠ 45) (hasc : ∀ i, i < xv.size → byteAt xv i < 128) 
    (n : Int) (hpi : ∀ w, Calls Tryz.prog 68 #[.string (xv.extract 0 d), i64 10, i64 64] w fun e w' => e = .returned (.tuple #[.int .i64 n, .nilIface]) ∧ Below w.heap.size w w')
    (sf : ByteArray) (hsf : xv.extract d xv.size = sf) (hsa : ∀ (j : Nat) b, sf.data.toList[j]? = some b → b.toNat < 128) (htrim : Lib.trimSpace sf.data.toList = sf.data.toList) (hlow : (⟨(Lib.toLowerA sf.data.toList).toArray⟩ : ByteArray) = ⟨#[103, 105]⟩) (hb1 : -4611686018427387904 ≤ n * 1024 * 1024 * 1024) (hb2 : n * 1024 * 1024 * 1024 ≤ 4611686018427387904)
    (htb : Tb lab w) (hs : X.Sets (.int (n * 1024 * 1024 * 1024)) X') :
    Calls Tryz.prog 57 #[.pointer (some ⟨K.p, 0, none⟩), .agg #[i64 7, .string xv, i64 xl, i64 xp], .string { data := #[] }] w fun e w' => e = .returned .nilIface ∧ ∃ lab', PAt B lab' w' K X' ∧ Mv PM w lab w' lab' := by
  obtain ⟨lab1, hb, m1⟩ := h.boxed hB 7 xv xl xp
  have HD := Lib.hid hdig
  have HS1 := Lib.hid hstop
  have HS2 := Lib.hid hstop2
  have HA := Lib.hid hasc
  have HT := Lib.hid htrim
  have HL := Lib.hid hlow
  have HX := Lib.hid hsf
  have HP := Lib.hid hped
  have HAS := Lib.hid hsa
  clear hdig hstop hstop2 hasc htrim hlow hsf hped hsa
  go_enter Tryz.func57, Tryz.ntmps57
  go_wp2_with fail
  have hWs : (Boxed w K 7 xv xl xp).heap.size = w.heap.size + 1 + 1 + 1 := by unfold Boxed; simp [World.size_alloc]
  have HW := Lib.hid hWs
  clear hWs
  go_loopw [9] (fun i wr => ∃ k : Nat, k ≤ d ∧ i = .int .i64 k ∧ wr = (Boxed w K 7 xv xl xp).iter xv k) (fun i _ => d - (RowKit.intOf i).toNat)
  case atStart => exact ⟨0, Nat.zero_le _, rfl, rfl⟩
  case round =>
    obtain ⟨k, hk, rfl, rfl⟩ := hrel
    have hk2 : k < xv.size := by omega
    have hnx : ∀ ty, (Instr.next (.pointer (some ⟨w.heap.size + 1 + 1 + 1, 0, none⟩)) true ty).run Tryz.prog ((Boxed w K 7 xv xl xp).iter xv k) = .ok (.tuple #[.bool true, .int .i64 k, .int .i32 (byteAt xv k : Nat)]) ((Boxed w K 7 xv xl xp).iter xv (k + 1)) := fun ty => by
      have := run_next_ascii (P := Tryz.prog) (Boxed w K 7 xv xl xp) xv k ty hk2 (by rw [byteAt_get]; exact HA.out k hk2)
      rwa [HW.out, byteAt_get] at this
    have hc := HA.out k hk2
    by_cases hlt : k < d
    · rcases HD.out k hlt with e1 | e1
      · go_wp2_with fail
        refine (isDig_c _ hc _).mono ?_
        rintro e w' ⟨rfl, rfl⟩
        go_wp2
        go_roundw
        case rel => exact ⟨k + 1, by omega, by go_num, rfl⟩
        case measure => simp [RowKit.intOf]; omega
      · have e0 : isDig (byteAt xv k) = false := by rw [e1]; rfl
        have e2 : (((byteAt xv k : Nat) : Int) == 45) = true := beq_iff_eq.2 (by omega)
        have e3 : (((byteAt xv k : Nat) : Int) != 45) = false := by rw [bne, e2]; rfl
        clear e1
        go_wp2_with fail
        refine (isDig_c _ hc _).mono ?_
        rintro e w' ⟨rfl, rfl⟩
        go_wp2
        go_roundw
        case rel => exact ⟨k + 1, by omega, by go_num, rfl⟩
        case measure => simp [RowKit.intOf]; omega
    · obtain rfl : k = d := by omega
      have e1 := HS1.out
      have e2 : (((byteAt xv k : Nat) : Int) == 45) = false := beq_eq_false_iff_ne.2 (by have := HS2.out; omega)
      have e3 : (((byteAt xv k : Nat) : Int) != 45) = true := by rw [bne, e2]; rfl
      go_wp2_with fail
      refine (isDig_c _ hc _).mono ?_
      rintro e w' ⟨rfl, rfl⟩
      have m2 := (iter_mv (Boxed w K 7 xv xl xp) lab1 xv (k + 1))
      have hb2 := hb.mv (hb.pat.mv m2 (fun _ _ h => h)) (m2.mono (fun _ h => h.elim))
      have m2' := m1.trans m2 (fun _ h => h.elim)
      obtain ⟨W, hW⟩ : ∃ W, W = (Boxed w K 7 xv xl xp).iter xv (k + 1) := ⟨_, rfl⟩
      rw [← hW] at hb2 m2 m2' ⊢
      have d1 := hb2.b1.cell 1
      clear hW hb hnx
      go_wp2_with fail
      refine (hpi W).mono ?_
      rintro e w3 ⟨rfl, hbl⟩
      have m3 := Mv.below (M := fun _ => False) hbl (lab1.ext (Boxed w K 7 xv xl xp).heap.size 7) 7
      have hb3 := hb2.mv (hb2.pat.mv m3 (fun _ _ h => h)) (m3.mono (fun _ h => h.elim))
      have m3' := m2'.trans m3 (fun _ h => h.elim)
      have htb3 := htb.mv m3' (by simp [PM])
      have d1 := hb3.b1.cell 1
      have hsl : xv.extract k xv.size = sf := HX.out
      clear hbl m3 hb2 hpi
      go_wp2_with fail
      refine (Tryz.strings_TrimSpace sf w3 (by rw [← hsl]; simp; omega) HAS.out htb3.1).mono ?_
      rintro e w4 ⟨rfl, hw4⟩
      have hbl4 : Below w3.heap.size w3 w4 := by rw [hw4]; exact ⟨rfl, rfl, rfl, by rw [Go.Lib.bytesWorld_size]; omega, fun k hk => Go.Lib.bytesWorld_at_old w3 5 sf k hk⟩
      have m4 := Mv.below (M := fun _ => False) hbl4 ((lab1.ext (Boxed w K 7 xv xl xp).heap.size 7).ext W.heap.size 7) 7
      have hb4 := hb3.mv (hb3.pat.mv m4 (fun _ _ h => h)) (m4.mono (fun _ h => h.elim))
      have m4' := m3'.trans m4 (fun _ h => h.elim)
      rw [HT.out]
      clear hw4 hbl4 m4 hb3 hsl
      go_wp2_with fail
      refine (Tryz.strings_ToLower_ascii ⟨sf.data.toList.toArray⟩ w4 ?_ ?_).mono ?_
      · have := congrArg ByteArray.size HX.out
        simp at this
        show sf.data.toList.toArray.size ≤ _
        simp
        omega
      · simpa using HAS.out
      rintro e w5 ⟨rfl, hbl5⟩
      have m5 := Mv.below (M := fun _ => False) hbl5 (((lab1.ext (Boxed w K 7 xv xl xp).heap.size 7).ext W.heap.size 7).ext w3.heap.size 7) 7
      have hb5 := hb4.mv (hb4.pat.mv m5 (fun _ _ h => h)) (m5.mono (fun _ h => h.elim))
      have m5' := m4'.trans m5 (fun _ h => h.elim)
      have e0 : (⟨(Lib.toLowerA sf.data.toList).toArray⟩ : ByteArray) = ⟨#[103, 105]⟩ := HL.out
      have d0 := hb5.b0.cell 0
      have d1 := hb5.b1.cell 0
      have d2 := hb5.b1.cell 1
      have d3 := hb5.b1.cell 2
      have d4 := hb5.b1.cell 3
      simp at d0 d1 d2 d3 d4
      simp only [e0]
      clear hbl5 m5 hb4 e0
      go_wp2_with fail
      refine (lay_c hb5.pat hb5.hB HP.out hs 2 _ rfl _ _ hb5.b0 7 xv xl xp).mono ?_
      rintro e w6 ⟨rfl, lab6, h6, m6⟩
      go_wp2
      go_ret
      exact ⟨rfl, lab6, h6, m5'.trans m6 (fun _ h => h)⟩
set_option maxRecDepth 100000 in
set_option maxHeartbeats 4000000 in
theorem item_ng_t (h : PAt B lab w K X) (hB : B ≤ w.heap.size) (hped : K.ped = false) (xv : ByteArray) (xl xp : Int) (d : Nat) (hd : d < xv.size) (hsz : xv.size ≤ 1000000)
    (hdig : ∀ i, i < d → isDig (byteAt xv i) = true ∨ byteAt xv i = 45) (hstop : isDig (byteAt xv d) = false) (hstop2 : byteAt xv d ≠ 45) (hasc : ∀ i, i < xv.size → byteAt xv i < 128) 
    (n : Int) (hpi : ∀ w, Calls Tryz.prog 68 #[.string (xv.extract 0 d), i64 10, i64 64] w fun e w' => e = .returned (.tuple #[.int .i64 n, .nilIface]) ∧ Below w.heap.size w w')
    (sf : ByteArray) (hsf : xv.extract d xv.size = sf) (hsa : ∀ (j : Nat) b, sf.data.toList[j]? = some b → b.toNat < 128) (htrim : Lib.trimSpace sf.data.toList = sf.data.toList) (hlow : (⟨(Lib.toLowerA sf.data.toList).toArray⟩ : ByteArray) = ⟨#[116]⟩) (hb1 : -4611686018427387904 ≤ n * 1000 * 1000 * 1000 * 1000) (hb2 : n * 1000 * 1000 * 1000 * 1000 ≤ 4611686018427387904)
    (htb : Tb lab w) (hs : X.Sets (.int (n * 1000 * 1000 * 1000 * 1000)) X') :
    Calls Tryz.prog 57 #[.pointer (some ⟨K.p, 0, none⟩), .agg #[i64 7, .string xv, i64 xl, i64 xp], .string { data := #[] }] w fun e w' => e = .returned .nilIface ∧ ∃ lab', PAt B lab' w' K X' ∧ Mv PM w lab w' lab' := by
  obtain ⟨lab1, hb, m1⟩ := h.boxed hB 7 xv xl xp
  have HD := Lib.hid hdig
  have HS1 := Lib.hid hstop
  have HS2 := Lib.hid hstop2
  have HA := Lib.hid hasc
  have HT := Lib.hid htrim
  have HL := Lib.hid hlow
  have HX := Lib.hid hsf
  have HP := Lib.hid hped
  have HAS := Lib.hid hsa
  clear hdig hstop hstop2 hasc htrim hlow hsf hped hsa
  go_enter Tryz.func57, Tryz.ntmps57
  go_wp2_with fail
  have hWs : (Boxed w K 7 xv xl xp).heap.size = w.heap.size + 1 + 1 + 1 := by unfold Boxed; simp [World.size_alloc]
  have HW := Lib.hid hWs
  clear hWs
  go_loopw [9] (fun i wr => ∃ k : Nat, k ≤ d ∧ i = .int .i64 k ∧ wr = (Boxed w K 7 xv xl xp).iter xv k) (fun i _ => d - (RowKit.intOf i).toNat)
  case atStart => exact ⟨0, Nat.zero_le _, rfl, rfl⟩
  case round =>
    obtain ⟨k, hk, rfl, rfl⟩ := hrel
    have hk2 : k < xv.size := by omega
    have hnx : ∀ ty, (Instr.next (.pointer (some ⟨w.heap.size + 1 + 1 + 1, 0, none⟩)) true ty).run Tryz.prog ((Boxed w K 7 xv xl xp).iter xv k) = .ok (.tuple #[.bool true, .int .i64 k, .int .i32 (byteAt xv k : Nat)]) ((Boxed w K 7 xv xl xp).iter xv (k + 1)) := fun ty => by
      have := run_next_ascii (P := Tryz.prog) (Boxed w K 7 xv xl xp) xv k ty hk2 (by rw [byteAt_get]; exact HA.out k hk2)
      rwa [HW.out, byteAt_get] at this
    have hc := HA.out k hk2
    by_cases hlt : k < d
    · rcases HD.out k hlt with e1 | e1
      · go_wp2_with fail
        refine (isDig_c _ hc _).mono ?_
        rintro e w' ⟨rfl, rfl⟩
        go_wp2
        go_roundw
        case rel => exact ⟨k + 1, by omega, by go_num, rfl⟩
        case measure => simp [RowKit.intOf]; omega
      · have e0 : isDig (byteAt xv k) = false := by rw [e1]; rfl
        have e2 : (((byteAt xv k : Nat) : Int) == 45) = true := beq_iff_eq.2 (by omega)
        have e3 : (((byteAt xv k : Nat) : Int) != 45) = false := by rw [bne, e2]; rfl
        clear e1
        go_wp2_with fail
        refine (isDig_c _ hc _).mono ?_
        rintro e w' ⟨rfl, rfl⟩
        go_wp2
        go_roundw
        case rel => exact ⟨k + 1, by omega, by go_num, rfl⟩
        case measure => simp [RowKit.intOf]; omega
    · obtain rfl : k = d := by omega
      have e1 := HS1.out
      have e2 : (((byteAt xv k : Nat) : Int) == 45) = false := beq_eq_false_iff_ne.2 (by have := HS2.out; omega)
      have e3 : (((byteAt xv k : Nat) : Int) != 45) = true := by rw [bne, e2]; rfl
      go_wp2_with fail
      refine (isDig_c _ hc _).mono ?_
      rintro e w' ⟨rfl, rfl⟩
      have m2 := (iter_mv (Boxed w K 7 xv xl xp) lab1 xv (k + 1))
      have hb2 := hb.mv (hb.pat.mv m2 (fun _ _ h => h)) (m2.mono (fun _ h => h.elim))
      have m2' := m1.trans m2 (fun _ h => h.elim)
      obtain ⟨W, hW⟩ : ∃ W, W = (Boxed w K 7 xv xl xp).iter xv (k + 1) := ⟨_, rfl⟩
      rw [← hW] at hb2 m2 m2' ⊢
      have d1 := hb2.b1.cell 1
      clear hW hb hnx
      go_wp2_with fail
      refine (hpi W).mono ?_
      rintro e w3 ⟨rfl, hbl⟩
      have m3 := Mv.below (M := fun _ => False) hbl (lab1.ext (Boxed w K 7 xv xl xp).heap.size 7) 7
      have hb3 := hb2.mv (hb2.pat.mv m3 (fun _ _ h => h)) (m3.mono (fun _ h => h.elim))
      have m3' := m2'.trans m3 (fun _ h => h.elim)
      have htb3 := htb.mv m3' (by simp [PM])
      have d1 := hb3.b1.cell 1
      have hsl : xv.extract k xv.size = sf := HX.out
      clear hbl m3 hb2 hpi
      go_wp2_with fail
      refine (Tryz.strings_TrimSpace sf w3 (by rw [← hsl]; simp; omega) HAS.out htb3.1).mono ?_
      rintro e w4 ⟨rfl, hw4⟩
      have hbl4 : Below w3.heap.size w3 w4 := by rw [hw4]; exact ⟨rfl, rfl, rfl, by rw [Go.Lib.bytesWorld_size]; omega, fun k hk => Go.Lib.bytesWorld_at_old w3 5 sf k hk⟩
      have m4 := Mv.below (M := fun _ => False) hbl4 ((lab1.ext (Boxed w K 7 xv xl xp).heap.size 7).ext W.heap.size 7) 7
      have hb4 := hb3.mv (hb3.pat.mv m4 (fun _ _ h => h)) (m4.mono (fun _ h => h.elim))
      have m4' := m3'.trans m4 (fun _ h => h.elim)
      rw [HT.out]
      clear hw4 hbl4 m4 hb3 hsl
      go_wp2_with fail
      refine (Tryz.strings_ToLower_ascii ⟨sf.data.toList.toArray⟩ w4 ?_ ?_).mono ?_
      · have := congrArg ByteArray.size HX.out
        simp at this
        show sf.data.toList.toArray.size ≤ _
        simp
        omega
      · simpa using HAS.out
      rintro e w5 ⟨rfl, hbl5⟩
      have m5 := Mv.below (M := fun _ => False) hbl5 (((lab1.ext (Boxed w K 7 xv xl xp).heap.size 7).ext W.heap.size 7).ext w3.heap.size 7) 7
      have hb5 := hb4.mv (hb4.pat.mv m5 (fun _ _ h => h)) (m5.mono (fun _ h => h.elim))
      have m5' := m4'.trans m5 (fun _ h => h.elim)
      have e0 : (⟨(Lib.toLowerA sf.data.toList).toArray⟩ : ByteArray) = ⟨#[116]⟩ := HL.out
      have d0 := hb5.b0.cell 0
      have d1 := hb5.b1.cell 0
      have d2 := hb5.b1.cell 1
      have d3 := hb5.b1.cell 2
      have d4 := hb5.b1.cell 3
      simp at d0 d1 d2 d3 d4
      simp only [e0]
      clear hbl5 m5 hb4 e0
      go_wp2_with fail
      refine (lay_c hb5.pat hb5.hB HP.out hs 2 _ rfl _ _ hb5.b0 7 xv xl xp).mono ?_
      rintro e w6 ⟨rfl, lab6, h6, m6⟩
      go_wp2
      go_ret
      exact ⟨rfl, lab6, h6, m5'.trans m6 (fun _ h => h)⟩
set_option maxRecDepth 100000 in
set_option maxHeartbeats 4000000 in
theorem item_ng_tb (h : PAt B lab w K X) (hB : B ≤ w.heap.size) (hped : K.ped = false) (xv : ByteArray) (xl xp : Int) (d : Nat) (hd : d < xv.size) (hsz : xv.size ≤ 1000000)
    (hdig : ∀ i, i < d → isDig (byteAt xv i) = true ∨ byteAt xv i = 45) (hstop : isDig (byteAt xv d) = false) (hstop2 : byteAt xv d ≠ 45) (hasc : ∀ i, i < xv.size → byteAt xv i < 128) 
    (n : Int) (hpi : ∀ w, Calls Tryz.prog 68 #[.string (xv.extract 0 d), i64 10, i64 64] w fun e w' => e = .returned (.tuple #[.int .i64 n, .nilIface]) ∧ Below w.heap.size w w')
    (sf : ByteArray) (hsf : xv.extract d xv.size = sf) (hsa : ∀ (j : Nat) b, sf.data.toList[j]? = some b → b.toNat < 128) (htrim : Lib.trimSpace sf.data.toList = sf.data.toList) (hlow : (⟨(Lib.toLowerA sf.data.toList).toArray⟩ : ByteArray) = ⟨#[116, 98]⟩) (hb1 : -4611686018427387904 ≤ n * 1024 * 1024 * 1024 * 1024) (hb2 : n * 1024 * 1024 * 1024 * 1024 ≤ 4611686018427387904)
    (htb : Tb lab w) (hs : X.Sets (.int (n * 1024 * 1024 * 1024 * 1024)) X') :
    Calls Tryz.prog 57 #[.pointer (some ⟨K.p, 0, none⟩), .agg #[i64 7, .string xv, i64 xl, i64 xp], .string { data := #[] }] w fun e w' => e = .returned .nilIface ∧ ∃ lab', PAt B lab' w' K X' ∧ Mv PM w lab w' lab' := by
  obtain ⟨lab1, hb, m1⟩ := h.boxed hB 7 xv xl xp
  have HD := Lib.hid hdig
  have HS1 := Lib.hid hstop
  have HS2 := Lib.hid hstop2
  have HA := Lib.hid hasc
  have HT := Lib.hid htrim
  have HL := Lib.hid hlow
  have HX := Lib.hid hsf
  have HP := Lib.hid hped
  have HAS := Lib.hid hsa
  clear hdig hstop hstop2 hasc htrim hlow hsf hped hsa
  go_enter Tryz.func57, Tryz.ntmps57
  go_wp2_with fail
  have hWs : (Boxed w K 7 xv xl xp).heap.size = w.heap.size + 1 + 1 + 1 := by unfold Boxed; simp [World.size_alloc]
  have HW := Lib.hid hWs
  clear hWs
  go_loopw [9] (fun i wr => ∃ k : Nat, k ≤ d ∧ i = .int .i64 k ∧ wr = (Boxed w K 7 xv xl xp).iter xv k) (fun i _ => d - (RowKit.intOf i).toNat)
  case atStart => exact ⟨0, Nat.zero_le _, rfl, rfl⟩
  case round =>
    obtain ⟨k, hk, rfl, rfl⟩ := hrel
    have hk2 : k < xv.size := by omega
    have hnx : ∀ ty, (Instr.next (.pointer (some ⟨w.heap.size + 1 + 1 + 1, 0, none⟩)) true ty).run Tryz.prog ((Boxed w K 7 xv xl xp).iter xv k) = .ok (.tuple #[.bool true, .int .i64 k, .int .i32 (byteAt xv k : Nat)]) ((Boxed w K 7 xv xl xp).iter xv (k + 1)) := fun ty => by
      have := run_next_ascii (P := Tryz.prog) (Boxed w K 7 xv xl xp) xv k ty hk2 (by rw [byteAt_get]; exact HA.out k hk2)
      rwa [HW.out, byteAt_get] at this
    have hc := HA.out k hk2
    by_cases hlt : k < d
    · rcases HD.out k hlt with e1 | e1
      · go_wp2_with fail
        refine (isDig_c _ hc _).mono ?_
        rintro e w' ⟨rfl, rfl⟩
        go_wp2
        go_roundw
        case rel => exact ⟨k + 1, by omega, by go_num, rfl⟩
        case measure => simp [RowKit.intOf]; omega
      · have e0 : isDig (byteAt xv k) = false := by rw [e1]; rfl
        have e2 : (((byteAt xv k : Nat) : Int) == 45) = true := beq_iff_eq.2 (by omega)
        have e3 : (((byteAt xv k : Nat) : Int) != 45) = false := by rw [bne, e2]; rfl
        clear e1
        go_wp2_with fail
        refine (isDig_c _ hc _).mono ?_
        rintro e w' ⟨rfl, rfl⟩
        go_wp2
        go_roundw
        case rel => exact ⟨k + 1, by omega, by go_num, rfl⟩
        case measure => simp [RowKit.intOf]; omega
    · obtain rfl : k = d := by omega
      have e1 := HS1.out
      have e2 : (((byteAt xv k : Nat) : Int) == 45) = false := beq_eq_false_iff_ne.2 (by have := HS2.out; omega)
      have e3 : (((byteAt xv k : Nat) : Int) != 45) = true := by rw [bne, e2]; rfl
      go_wp2_with fail
      refine (isDig_c _ hc _).mono ?_
      rintro e w' ⟨rfl, rfl⟩
      have m2 := (iter_mv (Boxed w K 7 xv xl xp) lab1 xv (k + 1))
      have hb2 := hb.mv (hb.pat.mv m2 (fun _ _ h => h)) (m2.mono (fun _ h => h.elim))
      have m2' := m1.trans m2 (fun _ h => h.elim)
      obtain ⟨W, hW⟩ : ∃ W, W = (Boxed w K 7 xv xl xp).iter xv (k + 1) := ⟨_, rfl⟩
      rw [← hW] at hb2 m2 m2' ⊢
      have d1 := hb2.b1.cell 1
      clear hW hb hnx
      go_wp2_with fail
      refine (hpi W).mono ?_
      rintro e w3 ⟨rfl, hbl⟩
      have m3 := Mv.below (M := fun _ => False) hbl (lab1.ext (Boxed w K 7 xv xl xp).heap.size 7) 7
      have hb3 := hb2.mv (hb2.pat.mv m3 (fun _ _ h => h)) (m3.mono (fun _ h => h.elim))
      have m3' := m2'.trans m3 (fun _ h => h.elim)
      have htb3 := htb.mv m3' (by simp [PM])
      have d1 := hb3.b1.cell 1
      have hsl : xv.extract k xv.size = sf := HX.out
      clear hbl m3 hb2 hpi
      go_wp2_with fail
      refine (Tryz.strings_TrimSpace sf w3 (by rw [← hsl]; simp; omega) HAS.out htb3.1).mono ?_
      rintro e w4 ⟨rfl, hw4⟩
      have hbl4 : Below w3.heap.size w3 w4 := by rw [hw4]; exact ⟨rfl, rfl, rfl, by rw [Go.Lib.bytesWorld_size]; omega, fun k hk => Go.Lib.bytesWorld_at_old w3 5 sf k hk⟩
      have m4 := Mv.below (M := fun _ => False) hbl4 ((lab1.ext (Boxed w K 7 xv xl xp).heap.size 7).ext W.heap.size 7) 7
      have hb4 := hb3.mv (hb3.pat.mv m4 (fun _ _ h => h)) (m4.mono (fun _ h => h.elim))
      have m4' := m3'.trans m4 (fun _ h => h.elim)
      rw [HT.out]
      clear hw4 hbl4 m4 hb3 hsl
      go_wp2_with fail
      refine (Tryz.strings_ToLower_ascii ⟨sf.data.toList.toArray⟩ w4 ?_ ?_).mono ?_
      · have := congrArg ByteArray.size HX.out
        simp at this
        show sf.data.toList.toArray.size ≤ _
        simp
        omega
      · simpa using HAS.out
      rintro e w5 ⟨rfl, hbl5⟩
      have m5 := Mv.below (M := fun _ => False) hbl5 (((lab1.ext (Boxed w K 7 xv xl xp).heap.size 7).ext W.heap.size 7).ext w3.heap.size 7) 7
      have hb5 := hb4.mv (hb4.pat.mv m5 (fun _ _ h => h)) (m5.mono (fun _ h => h.elim))
      have m5' := m4'.trans m5 (fun _ h => h.elim)
      have e0 : (⟨(Lib.toLowerA sf.data.toList).toArray⟩ : ByteArray) = ⟨#[116, 98]⟩ := HL.out
      have d0 := hb5.b0.cell 0
      have d1 := hb5.b1.cell 0
      have d2 := hb5.b1.cell 1
      have d3 := hb5.b1.cell 2
      have d4 := hb5.b1.cell 3
      simp at d0 d1 d2 d3 d4
      simp only [e0]
      clear hbl5 m5 hb4 e0
      go_wp2_with fail
      refine (lay_c hb5.pat hb5.hB HP.out hs 2 _ rfl _ _ hb5.b0 7 xv xl xp).mono ?_
      rintro e w6 ⟨rfl, lab6, h6, m6⟩
      go_wp2
      go_ret
      exact ⟨rfl, lab6, h6, m5'.trans m6 (fun _ h => h)⟩
set_option maxRecDepth 100000 in
set_option maxHeartbeats 4000000 in
theorem item_ng_tib (h : PAt B lab w K X) (hB : B ≤ w.heap.size) (hped : K.ped = false) (xv : ByteArray) (xl xp : Int) (d : Nat) (hd : d < xv.size) (hsz : xv.size ≤ 1000000)
    (hdig : ∀ i, i < d → isDig (byteAt xv i) = true ∨ byteAt xv i = 45) (hstop : isDig (byteAt xv d) = false) (hstop2 : byteAt xv d ≠ 45) (hasc : ∀ i, i < xv.size → byteAt xv i < 128) 
    (n : Int) (hpi : ∀ w, Calls Tryz.prog 68 #[.string (xv.extract 0 d), i64 10, i64 64] w fun e w' => e = .returned (.tuple #[.int .i64 n, .nilIface]) ∧ Below w.heap.size w w')
    (sf : ByteArray) (hsf : xv.extract d xv.size = sf) (hsa : ∀ (j : Nat) b, sf.data.toList[j]? = some b → b.toNat < 128) (htrim : Lib.trimSpace sf.data.toList = sf.data.toList) (hlow : (⟨(Lib.toLowerA sf.data.toList).toArray⟩ : ByteArray) = ⟨#[116, 105, 98]⟩) (hb1 : -4611686018427387904 ≤ n * 1024 * 1024 * 1024 * 1024) (hb2 : n * 1024 * 1024 * 1024 * 1024 ≤ 4611686018427387904)
    (htb : Tb lab w) (hs : X.Sets (.int (n * 1024 * 1024 * 1024 * 1024)) X') :
    Calls Tryz.prog 57 #[.pointer (some ⟨K.p, 0, none⟩), .agg #[i64 7, .string xv, i64 xl, i64 xp], .string { data := #[] }] w fun e w' => e = .returned .nilIface ∧ ∃ lab', PAt B lab' w' K X' ∧ Mv PM w lab w' lab' := by
  obtain ⟨lab1, hb, m1⟩ := h.boxed hB 7 xv xl xp
  have HD := Lib.hid hdig
  have HS1 := Lib.hid hstop
  have HS2 := Lib.hid hstop2
  have HA := Lib.hid hasc
  have HT := Lib.hid htrim
  have HL := Lib.hid hlow
  have HX := Lib.hid hsf
  have HP := Lib.hid hped
  have HAS := Lib.hid hsa
  clear hdig hstop hstop2 hasc htrim hlow hsf hped hsa
  go_enter Tryz.func57, Tryz.ntmps57
  go_wp2_with fail
  have hWs : (Boxed w K 7 xv xl xp).heap.size = w.heap.size + 1 + 1 + 1 := by unfold Boxed; simp [World.size_alloc]
  have HW := Lib.hid hWs
  clear hWs
  go_loopw [9] (fun i wr => ∃ k : Nat, k ≤ d ∧ i = .int .i64 k ∧ wr = (Boxed w K 7 xv xl xp).iter xv k) (fun i _ => d - (RowKit.intOf i).toNat)
  case atStart => exact ⟨0, Nat.zero_le _, rfl, rfl⟩
  case round =>
    obtain ⟨k, hk, rfl, rfl⟩ := hrel
    have hk2 : k < xv.size := by omega
    have hnx : ∀ ty, (Instr.next (.pointer (some ⟨w.heap.size + 1 + 1 + 1, 0, none⟩)) true ty).run Tryz.prog ((Boxed w K 7 xv xl xp).iter xv k) = .ok (.tuple #[.bool true, .int .i64 k, .int .i32 (byteAt xv k : Nat)]) ((Boxed w K 7 xv xl xp).iter xv (k + 1)) := fun ty => by
      have := run_next_ascii (P := Tryz.prog) (Boxed w K 7 xv xl xp) xv k ty hk2 (by rw [byteAt_get]; exact HA.out k hk2)
      rwa [HW.out, byteAt_get] at this
    have hc := HA.out k hk2
    by_cases hlt : k < d
    · rcases HD.out k hlt with e1 | e1
      · go_wp2_with fail
        refine (isDig_c _ hc _).mono ?_
        rintro e w' ⟨rfl, rfl⟩
        go_wp2
        go_roundw
        case rel => exact ⟨k + 1, by omega, by go_num, rfl⟩
        case measure => simp [RowKit.intOf]; omega
      · have e0 : isDig (byteAt xv k) = false := by rw [e1]; rfl
        have e2 : (((byteAt xv k : Nat) : Int) == 45) = true := beq_iff_eq.2 (by omega)
        have e3 : (((byteAt xv k : Nat) : Int) != 45) = false := by rw [bne, e2]; rfl
        clear e1
        go_wp2_with fail
        refine (isDig_c _ hc _).mono ?_
        rintro e w' ⟨rfl, rfl⟩
        go_wp2
        go_roundw
        case rel => exact ⟨k + 1, by omega, by go_num, rfl⟩
        case measure => simp [RowKit.intOf]; omega
    · obtain rfl : k = d := by omega
      have e1 := HS1.out
      have e2 : (((byteAt xv k : Nat) : Int) == 45) = false := beq_eq_false_iff_ne.2 (by have := HS2.out; omega)
      have e3 : (((byteAt xv k : Nat) : Int) != 45) = true := by rw [bne, e2]; rfl
      go_wp2_with fail
      refine (isDig_c _ hc _).mono ?_
      rintro e w' ⟨rfl, rfl⟩
      have m2 := (iter_mv (Boxed w K 7 xv xl xp) lab1 xv (k + 1))
      have hb2 := hb.mv (hb.pat.mv m2 (fun _ _ h => h)) (m2.mono (fun _ h => h.elim))
      have m2' := m1.trans m2 (fun _ h => h.elim)
      obtain ⟨W, hW⟩ : ∃ W, W = (Boxed w K 7 xv xl xp).iter xv (k + 1) := ⟨_, rfl⟩
      rw [← hW] at hb2 m2 m2' ⊢
      have d1 := hb2.b1.cell 1
      clear hW hb hnx
      go_wp2_with fail
      refine (hpi W).mono ?_
      rintro e w3 ⟨rfl, hbl⟩
      have m3 := Mv.below (M := fun _ => False) hbl (lab1.ext (Boxed w K 7 xv xl xp).heap.size 7) 7
      have hb3 := hb2.mv (hb2.pat.mv m3 (fun _ _ h => h)) (m3.mono (fun _ h => h.elim))
      have m3' := m2'.trans m3 (fun _ h => h.elim)
      have htb3 := htb.mv m3' (by simp [PM])
      have d1 := hb3.b1.cell 1
      have hsl : xv.extract k xv.size = sf := HX.out
      clear hbl m3 hb2 hpi
      go_wp2_with fail
      refine (Tryz.strings_TrimSpace sf w3 (by rw [← hsl]; simp; omega) HAS.out htb3.1).mono ?_
      rintro e w4 ⟨rfl, hw4⟩
      have hbl4 : Below w3.heap.size w3 w4 := by rw [hw4]; exact ⟨rfl, rfl, rfl, by rw [Go.Lib.bytesWorld_size]; omega, fun k hk => Go.Lib.bytesWorld_at_old w3 5 sf k hk⟩
      have m4 := Mv.below (M := fun _ => False) hbl4 ((lab1.ext (Boxed w K 7 xv xl xp).heap.size 7).ext W.heap.size 7) 7
      have hb4 := hb3.mv (hb3.pat.mv m4 (fun _ _ h => h)) (m4.mono (fun _ h => h.elim))
      have m4' := m3'.trans m4 (fun _ h => h.elim)
      rw [HT.out]
      clear hw4 hbl4 m4 hb3 hsl
      go_wp2_with fail
      refine (Tryz.strings_ToLower_ascii ⟨sf.data.toList.toArray⟩ w4 ?_ ?_).mono ?_
      · have := congrArg ByteArray.size HX.out
        simp at this
        show sf.data.toList.toArray.size ≤ _
        simp
        omega
      · simpa using HAS.out
      rintro e w5 ⟨rfl, hbl5⟩
      have m5 := Mv.below (M := fun _ => False) hbl5 (((lab1.ext (Boxed w K 7 xv xl xp).heap.size 7).ext W.heap.size 7).ext w3.heap.size 7) 7
      have hb5 := hb4.mv (hb4.pat.mv m5 (fun _ _ h => h)) (m5.mono (fun _ h => h.elim))
      have m5' := m4'.trans m5 (fun _ h => h.elim)
      have e0 : (⟨(Lib.toLowerA sf.data.toList).toArray⟩ : ByteArray) = ⟨#[116, 105, 98]⟩ := HL.out
      have d0 := hb5.b0.cell 0
      have d1 := hb5.b1.cell 0
      have d2 := hb5.b1.cell 1
      have d3 := hb5.b1.cell 2
      have d4 := hb5.b1.cell 3
      simp at d0 d1 d2 d3 d4
      simp only [e0]
      clear hbl5 m5 hb4 e0
      go_wp2_with fail
      refine (lay_c hb5.pat hb5.hB HP.out hs 2 _ rfl _ _ hb5.b0 7 xv xl xp).mono ?_
      rintro e w6 ⟨rfl, lab6, h6, m6⟩
      go_wp2
      go_ret
      exact ⟨rfl, lab6, h6, m5'.trans m6 (fun _ h => h)⟩
set_option maxRecDepth 100000 in
set_option maxHeartbeats 4000000 in
theorem item_ng_ti (h : PAt B lab w K X) (hB : B ≤ w.heap.size) (hped : K.ped = false) (xv : ByteArray) (xl xp : Int) (d : Nat) (hd : d < xv.size) (hsz : xv.size ≤ 1000000)
    (hdig : ∀ i, i < d → isDig (byteAt xv i) = true ∨ byteAt xv i = 45) (hstop : isDig (byteAt xv d) = false) (hstop2 : byteAt xv d ≠ 45) (hasc : ∀ i, i < xv.size → byteAt xv i < 128) 
    (n : Int) (hpi : ∀ w, Calls Tryz.prog 68 #[.string (xv.extract 0 d), i64 10, i64 64] w fun e w' => e = .returned (.tuple #[.int .i64 n, .nilIface]) ∧ Below w.heap.size w w')
    (sf : ByteArray) (hsf : xv.extract d xv.size = sf) (hsa : ∀ (j : Nat) b, sf.data.toList[j]? = some b → b.toNat < 128) (htrim : Lib.trimSpace sf.data.toList = sf.data.toList) (hlow : (⟨(Lib.toLowerA sf.data.toList).toArray⟩ : ByteArray) = ⟨#[116, 105]⟩) (hb1 : -4611686018427387904 ≤ n * 1024 * 1024 * 1024 * 1024) (hb2 : n * 1024 * 1024 * 1024 * 1024 ≤ 4611686018427387904)
    (htb : Tb lab w) (hs : X.Sets (.int (n * 1024 * 1024 * 1024 * 1024)) X') :
    Calls Tryz.prog 57 #[.pointer (some ⟨K.p, 0, none⟩), .agg #[i64 7, .string xv, i64 xl, i64 xp], .string { data := #[] }] w fun e w' => e = .returned .nilIface ∧ ∃ lab', PAt B lab' w' K X' ∧ Mv PM w lab w' lab' := by
  obtain ⟨lab1, hb, m1⟩ := h.boxed hB 7 xv xl xp
  have HD := Lib.hid hdig
  have HS1 := Lib.hid hstop
  have HS2 := Lib.hid hstop2
  have HA := Lib.hid hasc
  have HT := Lib.hid htrim
  have HL := Lib.hid hlow
  have HX := Lib.hid hsf
  have HP := Lib.hid hped
  have HAS := Lib.hid hsa
  clear hdig hstop hstop2 hasc htrim hlow hsf hped hsa
  go_enter Tryz.func57, Tryz.ntmps57
  go_wp2_with fail
  have hWs : (Boxed w K 7 xv xl xp).heap.size = w.heap.size + 1 + 1 + 1 := by unfold Boxed; simp [World.size_alloc]
  have HW := Lib.hid hWs
  clear hWs
  go_loopw [9] (fun i wr => ∃ k : Nat, k ≤ d ∧ i = .int .i64 k ∧ wr = (Boxed w K 7 xv xl xp).iter xv k) (fun i _ => d - (RowKit.intOf i).toNat)
  case atStart => exact ⟨0, Nat.zero_le _, rfl, rfl⟩
  case round =>
    obtain ⟨k, hk, rfl, rfl⟩ := hrel
    have hk2 : k < xv.size := by omega
    have hnx : ∀ ty, (Instr.next (.pointer (some ⟨w.heap.size + 1 + 1 + 1, 0, none⟩)) true ty).run Tryz.prog ((Boxed w K 7 xv xl xp).iter xv k) = .ok (.tuple #[.bool true, .int .i64 k, .int .i32 (byteAt xv k : Nat)]) ((Boxed w K 7 xv xl xp).iter xv (k + 1)) := fun ty => by
      have := run_next_ascii (P := Tryz.prog) (Boxed w K 7 xv xl xp) xv k ty hk2 (by rw [byteAt_get]; exact HA.out k hk2)
      rwa [HW.out, byteAt_get] at this
    have hc := HA.out k hk2
    by_cases hlt : k < d
    · rcases HD.out k hlt with e1 | e1
      · go_wp2_with fail
        refine (isDig_c _ hc _).mono ?_
        rintro e w' ⟨rfl, rfl⟩
        go_wp2
        go_roundw
        case rel => exact ⟨k + 1, by omega, by go_num, rfl⟩
        case measure => simp [RowKit.intOf]; omega
      · have e0 : isDig (byteAt xv k) = false := by rw [e1]; rfl
        have e2 : (((byteAt xv k : Nat) : Int) == 45) = true := beq_iff_eq.2 (by omega)
        have e3 : (((byteAt xv k : Nat) : Int) != 45) = false := by rw [bne, e2]; rfl
        clear e1
        go_wp2_with fail
        refine (isDig_c _ hc _).mono ?_
        rintro e w' ⟨rfl, rfl⟩
        go_wp2
        go_roundw
        case rel => exact ⟨k + 1, by omega, by go_num, rfl⟩
        case measure => simp [RowKit.intOf]; omega
    · obtain rfl : k = d := by omega
      have e1 := HS1.out
      have e2 : (((byteAt xv k : Nat) : Int) == 45) = false := beq_eq_false_iff_ne.2 (by have := HS2.out; omega)
      have e3 : (((byteAt xv k : Nat) : Int) != 45) = true := by rw [bne, e2]; rfl
      go_wp2_with fail
      refine (isDig_c _ hc _).mono ?_
      rintro e w' ⟨rfl, rfl⟩
      have m2 := (iter_mv (Boxed w K 7 xv xl xp) lab1 xv (k + 1))
      have hb2 := hb.mv (hb.pat.mv m2 (fun _ _ h => h)) (m2.mono (fun _ h => h.elim))
      have m2' := m1.trans m2 (fun _ h => h.elim)
      obtain ⟨W, hW⟩ : ∃ W, W = (Boxed w K 7 xv xl xp).iter xv (k + 1) := ⟨_, rfl⟩
      rw [← hW] at hb2 m2 m2' ⊢
      have d1 := hb2.b1.cell 1
      clear hW hb hnx
      go_wp2_with fail
      refine (hpi W).mono ?_
      rintro e w3 ⟨rfl, hbl⟩
      have m3 := Mv.below (M := fun _ => False) hbl (lab1.ext (Boxed w K 7 xv xl xp).heap.size 7) 7
      have hb3 := hb2.mv (hb2.pat.mv m3 (fun _ _ h => h)) (m3.mono (fun _ h => h.elim))
      have m3' := m2'.trans m3 (fun _ h => h.elim)
      have htb3 := htb.mv m3' (by simp [PM])
      have d1 := hb3.b1.cell 1
      have hsl : xv.extract k xv.size = sf := HX.out
      clear hbl m3 hb2 hpi
      go_wp2_with fail
      refine (Tryz.strings_TrimSpace sf w3 (by rw [← hsl]; simp; omega) HAS.out htb3.1).mono ?_
      rintro e w4 ⟨rfl, hw4⟩
      have hbl4 : Below w3.heap.size w3 w4 := by rw [hw4]; exact ⟨rfl, rfl, rfl, by rw [Go.Lib.bytesWorld_size]; omega, fun k hk => Go.Lib.bytesWorld_at_old w3 5 sf k hk⟩
      have m4 := Mv.below (M := fun _ => False) hbl4 ((lab1.ext (Boxed w K 7 xv xl xp).heap.size 7).ext W.heap.size 7) 7
      have hb4 := hb3.mv (hb3.pat.mv m4 (fun _ _ h => h)) (m4.mono (fun _ h => h.elim))
      have m4' := m3'.trans m4 (fun _ h => h.elim)
      rw [HT.out]
      clear hw4 hbl4 m4 hb3 hsl
      go_wp2_with fail
      refine (Tryz.strings_ToLower_ascii ⟨sf.data.toList.toArray⟩ w4 ?_ ?_).mono ?_
      · have := congrArg ByteArray.size HX.out
        simp at this
        show sf.data.toList.toArray.size ≤ _
        simp
        omega
      · simpa using HAS.out
      rintro e w5 ⟨rfl, hbl5⟩
      have m5 := Mv.below (M := fun _ => False) hbl5 (((lab1.ext (Boxed w K 7 xv xl xp).heap.size 7).ext W.heap.size 7).ext w3.heap.size 7) 7
      have hb5 := hb4.mv (hb4.pat.mv m5 (fun _ _ h => h)) (m5.mono (fun _ h => h.elim))
      have m5' := m4'.trans m5 (fun _ h => h.elim)
      have e0 : (⟨(Lib.toLowerA sf.data.toList).toArray⟩ : ByteArray) = ⟨#[116, 105]⟩ := HL.out
      have d0 := hb5.b0.cell 0
      have d1 := hb5.b1.cell 0
      have d2 := hb5.b1.cell 1
      have d3 := hb5.b1.cell 2
      have d4 := hb5.b1.cell 3
      simp at d0 d1 d2 d3 d4
      simp only [e0]
      clear hbl5 m5 hb4 e0
      go_wp2_with fail
      refine (lay_c hb5.pat hb5.hB HP.out hs 2 _ rfl _ _ hb5.b0 7 xv xl xp).mono ?_
      rintro e w6 ⟨rfl, lab6, h6, m6⟩
      go_wp2
      go_ret
      exact ⟨rfl, lab6, h6, m5'.trans m6 (fun _ h => h)⟩
end
end Go.Cf

/-
  processItem: a whole number with a sign, without a size; negative numbers are read.
-/
namespace Go.Cf
open Go.RowKit Go.Conc Go.Proofs
set_option maxRecDepth 100000 in
set_option maxHeartbeats 1000000 in
theorem parseInt_neg (t s : ByteArray) (ht : t = ⟨#[45]⟩ ++ s) (hs : 0 < s.size) (hd : isDigits s) (hn : numOf s.data.toList < 9223372036854775808) (hsm : s.size ≤ 1000000) (w : World) :
    Calls Tryz.prog 99 #[.string t, i64 10, i64 64] w fun e w' => e = .returned (.tuple #[.int .i64 (-((numOf s.data.toList : Nat) : Int)), .nilIface]) ∧ Below w.heap.size w w' := by
  have HU := parseUint_c s hs hd (by omega) hsm w
  have htz : t.size = 1 + s.size := by rw [ht, ByteArray.size_append]; rfl
  have h0s : 0 < t.size := by omega
  have h45 : (t[0]'h0s) = 45 := by
    apply UInt8.toNat_inj.1
    rw [byteAt_get, ht, byteAt_app_left _ _ _ (by decide)]
    rfl
  have hex : t.extract 1 t.size = s := by rw [ht]; exact ByteArray.extract_append_eq_right rfl (by rw [ByteArray.size_append])
  rw [htz] at hex
  have e1 : (((t[0]'h0s).toNat : Int) == 45) = true := by rw [h45]; rfl
  have e2 : (((t[0]'h0s).toNat : Int) == 43) = false := by rw [h45]; rfl
  have hne := nonempty_list t h0s
  obtain ⟨n, hnn⟩ : ∃ n, n = numOf s.data.toList := ⟨_, rfl⟩
  rw [← hnn] at hn HU ⊢
  have b1 : (n : Int) < 9223372036854775808 := by omega
  have HN := Lib.hid hn
  have d1 : decide ((9223372036854775808 : Int) ≤ (n : Int)) = false := decide_eq_false (by omega)
  have d2 : ¬ ((9223372036854775808 : Int) ≤ (n : Int)) := by omega
  have d3 : decide ((9223372036854775808 : Int) < (n : Int)) = false := decide_eq_false (by omega)
  have hw : IntKind.i64.wrap (n : Int) = (n : Int) := by rw [IntKind.wrap_i64]; omega
  have hw2 : IntKind.i64.wrap (-(n : Int)) = -(n : Int) := by rw [IntKind.wrap_i64]; omega
  have HB1 := Lib.hid b1
  have hsz1 : (1 : Int) ≤ (t.size : Int) := by omega
  clear hd hnn hn b1 ht
  go_enter Tryz.func99, Tryz.ntmps99
  go_wp2_with fail
  refine HU.mono ?_
  rintro e w1 ⟨rfl, hb⟩
  clear HU
  go_wp2
  go_ret2
  exact ⟨rfl, hb⟩
set_option maxRecDepth 100000 in
theorem ParseInt_neg (t s : ByteArray) (ht : t = ⟨#[45]⟩ ++ s) (hs : 0 < s.size) (hd : isDigits s) (hn : numOf s.data.toList < 9223372036854775808) (hsm : s.size ≤ 1000000) (w : World) :
    Calls Tryz.prog 68 #[.string t, i64 10, i64 64] w fun e w' => e = .returned (.tuple #[.int .i64 (-((numOf s.data.toList : Nat) : Int)), .nilIface]) ∧ Below w.heap.size w w' := by
  have HU := parseInt_neg t s ht hs hd hn hsm w
  clear hn hd ht
  go_enter Tryz.func68, Tryz.ntmps68
  go_wp2_with fail
  refine HU.mono ?_
  rintro e w1 ⟨rfl, hb⟩
  clear HU
  go_wp2
  go_ret2
  exact ⟨rfl, hb⟩
section
variable {B : Nat} {lab lab1 : Lab} {w w1 : World} {K : PK} {X X' : PX} {M : Nat → Prop}
set_option maxRecDepth 100000 in
set_option maxHeartbeats 4000000 in
theorem item_ng_plain (h : PAt B lab w K X) (hB : B ≤ w.heap.size) (hped : K.ped = false) (xv : ByteArray) (xl xp : Int) (hsz : xv.size ≤ 1000000) (hdig : ∀ i, i < xv.size → isDig (byteAt xv i) = true ∨ byteAt xv i = 45) (hasc : ∀ i, i < xv.size → byteAt xv i < 128)
    (n : Int) (hpi : ∀ w, Calls Tryz.prog 68 #[.string xv, i64 10, i64 64] w fun e w' => e = .returned (.tuple #[.int .i64 n, .nilIface]) ∧ Below w.heap.size w w')
    (htb : Tb lab w) (hs : X.Sets (.int n) X') :
    Calls Tryz.prog 57 #[.pointer (some ⟨K.p, 0, none⟩), .agg #[i64 7, .string xv, i64 xl, i64 xp], .string { data := #[] }] w fun e w' => e = .returned .nilIface ∧ ∃ lab', PAt B lab' w' K X' ∧ Mv PM w lab w' lab' := by
  obtain ⟨lab1, hb, m1⟩ := h.boxed hB 7 xv xl xp
  have HD := Lib.hid hdig
  have HA := Lib.hid hasc
  have HP := Lib.hid hped
  clear hdig hasc hped
  go_enter Tryz.func57, Tryz.ntmps57
  go_wp2_with fail
  have hWs : (Boxed w K 7 xv xl xp).heap.size = w.heap.size + 1 + 1 + 1 := by unfold Boxed; simp [World.size_alloc]
  have HW := Lib.hid hWs
  clear hWs
  go_loopw [9] (fun i wr => ∃ k : Nat, k ≤ xv.size ∧ i = .int .i64 k ∧ wr = (Boxed w K 7 xv xl xp).iter xv k) (fun i _ => xv.size - (RowKit.intOf i).toNat)
  case atStart => exact ⟨0, Nat.zero_le _, rfl, rfl⟩
  case round =>
    obtain ⟨k, hk, rfl, rfl⟩ := hrel
    by_cases hlt : k < xv.size
    · have hk2 := hlt
      have hnx : ∀ ty, (Instr.next (.pointer (some ⟨w.heap.size + 1 + 1 + 1, 0, none⟩)) true ty).run Tryz.prog ((Boxed w K 7 xv xl xp).iter xv k) = .ok (.tuple #[.bool true, .int .i64 k, .int .i32 (byteAt xv k : Nat)]) ((Boxed w K 7 xv xl xp).iter xv (k + 1)) := fun ty => by
        have := run_next_ascii (P := Tryz.prog) (Boxed w K 7 xv xl xp) xv k ty hk2 (by rw [byteAt_get]; exact HA.out k hk2)
        rwa [HW.out, byteAt_get] at this
      have hc := HA.out k hk2
      rcases HD.out k hlt with e1 | e1
      · go_wp2_with fail
        refine (isDig_c _ hc _).mono ?_
        rintro e w' ⟨rfl, rfl⟩
        go_wp2
        go_roundw
        case rel => exact ⟨k + 1, by omega, by go_num, rfl⟩
        case measure => simp [RowKit.intOf]; omega
      · have e0 : isDig (byteAt xv k) = false := by rw [e1]; rfl
        have e2 : (((byteAt xv k : Nat) : Int) == 45) = true := beq_iff_eq.2 (by omega)
        have e3 : (((byteAt xv k : Nat) : Int) != 45) = false := by rw [bne, e2]; rfl
        clear e1
        go_wp2_with fail
        refine (isDig_c _ hc _).mono ?_
        rintro e w' ⟨rfl, rfl⟩
        go_wp2
        go_roundw
        case rel => exact ⟨k + 1, by omega, by go_num, rfl⟩
        case measure => simp [RowKit.intOf]; omega
    · have hks : k = xv.size := by omega
      have hnx : ∀ ty, (Instr.next (.pointer (some ⟨w.heap.size + 1 + 1 + 1, 0, none⟩)) true ty).run Tryz.prog ((Boxed w K 7 xv xl xp).iter xv k) = .ok (.tuple #[.bool false]) ((Boxed w K 7 xv xl xp).iter xv k) := fun ty => by
        have := run_next_end (P := Tryz.prog) (Boxed w K 7 xv xl xp) xv k ty hlt
        rwa [HW.out] at this
      have hfull : xv.extract 0 k = xv := by rw [hks]; exact ByteArray.extract_zero_size
      have hemp : xv.extract k xv.size = ⟨#[]⟩ := by rw [hks]; exact ByteArray.extract_eq_empty_iff.2 (by omega)
      have HKS := Lib.hid hks
      have HFU := Lib.hid hfull
      have HEM := Lib.hid hemp
      clear hks hfull hemp
      have m2 := (iter_mv (Boxed w K 7 xv xl xp) lab1 xv k)
      have hb2 := hb.mv (hb.pat.mv m2 (fun _ _ h => h)) (m2.mono (fun _ h => h.elim))
      have m2' := m1.trans m2 (fun _ h => h.elim)
      obtain ⟨W, hW⟩ : ∃ W, W = (Boxed w K 7 xv xl xp).iter xv k := ⟨_, rfl⟩
      rw [← hW] at hb2 m2 m2' hnx ⊢
      have d1 := hb2.b1.cell 1
      clear hW hb
      have hfl : xv.extract 0 k = xv := HFU.out
      go_wp2_with fail
      clear hfl
      refine (hpi W).mono ?_
      rintro e w3 ⟨rfl, hbl⟩
      have m3 := Mv.below (M := fun _ => False) hbl (lab1.ext (Boxed w K 7 xv xl xp).heap.size 7) 7
      have hb3 := hb2.mv (hb2.pat.mv m3 (fun _ _ h => h)) (m3.mono (fun _ h => h.elim))
      have m3' := m2'.trans m3 (fun _ h => h.elim)
      have htb3 := htb.mv m3' (by simp [PM])
      have d1 := hb3.b1.cell 1
      have hsl : xv.extract k xv.size = ⟨#[]⟩ := HEM.out
      clear hbl m3 hb2 hpi
      go_wp2_with fail
      refine (Tryz.strings_TrimSpace ⟨#[]⟩ w3 (by decide) (fun j b h => by simp at h) htb3.1).mono ?_
      rintro e w4 ⟨rfl, hw4⟩
      have hbl4 : Below w3.heap.size w3 w4 := by rw [hw4]; exact ⟨rfl, rfl, rfl, by rw [Go.Lib.bytesWorld_size]; omega, fun k hk => Go.Lib.bytesWorld_at_old w3 5 ⟨#[]⟩ k hk⟩
      have m4 := Mv.below (M := fun _ => False) hbl4 ((lab1.ext (Boxed w K 7 xv xl xp).heap.size 7).ext W.heap.size 7) 7
      have hb4 := hb3.mv (hb3.pat.mv m4 (fun _ _ h => h)) (m4.mono (fun _ h => h.elim))
      have m4' := m3'.trans m4 (fun _ h => h.elim)
      rw [show (⟨(Lib.trimSpace (⟨#[]⟩ : ByteArray).data.toList).toArray⟩ : ByteArray) = ⟨#[]⟩ from rfl]
      clear hw4 hbl4 m4 hb3 hsl
      go_wp2_with fail
      refine (Tryz.strings_ToLower_ascii ⟨#[]⟩ w4 (by decide) (fun j b h => by simp at h)).mono ?_
      rintro e w5 ⟨rfl, hbl5⟩
      have m5 := Mv.below (M := fun _ => False) hbl5 (((lab1.ext (Boxed w K 7 xv xl xp).heap.size 7).ext W.heap.size 7).ext w3.heap.size 7) 7
      have hb5 := hb4.mv (hb4.pat.mv m5 (fun _ _ h => h)) (m5.mono (fun _ h => h.elim))
      have m5' := m4'.trans m5 (fun _ h => h.elim)
      have e0 : (⟨(Lib.toLowerA (⟨#[]⟩ : ByteArray).data.toList).toArray⟩ : ByteArray) = ⟨#[]⟩ := rfl
      have d0 := hb5.b0.cell 0
      have d1 := hb5.b1.cell 0
      have d2 := hb5.b1.cell 1
      have d3 := hb5.b1.cell 2
      have d4 := hb5.b1.cell 3
      simp at d0 d1 d2 d3 d4
      simp only [e0]
      clear hbl5 m5 hb4 e0
      go_wp2_with fail
      refine (lay_c hb5.pat hb5.hB HP.out hs 2 _ rfl _ _ hb5.b0 7 xv xl xp).mono ?_
      rintro e w6 ⟨rfl, lab6, h6, m6⟩
      go_wp2
      go_ret
      exact ⟨rfl, lab6, h6, m5'.trans m6 (fun _ h => h)⟩
end
end Go.Cf

/-
  Whole numbers in whatever spelling, as items.
-/
namespace Go.Cf
open Go.RowKit Go.Conc Go.Proofs
/-- An item of a number with a size: low is the size in small letters, f what it multiplies to. -/
def ItemNg (low : ByteArray) (f : Int → Int) : Prop :=
  ∀ (B : Nat) (lab : Lab) (w : World) (K : PK) (X X' : PX), PAt B lab w K X → B ≤ w.heap.size → K.ped = false → ∀ (xv : ByteArray) (xl xp : Int) (d : Nat), d < xv.size → xv.size ≤ 1000000 →
    (∀ i, i < d → isDig (byteAt xv i) = true ∨ byteAt xv i = 45) → isDig (byteAt xv d) = false → byteAt xv d ≠ 45 → (∀ i, i < xv.size → byteAt xv i < 128) →
    ∀ n : Int, (∀ w, Calls Tryz.prog 68 #[.string (xv.extract 0 d), i64 10, i64 64] w fun e w' => e = .returned (.tuple #[.int .i64 n, .nilIface]) ∧ Below w.heap.size w w') →
    ∀ sf : ByteArray, xv.extract d xv.size = sf → (∀ (j : Nat) b, sf.data.toList[j]? = some b → b.toNat < 128) → Lib.trimSpace sf.data.toList = sf.data.toList → (⟨(Lib.toLowerA sf.data.toList).toArray⟩ : ByteArray) = low → -4611686018427387904 ≤ f n → f n ≤ 4611686018427387904 →
    Tb lab w → X.Sets (.int (f n)) X' →
    Calls Tryz.prog 57 #[.pointer (some ⟨K.p, 0, none⟩), .agg #[i64 7, .string xv, i64 xl, i64 xp], .string { data := #[] }] w fun e w' => e = .returned .nilIface ∧ ∃ lab', PAt B lab' w' K X' ∧ Mv PM w lab w' lab'
theorem ng_k : ItemNg ⟨#[107]⟩ (fun n => n * 1000) := fun _ _ _ _ _ _ h hB hped xv xl xp d hd hsz hdig h1 h2 hasc n hpi sf hsf hsa htrim hlow hb1 hb2 htb hs => item_ng_k h hB hped xv xl xp d hd hsz hdig h1 h2 hasc n hpi sf hsf hsa htrim hlow hb1 hb2 htb hs
theorem ng_kb : ItemNg ⟨#[107, 98]⟩ (fun n => n * 1024) := fun _ _ _ _ _ _ h hB hped xv xl xp d hd hsz hdig h1 h2 hasc n hpi sf hsf hsa htrim hlow hb1 hb2 htb hs => item_ng_kb h hB hped xv xl xp d hd hsz hdig h1 h2 hasc n hpi sf hsf hsa htrim hlow hb1 hb2 htb hs
theorem ng_kib : ItemNg ⟨#[107, 105, 98]⟩ (fun n => n * 1024) := fun _ _ _ _ _ _ h hB hped xv xl xp d hd hsz hdig h1 h2 hasc n hpi sf hsf hsa htrim hlow hb1 hb2 htb hs => item_ng_kib h hB hped xv xl xp d hd hsz hdig h1 h2 hasc n hpi sf hsf hsa htrim hlow hb1 hb2 htb hs
theorem ng_ki : ItemNg ⟨#[107, 105]⟩ (fun n => n * 1024) := fun _ _ _ _ _ _ h hB hped xv xl xp d hd hsz hdig h1 h2 hasc n hpi sf hsf hsa htrim hlow hb1 hb2 htb hs => item_ng_ki h hB hped xv xl xp d hd hsz hdig h1 h2 hasc n hpi sf hsf hsa htrim hlow hb1 hb2 htb hs
theorem ng_m : ItemNg ⟨#[109]⟩ (fun n => n * 1000 * 1000) := fun _ _ _ _ _ _ h hB hped xv xl xp d hd hsz hdig h1 h2 hasc n hpi sf hsf hsa htrim hlow hb1 hb2 htb hs => item_ng_m h hB hped xv xl xp d hd hsz hdig h1 h2 hasc n hpi sf hsf hsa htrim hlow hb1 hb2 htb hs
theorem ng_mb : ItemNg ⟨#[109, 98]⟩ (fun n => n * 1024 * 1024) := fun _ _ _ _ _ _ h hB hped xv xl xp d hd hsz hdig h1 h2 hasc n hpi sf hsf hsa htrim hlow hb1 hb2 htb hs => item_ng_mb h hB hped xv xl xp d hd hsz hdig h1 h2 hasc n hpi sf hsf hsa htrim hlow hb1 hb2 htb hs
theorem ng_mib : ItemNg ⟨#[109, 105, 98]⟩ (fun n => n * 1024 * 1024) := fun _ _ _ _ _ _ h hB hped xv xl xp d hd hsz hdig h1 h2 hasc n hpi sf hsf hsa htrim hlow hb1 hb2 htb hs => item_ng_mib h hB hped xv xl xp d hd hsz hdig h1 h2 hasc n hpi sf hsf hsa htrim hlow hb1 hb2 htb hs
theorem ng_mi : ItemNg ⟨#[109, 105]⟩ (fun n => n * 1024 * 1024) := fun _ _ _ _ _ _ h hB hped xv xl xp d hd hsz hdig h1 h2 hasc n hpi sf hsf hsa htrim hlow hb1 hb2 htb hs => item_ng_mi h hB hped xv xl xp d hd hsz hdig h1 h2 hasc n hpi sf hsf hsa htrim hlow hb1 hb2 htb hs
theorem ng_g : ItemNg ⟨#[103]⟩ (fun n => n * 1000 * 1000 * 1000) := fun _ _ _ _ _ _ h hB hped xv xl xp d hd hsz hdig h1 h2 hasc n hpi sf hsf hsa htrim hlow hb1 hb2 htb hs => item_ng_g h hB hped xv xl xp d hd hsz hdig h1 h2 hasc n hpi sf hsf hsa htrim hlow hb1 hb2 htb hs
theorem ng_gb : ItemNg ⟨#[103, 98]⟩ (fun n => n * 1024 * 1024 * 1024) := fun _ _ _ _ _ _ h hB hped xv xl xp d hd hsz hdig h1 h2 hasc n hpi sf hsf hsa htrim hlow hb1 hb2 htb hs => item_ng_gb h hB hped xv xl xp d hd hsz hdig h1 h2 hasc n hpi sf hsf hsa htrim hlow hb1 hb2 htb hs
theorem ng_gib : ItemNg ⟨#[103, 105, 98]⟩ (fun n => n * 1024 * 1024 * 1024) := fun _ _ _ _ _ _ h hB hped xv xl xp d hd hsz hdig h1 h2 hasc n hpi sf hsf hsa htrim hlow hb1 hb2 htb hs => item_ng_gib h hB hped xv xl xp d hd hsz hdig h1 h2 hasc n hpi sf hsf hsa htrim hlow hb1 hb2 htb hs
theorem ng_gi : ItemNg ⟨#[103, 105]⟩ (fun n => n * 1024 * 1024 * 1024) := fun _ _ _ _ _ _ h hB hped xv xl xp d hd hsz hdig h1 h2 hasc n hpi sf hsf hsa htrim hlow hb1 hb2 htb hs => item_ng_gi h hB hped xv xl xp d hd hsz hdig h1 h2 hasc n hpi sf hsf hsa htrim hlow hb1 hb2 htb hs
theorem ng_t : ItemNg ⟨#[116]⟩ (fun n => n * 1000 * 1000 * 1000 * 1000) := fun _ _ _ _ _ _ h hB hped xv xl xp d hd hsz hdig h1 h2 hasc n hpi sf hsf hsa htrim hlow hb1 hb2 htb hs => item_ng_t h hB hped xv xl xp d hd hsz hdig h1 h2 hasc n hpi sf hsf hsa htrim hlow hb1 hb2 htb hs
theorem ng_tb : ItemNg ⟨#[116, 98]⟩ (fun n => n * 1024 * 1024 * 1024 * 1024) := fun _ _ _ _ _ _ h hB hped xv xl xp d hd hsz hdig h1 h2 hasc n hpi sf hsf hsa htrim hlow hb1 hb2 htb hs => item_ng_tb h hB hped xv xl xp d hd hsz hdig h1 h2 hasc n hpi sf hsf hsa htrim hlow hb1 hb2 htb hs
theorem ng_tib : ItemNg ⟨#[116, 105, 98]⟩ (fun n => n * 1024 * 1024 * 1024 * 1024) := fun _ _ _ _ _ _ h hB hped xv xl xp d hd hsz hdig h1 h2 hasc n hpi sf hsf hsa htrim hlow hb1 hb2 htb hs => item_ng_tib h hB hped xv xl xp d hd hsz hdig h1 h2 hasc n hpi sf hsf hsa htrim hlow hb1 hb2 htb hs
theorem ng_ti : ItemNg ⟨#[116, 105]⟩ (fun n => n * 1024 * 1024 * 1024 * 1024) := fun _ _ _ _ _ _ h hB hped xv xl xp d hd hsz hdig h1 h2 hasc n hpi sf hsf hsa htrim hlow hb1 hb2 htb hs => item_ng_ti h hB hped xv xl xp d hd hsz hdig h1 h2 hasc n hpi sf hsf hsa htrim hlow hb1 hb2 htb hs
/-- A sign and digits are read. -/
theorem pi_c (sg : ByteArray) (m : Nat) (v : Int) (hv : (sg = ⟨#[]⟩ ∧ v = m) ∨ (sg = ⟨#[45]⟩ ∧ v = -(m : Int))) (hm : m ≤ 4611686018427387904) (w : World) :
    Calls Tryz.prog 68 #[.string (sg ++ decB m), i64 10, i64 64] w fun e w' => e = .returned (.tuple #[.int .i64 v, .nilIface]) ∧ Below w.heap.size w w' := by
  have hz := decB_small m (by omega)
  rcases hv with ⟨rfl, rfl⟩ | ⟨rfl, rfl⟩
  · rw [empty_app]
    have := ParseInt_pos (decB m) hz.1 (decB_dig m) (by rw [decB_num]; omega) (by omega) w
    rwa [decB_num] at this
  · have := ParseInt_neg _ (decB m) rfl hz.1 (decB_dig m) (by rw [decB_num]; omega) (by omega) w
    rwa [decB_num] at this
theorem sgdig (sg : ByteArray) (m : Nat) (hsg : sg = ⟨#[]⟩ ∨ sg = ⟨#[45]⟩) (i : Nat) (hi : i < (sg ++ decB m).size) : (48 ≤ byteAt (sg ++ decB m) i ∧ byteAt (sg ++ decB m) i ≤ 57) ∨ byteAt (sg ++ decB m) i = 45 := by
  rcases hsg with rfl | rfl
  · rw [empty_app] at hi ⊢
    exact .inl (decB_dig m i hi)
  · rw [ByteArray.size_append] at hi
    cases i with
    | zero => right; rw [byteAt_app_left _ _ _ (by decide)]; rfl
    | succ i =>
      left
      have h := byteAt_app_right (⟨#[45]⟩ : ByteArray) (decB m) i
      rw [show (⟨#[45]⟩ : ByteArray).size + i = i + 1 from Nat.add_comm _ _] at h
      rw [h]
      have h1 : (⟨#[45]⟩ : ByteArray).size = 1 := rfl
      exact decB_dig m i (by omega)
section
variable {K : PK} {cx cx1 : List CJ} {ks ks1 : List ByteArray}
theorem works_ng {low : ByteArray} {f : Int → Int} (I : ItemNg low f) (hK : K.ped = false) (L : LX) (x : It) (hx : x.typ = 7) (sg : ByteArray) (m : Nat) (sf : ByteArray) (hv : x.val = sg ++ decB m ++ sf) (v n : Int)
    (hsv : (sg = ⟨#[]⟩ ∧ v = m) ∨ (sg = ⟨#[45]⟩ ∧ v = -(m : Int))) (hm : m ≤ 4611686018427387904) (hs0 : 0 < sf.size) (hs3 : sf.size ≤ 3) (hd : isDig (byteAt sf 0) = false) (hd2 : byteAt sf 0 ≠ 45) (hasc : ∀ j, j < sf.size → byteAt sf j < 128)
    (htrim : Lib.trimSpace sf.data.toList = sf.data.toList) (hlow : (⟨(Lib.toLowerA sf.data.toList).toArray⟩ : ByteArray) = low) (hn : f v = n) (hb1 : -4611686018427387904 ≤ n) (hb2 : n ≤ 4611686018427387904)
    (hs : (⟨L, cx, ks⟩ : PX).Sets (.int n) ⟨L, cx1, ks1⟩) : Works K ⟨L, cx, ks⟩ x ⟨L, cx1, ks1⟩ := by
  intro B lab w hB hp htb
  obtain ⟨xt, xv, xl, xp⟩ := x
  obtain rfl : xt = 7 := hx
  obtain rfl : xv = sg ++ decB m ++ sf := hv
  have hz := decB_small m (by omega)
  have hsgs : sg.size ≤ 1 := by rcases hsv with ⟨rfl, _⟩ | ⟨rfl, _⟩ <;> decide
  have hsg : sg = ⟨#[]⟩ ∨ sg = ⟨#[45]⟩ := by rcases hsv with ⟨h, _⟩ | ⟨h, _⟩; exact .inl h; exact .inr h
  have hps : (sg ++ decB m).size ≤ 20 := by rw [ByteArray.size_append]; omega
  have hall : (sg ++ decB m ++ sf).size = (sg ++ decB m).size + sf.size := ByteArray.size_append
  have hat : ∀ i, byteAt (sg ++ decB m ++ sf) ((sg ++ decB m).size + i) = byteAt sf i := fun i => byteAt_app_right _ _ _
  have hat0 := hat 0
  rw [Nat.add_zero] at hat0
  subst hn
  refine I B lab w K _ _ hp hB hK (sg ++ decB m ++ sf) xl xp (sg ++ decB m).size (by omega) (by omega) (fun i hi => ?_) (by rw [hat0]; exact hd) (by rw [hat0]; exact hd2) (fun i hi => ?_) v (fun w => ?_) sf ?_ (asc_list sf hasc) htrim hlow hb1 hb2 htb hs
  · rw [byteAt_app_left _ _ _ hi]
    rcases sgdig sg m hsg i hi with h | h
    · exact .inl (dig_true h)
    · exact .inr h
  · rcases Nat.lt_or_ge i (sg ++ decB m).size with h | h
    · rw [byteAt_app_left _ _ _ h]
      have := sgdig sg m hsg i h
      omega
    · obtain ⟨j, rfl⟩ := Nat.exists_eq_add_of_le h
      rw [hat]
      exact hasc j (by omega)
  · rw [show (sg ++ decB m ++ sf).extract 0 (sg ++ decB m).size = sg ++ decB m from ByteArray.extract_append_eq_left rfl]
    exact pi_c sg m v hsv hm w
  · exact ByteArray.extract_append_eq_right rfl (by rw [ByteArray.size_append])
theorem works_ng0 (hK : K.ped = false) (L : LX) (x : It) (hx : x.typ = 7) (sg : ByteArray) (m : Nat) (hv : x.val = sg ++ decB m) (v : Int)
    (hsv : (sg = ⟨#[]⟩ ∧ v = m) ∨ (sg = ⟨#[45]⟩ ∧ v = -(m : Int))) (hm : m ≤ 4611686018427387904)
    (hs : (⟨L, cx, ks⟩ : PX).Sets (.int v) ⟨L, cx1, ks1⟩) : Works K ⟨L, cx, ks⟩ x ⟨L, cx1, ks1⟩ := by
  intro B lab w hB hp htb
  obtain ⟨xt, xv, xl, xp⟩ := x
  obtain rfl : xt = 7 := hx
  obtain rfl : xv = sg ++ decB m := hv
  have hz := decB_small m (by omega)
  have hsgs : sg.size ≤ 1 := by rcases hsv with ⟨rfl, _⟩ | ⟨rfl, _⟩ <;> decide
  have hsg : sg = ⟨#[]⟩ ∨ sg = ⟨#[45]⟩ := by rcases hsv with ⟨h, _⟩ | ⟨h, _⟩; exact .inl h; exact .inr h
  have hps : (sg ++ decB m).size ≤ 20 := by rw [ByteArray.size_append]; omega
  refine item_ng_plain hp hB hK (sg ++ decB m) xl xp (by omega) (fun i hi => ?_) (fun i hi => ?_) v (fun w => pi_c sg m v hsv hm w) htb hs
  · rcases sgdig sg m hsg i hi with h | h
    · exact .inl (dig_true h)
    · exact .inr h
  · have := sgdig sg m hsg i hi
    omega
/-- The sizes, and their items. -/
structure SfI (sf : ByteArray) (u : Int) : Prop where
  ex : ∃ (low : ByteArray) (f : Int → Int), ItemNg low f ∧ (⟨(Lib.toLowerA sf.data.toList).toArray⟩ : ByteArray) = low ∧ ∀ v, f v = v * u
  s0 : 0 < sf.size
  s3 : sf.size ≤ 3
  d : isDig (byteAt sf 0) = false
  d2 : byteAt sf 0 ≠ 45
  suf : isSuf (byteAt sf 0) = true
  asc : ∀ j, j < sf.size → byteAt sf j < 128
  rest : ∀ j, 0 < j → j < sf.size → byteAt sf j = 98 ∨ byteAt sf j = 66 ∨ byteAt sf j = 105
  trim : Lib.trimSpace sf.data.toList = sf.data.toList
theorem sfi_low0 : SfI ⟨#[107]⟩ (mulB 1000 (0 + 1)) := ⟨⟨_, _, ng_k, rfl, fun v => by simp only [mulB]; omega⟩, by decide, by decide, rfl, by decide, rfl, (show ∀ j, j < 1 → byteAt ⟨#[107]⟩ j < 128 by decide), (fun j h0 h1 => absurd h1 (by show ¬ j < 1; omega)), rfl⟩
theorem sfi_up0 : SfI ⟨#[75]⟩ (mulB 1000 (0 + 1)) := ⟨⟨_, _, ng_k, rfl, fun v => by simp only [mulB]; omega⟩, by decide, by decide, rfl, by decide, rfl, (show ∀ j, j < 1 → byteAt ⟨#[75]⟩ j < 128 by decide), (fun j h0 h1 => absurd h1 (by show ¬ j < 1; omega)), rfl⟩
theorem sfi_kib00 : SfI ⟨#[107, 98]⟩ (mulB 1024 (0 + 1)) := ⟨⟨_, _, ng_kb, rfl, fun v => by simp only [mulB]; omega⟩, by decide, by decide, rfl, by decide, rfl, (show ∀ j, j < 2 → byteAt ⟨#[107, 98]⟩ j < 128 by decide), (show ∀ j, 0 < j → j < 2 → byteAt ⟨#[107, 98]⟩ j = 98 ∨ byteAt ⟨#[107, 98]⟩ j = 66 ∨ byteAt ⟨#[107, 98]⟩ j = 105 from (fun j h0 h1 => (show ∀ j, j < 2 → 0 < j → byteAt ⟨#[107, 98]⟩ j = 98 ∨ byteAt ⟨#[107, 98]⟩ j = 66 ∨ byteAt ⟨#[107, 98]⟩ j = 105 by decide) j h1 h0)), rfl⟩
theorem sfi_kib01 : SfI ⟨#[107, 105, 98]⟩ (mulB 1024 (0 + 1)) := ⟨⟨_, _, ng_kib, rfl, fun v => by simp only [mulB]; omega⟩, by decide, by decide, rfl, by decide, rfl, (show ∀ j, j < 3 → byteAt ⟨#[107, 105, 98]⟩ j < 128 by decide), (show ∀ j, 0 < j → j < 3 → byteAt ⟨#[107, 105, 98]⟩ j = 98 ∨ byteAt ⟨#[107, 105, 98]⟩ j = 66 ∨ byteAt ⟨#[107, 105, 98]⟩ j = 105 from (fun j h0 h1 => (show ∀ j, j < 3 → 0 < j → byteAt ⟨#[107, 105, 98]⟩ j = 98 ∨ byteAt ⟨#[107, 105, 98]⟩ j = 66 ∨ byteAt ⟨#[107, 105, 98]⟩ j = 105 by decide) j h1 h0)), rfl⟩
theorem sfi_kib02 : SfI ⟨#[107, 105]⟩ (mulB 1024 (0 + 1)) := ⟨⟨_, _, ng_ki, rfl, fun v => by simp only [mulB]; omega⟩, by decide, by decide, rfl, by decide, rfl, (show ∀ j, j < 2 → byteAt ⟨#[107, 105]⟩ j < 128 by decide), (show ∀ j, 0 < j → j < 2 → byteAt ⟨#[107, 105]⟩ j = 98 ∨ byteAt ⟨#[107, 105]⟩ j = 66 ∨ byteAt ⟨#[107, 105]⟩ j = 105 from (fun j h0 h1 => (show ∀ j, j < 2 → 0 < j → byteAt ⟨#[107, 105]⟩ j = 98 ∨ byteAt ⟨#[107, 105]⟩ j = 66 ∨ byteAt ⟨#[107, 105]⟩ j = 105 by decide) j h1 h0)), rfl⟩
theorem sfi_kib03 : SfI ⟨#[107, 66]⟩ (mulB 1024 (0 + 1)) := ⟨⟨_, _, ng_kb, rfl, fun v => by simp only [mulB]; omega⟩, by decide, by decide, rfl, by decide, rfl, (show ∀ j, j < 2 → byteAt ⟨#[107, 66]⟩ j < 128 by decide), (show ∀ j, 0 < j → j < 2 → byteAt ⟨#[107, 66]⟩ j = 98 ∨ byteAt ⟨#[107, 66]⟩ j = 66 ∨ byteAt ⟨#[107, 66]⟩ j = 105 from (fun j h0 h1 => (show ∀ j, j < 2 → 0 < j → byteAt ⟨#[107, 66]⟩ j = 98 ∨ byteAt ⟨#[107, 66]⟩ j = 66 ∨ byteAt ⟨#[107, 66]⟩ j = 105 by decide) j h1 h0)), rfl⟩
theorem sfi_low1 : SfI ⟨#[109]⟩ (mulB 1000 (1 + 1)) := ⟨⟨_, _, ng_m, rfl, fun v => by simp only [mulB]; omega⟩, by decide, by decide, rfl, by decide, rfl, (show ∀ j, j < 1 → byteAt ⟨#[109]⟩ j < 128 by decide), (fun j h0 h1 => absurd h1 (by show ¬ j < 1; omega)), rfl⟩
theorem sfi_up1 : SfI ⟨#[77]⟩ (mulB 1000 (1 + 1)) := ⟨⟨_, _, ng_m, rfl, fun v => by simp only [mulB]; omega⟩, by decide, by decide, rfl, by decide, rfl, (show ∀ j, j < 1 → byteAt ⟨#[77]⟩ j < 128 by decide), (fun j h0 h1 => absurd h1 (by show ¬ j < 1; omega)), rfl⟩
theorem sfi_kib10 : SfI ⟨#[109, 98]⟩ (mulB 1024 (1 + 1)) := ⟨⟨_, _, ng_mb, rfl, fun v => by simp only [mulB]; omega⟩, by decide, by decide, rfl, by decide, rfl, (show ∀ j, j < 2 → byteAt ⟨#[109, 98]⟩ j < 128 by decide), (show ∀ j, 0 < j → j < 2 → byteAt ⟨#[109, 98]⟩ j = 98 ∨ byteAt ⟨#[109, 98]⟩ j = 66 ∨ byteAt ⟨#[109, 98]⟩ j = 105 from (fun j h0 h1 => (show ∀ j, j < 2 → 0 < j → byteAt ⟨#[109, 98]⟩ j = 98 ∨ byteAt ⟨#[109, 98]⟩ j = 66 ∨ byteAt ⟨#[109, 98]⟩ j = 105 by decide) j h1 h0)), rfl⟩
theorem sfi_kib11 : SfI ⟨#[109, 105, 98]⟩ (mulB 1024 (1 + 1)) := ⟨⟨_, _, ng_mib, rfl, fun v => by simp only [mulB]; omega⟩, by decide, by decide, rfl, by decide, rfl, (show ∀ j, j < 3 → byteAt ⟨#[109, 105, 98]⟩ j < 128 by decide), (show ∀ j, 0 < j → j < 3 → byteAt ⟨#[109, 105, 98]⟩ j = 98 ∨ byteAt ⟨#[109, 105, 98]⟩ j = 66 ∨ byteAt ⟨#[109, 105, 98]⟩ j = 105 from (fun j h0 h1 => (show ∀ j, j < 3 → 0 < j → byteAt ⟨#[109, 105, 98]⟩ j = 98 ∨ byteAt ⟨#[109, 105, 98]⟩ j = 66 ∨ byteAt ⟨#[109, 105, 98]⟩ j = 105 by decide) j h1 h0)), rfl⟩
theorem sfi_kib12 : SfI ⟨#[109, 105]⟩ (mulB 1024 (1 + 1)) := ⟨⟨_, _, ng_mi, rfl, fun v => by simp only [mulB]; omega⟩, by decide, by decide, rfl, by decide, rfl, (show ∀ j, j < 2 → byteAt ⟨#[109, 105]⟩ j < 128 by decide), (show ∀ j, 0 < j → j < 2 → byteAt ⟨#[109, 105]⟩ j = 98 ∨ byteAt ⟨#[109, 105]⟩ j = 66 ∨ byteAt ⟨#[109, 105]⟩ j = 105 from (fun j h0 h1 => (show ∀ j, j < 2 → 0 < j → byteAt ⟨#[109, 105]⟩ j = 98 ∨ byteAt ⟨#[109, 105]⟩ j = 66 ∨ byteAt ⟨#[109, 105]⟩ j = 105 by decide) j h1 h0)), rfl⟩
theorem sfi_kib13 : SfI ⟨#[109, 66]⟩ (mulB 1024 (1 + 1)) := ⟨⟨_, _, ng_mb, rfl, fun v => by simp only [mulB]; omega⟩, by decide, by decide, rfl, by decide, rfl, (show ∀ j, j < 2 → byteAt ⟨#[109, 66]⟩ j < 128 by decide), (show ∀ j, 0 < j → j < 2 → byteAt ⟨#[109, 66]⟩ j = 98 ∨ byteAt ⟨#[109, 66]⟩ j = 66 ∨ byteAt ⟨#[109, 66]⟩ j = 105 from (fun j h0 h1 => (show ∀ j, j < 2 → 0 < j → byteAt ⟨#[109, 66]⟩ j = 98 ∨ byteAt ⟨#[109, 66]⟩ j = 66 ∨ byteAt ⟨#[109, 66]⟩ j = 105 by decide) j h1 h0)), rfl⟩
theorem sfi_low2 : SfI ⟨#[103]⟩ (mulB 1000 (2 + 1)) := ⟨⟨_, _, ng_g, rfl, fun v => by simp only [mulB]; omega⟩, by decide, by decide, rfl, by decide, rfl, (show ∀ j, j < 1 → byteAt ⟨#[103]⟩ j < 128 by decide), (fun j h0 h1 => absurd h1 (by show ¬ j < 1; omega)), rfl⟩
theorem sfi_up2 : SfI ⟨#[71]⟩ (mulB 1000 (2 + 1)) := ⟨⟨_, _, ng_g, rfl, fun v => by simp only [mulB]; omega⟩, by decide, by decide, rfl, by decide, rfl, (show ∀ j, j < 1 → byteAt ⟨#[71]⟩ j < 128 by decide), (fun j h0 h1 => absurd h1 (by show ¬ j < 1; omega)), rfl⟩
theorem sfi_kib20 : SfI ⟨#[103, 98]⟩ (mulB 1024 (2 + 1)) := ⟨⟨_, _, ng_gb, rfl, fun v => by simp only [mulB]; omega⟩, by decide, by decide, rfl, by decide, rfl, (show ∀ j, j < 2 → byteAt ⟨#[103, 98]⟩ j < 128 by decide), (show ∀ j, 0 < j → j < 2 → byteAt ⟨#[103, 98]⟩ j = 98 ∨ byteAt ⟨#[103, 98]⟩ j = 66 ∨ byteAt ⟨#[103, 98]⟩ j = 105 from (fun j h0 h1 => (show ∀ j, j < 2 → 0 < j → byteAt ⟨#[103, 98]⟩ j = 98 ∨ byteAt ⟨#[103, 98]⟩ j = 66 ∨ byteAt ⟨#[103, 98]⟩ j = 105 by decide) j h1 h0)), rfl⟩
theorem sfi_kib21 : SfI ⟨#[103, 105, 98]⟩ (mulB 1024 (2 + 1)) := ⟨⟨_, _, ng_gib, rfl, fun v => by simp only [mulB]; omega⟩, by decide, by decide, rfl, by decide, rfl, (show ∀ j, j < 3 → byteAt ⟨#[103, 105, 98]⟩ j < 128 by decide), (show ∀ j, 0 < j → j < 3 → byteAt ⟨#[103, 105, 98]⟩ j = 98 ∨ byteAt ⟨#[103, 105, 98]⟩ j = 66 ∨ byteAt ⟨#[103, 105, 98]⟩ j = 105 from (fun j h0 h1 => (show ∀ j, j < 3 → 0 < j → byteAt ⟨#[103, 105, 98]⟩ j = 98 ∨ byteAt ⟨#[103, 105, 98]⟩ j = 66 ∨ byteAt ⟨#[103, 105, 98]⟩ j = 105 by decide) j h1 h0)), rfl⟩
theorem sfi_kib22 : SfI ⟨#[103, 105]⟩ (mulB 1024 (2 + 1)) := ⟨⟨_, _, ng_gi, rfl, fun v => by simp only [mulB]; omega⟩, by decide, by decide, rfl, by decide, rfl, (show ∀ j, j < 2 → byteAt ⟨#[103, 105]⟩ j < 128 by decide), (show ∀ j, 0 < j → j < 2 → byteAt ⟨#[103, 105]⟩ j = 98 ∨ byteAt ⟨#[103, 105]⟩ j = 66 ∨ byteAt ⟨#[103, 105]⟩ j = 105 from (fun j h0 h1 => (show ∀ j, j < 2 → 0 < j → byteAt ⟨#[103, 105]⟩ j = 98 ∨ byteAt ⟨#[103, 105]⟩ j = 66 ∨ byteAt ⟨#[103, 105]⟩ j = 105 by decide) j h1 h0)), rfl⟩
theorem sfi_kib23 : SfI ⟨#[103, 66]⟩ (mulB 1024 (2 + 1)) := ⟨⟨_, _, ng_gb, rfl, fun v => by simp only [mulB]; omega⟩, by decide, by decide, rfl, by decide, rfl, (show ∀ j, j < 2 → byteAt ⟨#[103, 66]⟩ j < 128 by decide), (show ∀ j, 0 < j → j < 2 → byteAt ⟨#[103, 66]⟩ j = 98 ∨ byteAt ⟨#[103, 66]⟩ j = 66 ∨ byteAt ⟨#[103, 66]⟩ j = 105 from (fun j h0 h1 => (show ∀ j, j < 2 → 0 < j → byteAt ⟨#[103, 66]⟩ j = 98 ∨ byteAt ⟨#[103, 66]⟩ j = 66 ∨ byteAt ⟨#[103, 66]⟩ j = 105 by decide) j h1 h0)), rfl⟩
theorem sfi_low3 : SfI ⟨#[116]⟩ (mulB 1000 (3 + 1)) := ⟨⟨_, _, ng_t, rfl, fun v => by simp only [mulB]; omega⟩, by decide, by decide, rfl, by decide, rfl, (show ∀ j, j < 1 → byteAt ⟨#[116]⟩ j < 128 by decide), (fun j h0 h1 => absurd h1 (by show ¬ j < 1; omega)), rfl⟩
theorem sfi_up3 : SfI ⟨#[84]⟩ (mulB 1000 (3 + 1)) := ⟨⟨_, _, ng_t, rfl, fun v => by simp only [mulB]; omega⟩, by decide, by decide, rfl, by decide, rfl, (show ∀ j, j < 1 → byteAt ⟨#[84]⟩ j < 128 by decide), (fun j h0 h1 => absurd h1 (by show ¬ j < 1; omega)), rfl⟩
theorem sfi_kib30 : SfI ⟨#[116, 98]⟩ (mulB 1024 (3 + 1)) := ⟨⟨_, _, ng_tb, rfl, fun v => by simp only [mulB]; omega⟩, by decide, by decide, rfl, by decide, rfl, (show ∀ j, j < 2 → byteAt ⟨#[116, 98]⟩ j < 128 by decide), (show ∀ j, 0 < j → j < 2 → byteAt ⟨#[116, 98]⟩ j = 98 ∨ byteAt ⟨#[116, 98]⟩ j = 66 ∨ byteAt ⟨#[116, 98]⟩ j = 105 from (fun j h0 h1 => (show ∀ j, j < 2 → 0 < j → byteAt ⟨#[116, 98]⟩ j = 98 ∨ byteAt ⟨#[116, 98]⟩ j = 66 ∨ byteAt ⟨#[116, 98]⟩ j = 105 by decide) j h1 h0)), rfl⟩
theorem sfi_kib31 : SfI ⟨#[116, 105, 98]⟩ (mulB 1024 (3 + 1)) := ⟨⟨_, _, ng_tib, rfl, fun v => by simp only [mulB]; omega⟩, by decide, by decide, rfl, by decide, rfl, (show ∀ j, j < 3 → byteAt ⟨#[116, 105, 98]⟩ j < 128 by decide), (show ∀ j, 0 < j → j < 3 → byteAt ⟨#[116, 105, 98]⟩ j = 98 ∨ byteAt ⟨#[116, 105, 98]⟩ j = 66 ∨ byteAt ⟨#[116, 105, 98]⟩ j = 105 from (fun j h0 h1 => (show ∀ j, j < 3 → 0 < j → byteAt ⟨#[116, 105, 98]⟩ j = 98 ∨ byteAt ⟨#[116, 105, 98]⟩ j = 66 ∨ byteAt ⟨#[116, 105, 98]⟩ j = 105 by decide) j h1 h0)), rfl⟩
theorem sfi_kib32 : SfI ⟨#[116, 105]⟩ (mulB 1024 (3 + 1)) := ⟨⟨_, _, ng_ti, rfl, fun v => by simp only [mulB]; omega⟩, by decide, by decide, rfl, by decide, rfl, (show ∀ j, j < 2 → byteAt ⟨#[116, 105]⟩ j < 128 by decide), (show ∀ j, 0 < j → j < 2 → byteAt ⟨#[116, 105]⟩ j = 98 ∨ byteAt ⟨#[116, 105]⟩ j = 66 ∨ byteAt ⟨#[116, 105]⟩ j = 105 from (fun j h0 h1 => (show ∀ j, j < 2 → 0 < j → byteAt ⟨#[116, 105]⟩ j = 98 ∨ byteAt ⟨#[116, 105]⟩ j = 66 ∨ byteAt ⟨#[116, 105]⟩ j = 105 by decide) j h1 h0)), rfl⟩
theorem sfi_kib33 : SfI ⟨#[116, 66]⟩ (mulB 1024 (3 + 1)) := ⟨⟨_, _, ng_tb, rfl, fun v => by simp only [mulB]; omega⟩, by decide, by decide, rfl, by decide, rfl, (show ∀ j, j < 2 → byteAt ⟨#[116, 66]⟩ j < 128 by decide), (show ∀ j, 0 < j → j < 2 → byteAt ⟨#[116, 66]⟩ j = 98 ∨ byteAt ⟨#[116, 66]⟩ j = 66 ∨ byteAt ⟨#[116, 66]⟩ j = 105 from (fun j h0 h1 => (show ∀ j, j < 2 → 0 < j → byteAt ⟨#[116, 66]⟩ j = 98 ∨ byteAt ⟨#[116, 66]⟩ j = 66 ∨ byteAt ⟨#[116, 66]⟩ j = 105 by decide) j h1 h0)), rfl⟩
theorem Sfx.item {sf : ByteArray} {u : Int} (h : Sfx sf u) : (sf = ⟨#[]⟩ ∧ u = 1) ∨ SfI sf u := by
  cases h with
  | one => exact .inl ⟨rfl, rfl⟩
  | low U hU =>
    right
    match U, hU with
    | 0, _ => exact sfi_low0
    | 1, _ => exact sfi_low1
    | 2, _ => exact sfi_low2
    | 3, _ => exact sfi_low3
  | up U hU =>
    right
    match U, hU with
    | 0, _ => exact sfi_up0
    | 1, _ => exact sfi_up1
    | 2, _ => exact sfi_up2
    | 3, _ => exact sfi_up3
  | kib U H hU hH =>
    right
    match U, H, hU, hH with
    | 0, 0, _, _ => exact sfi_kib00
    | 0, 1, _, _ => exact sfi_kib01
    | 0, 2, _, _ => exact sfi_kib02
    | 0, 3, _, _ => exact sfi_kib03
    | 1, 0, _, _ => exact sfi_kib10
    | 1, 1, _, _ => exact sfi_kib11
    | 1, 2, _, _ => exact sfi_kib12
    | 1, 3, _, _ => exact sfi_kib13
    | 2, 0, _, _ => exact sfi_kib20
    | 2, 1, _, _ => exact sfi_kib21
    | 2, 2, _, _ => exact sfi_kib22
    | 2, 3, _, _ => exact sfi_kib23
    | 3, 0, _, _ => exact sfi_kib30
    | 3, 1, _, _ => exact sfi_kib31
    | 3, 2, _, _ => exact sfi_kib32
    | 3, 3, _, _ => exact sfi_kib33
theorem mulB_pos {sf : ByteArray} {u : Int} (h : Sfx sf u) : 1 ≤ u := by
  cases h with
  | one => omega
  | low U hU => exact (mulB_bd true (U + 1) (by omega)).1
  | up U hU => exact (mulB_bd true (U + 1) (by omega)).1
  | kib U H hU hH => exact (mulB_bd false (U + 1) (by omega)).1
/-- A whole number, in whatever spelling, is laid. -/
theorem works_intsp (hK : K.ped = false) (L : LX) (x : It) (hx : x.typ = 7) (n : Int) (h : IntSp n x.val) (hs : (⟨L, cx, ks⟩ : PX).Sets (.int n) ⟨L, cx1, ks1⟩) : Works K ⟨L, cx, ks⟩ x ⟨L, cx1, ks1⟩ := by
  obtain ⟨sg, m, sf, u, hv, hsf, hn, hb⟩ := h
  have hu := mulB_pos hsf
  have hmu : (m : Int) ≤ m * u := by
    have := Int.mul_le_mul_of_nonneg_left hu (Int.natCast_nonneg m)
    omega
  have hmu0 : (0 : Int) ≤ m * u := by omega
  have hm : m ≤ 4611686018427387904 := by omega
  rcases hsf.item with ⟨rfl, rfl⟩ | hI
  · have hv2 : x.val = sg ++ decB m := hv.trans ByteArray.append_empty
    refine works_ng0 hK L x hx sg m hv2 n ?_ hm hs
    rcases hn with ⟨h1, h2⟩ | ⟨h1, h2⟩
    · exact .inl ⟨h1, by omega⟩
    · exact .inr ⟨h1, by omega⟩
  · obtain ⟨low, f, I, hl, hf⟩ := hI.ex
    rcases hn with ⟨h1, h2⟩ | ⟨h1, h2⟩
    · exact works_ng I hK L x hx sg m sf hv m n (.inl ⟨h1, rfl⟩) hm hI.s0 hI.s3 hI.d hI.d2 hI.asc hI.trim hl (by rw [hf]; exact h2.symm) (by omega) (by omega) hs
    · exact works_ng I hK L x hx sg m sf hv (-(m : Int)) n (.inr ⟨h1, rfl⟩) hm hI.s0 hI.s3 hI.d hI.d2 hI.asc hI.trim hl (by rw [hf, h2, Int.neg_mul]) (by omega) (by omega) hs
end
end Go.Cf
