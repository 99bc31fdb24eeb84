/-
  Texts joined: V4.
-/
import Derived.Test.YtackodbeohaidaaGreatDoorVz4
/-
  processItem: a whole number with a sign, perhaps with a size: thousands and millions.
-/
namespace Go.Cf
open Go.RowKit Go.Conc Go.Proofs
section
variable {B : Nat} {lab lab1 : Lab} {w w1 : World} {K : PK} {X X' : PX} {M : Nat → Prop}
set_option maxRecDepth 100000 in
set_option maxHeartbeats 4000000 in
theorem item_ng_k (h : PAt B lab w K X) (hB : B ≤ w.heap.size) (hped : K.ped = false) (xv : ByteArray) (xl xp : Int) (d : Nat) (hd : d < xv.size) (hsz : xv.size ≤ 1000000)
    (hdig : ∀ i, i < d → isDig (byteAt xv i) = true ∨ byteAt xv i = 45) (hstop : isDig (byteAt xv d) = false) (hstop2 : byteAt xv d ≠ 45) (hasc : ∀ i, i < xv.size → byteAt xv i < 128) 
    (n : Int) (hpi : ∀ w, Calls Tryz.prog 68 #[.string (xv.extract 0 d), i64 10, i64 64] w fun e w' => e = .returned (.tuple #[.int .i64 n, .nilIface]) ∧ Below w.heap.size w w')
    (sf : ByteArray) (hsf : xv.extract d xv.size = sf) (hsa : ∀ (j : Nat) b, sf.data.toList[j]? = some b → b.toNat < 128) (htrim : Lib.trimSpace sf.data.toList = sf.data.toList) (hlow : (⟨(Lib.toLowerA sf.data.toList).toArray⟩ : ByteArray) = ⟨#[107]⟩) (hb1 : -4611686018427387904 ≤ n * 1000) (hb2 : n * 1000 ≤ 4611686018427387904)
    (htb : Tb lab w) (hs : X.Sets (.int (n * 1000)) X') :
    Calls Tryz.prog 57 #[.pointer (some ⟨K.p, 0, none⟩), .agg #[i64 7, .string xv, i64 xl, i64 xp], .string { data := #[] }] w fun e w' => e = .returned .nilIface ∧ ∃ lab', PAt B lab' w' K X' ∧ Mv PM w lab w' lab' := by
  obtain ⟨lab1, hb, m1⟩ := h.boxed hB 7 xv xl xp
  have HD := Lib.hid hdig
  have HS1 := Lib.hid hstop
  have HS2 := Lib.hid hstop2
  have HA := Lib.hid hasc
  have HT := Lib.hid htrim
  have HL := Lib.hid hlow
  have HX := Lib.hid hsf
  have HP := Lib.hid hped
  have HAS := Lib.hid hsa
  clear hdig hstop hstop2 hasc htrim hlow hsf hped hsa
  go_enter Tryz.func57, Tryz.ntmps57
  go_wp2_with fail
  have hWs : (Boxed w K 7 xv xl xp).heap.size = w.heap.size + 1 + 1 + 1 := by unfold Boxed; simp [World.size_alloc]
  have HW := Lib.hid hWs
  clear hWs
  go_loopw [9] (fun i wr => ∃ k : Nat, k ≤ d ∧ i = .int .i64 k ∧ wr = (Boxed w K 7 xv xl xp).iter xv k) (fun i _ => d - (RowKit.intOf i).toNat)
  case atStart => exact ⟨0, Nat.zero_le _, rfl, rfl⟩
  case round =>
    obtain ⟨k, hk, rfl, rfl⟩ := hrel
    have hk2 : k < xv.size := by omega
    have hnx : ∀ ty, (Instr.next (.pointer (some ⟨w.heap.size + 1 + 1 + 1, 0, none⟩)) true ty).run Tryz.prog ((Boxed w K 7 xv xl xp).iter xv k) = .ok (.tuple #[.bool true, .int .i64 k, .int .i32 (byteAt xv k : Nat)]) ((Boxed w K 7 xv xl xp).iter xv (k + 1)) := fun ty => by
      have := run_next_ascii (P := Tryz.prog) (Boxed w K 7 xv xl xp) xv k ty hk2 (by rw [byteAt_get]; exact HA.out k hk2)
      rwa [HW.out, byteAt_get] at this
    have hc := HA.out k hk2
    by_cases hlt : k < d
    · rcases HD.out k hlt with e1 | e1
      · go_wp2_with fail
        refine (isDig_c _ hc _).mono ?_
        rintro e w' ⟨rfl, rfl⟩
        go_wp2
        go_roundw
        case rel => exact ⟨k + 1, by omega, by go_num, rfl⟩
        case measure => simp [RowKit.intOf]; omega
      · have e0 : isDig (byteAt xv k) = false := by rw [e1]; rfl
        have e2 : (((byteAt xv k : Nat) : Int) == 45) = true := beq_iff_eq.2 (by omega)
        have e3 : (((byteAt xv k : Nat) : Int) != 45) = false := by rw [bne, e2]; rfl
        clear e1
        go_wp2_with fail
        refine (isDig_c _ hc _).mono ?_
        rintro e w' ⟨rfl, rfl⟩
        go_wp2
        go_roundw
        case rel => exact ⟨k + 1, by omega, by go_num, rfl⟩
        case measure => simp [RowKit.intOf]; omega
    · obtain rfl : k = d := by omega
      have e1 := HS1.out
      have e2 : (((byteAt xv k : Nat) : Int) == 45) = false := beq_eq_false_iff_ne.2 (by have := HS2.out; omega)
      have e3 : (((byteAt xv k : Nat) : Int) != 45) = true := by rw [bne, e2]; rfl
      go_wp2_with fail
      refine (isDig_c _ hc _).mono ?_
      rintro e w' ⟨rfl, rfl⟩
      have m2 := (iter_mv (Boxed w K 7 xv xl xp) lab1 xv (k + 1))
      have hb2 := hb.mv (hb.pat.mv m2 (fun _ _ h => h)) (m2.mono (fun _ h => h.elim))
      have m2' := m1.trans m2 (fun _ h => h.elim)
      obtain ⟨W, hW⟩ : ∃ W, W = (Boxed w K 7 xv xl xp).iter xv (k + 1) := ⟨_, rfl⟩
      rw [← hW] at hb2 m2 m2' ⊢
      have d1 := hb2.b1.cell 1
      clear hW hb hnx
      go_wp2_with fail
      refine (hpi W).mono ?_
      rintro e w3 ⟨rfl, hbl⟩
      have m3 := Mv.below (M := fun _ => False) hbl (lab1.ext (Boxed w K 7 xv xl xp).heap.size 7) 7
      have hb3 := hb2.mv (hb2.pat.mv m3 (fun _ _ h => h)) (m3.mono (fun _ h => h.elim))
      have m3' := m2'.trans m3 (fun _ h => h.elim)
      have htb3 := htb.mv m3' (by simp [PM])
      have d1 := hb3.b1.cell 1
      have hsl : xv.extract k xv.size = sf := HX.out
      clear hbl m3 hb2 hpi
      go_wp2_with fail
      refine (Tryz.strings_TrimSpace sf w3 (by rw [← hsl]; simp; omega) HAS.out htb3.1).mono ?_
      rintro e w4 ⟨rfl, hw4⟩
      have hbl4 : Below w3.heap.size w3 w4 := by rw [hw4]; exact ⟨rfl, rfl, rfl, by rw [Go.Lib.bytesWorld_size]; omega, fun k hk => Go.Lib.bytesWorld_at_old w3 5 sf k hk⟩
      have m4 := Mv.below (M := fun _ => False) hbl4 ((lab1.ext (Boxed w K 7 xv xl xp).heap.size 7).ext W.heap.size 7) 7
      have hb4 := hb3.mv (hb3.pat.mv m4 (fun _ _ h => h)) (m4.mono (fun _ h => h.elim))
      have m4' := m3'.trans m4 (fun _ h => h.elim)
      rw [HT.out]
      clear hw4 hbl4 m4 hb3 hsl
      go_wp2_with fail
      refine (Tryz.strings_ToLower_ascii ⟨sf.data.toList.toArray⟩ w4 ?_ ?_).mono ?_
      · have := congrArg ByteArray.size HX.out
        simp at this
        show sf.data.toList.toArray.size ≤ _
        simp
        omega
      · simpa using HAS.out
      rintro e w5 ⟨rfl, hbl5⟩
      have m5 := Mv.below (M := fun _ => False) hbl5 (((lab1.ext (Boxed w K 7 xv xl xp).heap.size 7).ext W.heap.size 7).ext w3.heap.size 7) 7
      have hb5 := hb4.mv (hb4.pat.mv m5 (fun _ _ h => h)) (m5.mono (fun _ h => h.elim))
      have m5' := m4'.trans m5 (fun _ h => h.elim)
      have e0 : (⟨(Lib.toLowerA sf.data.toList).toArray⟩ : ByteArray) = ⟨#[107]⟩ := HL.out
      have d0 := hb5.b0.cell 0
      have d1 := hb5.b1.cell 0
      have d2 := hb5.b1.cell 1
      have d3 := hb5.b1.cell 2
      have d4 := hb5.b1.cell 3
      simp at d0 d1 d2 d3 d4
      simp only [e0]
      clear hbl5 m5 hb4 e0
      go_wp2_with fail
      refine (lay_c hb5.pat hb5.hB HP.out hs 2 _ rfl _ _ hb5.b0 7 xv xl xp).mono ?_
      rintro e w6 ⟨rfl, lab6, h6, m6⟩
      go_wp2
      go_ret
      exact ⟨rfl, lab6, h6, m5'.trans m6 (fun _ h => h)⟩
set_option maxRecDepth 100000 in
set_option maxHeartbeats 4000000 in
theorem item_ng_kb (h : PAt B lab w K X) (hB : B ≤ w.heap.size) (hped : K.ped = false) (xv : ByteArray) (xl xp : Int) (d : Nat) (hd : d < xv.size) (hsz : xv.size ≤ 1000000)
    (hdig : ∀ i, i < d → isDig (byteAt xv i) = true ∨ byteAt xv i = 45) (hstop : isDig (byteAt xv d) = false) (hstop2 : byteAt xv d ≠ 45) (hasc : ∀ i, i < xv.size → byteAt xv i < 128) 
    (n : Int) (hpi : ∀ w, Calls Tryz.prog 68 #[.string (xv.extract 0 d), i64 10, i64 64] w fun e w' => e = .returned (.tuple #[.int .i64 n, .nilIface]) ∧ Below w.heap.size w w')
    (sf : ByteArray) (hsf : xv.extract d xv.size = sf) (hsa : ∀ (j : Nat) b, sf.data.toList[j]? = some b → b.toNat < 128) (htrim : Lib.trimSpace sf.data.toList = sf.data.toList) (hlow : (⟨(Lib.toLowerA sf.data.toList).toArray⟩ : ByteArray) = ⟨#[107, 98]⟩) (hb1 : -4611686018427387904 ≤ n * 1024) (hb2 : n * 1024 ≤ 4611686018427387904)
    (htb : Tb lab w) (hs : X.Sets (.int (n * 1024)) X') :
    Calls Tryz.prog 57 #[.pointer (some ⟨K.p, 0, none⟩), .agg #[i64 7, .string xv, i64 xl, i64 xp], .string { data := #[] }] w fun e w' => e = .returned .nilIface ∧ ∃ lab', PAt B lab' w' K X' ∧ Mv PM w lab w' lab' := by
  obtain ⟨lab1, hb, m1⟩ := h.boxed hB 7 xv xl xp
  have HD := Lib.hid hdig
  have HS1 := Lib.hid hstop
  have HS2 := Lib.hid hstop2
  have HA := Lib.hid hasc
  have HT := Lib.hid htrim
  have HL := Lib.hid hlow
  have HX := Lib.hid hsf
  have HP := Lib.hid hped
  have HAS := Lib.hid hsa
  clear hdig hstop hstop2 hasc htrim hlow hsf hped hsa
  go_enter Tryz.func57, Tryz.ntmps57
  go_wp2_with fail
  have hWs : (Boxed w K 7 xv xl xp).heap.size = w.heap.size + 1 + 1 + 1 := by unfold Boxed; simp [World.size_alloc]
  have HW := Lib.hid hWs
  clear hWs
  go_loopw [9] (fun i wr => ∃ k : Nat, k ≤ d ∧ i = .int .i64 k ∧ wr = (Boxed w K 7 xv xl xp).iter xv k) (fun i _ => d - (RowKit.intOf i).toNat)
  case atStart => exact ⟨0, Nat.zero_le _, rfl, rfl⟩
  case round =>
    obtain ⟨k, hk, rfl, rfl⟩ := hrel
    have hk2 : k < xv.size := by omega
    have hnx : ∀ ty, (Instr.next (.pointer (some ⟨w.heap.size + 1 + 1 + 1, 0, none⟩)) true ty).run Tryz.prog ((Boxed w K 7 xv xl xp).iter xv k) = .ok (.tuple #[.bool true, .int .i64 k, .int .i32 (byteAt xv k : Nat)]) ((Boxed w K 7 xv xl xp).iter xv (k + 1)) := fun ty => by
      have := run_next_ascii (P := Tryz.prog) (Boxed w K 7 xv xl xp) xv k ty hk2 (by rw [byteAt_get]; exact HA.out k hk2)
      rwa [HW.out, byteAt_get] at this
    have hc := HA.out k hk2
    by_cases hlt : k < d
    · rcases HD.out k hlt with e1 | e1
      · go_wp2_with fail
        refine (isDig_c _ hc _).mono ?_
        rintro e w' ⟨rfl, rfl⟩
        go_wp2
        go_roundw
        case rel => exact ⟨k + 1, by omega, by go_num, rfl⟩
        case measure => simp [RowKit.intOf]; omega
      · have e0 : isDig (byteAt xv k) = false := by rw [e1]; rfl
        have e2 : (((byteAt xv k : Nat) : Int) == 45) = true := beq_iff_eq.2 (by omega)
        have e3 : (((byteAt xv k : Nat) : Int) != 45) = false := by rw [bne, e2]; rfl
        clear e1
        go_wp2_with fail
        refine (isDig_c _ hc _).mono ?_
        rintro e w' ⟨rfl, rfl⟩
        go_wp2
        go_roundw
        case rel => exact ⟨k + 1, by omega, by go_num, rfl⟩
        case measure => simp [RowKit.intOf]; omega
    · obtain rfl : k = d := by omega
      have e1 := HS1.out
      have e2 : (((byteAt xv k : Nat) : Int) == 45) = false := beq_eq_false_iff_ne.2 (by have := HS2.out; omega)
      have e3 : (((byteAt xv k : Nat) : Int) != 45) = true := by rw [bne, e2]; rfl
      go_wp2_with fail
      refine (isDig_c _ hc _).mono ?_
      rintro e w' ⟨rfl, rfl⟩
      have m2 := (iter_mv (Boxed w K 7 xv xl xp) lab1 xv (k + 1))
      have hb2 := hb.mv (hb.pat.mv m2 (fun _ _ h => h)) (m2.mono (fun _ h => h.elim))
      have m2' := m1.trans m2 (fun _ h => h.elim)
      obtain ⟨W, hW⟩ : ∃ W, W = (Boxed w K 7 xv xl xp).iter xv (k + 1) := ⟨_, rfl⟩
      rw [← hW] at hb2 m2 m2' ⊢
      have d1 := hb2.b1.cell 1
      clear hW hb hnx
      go_wp2_with fail
      refine (hpi W).mono ?_
      rintro e w3 ⟨rfl, hbl⟩
      have m3 := Mv.below (M := fun _ => False) hbl (lab1.ext (Boxed w K 7 xv xl xp).heap.size 7) 7
      have hb3 := hb2.mv (hb2.pat.mv m3 (fun _ _ h => h)) (m3.mono (fun _ h => h.elim))
      have m3' := m2'.trans m3 (fun _ h => h.elim)
      have htb3 := htb.mv m3' (by simp [PM])
      have d1 := hb3.b1.cell 1
      have hsl : xv.extract k xv.size = sf := HX.out
      clear hbl m3 hb2 hpi
      go_wp2_with fail
      refine (Tryz.strings_TrimSpace sf w3 (by rw [← hsl]; simp; omega) HAS.out htb3.1).mono ?_
      rintro e w4 ⟨rfl, hw4⟩
      have hbl4 : Below w3.heap.size w3 w4 := by rw [hw4]; exact ⟨rfl, rfl, rfl, by rw [Go.Lib.bytesWorld_size]; omega, fun k hk => Go.Lib.bytesWorld_at_old w3 5 sf k hk⟩
      have m4 := Mv.below (M := fun _ => False) hbl4 ((lab1.ext (Boxed w K 7 xv xl xp).heap.size 7).ext W.heap.size 7) 7
      have hb4 := hb3.mv (hb3.pat.mv m4 (fun _ _ h => h)) (m4.mono (fun _ h => h.elim))
      have m4' := m3'.trans m4 (fun _ h => h.elim)
      rw [HT.out]
      clear hw4 hbl4 m4 hb3 hsl
      go_wp2_with fail
      refine (Tryz.strings_ToLower_ascii ⟨sf.data.toList.toArray⟩ w4 ?_ ?_).mono ?_
      · have := congrArg ByteArray.size HX.out
        simp at this
        show sf.data.toList.toArray.size ≤ _
        simp
        omega
      · simpa using HAS.out
      rintro e w5 ⟨rfl, hbl5⟩
      have m5 := Mv.below (M := fun _ => False) hbl5 (((lab1.ext (Boxed w K 7 xv xl xp).heap.size 7).ext W.heap.size 7).ext w3.heap.size 7) 7
      have hb5 := hb4.mv (hb4.pat.mv m5 (fun _ _ h => h)) (m5.mono (fun _ h => h.elim))
      have m5' := m4'.trans m5 (fun _ h => h.elim)
      have e0 : (⟨(Lib.toLowerA sf.data.toList).toArray⟩ : ByteArray) = ⟨#[107, 98]⟩ := HL.out
      have d0 := hb5.b0.cell 0
      have d1 := hb5.b1.cell 0
      have d2 := hb5.b1.cell 1
      have d3 := hb5.b1.cell 2
      have d4 := hb5.b1.cell 3
      simp at d0 d1 d2 d3 d4
      simp only [e0]
      clear hbl5 m5 hb4 e0
      go_wp2_with fail
      refine (lay_c hb5.pat hb5.hB HP.out hs 2 _ rfl _ _ hb5.b0 7 xv xl xp).mono ?_
      rintro e w6 ⟨rfl, lab6, h6, m6⟩
      go_wp2
      go_ret
      exact ⟨rfl, lab6, h6, m5'.trans m6 (fun _ h => h)⟩
set_option maxRecDepth 100000 in
set_option maxHeartbeats 4000000 in
theorem item_ng_kib (h : PAt B lab w K X) (hB : B ≤ w.heap.size) (hped : K.ped = false) (xv : ByteArray) (xl xp : Int) (d : Nat) (hd : d < xv.size) (hsz : xv.size ≤ 1000000)
    (hdig : ∀ i, i < d → isDig (byteAt xv i) = true ∨ byteAt xv i = 45) (hstop : isDig (byteAt xv d) = false) (hstop2 : byteAt xv d ≠ 45) (hasc : ∀ i, i < xv.size → byteAt xv i < 128) 
    (n : Int) (hpi : ∀ w, Calls Tryz.prog 68 #[.string (xv.extract 0 d), i64 10, i64 64] w fun e w' => e = .returned (.tuple #[.int .i64 n, .nilIface]) ∧ Below w.heap.size w w')
    (sf : ByteArray) (hsf : xv.extract d xv.size = sf) (hsa : ∀ (j : Nat) b, sf.data.toList[j]? = some b → b.toNat < 128) (htrim : Lib.trimSpace sf.data.toList = sf.data.toList) (hlow : (⟨(Lib.toLowerA sf.data.toList).toArray⟩ : ByteArray) = ⟨#[107, 105, 98]⟩) (hb1 : -4611686018427387904 ≤ n * 1024) (hb2 : n * 1024 ≤ 4611686018427387904)
    (htb : Tb lab w) (hs : X.Sets (.int (n * 1024)) X') :
    Calls Tryz.prog 57 #[.pointer (some ⟨K.p, 0, none⟩), .agg #[i64 7, .string xv, i64 xl, i64 xp], .string { data := #[] }] w fun e w' => e = .returned .nilIface ∧ ∃ lab', PAt B lab' w' K X' ∧ Mv PM w lab w' lab' := by
  obtain ⟨lab1, hb, m1⟩ := h.boxed hB 7 xv xl xp
  have HD := Lib.hid hdig
  have HS1 := Lib.hid hstop
  have HS2 := Lib.hid hstop2
  have HA := Lib.hid hasc
  have HT := Lib.hid htrim
  have HL := Lib.hid hlow
  have HX := Lib.hid hsf
  have HP := Lib.hid hped
  have HAS := Lib.hid hsa
  clear hdig hstop hstop2 hasc htrim hlow hsf hped hsa
  go_enter Tryz.func57, Tryz.ntmps57
  go_wp2_with fail
  have hWs : (Boxed w K 7 xv xl xp).heap.size = w.heap.size + 1 + 1 + 1 := by unfold Boxed; simp [World.size_alloc]
  have HW := Lib.hid hWs
  clear hWs
  go_loopw [9] (fun i wr => ∃ k : Nat, k ≤ d ∧ i = .int .i64 k ∧ wr = (Boxed w K 7 xv xl xp).iter xv k) (fun i _ => d - (RowKit.intOf i).toNat)
  case atStart => exact ⟨0, Nat.zero_le _, rfl, rfl⟩
  case round =>
    obtain ⟨k, hk, rfl, rfl⟩ := hrel
    have hk2 : k < xv.size := by omega
    have hnx : ∀ ty, (Instr.next (.pointer (some ⟨w.heap.size + 1 + 1 + 1, 0, none⟩)) true ty).run Tryz.prog ((Boxed w K 7 xv xl xp).iter xv k) = .ok (.tuple #[.bool true, .int .i64 k, .int .i32 (byteAt xv k : Nat)]) ((Boxed w K 7 xv xl xp).iter xv (k + 1)) := fun ty => by
      have := run_next_ascii (P := Tryz.prog) (Boxed w K 7 xv xl xp) xv k ty hk2 (by rw [byteAt_get]; exact HA.out k hk2)
      rwa [HW.out, byteAt_get] at this
    have hc := HA.out k hk2
    by_cases hlt : k < d
    · rcases HD.out k hlt with e1 | e1
      · go_wp2_with fail
        refine (isDig_c _ hc _).mono ?_
        rintro e w' ⟨rfl, rfl⟩
        go_wp2
        go_roundw
        case rel => exact ⟨k + 1, by omega, by go_num, rfl⟩
        case measure => simp [RowKit.intOf]; omega
      · have e0 : isDig (byteAt xv k) = false := by rw [e1]; rfl
        have e2 : (((byteAt xv k : Nat) : Int) == 45) = true := beq_iff_eq.2 (by omega)
        have e3 : (((byteAt xv k : Nat) : Int) != 45) = false := by rw [bne, e2]; rfl
        clear e1
        go_wp2_with fail
        refine (isDig_c _ hc _).mono ?_
        rintro e w' ⟨rfl, rfl⟩
        go_wp2
        go_roundw
        case rel => exact ⟨k + 1, by omega, by go_num, rfl⟩
        case measure => simp [RowKit.intOf]; omega
    · obtain rfl : k = d := by omega
      have e1 := HS1.out
      have e2 : (((byteAt xv k : Nat) : Int) == 45) = false := beq_eq_false_iff_ne.2 (by have := HS2.out; omega)
      have e3 : (((byteAt xv k : Nat) : Int) != 45) = true := by rw [bne, e2]; rfl
      go_wp2_with fail
      refine (isDig_c _ hc _).mono ?_
      rintro e w' ⟨rfl, rfl⟩
      have m2 := (iter_mv (Boxed w K 7 xv xl xp) lab1 xv (k + 1))
      have hb2 := hb.mv (hb.pat.mv m2 (fun _ _ h => h)) (m2.mono (fun _ h => h.elim))
      have m2' := m1.trans m2 (fun _ h => h.elim)
      obtain ⟨W, hW⟩ : ∃ W, W = (Boxed w K 7 xv xl xp).iter xv (k + 1) := ⟨_, rfl⟩
      rw [← hW] at hb2 m2 m2' ⊢
      have d1 := hb2.b1.cell 1
      clear hW hb hnx
      go_wp2_with fail
      refine (hpi W).mono ?_
      rintro e w3 ⟨rfl, hbl⟩
      have m3 := Mv.below (M := fun _ => False) hbl (lab1.ext (Boxed w K 7 xv xl xp).heap.size 7) 7
      have hb3 := hb2.mv (hb2.pat.mv m3 (fun _ _ h => h)) (m3.mono (fun _ h => h.elim))
      have m3' := m2'.trans m3 (fun _ h => h.elim)
      have htb3 := htb.mv m3' (by simp [PM])
      have d1 := hb3.b1.cell 1
      have hsl : xv.extract k xv.size = sf := HX.out
      clear hbl m3 hb2 hpi
      go_wp2_with fail
      refine (Tryz.strings_TrimSpace sf w3 (by rw [← hsl]; simp; omega) HAS.out htb3.1).mono ?_
      rintro e w4 ⟨rfl, hw4⟩
      have hbl4 : Below w3.heap.size w3 w4 := by rw [hw4]; exact ⟨rfl, rfl, rfl, by rw [Go.Lib.bytesWorld_size]; omega, fun k hk => Go.Lib.bytesWorld_at_old w3 5 sf k hk⟩
      have m4 := Mv.below (M := fun _ => False) hbl4 ((lab1.ext (Boxed w K 7 xv xl xp).heap.size 7).ext W.heap.size 7) 7
      have hb4 := hb3.mv (hb3.pat.mv m4 (fun _ _ h => h)) (m4.mono (fun _ h => h.elim))
      have m4' := m3'.trans m4 (fun _ h => h.elim)
      rw [HT.out]
      clear hw4 hbl4 m4 hb3 hsl
      go_wp2_with fail
      refine (Tryz.strings_ToLower_ascii ⟨sf.data.toList.toArray⟩ w4 ?_ ?_).mono ?_
      · have := congrArg ByteArray.size HX.out
        simp at this
        show sf.data.toList.toArray.size ≤ _
        simp
        omega
      · simpa using HAS.out
      rintro e w5 ⟨rfl, hbl5⟩
      have m5 := Mv.below (M := fun _ => False) hbl5 (((lab1.ext (Boxed w K 7 xv xl xp).heap.size 7).ext W.heap.size 7).ext w3.heap.size 7) 7
      have hb5 := hb4.mv (hb4.pat.mv m5 (fun _ _ h => h)) (m5.mono (fun _ h => h.elim))
      have m5' := m4'.trans m5 (fun _ h => h.elim)
      have e0 : (⟨(Lib.toLowerA sf.data.toList).toArray⟩ : ByteArray) = ⟨#[107, 105, 98]⟩ := HL.out
      have d0 := hb5.b0.cell 0
      have d1 := hb5.b1.cell 0
      have d2 := hb5.b1.cell 1
      have d3 := hb5.b1.cell 2
      have d4 := hb5.b1.cell 3
      simp at d0 d1 d2 d3 d4
      simp only [e0]
      clear hbl5 m5 hb4 e0
      go_wp2_with fail
      refine (lay_c hb5.pat hb5.hB HP.out hs 2 _ rfl _ _ hb5.b0 7 xv xl xp).mono ?_
      rintro e w6 ⟨rfl, lab6, h6, m6⟩
      go_wp2
      go_ret
      exact ⟨rfl, lab6, h6, m5'.trans m6 (fun _ h => h)⟩
set_option maxRecDepth 100000 in
set_option maxHeartbeats 4000000 in
theorem item_ng_ki (h : PAt B lab w K X) (hB : B ≤ w.heap.size) (hped : K.ped = false) (xv : ByteArray) (xl xp : Int) (d : Nat) (hd : d < xv.size) (hsz : xv.size ≤ 1000000)
    (hdig : ∀ i, i < d → isDig (byteAt xv i) = true ∨ byteAt xv i = 45) (hstop : isDig (byteAt xv d) = false) (hstop2 : byteAt xv d ≠ 45) (hasc : ∀ i, i < xv.size → byteAt xv i < 128) 
    (n : Int) (hpi : ∀ w, Calls Tryz.prog 68 #[.string (xv.extract 0 d), i64 10, i64 64] w fun e w' => e = .returned (.tuple #[.int .i64 n, .nilIface]) ∧ Below w.heap.size w w')
    (sf : ByteArray) (hsf : xv.extract d xv.size = sf) (hsa : ∀ (j : Nat) b, sf.data.toList[j]? = some b → b.toNat < 128) (htrim : Lib.trimSpace sf.data.toList = sf.data.toList) (hlow : (⟨(Lib.toLowerA sf.data.toList).toArray⟩ : ByteArray) = ⟨#[107, 105]⟩) (hb1 : -4611686018427387904 ≤ n * 1024) (hb2 : n * 1024 ≤ 4611686018427387904)
    (htb : Tb lab w) (hs : X.Sets (.int (n * 1024)) X') :
    Calls Tryz.prog 57 #[.pointer (some ⟨K.p, 0, none⟩), .agg #[i64 7, .string xv, i64 xl, i64 xp], .string { data := #[] }] w fun e w' => e = .returned .nilIface ∧ ∃ lab', PAt B lab' w' K X' ∧ Mv PM w lab w' lab' := by
  obtain ⟨lab1, hb, m1⟩ := h.boxed hB 7 xv xl xp
  have HD := Lib.hid hdig
  have HS1 := Lib.hid hstop
  have HS2 := Lib.hid hstop2
  have HA := Lib.hid hasc
  have HT := Lib.hid htrim
  have HL := Lib.hid hlow
  have HX := Lib.hid hsf
  have HP := Lib.hid hped
  have HAS := Lib.hid hsa
  clear hdig hstop hstop2 hasc htrim hlow hsf hped hsa
  go_enter Tryz.func57, Tryz.ntmps57
  go_wp2_with fail
  have hWs : (Boxed w K 7 xv xl xp).heap.size = w.heap.size + 1 + 1 + 1 := by unfold Boxed; simp [World.size_alloc]
  have HW := Lib.hid hWs
  clear hWs
  go_loopw [9] (fun i wr => ∃ k : Nat, k ≤ d ∧ i = .int .i64 k ∧ wr = (Boxed w K 7 xv xl xp).iter xv k) (fun i _ => d - (RowKit.intOf i).toNat)
  case atStart => exact ⟨0, Nat.zero_le _, rfl, rfl⟩
  case round =>
    obtain ⟨k, hk, rfl, rfl⟩ := hrel
    have hk2 : k < xv.size := by omega
    have hnx : ∀ ty, (Instr.next (.pointer (some ⟨w.heap.size + 1 + 1 + 1, 0, none⟩)) true ty).run Tryz.prog ((Boxed w K 7 xv xl xp).iter xv k) = .ok (.tuple #[.bool true, .int .i64 k, .int .i32 (byteAt xv k : Nat)]) ((Boxed w K 7 xv xl xp).iter xv (k + 1)) := fun ty => by
      have := run_next_ascii (P := Tryz.prog) (Boxed w K 7 xv xl xp) xv k ty hk2 (by rw [byteAt_get]; exact HA.out k hk2)
      rwa [HW.out, byteAt_get] at this
    have hc := HA.out k hk2
    by_cases hlt : k < d
    · rcases HD.out k hlt with e1 | e1
      · go_wp2_with fail
        refine (isDig_c _ hc _).mono ?_
        rintro e w' ⟨rfl, rfl⟩
        go_wp2
        go_roundw
        case rel => exact ⟨k + 1, by omega, by go_num, rfl⟩
        case measure => simp [RowKit.intOf]; omega
      · have e0 : isDig (byteAt xv k) = false := by rw [e1]; rfl
        have e2 : (((byteAt xv k : Nat) : Int) == 45) = true := beq_iff_eq.2 (by omega)
        have e3 : (((byteAt xv k : Nat) : Int) != 45) = false := by rw [bne, e2]; rfl
        clear e1
        go_wp2_with fail
        refine (isDig_c _ hc _).mono ?_
        rintro e w' ⟨rfl, rfl⟩
        go_wp2
        go_roundw
        case rel => exact ⟨k + 1, by omega, by go_num, rfl⟩
        case measure => simp [RowKit.intOf]; omega
    · obtain rfl : k = d := by omega
      have e1 := HS1.out
      have e2 : (((byteAt xv k : Nat) : Int) == 45) = false := beq_eq_false_iff_ne.2 (by have := HS2.out; omega)
      have e3 : (((byteAt xv k : Nat) : Int) != 45) = true := by rw [bne, e2]; rfl
      go_wp2_with fail
      refine (isDig_c _ hc _).mono ?_
      rintro e w' ⟨rfl, rfl⟩
      have m2 := (iter_mv (Boxed w K 7 xv xl xp) lab1 xv (k + 1))
      have hb2 := hb.mv (hb.pat.mv m2 (fun _ _ h => h)) (m2.mono (fun _ h => h.elim))
      have m2' := m1.trans m2 (fun _ h => h.elim)
      obtain ⟨W, hW⟩ : ∃ W, W = (Boxed w K 7 xv xl xp).iter xv (k + 1) := ⟨_, rfl⟩
      rw [← hW] at hb2 m2 m2' ⊢
      have d1 := hb2.b1.cell 1
      clear hW hb hnx
      go_wp2_with fail
      refine (hpi W).mono ?_
      rintro e w3 ⟨rfl, hbl⟩
      have m3 := Mv.below (M := fun _ => False) hbl (lab1.ext (Boxed w K 7 xv xl xp).heap.size 7) 7
      have hb3 := hb2.mv (hb2.pat.mv m3 (fun _ _ h => h)) (m3.mono (fun _ h => h.elim))
      have m3' := m2'.trans m3 (fun _ h => h.elim)
      have htb3 := htb.mv m3' (by simp [PM])
      have d1 := hb3.b1.cell 1
      have hsl : xv.extract k xv.size = sf := HX.out
      clear hbl m3 hb2 hpi
      go_wp2_with fail
      refine (Tryz.strings_TrimSpace sf w3 (by rw [← hsl]; simp; omega) HAS.out htb3.1).mono ?_
      rintro e w4 ⟨rfl, hw4⟩
      have hbl4 : Below w3.heap.size w3 w4 := by rw [hw4]; exact ⟨rfl, rfl, rfl, by rw [Go.Lib.bytesWorld_size]; omega, fun k hk => Go.Lib.bytesWorld_at_old w3 5 sf k hk⟩
      have m4 := Mv.below (M := fun _ => False) hbl4 ((lab1.ext (Boxed w K 7 xv xl xp).heap.size 7).ext W.heap.size 7) 7
      have hb4 := hb3.mv (hb3.pat.mv m4 (fun _ _ h => h)) (m4.mono (fun _ h => h.elim))
      have m4' := m3'.trans m4 (fun _ h => h.elim)
      rw [HT.out]
      clear hw4 hbl4 m4 hb3 hsl
      go_wp2_with fail
      refine (Tryz.strings_ToLower_ascii ⟨sf.data.toList.toArray⟩ w4 ?_ ?_).mono ?_
      · have := congrArg ByteArray.size HX.out
        simp at this
        show sf.data.toList.toArray.size ≤ _
        simp
        omega
      · simpa using HAS.out
      rintro e w5 ⟨rfl, hbl5⟩
      have m5 := Mv.below (M := fun _ => False) hbl5 (((lab1.ext (Boxed w K 7 xv xl xp).heap.size 7).ext W.heap.size 7).ext w3.heap.size 7) 7
      have hb5 := hb4.mv (hb4.pat.mv m5 (fun _ _ h => h)) (m5.mono (fun _ h => h.elim))
      have m5' := m4'.trans m5 (fun _ h => h.elim)
      have e0 : (⟨(Lib.toLowerA sf.data.toList).toArray⟩ : ByteArray) = ⟨#[107, 105]⟩ := HL.out
      have d0 := hb5.b0.cell 0
      have d1 := hb5.b1.cell 0
      have d2 := hb5.b1.cell 1
      have d3 := hb5.b1.cell 2
      have d4 := hb5.b1.cell 3
      simp at d0 d1 d2 d3 d4
      simp only [e0]
      clear hbl5 m5 hb4 e0
      go_wp2_with fail
      refine (lay_c hb5.pat hb5.hB HP.out hs 2 _ rfl _ _ hb5.b0 7 xv xl xp).mono ?_
      rintro e w6 ⟨rfl, lab6, h6, m6⟩
      go_wp2
      go_ret
      exact ⟨rfl, lab6, h6, m5'.trans m6 (fun _ h => h)⟩
set_option maxRecDepth 100000 in
set_option maxHeartbeats 4000000 in
theorem item_ng_m (h : PAt B lab w K X) (hB : B ≤ w.heap.size) (hped : K.ped = false) (xv : ByteArray) (xl xp : Int) (d : Nat) (hd : d < xv.size) (hsz : xv.size ≤ 1000000)
    (hdig : ∀ i, i < d → isDig (byteAt xv i) = true ∨ byteAt xv i = 45) (hstop : isDig (byteAt xv d) = false) (hstop2 : byteAt xv d ≠ 45) (hasc : ∀ i, i < xv.size → byteAt xv i < 128) 
    (n : Int) (hpi : ∀ w, Calls Tryz.prog 68 #[.string (xv.extract 0 d), i64 10, i64 64] w fun e w' => e = .returned (.tuple #[.int .i64 n, .nilIface]) ∧ Below w.heap.size w w')
    (sf : ByteArray) (hsf : xv.extract d xv.size = sf) (hsa : ∀ (j : Nat) b, sf.data.toList[j]? = some b → b.toNat < 128) (htrim : Lib.trimSpace sf.data.toList = sf.data.toList) (hlow : (⟨(Lib.toLowerA sf.data.toList).toArray⟩ : ByteArray) = ⟨#[109]⟩) (hb1 : -4611686018427387904 ≤ n * 1000 * 1000) (hb2 : n * 1000 * 1000 ≤ 4611686018427387904)
    (htb : Tb lab w) (hs : X.Sets (.int (n * 1000 * 1000)) X') :
    Calls Tryz.prog 57 #[.pointer (some ⟨K.p, 0, none⟩), .agg #[i64 7, .string xv, i64 xl, i64 xp], .string { data := #[] }] w fun e w' => e = .returned .nilIface ∧ ∃ lab', PAt B lab' w' K X' ∧ Mv PM w lab w' lab' := by
  obtain ⟨lab1, hb, m1⟩ := h.boxed hB 7 xv xl xp
  have HD := Lib.hid hdig
  have HS1 := Lib.hid hstop
  have HS2 := Lib.hid hstop2
  have HA := Lib.hid hasc
  have HT := Lib.hid htrim
  have HL := Lib.hid hlow
  have HX := Lib.hid hsf
  have HP := Lib.hid hped
  have HAS := Lib.hid hsa
  clear hdig hstop hstop2 hasc htrim hlow hsf hped hsa
  go_enter Tryz.func57, Tryz.ntmps57
  go_wp2_with fail
  have hWs : (Boxed w K 7 xv xl xp).heap.size = w.heap.size + 1 + 1 + 1 := by unfold Boxed; simp [World.size_alloc]
  have HW := Lib.hid hWs
  clear hWs
  go_loopw [9] (fun i wr => ∃ k : Nat, k ≤ d ∧ i = .int .i64 k ∧ wr = (Boxed w K 7 xv xl xp).iter xv k) (fun i _ => d - (RowKit.intOf i).toNat)
  case atStart => exact ⟨0, Nat.zero_le _, rfl, rfl⟩
  case round =>
    obtain ⟨k, hk, rfl, rfl⟩ := hrel
    have hk2 : k < xv.size := by omega
    have hnx : ∀ ty, (Instr.next (.pointer (some ⟨w.heap.size + 1 + 1 + 1, 0, none⟩)) true ty).run Tryz.prog ((Boxed w K 7 xv xl xp).iter xv k) = .ok (.tuple #[.bool true, .int .i64 k, .int .i32 (byteAt xv k : Nat)]) ((Boxed w K 7 xv xl xp).iter xv (k + 1)) := fun ty => by
      have := run_next_ascii (P := Tryz.prog) (Boxed w K 7 xv xl xp) xv k ty hk2 (by rw [byteAt_get]; exact HA.out k hk2)
      rwa [HW.out, byteAt_get] at this
    have hc := HA.out k hk2
    by_cases hlt : k < d
    · rcases HD.out k hlt with e1 | e1
      · go_wp2_with fail
        refine (isDig_c _ hc _).mono ?_
        rintro e w' ⟨rfl, rfl⟩
        go_wp2
        go_roundw
        case rel => exact ⟨k + 1, by omega, by go_num, rfl⟩
        case measure => simp [RowKit.intOf]; omega
      · have e0 : isDig (byteAt xv k) = false := by rw [e1]; rfl
        have e2 : (((byteAt xv k : Nat) : Int) == 45) = true := beq_iff_eq.2 (by omega)
        have e3 : (((byteAt xv k : Nat) : Int) != 45) = false := by rw [bne, e2]; rfl
        clear e1
        go_wp2_with fail
        refine (isDig_c _ hc _).mono ?_
        rintro e w' ⟨rfl, rfl⟩
        go_wp2
        go_roundw
        case rel => exact ⟨k + 1, by omega, by go_num, rfl⟩
        case measure => simp [RowKit.intOf]; omega
    · obtain rfl : k = d := by omega
      have e1 := HS1.out
      have e2 : (((byteAt xv k : Nat) : Int) == 45) = false := beq_eq_false_iff_ne.2 (by have := HS2.out; omega)
      have e3 : (((byteAt xv k : Nat) : Int) != 45) = true := by rw [bne, e2]; rfl
      go_wp2_with fail
      refine (isDig_c _ hc _).mono ?_
      rintro e w' ⟨rfl, rfl⟩
      have m2 := (iter_mv (Boxed w K 7 xv xl xp) lab1 xv (k + 1))
      have hb2 := hb.mv (hb.pat.mv m2 (fun _ _ h => h)) (m2.mono (fun _ h => h.elim))
      have m2' := m1.trans m2 (fun _ h => h.elim)
      obtain ⟨W, hW⟩ : ∃ W, W = (Boxed w K 7 xv xl xp).iter xv (k + 1) := ⟨_, rfl⟩
      rw [← hW] at hb2 m2 m2' ⊢
      have d1 := hb2.b1.cell 1
      clear hW hb hnx
      go_wp2_with fail
      refine (hpi W).mono ?_
      rintro e w3 ⟨rfl, hbl⟩
      have m3 := Mv.below (M := fun _ => False) hbl (lab1.ext (Boxed w K 7 xv xl xp).heap.size 7) 7
      have hb3 := hb2.mv (hb2.pat.mv m3 (fun _ _ h => h)) (m3.mono (fun _ h => h.elim))
      have m3' := m2'.trans m3 (fun _ h => h.elim)
      have htb3 := htb.mv m3' (by simp [PM])
      have d1 := hb3.b1.cell 1
      have hsl : xv.extract k xv.size = sf := HX.out
      clear hbl m3 hb2 hpi
      go_wp2_with fail
      refine (Tryz.strings_TrimSpace sf w3 (by rw [← hsl]; simp; omega) HAS.out htb3.1).mono ?_
      rintro e w4 ⟨rfl, hw4⟩
      have hbl4 : Below w3.heap.size w3 w4 := by rw [hw4]; exact ⟨rfl, rfl, rfl, by rw [Go.Lib.bytesWorld_size]; omega, fun k hk => Go.Lib.bytesWorld_at_old w3 5 sf k hk⟩
      have m4 := Mv.below (M := fun _ => False) hbl4 ((lab1.ext (Boxed w K 7 xv xl xp).heap.size 7).ext W.heap.size 7) 7
      have hb4 := hb3.mv (hb3.pat.mv m4 (fun _ _ h => h)) (m4.mono (fun _ h => h.elim))
      have m4' := m3'.trans m4 (fun _ h => h.elim)
      rw [HT.out]
      clear hw4 hbl4 m4 hb3 hsl
      go_wp2_with fail
      refine (Tryz.strings_ToLower_ascii ⟨sf.data.toList.toArray⟩ w4 ?_ ?_).mono ?_
      · have := congrArg ByteArray.size HX.out
        simp at this
        show sf.data.toList.toArray.size ≤ _
        simp
        omega
      · simpa using HAS.out
      rintro e w5 ⟨rfl, hbl5⟩
      have m5 := Mv.below (M := fun _ => False) hbl5 (((lab1.ext (Boxed w K 7 xv xl xp).heap.size 7).ext W.heap.size 7).ext w3.heap.size 7) 7
      have hb5 := hb4.mv (hb4.pat.mv m5 (fun _ _ h => h)) (m5.mono (fun _ h => h.elim))
      have m5' := m4'.trans m5 (fun _ h => h.elim)
      have e0 : (⟨(Lib.toLowerA sf.data.toList).toArray⟩ : ByteArray) = ⟨#[109]⟩ := HL.out
      have d0 := hb5.b0.cell 0
      have d1 := hb5.b1.cell 0
      have d2 := hb5.b1.cell 1
      have d3 := hb5.b1.cell 2
      have d4 := hb5.b1.cell 3
      simp at d0 d1 d2 d3 d4
      simp only [e0]
      clear hbl5 m5 hb4 e0
      go_wp2_with fail
      refine (lay_c hb5.pat hb5.hB HP.out hs 2 _ rfl _ _ hb5.b0 7 xv xl xp).mono ?_
      rintro e w6 ⟨rfl, lab6, h6, m6⟩
      go_wp2
      go_ret
      exact ⟨rfl, lab6, h6, m5'.trans m6 (fun _ h => h)⟩
set_option maxRecDepth 100000 in
set_option maxHeartbeats 4000000 in
theorem item_ng_mb (h : PAt B lab w K X) (hB : B ≤ w.heap.size) (hped : K.ped = false) (xv : ByteArray) (xl xp : Int) (d : Nat) (hd : d < xv.size) (hsz : xv.size ≤ 1000000)
    (hdig : ∀ i, i < d → isDig (byteAt xv i) = true ∨ byteAt xv i = 45) (hstop : isDig (byteAt xv d) = false) (hstop2 : byteAt xv d ≠ 45) (hasc : ∀ i, i < xv.size → byteAt xv i < 128) 
    (n : Int) (hpi : ∀ w, Calls Tryz.prog 68 #[.string (xv.extract 0 d), i64 10, i64 64] w fun e w' => e = .returned (.tuple #[.int .i64 n, .nilIface]) ∧ Below w.heap.size w w')
    (sf : ByteArray) (hsf : xv.extract d xv.size = sf) (hsa : ∀ (j : Nat) b, sf.data.toList[j]? = some b → b.toNat < 128) (htrim : Lib.trimSpace sf.data.toList = sf.data.toList) (hlow : (⟨(Lib.toLowerA sf.data.toList).toArray⟩ : ByteArray) = ⟨#[109, 98]⟩) (hb1 : -4611686018427387904 ≤ n * 1024 * 1024) (hb2 : n * 1024 * 1024 ≤ 4611686018427387904)
    (htb : Tb lab w) (hs : X.Sets (.int (n * 1024 * 1024)) X') :
    Calls Tryz.prog 57 #[.pointer (some ⟨K.p, 0, none⟩), .agg #[i64 7, .string xv, i64 xl, i64 xp], .string { data := #[] }] w fun e w' => e = .returned .nilIface ∧ ∃ lab', PAt B lab' w' K X' ∧ Mv PM w lab w' lab' := by
  obtain ⟨lab1, hb, m1⟩ := h.boxed hB 7 xv xl xp
  have HD := Lib.hid hdig
  have HS1 := Lib.hid hstop
  have HS2 := Lib.hid hstop2
  have HA := Lib.hid hasc
  have HT := Lib.hid htrim
  have HL := Lib.hid hlow
  have HX := Lib.hid hsf
  have HP := Lib.hid hped
  have HAS := Lib.hid hsa
  clear hdig hstop hstop2 hasc htrim hlow hsf hped hsa
  go_enter Tryz.func57, Tryz.ntmps57
  go_wp2_with fail
  have hWs : (Boxed w K 7 xv xl xp).heap.size = w.heap.size + 1 + 1 + 1 := by unfold Boxed; simp [World.size_alloc]
  have HW := Lib.hid hWs
  clear hWs
  go_loopw [9] (fun i wr => ∃ k : Nat, k ≤ d ∧ i = .int .i64 k ∧ wr = (Boxed w K 7 xv xl xp).iter xv k) (fun i _ => d - (RowKit.intOf i).toNat)
  case atStart => exact ⟨0, Nat.zero_le _, rfl, rfl⟩
  case round =>
    obtain ⟨k, hk, rfl, rfl⟩ := hrel
    have hk2 : k < xv.size := by omega
    have hnx : ∀ ty, (Instr.next (.pointer (some ⟨w.heap.size + 1 + 1 + 1, 0, none⟩)) true ty).run Tryz.prog ((Boxed w K 7 xv xl xp).iter xv k) = .ok (.tuple #[.bool true, .int .i64 k, .int .i32 (byteAt xv k : Nat)]) ((Boxed w K 7 xv xl xp).iter xv (k + 1)) := fun ty => by
      have := run_next_ascii (P := Tryz.prog) (Boxed w K 7 xv xl xp) xv k ty hk2 (by rw [byteAt_get]; exact HA.out k hk2)
      rwa [HW.out, byteAt_get] at this
    have hc := HA.out k hk2
    by_cases hlt : k < d
    · rcases HD.out k hlt with e1 | e1
      · go_wp2_with fail
        refine (isDig_c _ hc _).mono ?_
        rintro e w' ⟨rfl, rfl⟩
        go_wp2
        go_roundw
        case rel => exact ⟨k + 1, by omega, by go_num, rfl⟩
        case measure => simp [RowKit.intOf]; omega
      · have e0 : isDig (byteAt xv k) = false := by rw [e1]; rfl
        have e2 : (((byteAt xv k : Nat) : Int) == 45) = true := beq_iff_eq.2 (by omega)
        have e3 : (((byteAt xv k : Nat) : Int) != 45) = false := by rw [bne, e2]; rfl
        clear e1
        go_wp2_with fail
        refine (isDig_c _ hc _).mono ?_
        rintro e w' ⟨rfl, rfl⟩
        go_wp2
        go_roundw
        case rel => exact ⟨k + 1, by omega, by go_num, rfl⟩
        case measure => simp [RowKit.intOf]; omega
    · obtain rfl : k = d := by omega
      have e1 := HS1.out
      have e2 : (((byteAt xv k : Nat) : Int) == 45) = false := beq_eq_false_iff_ne.2 (by have := HS2.out; omega)
      have e3 : (((byteAt xv k : Nat) : Int) != 45) = true := by rw [bne, e2]; rfl
      go_wp2_with fail
      refine (isDig_c _ hc _).mono ?_
      rintro e w' ⟨rfl, rfl⟩
      have m2 := (iter_mv (Boxed w K 7 xv xl xp) lab1 xv (k + 1))
      have hb2 := hb.mv (hb.pat.mv m2 (fun _ _ h => h)) (m2.mono (fun _ h => h.elim))
      have m2' := m1.trans m2 (fun _ h => h.elim)
      obtain ⟨W, hW⟩ : ∃ W, W = (Boxed w K 7 xv xl xp).iter xv (k + 1) := ⟨_, rfl⟩
      rw [← hW] at hb2 m2 m2' ⊢
      have d1 := hb2.b1.cell 1
      clear hW hb hnx
      go_wp2_with fail
      refine (hpi W).mono ?_
      rintro e w3 ⟨rfl, hbl⟩
      have m3 := Mv.below (M := fun _ => False) hbl (lab1.ext (Boxed w K 7 xv xl xp).heap.size 7) 7
      have hb3 := hb2.mv (hb2.pat.mv m3 (fun _ _ h => h)) (m3.mono (fun _ h => h.elim))
      have m3' := m2'.trans m3 (fun _ h => h.elim)
      have htb3 := htb.mv m3' (by simp [PM])
      have d1 := hb3.b1.cell 1
      have hsl : xv.extract k xv.size = sf := HX.out
      clear hbl m3 hb2 hpi
      go_wp2_with fail
      refine (Tryz.strings_TrimSpace sf w3 (by rw [← hsl]; simp; omega) HAS.out htb3.1).mono ?_
      rintro e w4 ⟨rfl, hw4⟩
      have hbl4 : Below w3.heap.size w3 w4 := by rw [hw4]; exact ⟨rfl, rfl, rfl, by rw [Go.Lib.bytesWorld_size]; omega, fun k hk => Go.Lib.bytesWorld_at_old w3 5 sf k hk⟩
      have m4 := Mv.below (M := fun _ => False) hbl4 ((lab1.ext (Boxed w K 7 xv xl xp).heap.size 7).ext W.heap.size 7) 7
      have hb4 := hb3.mv (hb3.pat.mv m4 (fun _ _ h => h)) (m4.mono (fun _ h => h.elim))
      have m4' := m3'.trans m4 (fun _ h => h.elim)
      rw [HT.out]
      clear hw4 hbl4 m4 hb3 hsl
      go_wp2_with fail
      refine (Tryz.strings_ToLower_ascii ⟨sf.data.toList.toArray⟩ w4 ?_ ?_).mono ?_
      · have := congrArg ByteArray.size HX.out
        simp at this
        show sf.data.toList.toArray.size ≤ _
        simp
        omega
      · simpa using HAS.out
      rintro e w5 ⟨rfl, hbl5⟩
      have m5 := Mv.below (M := fun _ => False) hbl5 (((lab1.ext (Boxed w K 7 xv xl xp).heap.size 7).ext W.heap.size 7).ext w3.heap.size 7) 7
      have hb5 := hb4.mv (hb4.pat.mv m5 (fun _ _ h => h)) (m5.mono (fun _ h => h.elim))
      have m5' := m4'.trans m5 (fun _ h => h.elim)
      have e0 : (⟨(Lib.toLowerA sf.data.toList).toArray⟩ : ByteArray) = ⟨#[109, 98]⟩ := HL.out
      have d0 := hb5.b0.cell 0
      have d1 := hb5.b1.cell 0
      have d2 := hb5.b1.cell 1
      have d3 := hb5.b1.cell 2
      have d4 := hb5.b1.cell 3
      simp at d0 d1 d2 d3 d4
      simp only [e0]
      clear hbl5 m5 hb4 e0
      go_wp2_with fail
      refine (lay_c hb5.pat hb5.hB HP.out hs 2 _ rfl _ _ hb5.b0 7 xv xl xp).mono ?_
      rintro e w6 ⟨rfl, lab6, h6, m6⟩
      go_wp2
      go_ret
      exact ⟨rfl, lab6, h6, m5'.trans m6 (fun _ h => h)⟩
set_option maxRecDepth 100000 in
set_option maxHeartbeats 4000000 in
theorem item_ng_mib (h : PAt B lab w K X) (hB : B ≤ w.heap.size) (hped : K.ped = false) (xv : ByteArray) (xl xp : Int) (d : Nat) (hd : d < xv.size) (hsz : xv.size ≤ 1000000)
    (hdig : ∀ i, i < d → isDig (byteAt xv i) = true ∨ byteAt xv i = 45) (hstop : isDig (byteAt xv d) = false) (hstop2 : byteAt xv d ≠ 45) (hasc : ∀ i, i < xv.size → byteAt xv i < 128) 
    (n : Int) (hpi : ∀ w, Calls Tryz.prog 68 #[.string (xv.extract 0 d), i64 10, i64 64] w fun e w' => e = .returned (.tuple #[.int .i64 n, .nilIface]) ∧ Below w.heap.size w w')
    (sf : ByteArray) (hsf : xv.extract d xv.size = sf) (hsa : ∀ (j : Nat) b, sf.data.toList[j]? = some b → b.toNat < 128) (htrim : Lib.trimSpace sf.data.toList = sf.data.toList) (hlow : (⟨(Lib.toLowerA sf.data.toList).toArray⟩ : ByteArray) = ⟨#[109, 105, 98]⟩) (hb1 : -4611686018427387904 ≤ n * 1024 * 1024) (hb2 : n * 1024 * 1024 ≤ 4611686018427387904)
    (htb : Tb lab w) (hs : X.Sets (.int (n * 1024 * 1024)) X') :
    Calls Tryz.prog 57 #[.pointer (some ⟨K.p, 0, none⟩), .agg #[i64 7, .string xv, i64 xl, i64 xp], .string { data := #[] }] w fun e w' => e = .returned .nilIface ∧ ∃ lab', PAt B lab' w' K X' ∧ Mv PM w lab w' lab' := by
  obtain ⟨lab1, hb, m1⟩ := h.boxed hB 7 xv xl xp
  have HD := Lib.hid hdig
  have HS1 := Lib.hid hstop
  have HS2 := Lib.hid hstop2
  have HA := Lib.hid hasc
  have HT := Lib.hid htrim
  have HL := Lib.hid hlow
  have HX := Lib.hid hsf
  have HP := Lib.hid hped
  have HAS := Lib.hid hsa
  clear hdig hstop hstop2 hasc htrim hlow hsf hped hsa
  go_enter Tryz.func57, Tryz.ntmps57
  go_wp2_with fail
  have hWs : (Boxed w K 7 xv xl xp).heap.size = w.heap.size + 1 + 1 + 1 := by unfold Boxed; simp [World.size_alloc]
  have HW := Lib.hid hWs
  clear hWs
  go_loopw [9] (fun i wr => ∃ k : Nat, k ≤ d ∧ i = .int .i64 k ∧ wr = (Boxed w K 7 xv xl xp).iter xv k) (fun i _ => d - (RowKit.intOf i).toNat)
  case atStart => exact ⟨0, Nat.zero_le _, rfl, rfl⟩
  case round =>
    obtain ⟨k, hk, rfl, rfl⟩ := hrel
    have hk2 : k < xv.size := by omega
    have hnx : ∀ ty, (Instr.next (.pointer (some ⟨w.heap.size + 1 + 1 + 1, 0, none⟩)) true ty).run Tryz.prog ((Boxed w K 7 xv xl xp).iter xv k) = .ok (.tuple #[.bool true, .int .i64 k, .int .i32 (byteAt xv k : Nat)]) ((Boxed w K 7 xv xl xp).iter xv (k + 1)) := fun ty => by
      have := run_next_ascii (P := Tryz.prog) (Boxed w K 7 xv xl xp) xv k ty hk2 (by rw [byteAt_get]; exact HA.out k hk2)
      rwa [HW.out, byteAt_get] at this
    have hc := HA.out k hk2
    by_cases hlt : k < d
    · rcases HD.out k hlt with e1 | e1
      · go_wp2_with fail
        refine (isDig_c _ hc _).mono ?_
        rintro e w' ⟨rfl, rfl⟩
        go_wp2
        go_roundw
        case rel => exact ⟨k + 1, by omega, by go_num, rfl⟩
        case measure => simp [RowKit.intOf]; omega
      · have e0 : isDig (byteAt xv k) = false := by rw [e1]; rfl
        have e2 : (((byteAt xv k : Nat) : Int) == 45) = true := beq_iff_eq.2 (by omega)
        have e3 : (((byteAt xv k : Nat) : Int) != 45) = false := by rw [bne, e2]; rfl
        clear e1
        go_wp2_with fail
        refine (isDig_c _ hc _).mono ?_
        rintro e w' ⟨rfl, rfl⟩
        go_wp2
        go_roundw
        case rel => exact ⟨k + 1, by omega, by go_num, rfl⟩
        case measure => simp [RowKit.intOf]; omega
    · obtain rfl : k = d := by omega
      have e1 := HS1.out
      have e2 : (((byteAt xv k : Nat) : Int) == 45) = false := beq_eq_false_iff_ne.2 (by have := HS2.out; omega)
      have e3 : (((byteAt xv k : Nat) : Int) != 45) = true := by rw [bne, e2]; rfl
      go_wp2_with fail
      refine (isDig_c _ hc _).mono ?_
      rintro e w' ⟨rfl, rfl⟩
      have m2 := (iter_mv (Boxed w K 7 xv xl xp) lab1 xv (k + 1))
      have hb2 := hb.mv (hb.pat.mv m2 (fun _ _ h => h)) (m2.mono (fun _ h => h.elim))
      have m2' := m1.trans m2 (fun _ h => h.elim)
      obtain ⟨W, hW⟩ : ∃ W, W = (Boxed w K 7 xv xl xp).iter xv (k + 1) := ⟨_, rfl⟩
      rw [← hW] at hb2 m2 m2' ⊢
      have d1 := hb2.b1.cell 1
      clear hW hb hnx
      go_wp2_with fail
      refine (hpi W).mono ?_
      rintro e w3 ⟨rfl, hbl⟩
      have m3 := Mv.below (M := fun _ => False) hbl (lab1.ext (Boxed w K 7 xv xl xp).heap.size 7) 7
      have hb3 := hb2.mv (hb2.pat.mv m3 (fun _ _ h => h)) (m3.mono (fun _ h => h.elim))
      have m3' := m2'.trans m3 (fun _ h => h.elim)
      have htb3 := htb.mv m3' (by simp [PM])
      have d1 := hb3.b1.cell 1
      have hsl : xv.extract k xv.size = sf := HX.out
      clear hbl m3 hb2 hpi
      go_wp2_with fail
      refine (Tryz.strings_TrimSpace sf w3 (by rw [← hsl]; simp; omega) HAS.out htb3.1).mono ?_
      rintro e w4 ⟨rfl, hw4⟩
      have hbl4 : Below w3.heap.size w3 w4 := by rw [hw4]; exact ⟨rfl, rfl, rfl, by rw [Go.Lib.bytesWorld_size]; omega, fun k hk => Go.Lib.bytesWorld_at_old w3 5 sf k hk⟩
      have m4 := Mv.below (M := fun _ => False) hbl4 ((lab1.ext (Boxed w K 7 xv xl xp).heap.size 7).ext W.heap.size 7) 7
      have hb4 := hb3.mv (hb3.pat.mv m4 (fun _ _ h => h)) (m4.mono (fun _ h => h.elim))
      have m4' := m3'.trans m4 (fun _ h => h.elim)
      rw [HT.out]
      clear hw4 hbl4 m4 hb3 hsl
      go_wp2_with fail
      refine (Tryz.strings_ToLower_ascii ⟨sf.data.toList.toArray⟩ w4 ?_ ?_).mono ?_
      · have := congrArg ByteArray.size HX.out
        simp at this
        show sf.data.toList.toArray.size ≤ _
        simp
        omega
      · simpa using HAS.out
      rintro e w5 ⟨rfl, hbl5⟩
      have m5 := Mv.below (M := fun _ => False) hbl5 (((lab1.ext (Boxed w K 7 xv xl xp).heap.size 7).ext W.heap.size 7).ext w3.heap.size 7) 7
      have hb5 := hb4.mv (hb4.pat.mv m5 (fun _ _ h => h)) (m5.mono (fun _ h => h.elim))
      have m5' := m4'.trans m5 (fun _ h => h.elim)
      have e0 : (⟨(Lib.toLowerA sf.data.toList).toArray⟩ : ByteArray) = ⟨#[109, 105, 98]⟩ := HL.out
      have d0 := hb5.b0.cell 0
      have d1 := hb5.b1.cell 0
      have d2 := hb5.b1.cell 1
      have d3 := hb5.b1.cell 2
      have d4 := hb5.b1.cell 3
      simp at d0 d1 d2 d3 d4
      simp only [e0]
      clear hbl5 m5 hb4 e0
      go_wp2_with fail
      refine (lay_c hb5.pat hb5.hB HP.out hs 2 _ rfl _ _ hb5.b0 7 xv xl xp).mono ?_
      rintro e w6 ⟨rfl, lab6, h6, m6⟩
      go_wp2
      go_ret
      exact ⟨rfl, lab6, h6, m5'.trans m6 (fun _ h => h)⟩
set_option maxRecDepth 100000 in
set_option maxHeartbeats 4000000 in
theorem item_ng_mi (h : PAt B lab w K X) (hB : B ≤ w.heap.size) (hped : K.ped = false) (xv : ByteArray) (xl xp : Int) (d : Nat) (hd : d < xv.size) (hsz : xv.size ≤ 1000000)
    (hdig : ∀ i, i < d → isDig (byteAt xv i) = true ∨ byteAt xv i = 45) (hstop : isDig (byteAt xv d) = false) (hstop2 : byteAt xv d ≠ 45) (hasc : ∀ i, i < xv.size → byteAt xv i < 128) 
    (n : Int) (hpi : ∀ w, Calls Tryz.prog 68 #[.string (xv.extract 0 d), i64 10, i64 64] w fun e w' => e = .returned (.tuple #[.int .i64 n, .nilIface]) ∧ Below w.heap.size w w')
    (sf : ByteArray) (hsf : xv.extract d xv.size = sf) (hsa : ∀ (j : Nat) b, sf.data.toList[j]? = some b → b.toNat < 128) (htrim : Lib.trimSpace sf.data.toList = sf.data.toList) (hlow : (⟨(Lib.toLowerA sf.data.toList).toArray⟩ : ByteArray) = ⟨#[109, 105]⟩) (hb1 : -4611686018427387904 ≤ n * 1024 * 1024) (hb2 : n * 1024 * 1024 ≤ 4611686018427387904)
    (htb : Tb lab w) (hs : X.Sets (.int (n * 1024 * 1024)) X') :
    Calls Tryz.prog 57 #[.pointer (some ⟨K.p, 0, none⟩), .agg #[i64 7, .string xv, i64 xl, i64 xp], .string { data := #[] }] w fun e w' => e = .returned .nilIface ∧ ∃ lab', PAt B lab' w' K X' ∧ Mv PM w lab w' lab' := by
  obtain ⟨lab1, hb, m1⟩ := h.boxed hB 7 xv xl xp
  have HD := Lib.hid hdig
  have HS1 := Lib.hid hstop
  have HS2 := Lib.hid hstop2
  have HA := Lib.hid hasc
  have HT := Lib.hid htrim
  have HL := Lib.hid hlow
  have HX := Lib.hid hsf
  have HP := Lib.hid hped
  have HAS := Lib.hid hsa
  clear hdig hstop hstop2 hasc htrim hlow hsf hped hsa
  go_enter Tryz.func57, Tryz.ntmps57
  go_wp2_with fail
  have hWs : (Boxed w K 7 xv xl xp).heap.size = w.heap.size + 1 + 1 + 1 := by unfold Boxed; simp [World.size_alloc]
  have HW := Lib.hid hWs
  clear hWs
  go_loopw [9] (fun i wr => ∃ k : Nat, k ≤ d ∧ i = .int .i64 k ∧ wr = (Boxed w K 7 xv xl xp).iter xv k) (fun i _ => d - (RowKit.intOf i).toNat)
  case atStart => exact ⟨0, Nat.zero_le _, rfl, rfl⟩
  case round =>
    obtain ⟨k, hk, rfl, rfl⟩ := hrel
    have hk2 : k < xv.size := by omega
    have hnx : ∀ ty, (Instr.next (.pointer (some ⟨w.heap.size + 1 + 1 + 1, 0, none⟩)) true ty).run Tryz.prog ((Boxed w K 7 xv xl xp).iter xv k) = .ok (.tuple #[.bool true, .int .i64 k, .int .i32 (byteAt xv k : Nat)]) ((Boxed w K 7 xv xl xp).iter xv (k + 1)) := fun ty => by
      have := run_next_ascii (P := Tryz.prog) (Boxed w K 7 xv xl xp) xv k ty hk2 (by rw [byteAt_get]; exact HA.out k hk2)
      rwa [HW.out, byteAt_get] at this
    have hc := HA.out k hk2
    by_cases hlt : k < d
    · rcases HD.out k hlt with e1 | e1
      · go_wp2_with fail
        refine (isDig_c _ hc _).mono ?_
        rintro e w' ⟨rfl, rfl⟩
        go_wp2
        go_roundw
        case rel => exact ⟨k + 1, by omega, by go_num, rfl⟩
        case measure => simp [RowKit.intOf]; omega
      · have e0 : isDig (byteAt xv k) = false := by rw [e1]; rfl
        have e2 : (((byteAt xv k : Nat) : Int) == 45) = true := beq_iff_eq.2 (by omega)
        have e3 : (((byteAt xv k : Nat) : Int) != 45) = false := by rw [bne, e2]; rfl
        clear e1
        go_wp2_with fail
        refine (isDig_c _ hc _).mono ?_
        rintro e w' ⟨rfl, rfl⟩
        go_wp2
        go_roundw
        case rel => exact ⟨k + 1, by omega, by go_num, rfl⟩
        case measure => simp [RowKit.intOf]; omega
    · obtain rfl : k = d := by omega
      have e1 := HS1.out
      have e2 : (((byteAt xv k : Nat) : Int) == 45) = false := beq_eq_false_iff_ne.2 (by have := HS2.out; omega)
      have e3 : (((byteAt xv k : Nat) : Int) != 45) = true := by rw [bne, e2]; rfl
      go_wp2_with fail
      refine (isDig_c _ hc _).mono ?_
      rintro e w' ⟨rfl, rfl⟩
      have m2 := (iter_mv (Boxed w K 7 xv xl xp) lab1 xv (k + 1))
      have hb2 := hb.mv (hb.pat.mv m2 (fun _ _ h => h)) (m2.mono (fun _ h => h.elim))
      have m2' := m1.trans m2 (fun _ h => h.elim)
      obtain ⟨W, hW⟩ : ∃ W, W = (Boxed w K 7 xv xl xp).iter xv (k + 1) := ⟨_, rfl⟩
      rw [← hW] at hb2 m2 m2' ⊢
      have d1 := hb2.b1.cell 1
      clear hW hb hnx
      go_wp2_with fail
      refine (hpi W).mono ?_
      rintro e w3 ⟨rfl, hbl⟩
      have m3 := Mv.below (M := fun _ => False) hbl (lab1.ext (Boxed w K 7 xv xl xp).heap.size 7) 7
      have hb3 := hb2.mv (hb2.pat.mv m3 (fun _ _ h => h)) (m3.mono (fun _ h => h.elim))
      have m3' := m2'.trans m3 (fun _ h => h.elim)
      have htb3 := htb.mv m3' (by simp [PM])
      have d1 := hb3.b1.cell 1
      have hsl : xv.extract k xv.size = sf := HX.out
      clear hbl m3 hb2 hpi
      go_wp2_with fail
      refine (Tryz.strings_TrimSpace sf w3 (by rw [← hsl]; simp; omega) HAS.out htb3.1).mono ?_
      rintro e w4 ⟨rfl, hw4⟩
      have hbl4 : Below w3.heap.size w3 w4 := by rw [hw4]; exact ⟨rfl, rfl, rfl, by rw [Go.Lib.bytesWorld_size]; omega, fun k hk => Go.Lib.bytesWorld_at_old w3 5 sf k hk⟩
      have m4 := Mv.below (M := fun _ => False) hbl4 ((lab1.ext (Boxed w K 7 xv xl xp).heap.size 7).ext W.heap.size 7) 7
      have hb4 := hb3.mv (hb3.pat.mv m4 (fun _ _ h => h)) (m4.mono (fun _ h => h.elim))
      have m4' := m3'.trans m4 (fun _ h => h.elim)
      rw [HT.out]
      clear hw4 hbl4 m4 hb3 hsl
      go_wp2_with fail
      refine (Tryz.strings_ToLower_ascii ⟨sf.data.toList.toArray⟩ w4 ?_ ?_).mono ?_
      · have := congrArg ByteArray.size HX.out
        simp at this
        show sf.data.toList.toArray.size ≤ _
        simp
        omega
      · simpa using HAS.out
      rintro e w5 ⟨rfl, hbl5⟩
      have m5 := Mv.below (M := fun _ => False) hbl5 (((lab1.ext (Boxed w K 7 xv xl xp).heap.size 7).ext W.heap.size 7).ext w3.heap.size 7) 7
      have hb5 := hb4.mv (hb4.pat.mv m5 (fun _ _ h => h)) (m5.mono (fun _ h => h.elim))
      have m5' := m4'.trans m5 (fun _ h => h.elim)
      have e0 : (⟨(Lib.toLowerA sf.data.toList).toArray⟩ : ByteArray) = ⟨#[109, 105]⟩ := HL.out
      have d0 := hb5.b0.cell 0
      have d1 := hb5.b1.cell 0
      have d2 := hb5.b1.cell 1
      have d3 := hb5.b1.cell 2
      have d4 := hb5.b1.cell 3
      simp at d0 d1 d2 d3 d4
      simp only [e0]
      clear hbl5 m5 hb4 e0
      go_wp2_with fail
      refine (lay_c hb5.pat hb5.hB HP.out hs 2 _ rfl _ _ hb5.b0 7 xv xl xp).mono ?_
      rintro e w6 ⟨rfl, lab6, h6, m6⟩
      go_wp2
      go_ret
      exact ⟨rfl, lab6, h6, m5'.trans m6 (fun _ h => h)⟩
end
end Go.Cf
