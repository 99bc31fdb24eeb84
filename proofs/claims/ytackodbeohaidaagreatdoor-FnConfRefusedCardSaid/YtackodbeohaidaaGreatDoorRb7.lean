/-
  Texts joined: V3 Fd Wk Ln.
-/
import Derived.Test.YtackodbeohaidaaGreatDoorRb5
import Derived.Test.YtackodbeohaidaaGreatDoorRb6
/-
  processItem: a whole number without a size.
-/
namespace Go.Cf
open Go.RowKit Go.Conc Go.Proofs
section
variable {B : Nat} {lab lab1 : Lab} {w w1 : World} {K : PK} {X X' : PX} {M : Nat → Prop}
set_option maxRecDepth 100000 in
set_option maxHeartbeats 4000000 in
theorem item_int_plain (h : PAt B lab w K X) (hB : B ≤ w.heap.size) (hped : K.ped = false) (xv : ByteArray) (xl xp : Int) (hsz : xv.size ≤ 1000000) (hdig : ∀ i, i < xv.size → isDig (byteAt xv i) = true) (hasc : ∀ i, i < xv.size → byteAt xv i < 128)
    (n : Int) (hpi : ∀ w, Calls Tryz.prog 68 #[.string xv, i64 10, i64 64] w fun e w' => e = .returned (.tuple #[.int .i64 n, .nilIface]) ∧ Below w.heap.size w w')
    (htb : Tb lab w) (hs : X.Sets (.int n) X') :
    Calls Tryz.prog 57 #[.pointer (some ⟨K.p, 0, none⟩), .agg #[i64 7, .string xv, i64 xl, i64 xp], .string { data := #[] }] w fun e w' => e = .returned .nilIface ∧ ∃ lab', PAt B lab' w' K X' ∧ Mv PM w lab w' lab' := by
  obtain ⟨lab1, hb, m1⟩ := h.boxed hB 7 xv xl xp
  have HD := Lib.hid hdig
  have HA := Lib.hid hasc
  have HP := Lib.hid hped
  clear hdig hasc hped
  go_enter Tryz.func57, Tryz.ntmps57
  go_wp2_with fail
  have hWs : (Boxed w K 7 xv xl xp).heap.size = w.heap.size + 1 + 1 + 1 := by unfold Boxed; simp [World.size_alloc]
  have HW := Lib.hid hWs
  clear hWs
  go_loopw [9] (fun i wr => ∃ k : Nat, k ≤ xv.size ∧ i = .int .i64 k ∧ wr = (Boxed w K 7 xv xl xp).iter xv k) (fun i _ => xv.size - (RowKit.intOf i).toNat)
  case atStart => exact ⟨0, Nat.zero_le _, rfl, rfl⟩
  case round =>
    obtain ⟨k, hk, rfl, rfl⟩ := hrel
    by_cases hlt : k < xv.size
    · have hk2 := hlt
      have hnx : ∀ ty, (Instr.next (.pointer (some ⟨w.heap.size + 1 + 1 + 1, 0, none⟩)) true ty).run Tryz.prog ((Boxed w K 7 xv xl xp).iter xv k) = .ok (.tuple #[.bool true, .int .i64 k, .int .i32 (byteAt xv k : Nat)]) ((Boxed w K 7 xv xl xp).iter xv (k + 1)) := fun ty => by
        have := run_next_ascii (P := Tryz.prog) (Boxed w K 7 xv xl xp) xv k ty hk2 (by rw [byteAt_get]; exact HA.out k hk2)
        rwa [HW.out, byteAt_get] at this
      have hc := HA.out k hk2
      have e1 := HD.out k hlt
      go_wp2_with fail
      refine (isDig_c _ hc _).mono ?_
      rintro e w' ⟨rfl, rfl⟩
      go_wp2
      go_roundw
      case rel => exact ⟨k + 1, by omega, by go_num, rfl⟩
      case measure => simp [RowKit.intOf]; omega
    · have hks : k = xv.size := by omega
      have hnx : ∀ ty, (Instr.next (.pointer (some ⟨w.heap.size + 1 + 1 + 1, 0, none⟩)) true ty).run Tryz.prog ((Boxed w K 7 xv xl xp).iter xv k) = .ok (.tuple #[.bool false]) ((Boxed w K 7 xv xl xp).iter xv k) := fun ty => by
        have := run_next_end (P := Tryz.prog) (Boxed w K 7 xv xl xp) xv k ty hlt
        rwa [HW.out] at this
      have hfull : xv.extract 0 k = xv := by rw [hks]; exact ByteArray.extract_zero_size
      have hemp : xv.extract k xv.size = ⟨#[]⟩ := by rw [hks]; exact ByteArray.extract_eq_empty_iff.2 (by omega)
      have HKS := Lib.hid hks
      have HFU := Lib.hid hfull
      have HEM := Lib.hid hemp
      clear hks hfull hemp
      have m2 := (iter_mv (Boxed w K 7 xv xl xp) lab1 xv k)
      have hb2 := hb.mv (hb.pat.mv m2 (fun _ _ h => h)) (m2.mono (fun _ h => h.elim))
      have m2' := m1.trans m2 (fun _ h => h.elim)
      obtain ⟨W, hW⟩ : ∃ W, W = (Boxed w K 7 xv xl xp).iter xv k := ⟨_, rfl⟩
      rw [← hW] at hb2 m2 m2' hnx ⊢
      have d1 := hb2.b1.cell 1
      clear hW hb
      have hfl : xv.extract 0 k = xv := HFU.out
      go_wp2_with fail
      clear hfl
      refine (hpi W).mono ?_
      rintro e w3 ⟨rfl, hbl⟩
      have m3 := Mv.below (M := fun _ => False) hbl (lab1.ext (Boxed w K 7 xv xl xp).heap.size 7) 7
      have hb3 := hb2.mv (hb2.pat.mv m3 (fun _ _ h => h)) (m3.mono (fun _ h => h.elim))
      have m3' := m2'.trans m3 (fun _ h => h.elim)
      have htb3 := htb.mv m3' (by simp [PM])
      have d1 := hb3.b1.cell 1
      have hsl : xv.extract k xv.size = ⟨#[]⟩ := HEM.out
      clear hbl m3 hb2 hpi
      go_wp2_with fail
      refine (Tryz.strings_TrimSpace ⟨#[]⟩ w3 (by decide) (fun j b h => by simp at h) htb3.1).mono ?_
      rintro e w4 ⟨rfl, hw4⟩
      have hbl4 : Below w3.heap.size w3 w4 := by rw [hw4]; exact ⟨rfl, rfl, rfl, by rw [Go.Lib.bytesWorld_size]; omega, fun k hk => Go.Lib.bytesWorld_at_old w3 5 ⟨#[]⟩ k hk⟩
      have m4 := Mv.below (M := fun _ => False) hbl4 ((lab1.ext (Boxed w K 7 xv xl xp).heap.size 7).ext W.heap.size 7) 7
      have hb4 := hb3.mv (hb3.pat.mv m4 (fun _ _ h => h)) (m4.mono (fun _ h => h.elim))
      have m4' := m3'.trans m4 (fun _ h => h.elim)
      rw [show (⟨(Lib.trimSpace (⟨#[]⟩ : ByteArray).data.toList).toArray⟩ : ByteArray) = ⟨#[]⟩ from rfl]
      clear hw4 hbl4 m4 hb3 hsl
      go_wp2_with fail
      refine (Tryz.strings_ToLower_ascii ⟨#[]⟩ w4 (by decide) (fun j b h => by simp at h)).mono ?_
      rintro e w5 ⟨rfl, hbl5⟩
      have m5 := Mv.below (M := fun _ => False) hbl5 (((lab1.ext (Boxed w K 7 xv xl xp).heap.size 7).ext W.heap.size 7).ext w3.heap.size 7) 7
      have hb5 := hb4.mv (hb4.pat.mv m5 (fun _ _ h => h)) (m5.mono (fun _ h => h.elim))
      have m5' := m4'.trans m5 (fun _ h => h.elim)
      have e0 : (⟨(Lib.toLowerA (⟨#[]⟩ : ByteArray).data.toList).toArray⟩ : ByteArray) = ⟨#[]⟩ := rfl
      have d0 := hb5.b0.cell 0
      have d1 := hb5.b1.cell 0
      have d2 := hb5.b1.cell 1
      have d3 := hb5.b1.cell 2
      have d4 := hb5.b1.cell 3
      simp at d0 d1 d2 d3 d4
      simp only [e0]
      clear hbl5 m5 hb4 e0
      go_wp2_with fail
      refine (lay_c hb5.pat hb5.hB HP.out hs 2 _ rfl _ _ hb5.b0 7 xv xl xp).mono ?_
      rintro e w6 ⟨rfl, lab6, h6, m6⟩
      go_wp2
      go_ret
      exact ⟨rfl, lab6, h6, m5'.trans m6 (fun _ h => h)⟩
end
end Go.Cf

/-
  What a text feeds the parser, by plain data.
-/
namespace Go.Cf
open Go.RowKit Go.Conc Go.Proofs
/-- From here the text's items make the contexts 'fin'. -/
def Fd (K : PK) (s : ByteArray) (p st : Nat) (stk : List Nat) (t : Tag) (cx : List CJ) (ks : List ByteArray) (pt : Nat) (fin : List CJ) : Prop :=
  ∀ (L : LX) (prev : It), L.Is s p st stk t → prev.typ = pt → ∃ X', Feeds K ⟨L, cx, ks⟩ prev X' ∧ X'.cx = fin
section
variable {K : PK} {s : ByteArray} {p st p1 st1 : Nat} {stk stk1 : List Nat} {t t1 : Tag} {cx cx1 fin : List CJ} {ks ks1 : List ByteArray} {pt ty : Nat} {val : ByteArray} {line : Int}
theorem Fd.step (E : Emits s p st stk t ty val line p1 st1 stk1 t1) (hty : ty ≠ 2) (hw : ∀ (L : LX) (x : It), x.typ = ty → x.val = val → x.line = line → Works K ⟨L, cx, ks⟩ x ⟨L, cx1, ks1⟩)
    (hn : Fd K s p1 st1 stk1 t1 cx1 ks1 ty fin) : Fd K s p st stk t cx ks pt fin := by
  intro L prev hL hp
  obtain ⟨n, L', x, R, hq, h1, h2, h3, h4⟩ := E L hL
  obtain ⟨X', hF, hc⟩ := hn _ x h4 h1
  exact ⟨X', .step R hq (by rw [h1]; exact hty) (hw _ x h1 h2 h3) hF, hc⟩
theorem Fd.eof (E : Emits s p st stk t 2 val line p1 st1 stk1 t1) (hpt : pt ≠ 3) : Fd K s p st stk t cx ks pt cx := by
  intro L prev hL hp
  obtain ⟨n, L', x, R, hq, h1, h2, h3, h4⟩ := E L hL
  exact ⟨_, .eof R hq h1 (by rw [hp]; exact hpt), rfl⟩
theorem new_is (s : ByteArray) (c : Nat) (hs : s.size ≤ 1000000) (ha : ∀ i, i < s.size → byteAt s i < 128) : (LX.new s c).Is s 0 0 [] (plainT 60) :=
  ⟨⟨fresh_ok s c hs ha, rfl, rfl, rfl, rfl, rfl, rfl⟩, rfl⟩
theorem readAs_of {m : List (ByteArray × JV)} (hs : s.size ≤ 1000000) (ha : ∀ i, i < s.size → byteAt s i < 128) (h : ∀ K : PK, K.ped = false → Fd K s 0 0 [] (plainT 60) [.map []] [] 0 [.map m]) : ReadAs s m := by
  intro K c hK
  exact h K hK _ ⟨0, { data := #[] }, 0, 0⟩ (new_is s c hs ha) rfl
theorem works_key (hK : K.ped = false) (L : LX) (x : It) (hx : x.typ = 3) (hl : ks.length ≤ 1000000) : Works K ⟨L, cx, ks⟩ x ⟨L, cx, ks ++ [x.val]⟩ := by
  intro B lab w hB hp _
  obtain ⟨xt, xv, xl, xp⟩ := x
  obtain rfl : xt = 3 := hx
  exact item_key hp hB hK hl xv xl xp
end
end Go.Cf

/-
  Whole numbers as items: what processItem makes of them.
-/
namespace Go.Cf
open Go.RowKit Go.Conc Go.Proofs
section
variable {K : PK} {cx cx1 : List CJ} {ks ks1 : List ByteArray}
theorem app_list (a b : ByteArray) : (a ++ b).data.toList = a.data.toList ++ b.data.toList := by
  rw [ByteArray.data_append, Array.toList_append]
theorem byteAt_app_left (a b : ByteArray) (i : Nat) (h : i < a.size) : byteAt (a ++ b) i = byteAt a i := by
  unfold byteAt
  rw [app_list, List.getD_eq_getElem?_getD, List.getD_eq_getElem?_getD, List.getElem?_append_left (by rw [data_length]; exact h)]
theorem byteAt_app_right (a b : ByteArray) (i : Nat) : byteAt (a ++ b) (a.size + i) = byteAt b i := by
  unfold byteAt
  rw [app_list, List.getD_eq_getElem?_getD, List.getD_eq_getElem?_getD, List.getElem?_append_right (by rw [data_length]; omega), data_length, Nat.add_sub_cancel_left]
theorem asc_list (s : ByteArray) (h : ∀ j, j < s.size → byteAt s j < 128) (j : Nat) (b : UInt8) (hj : s.data.toList[j]? = some b) : b.toNat < 128 := by
  have h1 : byteAt s j = b.toNat := by unfold byteAt; rw [List.getD_eq_getElem?_getD, hj]; rfl
  have hlt := (List.getElem?_eq_some_iff.1 hj).1
  rw [data_length] at hlt
  rw [← h1]
  exact h j hlt
theorem dig_true {c : Nat} (h : 48 ≤ c ∧ c ≤ 57) : isDig c = true := by simp [isDig, h.1, h.2]
theorem works_int (hK : K.ped = false) (L : LX) (x : It) (hx : x.typ = 7) (hd0 : 0 < x.val.size) (hdig : isDigits x.val) (hn : numOf x.val.data.toList < 9223372036854775808) (hsz : x.val.size ≤ 900000)
    (hs : (⟨L, cx, ks⟩ : PX).Sets (.int (numOf x.val.data.toList : Nat)) ⟨L, cx1, ks1⟩) : Works K ⟨L, cx, ks⟩ x ⟨L, cx1, ks1⟩ := by
  intro B lab w hB hp htb
  obtain ⟨xt, xv, xl, xp⟩ := x
  obtain rfl : xt = 7 := hx
  exact item_int_plain hp hB hK xv xl xp (by simp only at hsz; omega) (fun i hi => dig_true (hdig i hi)) (fun i hi => by have h := hdig i hi; simp only at h; omega) _ (fun w => ParseInt_pos xv hd0 hdig hn (by simp only at hsz; omega) w) htb hs
theorem works_k (dg : ByteArray) (hK : K.ped = false) (L : LX) (x : It) (hx : x.typ = 7) (hv : x.val = dg ++ ⟨#[107]⟩) (hd0 : 0 < dg.size) (hdig : isDigits dg) (hn : ((numOf dg.data.toList : Nat) : Int) * 1000 ≤ 4611686018427387904) (hsz : dg.size ≤ 900000)
    (hs : (⟨L, cx, ks⟩ : PX).Sets (.int (((numOf dg.data.toList : Nat) : Int) * 1000)) ⟨L, cx1, ks1⟩) : Works K ⟨L, cx, ks⟩ x ⟨L, cx1, ks1⟩ := by
  intro B lab w hB hp htb
  obtain ⟨xt, xv, xl, xp⟩ := x
  obtain rfl : xt = 7 := hx
  obtain rfl : xv = dg ++ ⟨#[107]⟩ := hv
  have hz : (dg ++ (⟨#[107]⟩ : ByteArray)).size = dg.size + 1 := by rw [ByteArray.size_append]; rfl
  have hb0 : byteAt (dg ++ (⟨#[107]⟩ : ByteArray)) dg.size = 107 := by have := byteAt_app_right dg ⟨#[107]⟩ 0; rw [Nat.add_zero] at this; rw [this]; rfl
  have hkey : ∀ j, j < 1 → byteAt (⟨#[107]⟩ : ByteArray) j < 128 := by decide
  have he : (dg ++ (⟨#[107]⟩ : ByteArray)).extract 0 dg.size = dg := ByteArray.extract_append_eq_left rfl
  have hf : (dg ++ (⟨#[107]⟩ : ByteArray)).extract dg.size (dg ++ (⟨#[107]⟩ : ByteArray)).size = ⟨#[107]⟩ := ByteArray.extract_append_eq_right rfl (by rw [ByteArray.size_append])
  refine item_int_k hp hB hK _ xl xp dg.size (by rw [hz]; omega) (by rw [hz]; omega) (fun i hi => by rw [byteAt_app_left _ _ _ hi]; exact dig_true (hdig i hi)) (by rw [hb0]; rfl) (by rw [hb0]; decide) ?_ (numOf dg.data.toList : Nat) (fun w => by rw [he]; exact ParseInt_pos dg hd0 hdig (by omega) (by omega) w) ⟨#[107]⟩ hf ?_ rfl rfl rfl (by omega) hn htb hs
  · intro i hi
    rw [hz] at hi
    by_cases h : i < dg.size
    · rw [byteAt_app_left _ _ _ h]; have := hdig i h; omega
    · obtain ⟨j, rfl⟩ : ∃ j, i = dg.size + j := ⟨i - dg.size, by omega⟩
      rw [byteAt_app_right]
      have hj : j < 1 := by omega
      exact hkey j hj
  · exact asc_list _ hkey
theorem works_kb (dg : ByteArray) (hK : K.ped = false) (L : LX) (x : It) (hx : x.typ = 7) (hv : x.val = dg ++ ⟨#[107, 98]⟩) (hd0 : 0 < dg.size) (hdig : isDigits dg) (hn : ((numOf dg.data.toList : Nat) : Int) * 1024 ≤ 4611686018427387904) (hsz : dg.size ≤ 900000)
    (hs : (⟨L, cx, ks⟩ : PX).Sets (.int (((numOf dg.data.toList : Nat) : Int) * 1024)) ⟨L, cx1, ks1⟩) : Works K ⟨L, cx, ks⟩ x ⟨L, cx1, ks1⟩ := by
  intro B lab w hB hp htb
  obtain ⟨xt, xv, xl, xp⟩ := x
  obtain rfl : xt = 7 := hx
  obtain rfl : xv = dg ++ ⟨#[107, 98]⟩ := hv
  have hz : (dg ++ (⟨#[107, 98]⟩ : ByteArray)).size = dg.size + 2 := by rw [ByteArray.size_append]; rfl
  have hb0 : byteAt (dg ++ (⟨#[107, 98]⟩ : ByteArray)) dg.size = 107 := by have := byteAt_app_right dg ⟨#[107, 98]⟩ 0; rw [Nat.add_zero] at this; rw [this]; rfl
  have hkey : ∀ j, j < 2 → byteAt (⟨#[107, 98]⟩ : ByteArray) j < 128 := by decide
  have he : (dg ++ (⟨#[107, 98]⟩ : ByteArray)).extract 0 dg.size = dg := ByteArray.extract_append_eq_left rfl
  have hf : (dg ++ (⟨#[107, 98]⟩ : ByteArray)).extract dg.size (dg ++ (⟨#[107, 98]⟩ : ByteArray)).size = ⟨#[107, 98]⟩ := ByteArray.extract_append_eq_right rfl (by rw [ByteArray.size_append])
  refine item_int_kb hp hB hK _ xl xp dg.size (by rw [hz]; omega) (by rw [hz]; omega) (fun i hi => by rw [byteAt_app_left _ _ _ hi]; exact dig_true (hdig i hi)) (by rw [hb0]; rfl) (by rw [hb0]; decide) ?_ (numOf dg.data.toList : Nat) (fun w => by rw [he]; exact ParseInt_pos dg hd0 hdig (by omega) (by omega) w) ⟨#[107, 98]⟩ hf ?_ rfl rfl rfl (by omega) hn htb hs
  · intro i hi
    rw [hz] at hi
    by_cases h : i < dg.size
    · rw [byteAt_app_left _ _ _ h]; have := hdig i h; omega
    · obtain ⟨j, rfl⟩ : ∃ j, i = dg.size + j := ⟨i - dg.size, by omega⟩
      rw [byteAt_app_right]
      have hj : j < 2 := by omega
      exact hkey j hj
  · exact asc_list _ hkey
theorem works_kib (dg : ByteArray) (hK : K.ped = false) (L : LX) (x : It) (hx : x.typ = 7) (hv : x.val = dg ++ ⟨#[107, 105, 98]⟩) (hd0 : 0 < dg.size) (hdig : isDigits dg) (hn : ((numOf dg.data.toList : Nat) : Int) * 1024 ≤ 4611686018427387904) (hsz : dg.size ≤ 900000)
    (hs : (⟨L, cx, ks⟩ : PX).Sets (.int (((numOf dg.data.toList : Nat) : Int) * 1024)) ⟨L, cx1, ks1⟩) : Works K ⟨L, cx, ks⟩ x ⟨L, cx1, ks1⟩ := by
  intro B lab w hB hp htb
  obtain ⟨xt, xv, xl, xp⟩ := x
  obtain rfl : xt = 7 := hx
  obtain rfl : xv = dg ++ ⟨#[107, 105, 98]⟩ := hv
  have hz : (dg ++ (⟨#[107, 105, 98]⟩ : ByteArray)).size = dg.size + 3 := by rw [ByteArray.size_append]; rfl
  have hb0 : byteAt (dg ++ (⟨#[107, 105, 98]⟩ : ByteArray)) dg.size = 107 := by have := byteAt_app_right dg ⟨#[107, 105, 98]⟩ 0; rw [Nat.add_zero] at this; rw [this]; rfl
  have hkey : ∀ j, j < 3 → byteAt (⟨#[107, 105, 98]⟩ : ByteArray) j < 128 := by decide
  have he : (dg ++ (⟨#[107, 105, 98]⟩ : ByteArray)).extract 0 dg.size = dg := ByteArray.extract_append_eq_left rfl
  have hf : (dg ++ (⟨#[107, 105, 98]⟩ : ByteArray)).extract dg.size (dg ++ (⟨#[107, 105, 98]⟩ : ByteArray)).size = ⟨#[107, 105, 98]⟩ := ByteArray.extract_append_eq_right rfl (by rw [ByteArray.size_append])
  refine item_int_kib hp hB hK _ xl xp dg.size (by rw [hz]; omega) (by rw [hz]; omega) (fun i hi => by rw [byteAt_app_left _ _ _ hi]; exact dig_true (hdig i hi)) (by rw [hb0]; rfl) (by rw [hb0]; decide) ?_ (numOf dg.data.toList : Nat) (fun w => by rw [he]; exact ParseInt_pos dg hd0 hdig (by omega) (by omega) w) ⟨#[107, 105, 98]⟩ hf ?_ rfl rfl rfl (by omega) hn htb hs
  · intro i hi
    rw [hz] at hi
    by_cases h : i < dg.size
    · rw [byteAt_app_left _ _ _ h]; have := hdig i h; omega
    · obtain ⟨j, rfl⟩ : ∃ j, i = dg.size + j := ⟨i - dg.size, by omega⟩
      rw [byteAt_app_right]
      have hj : j < 3 := by omega
      exact hkey j hj
  · exact asc_list _ hkey
theorem works_ki (dg : ByteArray) (hK : K.ped = false) (L : LX) (x : It) (hx : x.typ = 7) (hv : x.val = dg ++ ⟨#[107, 105]⟩) (hd0 : 0 < dg.size) (hdig : isDigits dg) (hn : ((numOf dg.data.toList : Nat) : Int) * 1024 ≤ 4611686018427387904) (hsz : dg.size ≤ 900000)
    (hs : (⟨L, cx, ks⟩ : PX).Sets (.int (((numOf dg.data.toList : Nat) : Int) * 1024)) ⟨L, cx1, ks1⟩) : Works K ⟨L, cx, ks⟩ x ⟨L, cx1, ks1⟩ := by
  intro B lab w hB hp htb
  obtain ⟨xt, xv, xl, xp⟩ := x
  obtain rfl : xt = 7 := hx
  obtain rfl : xv = dg ++ ⟨#[107, 105]⟩ := hv
  have hz : (dg ++ (⟨#[107, 105]⟩ : ByteArray)).size = dg.size + 2 := by rw [ByteArray.size_append]; rfl
  have hb0 : byteAt (dg ++ (⟨#[107, 105]⟩ : ByteArray)) dg.size = 107 := by have := byteAt_app_right dg ⟨#[107, 105]⟩ 0; rw [Nat.add_zero] at this; rw [this]; rfl
  have hkey : ∀ j, j < 2 → byteAt (⟨#[107, 105]⟩ : ByteArray) j < 128 := by decide
  have he : (dg ++ (⟨#[107, 105]⟩ : ByteArray)).extract 0 dg.size = dg := ByteArray.extract_append_eq_left rfl
  have hf : (dg ++ (⟨#[107, 105]⟩ : ByteArray)).extract dg.size (dg ++ (⟨#[107, 105]⟩ : ByteArray)).size = ⟨#[107, 105]⟩ := ByteArray.extract_append_eq_right rfl (by rw [ByteArray.size_append])
  refine item_int_ki hp hB hK _ xl xp dg.size (by rw [hz]; omega) (by rw [hz]; omega) (fun i hi => by rw [byteAt_app_left _ _ _ hi]; exact dig_true (hdig i hi)) (by rw [hb0]; rfl) (by rw [hb0]; decide) ?_ (numOf dg.data.toList : Nat) (fun w => by rw [he]; exact ParseInt_pos dg hd0 hdig (by omega) (by omega) w) ⟨#[107, 105]⟩ hf ?_ rfl rfl rfl (by omega) hn htb hs
  · intro i hi
    rw [hz] at hi
    by_cases h : i < dg.size
    · rw [byteAt_app_left _ _ _ h]; have := hdig i h; omega
    · obtain ⟨j, rfl⟩ : ∃ j, i = dg.size + j := ⟨i - dg.size, by omega⟩
      rw [byteAt_app_right]
      have hj : j < 2 := by omega
      exact hkey j hj
  · exact asc_list _ hkey
theorem works_m (dg : ByteArray) (hK : K.ped = false) (L : LX) (x : It) (hx : x.typ = 7) (hv : x.val = dg ++ ⟨#[109]⟩) (hd0 : 0 < dg.size) (hdig : isDigits dg) (hn : ((numOf dg.data.toList : Nat) : Int) * 1000 * 1000 ≤ 4611686018427387904) (hsz : dg.size ≤ 900000)
    (hs : (⟨L, cx, ks⟩ : PX).Sets (.int (((numOf dg.data.toList : Nat) : Int) * 1000 * 1000)) ⟨L, cx1, ks1⟩) : Works K ⟨L, cx, ks⟩ x ⟨L, cx1, ks1⟩ := by
  intro B lab w hB hp htb
  obtain ⟨xt, xv, xl, xp⟩ := x
  obtain rfl : xt = 7 := hx
  obtain rfl : xv = dg ++ ⟨#[109]⟩ := hv
  have hz : (dg ++ (⟨#[109]⟩ : ByteArray)).size = dg.size + 1 := by rw [ByteArray.size_append]; rfl
  have hb0 : byteAt (dg ++ (⟨#[109]⟩ : ByteArray)) dg.size = 109 := by have := byteAt_app_right dg ⟨#[109]⟩ 0; rw [Nat.add_zero] at this; rw [this]; rfl
  have hkey : ∀ j, j < 1 → byteAt (⟨#[109]⟩ : ByteArray) j < 128 := by decide
  have he : (dg ++ (⟨#[109]⟩ : ByteArray)).extract 0 dg.size = dg := ByteArray.extract_append_eq_left rfl
  have hf : (dg ++ (⟨#[109]⟩ : ByteArray)).extract dg.size (dg ++ (⟨#[109]⟩ : ByteArray)).size = ⟨#[109]⟩ := ByteArray.extract_append_eq_right rfl (by rw [ByteArray.size_append])
  refine item_int_m hp hB hK _ xl xp dg.size (by rw [hz]; omega) (by rw [hz]; omega) (fun i hi => by rw [byteAt_app_left _ _ _ hi]; exact dig_true (hdig i hi)) (by rw [hb0]; rfl) (by rw [hb0]; decide) ?_ (numOf dg.data.toList : Nat) (fun w => by rw [he]; exact ParseInt_pos dg hd0 hdig (by omega) (by omega) w) ⟨#[109]⟩ hf ?_ rfl rfl rfl (by omega) hn htb hs
  · intro i hi
    rw [hz] at hi
    by_cases h : i < dg.size
    · rw [byteAt_app_left _ _ _ h]; have := hdig i h; omega
    · obtain ⟨j, rfl⟩ : ∃ j, i = dg.size + j := ⟨i - dg.size, by omega⟩
      rw [byteAt_app_right]
      have hj : j < 1 := by omega
      exact hkey j hj
  · exact asc_list _ hkey
theorem works_mb (dg : ByteArray) (hK : K.ped = false) (L : LX) (x : It) (hx : x.typ = 7) (hv : x.val = dg ++ ⟨#[109, 98]⟩) (hd0 : 0 < dg.size) (hdig : isDigits dg) (hn : ((numOf dg.data.toList : Nat) : Int) * 1024 * 1024 ≤ 4611686018427387904) (hsz : dg.size ≤ 900000)
    (hs : (⟨L, cx, ks⟩ : PX).Sets (.int (((numOf dg.data.toList : Nat) : Int) * 1024 * 1024)) ⟨L, cx1, ks1⟩) : Works K ⟨L, cx, ks⟩ x ⟨L, cx1, ks1⟩ := by
  intro B lab w hB hp htb
  obtain ⟨xt, xv, xl, xp⟩ := x
  obtain rfl : xt = 7 := hx
  obtain rfl : xv = dg ++ ⟨#[109, 98]⟩ := hv
  have hz : (dg ++ (⟨#[109, 98]⟩ : ByteArray)).size = dg.size + 2 := by rw [ByteArray.size_append]; rfl
  have hb0 : byteAt (dg ++ (⟨#[109, 98]⟩ : ByteArray)) dg.size = 109 := by have := byteAt_app_right dg ⟨#[109, 98]⟩ 0; rw [Nat.add_zero] at this; rw [this]; rfl
  have hkey : ∀ j, j < 2 → byteAt (⟨#[109, 98]⟩ : ByteArray) j < 128 := by decide
  have he : (dg ++ (⟨#[109, 98]⟩ : ByteArray)).extract 0 dg.size = dg := ByteArray.extract_append_eq_left rfl
  have hf : (dg ++ (⟨#[109, 98]⟩ : ByteArray)).extract dg.size (dg ++ (⟨#[109, 98]⟩ : ByteArray)).size = ⟨#[109, 98]⟩ := ByteArray.extract_append_eq_right rfl (by rw [ByteArray.size_append])
  refine item_int_mb hp hB hK _ xl xp dg.size (by rw [hz]; omega) (by rw [hz]; omega) (fun i hi => by rw [byteAt_app_left _ _ _ hi]; exact dig_true (hdig i hi)) (by rw [hb0]; rfl) (by rw [hb0]; decide) ?_ (numOf dg.data.toList : Nat) (fun w => by rw [he]; exact ParseInt_pos dg hd0 hdig (by omega) (by omega) w) ⟨#[109, 98]⟩ hf ?_ rfl rfl rfl (by omega) hn htb hs
  · intro i hi
    rw [hz] at hi
    by_cases h : i < dg.size
    · rw [byteAt_app_left _ _ _ h]; have := hdig i h; omega
    · obtain ⟨j, rfl⟩ : ∃ j, i = dg.size + j := ⟨i - dg.size, by omega⟩
      rw [byteAt_app_right]
      have hj : j < 2 := by omega
      exact hkey j hj
  · exact asc_list _ hkey
theorem works_mib (dg : ByteArray) (hK : K.ped = false) (L : LX) (x : It) (hx : x.typ = 7) (hv : x.val = dg ++ ⟨#[109, 105, 98]⟩) (hd0 : 0 < dg.size) (hdig : isDigits dg) (hn : ((numOf dg.data.toList : Nat) : Int) * 1024 * 1024 ≤ 4611686018427387904) (hsz : dg.size ≤ 900000)
    (hs : (⟨L, cx, ks⟩ : PX).Sets (.int (((numOf dg.data.toList : Nat) : Int) * 1024 * 1024)) ⟨L, cx1, ks1⟩) : Works K ⟨L, cx, ks⟩ x ⟨L, cx1, ks1⟩ := by
  intro B lab w hB hp htb
  obtain ⟨xt, xv, xl, xp⟩ := x
  obtain rfl : xt = 7 := hx
  obtain rfl : xv = dg ++ ⟨#[109, 105, 98]⟩ := hv
  have hz : (dg ++ (⟨#[109, 105, 98]⟩ : ByteArray)).size = dg.size + 3 := by rw [ByteArray.size_append]; rfl
  have hb0 : byteAt (dg ++ (⟨#[109, 105, 98]⟩ : ByteArray)) dg.size = 109 := by have := byteAt_app_right dg ⟨#[109, 105, 98]⟩ 0; rw [Nat.add_zero] at this; rw [this]; rfl
  have hkey : ∀ j, j < 3 → byteAt (⟨#[109, 105, 98]⟩ : ByteArray) j < 128 := by decide
  have he : (dg ++ (⟨#[109, 105, 98]⟩ : ByteArray)).extract 0 dg.size = dg := ByteArray.extract_append_eq_left rfl
  have hf : (dg ++ (⟨#[109, 105, 98]⟩ : ByteArray)).extract dg.size (dg ++ (⟨#[109, 105, 98]⟩ : ByteArray)).size = ⟨#[109, 105, 98]⟩ := ByteArray.extract_append_eq_right rfl (by rw [ByteArray.size_append])
  refine item_int_mib hp hB hK _ xl xp dg.size (by rw [hz]; omega) (by rw [hz]; omega) (fun i hi => by rw [byteAt_app_left _ _ _ hi]; exact dig_true (hdig i hi)) (by rw [hb0]; rfl) (by rw [hb0]; decide) ?_ (numOf dg.data.toList : Nat) (fun w => by rw [he]; exact ParseInt_pos dg hd0 hdig (by omega) (by omega) w) ⟨#[109, 105, 98]⟩ hf ?_ rfl rfl rfl (by omega) hn htb hs
  · intro i hi
    rw [hz] at hi
    by_cases h : i < dg.size
    · rw [byteAt_app_left _ _ _ h]; have := hdig i h; omega
    · obtain ⟨j, rfl⟩ : ∃ j, i = dg.size + j := ⟨i - dg.size, by omega⟩
      rw [byteAt_app_right]
      have hj : j < 3 := by omega
      exact hkey j hj
  · exact asc_list _ hkey
theorem works_mi (dg : ByteArray) (hK : K.ped = false) (L : LX) (x : It) (hx : x.typ = 7) (hv : x.val = dg ++ ⟨#[109, 105]⟩) (hd0 : 0 < dg.size) (hdig : isDigits dg) (hn : ((numOf dg.data.toList : Nat) : Int) * 1024 * 1024 ≤ 4611686018427387904) (hsz : dg.size ≤ 900000)
    (hs : (⟨L, cx, ks⟩ : PX).Sets (.int (((numOf dg.data.toList : Nat) : Int) * 1024 * 1024)) ⟨L, cx1, ks1⟩) : Works K ⟨L, cx, ks⟩ x ⟨L, cx1, ks1⟩ := by
  intro B lab w hB hp htb
  obtain ⟨xt, xv, xl, xp⟩ := x
  obtain rfl : xt = 7 := hx
  obtain rfl : xv = dg ++ ⟨#[109, 105]⟩ := hv
  have hz : (dg ++ (⟨#[109, 105]⟩ : ByteArray)).size = dg.size + 2 := by rw [ByteArray.size_append]; rfl
  have hb0 : byteAt (dg ++ (⟨#[109, 105]⟩ : ByteArray)) dg.size = 109 := by have := byteAt_app_right dg ⟨#[109, 105]⟩ 0; rw [Nat.add_zero] at this; rw [this]; rfl
  have hkey : ∀ j, j < 2 → byteAt (⟨#[109, 105]⟩ : ByteArray) j < 128 := by decide
  have he : (dg ++ (⟨#[109, 105]⟩ : ByteArray)).extract 0 dg.size = dg := ByteArray.extract_append_eq_left rfl
  have hf : (dg ++ (⟨#[109, 105]⟩ : ByteArray)).extract dg.size (dg ++ (⟨#[109, 105]⟩ : ByteArray)).size = ⟨#[109, 105]⟩ := ByteArray.extract_append_eq_right rfl (by rw [ByteArray.size_append])
  refine item_int_mi hp hB hK _ xl xp dg.size (by rw [hz]; omega) (by rw [hz]; omega) (fun i hi => by rw [byteAt_app_left _ _ _ hi]; exact dig_true (hdig i hi)) (by rw [hb0]; rfl) (by rw [hb0]; decide) ?_ (numOf dg.data.toList : Nat) (fun w => by rw [he]; exact ParseInt_pos dg hd0 hdig (by omega) (by omega) w) ⟨#[109, 105]⟩ hf ?_ rfl rfl rfl (by omega) hn htb hs
  · intro i hi
    rw [hz] at hi
    by_cases h : i < dg.size
    · rw [byteAt_app_left _ _ _ h]; have := hdig i h; omega
    · obtain ⟨j, rfl⟩ : ∃ j, i = dg.size + j := ⟨i - dg.size, by omega⟩
      rw [byteAt_app_right]
      have hj : j < 2 := by omega
      exact hkey j hj
  · exact asc_list _ hkey
theorem works_g (dg : ByteArray) (hK : K.ped = false) (L : LX) (x : It) (hx : x.typ = 7) (hv : x.val = dg ++ ⟨#[103]⟩) (hd0 : 0 < dg.size) (hdig : isDigits dg) (hn : ((numOf dg.data.toList : Nat) : Int) * 1000 * 1000 * 1000 ≤ 4611686018427387904) (hsz : dg.size ≤ 900000)
    (hs : (⟨L, cx, ks⟩ : PX).Sets (.int (((numOf dg.data.toList : Nat) : Int) * 1000 * 1000 * 1000)) ⟨L, cx1, ks1⟩) : Works K ⟨L, cx, ks⟩ x ⟨L, cx1, ks1⟩ := by
  intro B lab w hB hp htb
  obtain ⟨xt, xv, xl, xp⟩ := x
  obtain rfl : xt = 7 := hx
  obtain rfl : xv = dg ++ ⟨#[103]⟩ := hv
  have hz : (dg ++ (⟨#[103]⟩ : ByteArray)).size = dg.size + 1 := by rw [ByteArray.size_append]; rfl
  have hb0 : byteAt (dg ++ (⟨#[103]⟩ : ByteArray)) dg.size = 103 := by have := byteAt_app_right dg ⟨#[103]⟩ 0; rw [Nat.add_zero] at this; rw [this]; rfl
  have hkey : ∀ j, j < 1 → byteAt (⟨#[103]⟩ : ByteArray) j < 128 := by decide
  have he : (dg ++ (⟨#[103]⟩ : ByteArray)).extract 0 dg.size = dg := ByteArray.extract_append_eq_left rfl
  have hf : (dg ++ (⟨#[103]⟩ : ByteArray)).extract dg.size (dg ++ (⟨#[103]⟩ : ByteArray)).size = ⟨#[103]⟩ := ByteArray.extract_append_eq_right rfl (by rw [ByteArray.size_append])
  refine item_int_g hp hB hK _ xl xp dg.size (by rw [hz]; omega) (by rw [hz]; omega) (fun i hi => by rw [byteAt_app_left _ _ _ hi]; exact dig_true (hdig i hi)) (by rw [hb0]; rfl) (by rw [hb0]; decide) ?_ (numOf dg.data.toList : Nat) (fun w => by rw [he]; exact ParseInt_pos dg hd0 hdig (by omega) (by omega) w) ⟨#[103]⟩ hf ?_ rfl rfl rfl (by omega) hn htb hs
  · intro i hi
    rw [hz] at hi
    by_cases h : i < dg.size
    · rw [byteAt_app_left _ _ _ h]; have := hdig i h; omega
    · obtain ⟨j, rfl⟩ : ∃ j, i = dg.size + j := ⟨i - dg.size, by omega⟩
      rw [byteAt_app_right]
      have hj : j < 1 := by omega
      exact hkey j hj
  · exact asc_list _ hkey
theorem works_gb (dg : ByteArray) (hK : K.ped = false) (L : LX) (x : It) (hx : x.typ = 7) (hv : x.val = dg ++ ⟨#[103, 98]⟩) (hd0 : 0 < dg.size) (hdig : isDigits dg) (hn : ((numOf dg.data.toList : Nat) : Int) * 1024 * 1024 * 1024 ≤ 4611686018427387904) (hsz : dg.size ≤ 900000)
    (hs : (⟨L, cx, ks⟩ : PX).Sets (.int (((numOf dg.data.toList : Nat) : Int) * 1024 * 1024 * 1024)) ⟨L, cx1, ks1⟩) : Works K ⟨L, cx, ks⟩ x ⟨L, cx1, ks1⟩ := by
  intro B lab w hB hp htb
  obtain ⟨xt, xv, xl, xp⟩ := x
  obtain rfl : xt = 7 := hx
  obtain rfl : xv = dg ++ ⟨#[103, 98]⟩ := hv
  have hz : (dg ++ (⟨#[103, 98]⟩ : ByteArray)).size = dg.size + 2 := by rw [ByteArray.size_append]; rfl
  have hb0 : byteAt (dg ++ (⟨#[103, 98]⟩ : ByteArray)) dg.size = 103 := by have := byteAt_app_right dg ⟨#[103, 98]⟩ 0; rw [Nat.add_zero] at this; rw [this]; rfl
  have hkey : ∀ j, j < 2 → byteAt (⟨#[103, 98]⟩ : ByteArray) j < 128 := by decide
  have he : (dg ++ (⟨#[103, 98]⟩ : ByteArray)).extract 0 dg.size = dg := ByteArray.extract_append_eq_left rfl
  have hf : (dg ++ (⟨#[103, 98]⟩ : ByteArray)).extract dg.size (dg ++ (⟨#[103, 98]⟩ : ByteArray)).size = ⟨#[103, 98]⟩ := ByteArray.extract_append_eq_right rfl (by rw [ByteArray.size_append])
  refine item_int_gb hp hB hK _ xl xp dg.size (by rw [hz]; omega) (by rw [hz]; omega) (fun i hi => by rw [byteAt_app_left _ _ _ hi]; exact dig_true (hdig i hi)) (by rw [hb0]; rfl) (by rw [hb0]; decide) ?_ (numOf dg.data.toList : Nat) (fun w => by rw [he]; exact ParseInt_pos dg hd0 hdig (by omega) (by omega) w) ⟨#[103, 98]⟩ hf ?_ rfl rfl rfl (by omega) hn htb hs
  · intro i hi
    rw [hz] at hi
    by_cases h : i < dg.size
    · rw [byteAt_app_left _ _ _ h]; have := hdig i h; omega
    · obtain ⟨j, rfl⟩ : ∃ j, i = dg.size + j := ⟨i - dg.size, by omega⟩
      rw [byteAt_app_right]
      have hj : j < 2 := by omega
      exact hkey j hj
  · exact asc_list _ hkey
theorem works_gib (dg : ByteArray) (hK : K.ped = false) (L : LX) (x : It) (hx : x.typ = 7) (hv : x.val = dg ++ ⟨#[103, 105, 98]⟩) (hd0 : 0 < dg.size) (hdig : isDigits dg) (hn : ((numOf dg.data.toList : Nat) : Int) * 1024 * 1024 * 1024 ≤ 4611686018427387904) (hsz : dg.size ≤ 900000)
    (hs : (⟨L, cx, ks⟩ : PX).Sets (.int (((numOf dg.data.toList : Nat) : Int) * 1024 * 1024 * 1024)) ⟨L, cx1, ks1⟩) : Works K ⟨L, cx, ks⟩ x ⟨L, cx1, ks1⟩ := by
  intro B lab w hB hp htb
  obtain ⟨xt, xv, xl, xp⟩ := x
  obtain rfl : xt = 7 := hx
  obtain rfl : xv = dg ++ ⟨#[103, 105, 98]⟩ := hv
  have hz : (dg ++ (⟨#[103, 105, 98]⟩ : ByteArray)).size = dg.size + 3 := by rw [ByteArray.size_append]; rfl
  have hb0 : byteAt (dg ++ (⟨#[103, 105, 98]⟩ : ByteArray)) dg.size = 103 := by have := byteAt_app_right dg ⟨#[103, 105, 98]⟩ 0; rw [Nat.add_zero] at this; rw [this]; rfl
  have hkey : ∀ j, j < 3 → byteAt (⟨#[103, 105, 98]⟩ : ByteArray) j < 128 := by decide
  have he : (dg ++ (⟨#[103, 105, 98]⟩ : ByteArray)).extract 0 dg.size = dg := ByteArray.extract_append_eq_left rfl
  have hf : (dg ++ (⟨#[103, 105, 98]⟩ : ByteArray)).extract dg.size (dg ++ (⟨#[103, 105, 98]⟩ : ByteArray)).size = ⟨#[103, 105, 98]⟩ := ByteArray.extract_append_eq_right rfl (by rw [ByteArray.size_append])
  refine item_int_gib hp hB hK _ xl xp dg.size (by rw [hz]; omega) (by rw [hz]; omega) (fun i hi => by rw [byteAt_app_left _ _ _ hi]; exact dig_true (hdig i hi)) (by rw [hb0]; rfl) (by rw [hb0]; decide) ?_ (numOf dg.data.toList : Nat) (fun w => by rw [he]; exact ParseInt_pos dg hd0 hdig (by omega) (by omega) w) ⟨#[103, 105, 98]⟩ hf ?_ rfl rfl rfl (by omega) hn htb hs
  · intro i hi
    rw [hz] at hi
    by_cases h : i < dg.size
    · rw [byteAt_app_left _ _ _ h]; have := hdig i h; omega
    · obtain ⟨j, rfl⟩ : ∃ j, i = dg.size + j := ⟨i - dg.size, by omega⟩
      rw [byteAt_app_right]
      have hj : j < 3 := by omega
      exact hkey j hj
  · exact asc_list _ hkey
theorem works_gi (dg : ByteArray) (hK : K.ped = false) (L : LX) (x : It) (hx : x.typ = 7) (hv : x.val = dg ++ ⟨#[103, 105]⟩) (hd0 : 0 < dg.size) (hdig : isDigits dg) (hn : ((numOf dg.data.toList : Nat) : Int) * 1024 * 1024 * 1024 ≤ 4611686018427387904) (hsz : dg.size ≤ 900000)
    (hs : (⟨L, cx, ks⟩ : PX).Sets (.int (((numOf dg.data.toList : Nat) : Int) * 1024 * 1024 * 1024)) ⟨L, cx1, ks1⟩) : Works K ⟨L, cx, ks⟩ x ⟨L, cx1, ks1⟩ := by
  intro B lab w hB hp htb
  obtain ⟨xt, xv, xl, xp⟩ := x
  obtain rfl : xt = 7 := hx
  obtain rfl : xv = dg ++ ⟨#[103, 105]⟩ := hv
  have hz : (dg ++ (⟨#[103, 105]⟩ : ByteArray)).size = dg.size + 2 := by rw [ByteArray.size_append]; rfl
  have hb0 : byteAt (dg ++ (⟨#[103, 105]⟩ : ByteArray)) dg.size = 103 := by have := byteAt_app_right dg ⟨#[103, 105]⟩ 0; rw [Nat.add_zero] at this; rw [this]; rfl
  have hkey : ∀ j, j < 2 → byteAt (⟨#[103, 105]⟩ : ByteArray) j < 128 := by decide
  have he : (dg ++ (⟨#[103, 105]⟩ : ByteArray)).extract 0 dg.size = dg := ByteArray.extract_append_eq_left rfl
  have hf : (dg ++ (⟨#[103, 105]⟩ : ByteArray)).extract dg.size (dg ++ (⟨#[103, 105]⟩ : ByteArray)).size = ⟨#[103, 105]⟩ := ByteArray.extract_append_eq_right rfl (by rw [ByteArray.size_append])
  refine item_int_gi hp hB hK _ xl xp dg.size (by rw [hz]; omega) (by rw [hz]; omega) (fun i hi => by rw [byteAt_app_left _ _ _ hi]; exact dig_true (hdig i hi)) (by rw [hb0]; rfl) (by rw [hb0]; decide) ?_ (numOf dg.data.toList : Nat) (fun w => by rw [he]; exact ParseInt_pos dg hd0 hdig (by omega) (by omega) w) ⟨#[103, 105]⟩ hf ?_ rfl rfl rfl (by omega) hn htb hs
  · intro i hi
    rw [hz] at hi
    by_cases h : i < dg.size
    · rw [byteAt_app_left _ _ _ h]; have := hdig i h; omega
    · obtain ⟨j, rfl⟩ : ∃ j, i = dg.size + j := ⟨i - dg.size, by omega⟩
      rw [byteAt_app_right]
      have hj : j < 2 := by omega
      exact hkey j hj
  · exact asc_list _ hkey
theorem works_t (dg : ByteArray) (hK : K.ped = false) (L : LX) (x : It) (hx : x.typ = 7) (hv : x.val = dg ++ ⟨#[116]⟩) (hd0 : 0 < dg.size) (hdig : isDigits dg) (hn : ((numOf dg.data.toList : Nat) : Int) * 1000 * 1000 * 1000 * 1000 ≤ 4611686018427387904) (hsz : dg.size ≤ 900000)
    (hs : (⟨L, cx, ks⟩ : PX).Sets (.int (((numOf dg.data.toList : Nat) : Int) * 1000 * 1000 * 1000 * 1000)) ⟨L, cx1, ks1⟩) : Works K ⟨L, cx, ks⟩ x ⟨L, cx1, ks1⟩ := by
  intro B lab w hB hp htb
  obtain ⟨xt, xv, xl, xp⟩ := x
  obtain rfl : xt = 7 := hx
  obtain rfl : xv = dg ++ ⟨#[116]⟩ := hv
  have hz : (dg ++ (⟨#[116]⟩ : ByteArray)).size = dg.size + 1 := by rw [ByteArray.size_append]; rfl
  have hb0 : byteAt (dg ++ (⟨#[116]⟩ : ByteArray)) dg.size = 116 := by have := byteAt_app_right dg ⟨#[116]⟩ 0; rw [Nat.add_zero] at this; rw [this]; rfl
  have hkey : ∀ j, j < 1 → byteAt (⟨#[116]⟩ : ByteArray) j < 128 := by decide
  have he : (dg ++ (⟨#[116]⟩ : ByteArray)).extract 0 dg.size = dg := ByteArray.extract_append_eq_left rfl
  have hf : (dg ++ (⟨#[116]⟩ : ByteArray)).extract dg.size (dg ++ (⟨#[116]⟩ : ByteArray)).size = ⟨#[116]⟩ := ByteArray.extract_append_eq_right rfl (by rw [ByteArray.size_append])
  refine item_int_t hp hB hK _ xl xp dg.size (by rw [hz]; omega) (by rw [hz]; omega) (fun i hi => by rw [byteAt_app_left _ _ _ hi]; exact dig_true (hdig i hi)) (by rw [hb0]; rfl) (by rw [hb0]; decide) ?_ (numOf dg.data.toList : Nat) (fun w => by rw [he]; exact ParseInt_pos dg hd0 hdig (by omega) (by omega) w) ⟨#[116]⟩ hf ?_ rfl rfl rfl (by omega) hn htb hs
  · intro i hi
    rw [hz] at hi
    by_cases h : i < dg.size
    · rw [byteAt_app_left _ _ _ h]; have := hdig i h; omega
    · obtain ⟨j, rfl⟩ : ∃ j, i = dg.size + j := ⟨i - dg.size, by omega⟩
      rw [byteAt_app_right]
      have hj : j < 1 := by omega
      exact hkey j hj
  · exact asc_list _ hkey
theorem works_tb (dg : ByteArray) (hK : K.ped = false) (L : LX) (x : It) (hx : x.typ = 7) (hv : x.val = dg ++ ⟨#[116, 98]⟩) (hd0 : 0 < dg.size) (hdig : isDigits dg) (hn : ((numOf dg.data.toList : Nat) : Int) * 1024 * 1024 * 1024 * 1024 ≤ 4611686018427387904) (hsz : dg.size ≤ 900000)
    (hs : (⟨L, cx, ks⟩ : PX).Sets (.int (((numOf dg.data.toList : Nat) : Int) * 1024 * 1024 * 1024 * 1024)) ⟨L, cx1, ks1⟩) : Works K ⟨L, cx, ks⟩ x ⟨L, cx1, ks1⟩ := by
  intro B lab w hB hp htb
  obtain ⟨xt, xv, xl, xp⟩ := x
  obtain rfl : xt = 7 := hx
  obtain rfl : xv = dg ++ ⟨#[116, 98]⟩ := hv
  have hz : (dg ++ (⟨#[116, 98]⟩ : ByteArray)).size = dg.size + 2 := by rw [ByteArray.size_append]; rfl
  have hb0 : byteAt (dg ++ (⟨#[116, 98]⟩ : ByteArray)) dg.size = 116 := by have := byteAt_app_right dg ⟨#[116, 98]⟩ 0; rw [Nat.add_zero] at this; rw [this]; rfl
  have hkey : ∀ j, j < 2 → byteAt (⟨#[116, 98]⟩ : ByteArray) j < 128 := by decide
  have he : (dg ++ (⟨#[116, 98]⟩ : ByteArray)).extract 0 dg.size = dg := ByteArray.extract_append_eq_left rfl
  have hf : (dg ++ (⟨#[116, 98]⟩ : ByteArray)).extract dg.size (dg ++ (⟨#[116, 98]⟩ : ByteArray)).size = ⟨#[116, 98]⟩ := ByteArray.extract_append_eq_right rfl (by rw [ByteArray.size_append])
  refine item_int_tb hp hB hK _ xl xp dg.size (by rw [hz]; omega) (by rw [hz]; omega) (fun i hi => by rw [byteAt_app_left _ _ _ hi]; exact dig_true (hdig i hi)) (by rw [hb0]; rfl) (by rw [hb0]; decide) ?_ (numOf dg.data.toList : Nat) (fun w => by rw [he]; exact ParseInt_pos dg hd0 hdig (by omega) (by omega) w) ⟨#[116, 98]⟩ hf ?_ rfl rfl rfl (by omega) hn htb hs
  · intro i hi
    rw [hz] at hi
    by_cases h : i < dg.size
    · rw [byteAt_app_left _ _ _ h]; have := hdig i h; omega
    · obtain ⟨j, rfl⟩ : ∃ j, i = dg.size + j := ⟨i - dg.size, by omega⟩
      rw [byteAt_app_right]
      have hj : j < 2 := by omega
      exact hkey j hj
  · exact asc_list _ hkey
theorem works_tib (dg : ByteArray) (hK : K.ped = false) (L : LX) (x : It) (hx : x.typ = 7) (hv : x.val = dg ++ ⟨#[116, 105, 98]⟩) (hd0 : 0 < dg.size) (hdig : isDigits dg) (hn : ((numOf dg.data.toList : Nat) : Int) * 1024 * 1024 * 1024 * 1024 ≤ 4611686018427387904) (hsz : dg.size ≤ 900000)
    (hs : (⟨L, cx, ks⟩ : PX).Sets (.int (((numOf dg.data.toList : Nat) : Int) * 1024 * 1024 * 1024 * 1024)) ⟨L, cx1, ks1⟩) : Works K ⟨L, cx, ks⟩ x ⟨L, cx1, ks1⟩ := by
  intro B lab w hB hp htb
  obtain ⟨xt, xv, xl, xp⟩ := x
  obtain rfl : xt = 7 := hx
  obtain rfl : xv = dg ++ ⟨#[116, 105, 98]⟩ := hv
  have hz : (dg ++ (⟨#[116, 105, 98]⟩ : ByteArray)).size = dg.size + 3 := by rw [ByteArray.size_append]; rfl
  have hb0 : byteAt (dg ++ (⟨#[116, 105, 98]⟩ : ByteArray)) dg.size = 116 := by have := byteAt_app_right dg ⟨#[116, 105, 98]⟩ 0; rw [Nat.add_zero] at this; rw [this]; rfl
  have hkey : ∀ j, j < 3 → byteAt (⟨#[116, 105, 98]⟩ : ByteArray) j < 128 := by decide
  have he : (dg ++ (⟨#[116, 105, 98]⟩ : ByteArray)).extract 0 dg.size = dg := ByteArray.extract_append_eq_left rfl
  have hf : (dg ++ (⟨#[116, 105, 98]⟩ : ByteArray)).extract dg.size (dg ++ (⟨#[116, 105, 98]⟩ : ByteArray)).size = ⟨#[116, 105, 98]⟩ := ByteArray.extract_append_eq_right rfl (by rw [ByteArray.size_append])
  refine item_int_tib hp hB hK _ xl xp dg.size (by rw [hz]; omega) (by rw [hz]; omega) (fun i hi => by rw [byteAt_app_left _ _ _ hi]; exact dig_true (hdig i hi)) (by rw [hb0]; rfl) (by rw [hb0]; decide) ?_ (numOf dg.data.toList : Nat) (fun w => by rw [he]; exact ParseInt_pos dg hd0 hdig (by omega) (by omega) w) ⟨#[116, 105, 98]⟩ hf ?_ rfl rfl rfl (by omega) hn htb hs
  · intro i hi
    rw [hz] at hi
    by_cases h : i < dg.size
    · rw [byteAt_app_left _ _ _ h]; have := hdig i h; omega
    · obtain ⟨j, rfl⟩ : ∃ j, i = dg.size + j := ⟨i - dg.size, by omega⟩
      rw [byteAt_app_right]
      have hj : j < 3 := by omega
      exact hkey j hj
  · exact asc_list _ hkey
theorem works_ti (dg : ByteArray) (hK : K.ped = false) (L : LX) (x : It) (hx : x.typ = 7) (hv : x.val = dg ++ ⟨#[116, 105]⟩) (hd0 : 0 < dg.size) (hdig : isDigits dg) (hn : ((numOf dg.data.toList : Nat) : Int) * 1024 * 1024 * 1024 * 1024 ≤ 4611686018427387904) (hsz : dg.size ≤ 900000)
    (hs : (⟨L, cx, ks⟩ : PX).Sets (.int (((numOf dg.data.toList : Nat) : Int) * 1024 * 1024 * 1024 * 1024)) ⟨L, cx1, ks1⟩) : Works K ⟨L, cx, ks⟩ x ⟨L, cx1, ks1⟩ := by
  intro B lab w hB hp htb
  obtain ⟨xt, xv, xl, xp⟩ := x
  obtain rfl : xt = 7 := hx
  obtain rfl : xv = dg ++ ⟨#[116, 105]⟩ := hv
  have hz : (dg ++ (⟨#[116, 105]⟩ : ByteArray)).size = dg.size + 2 := by rw [ByteArray.size_append]; rfl
  have hb0 : byteAt (dg ++ (⟨#[116, 105]⟩ : ByteArray)) dg.size = 116 := by have := byteAt_app_right dg ⟨#[116, 105]⟩ 0; rw [Nat.add_zero] at this; rw [this]; rfl
  have hkey : ∀ j, j < 2 → byteAt (⟨#[116, 105]⟩ : ByteArray) j < 128 := by decide
  have he : (dg ++ (⟨#[116, 105]⟩ : ByteArray)).extract 0 dg.size = dg := ByteArray.extract_append_eq_left rfl
  have hf : (dg ++ (⟨#[116, 105]⟩ : ByteArray)).extract dg.size (dg ++ (⟨#[116, 105]⟩ : ByteArray)).size = ⟨#[116, 105]⟩ := ByteArray.extract_append_eq_right rfl (by rw [ByteArray.size_append])
  refine item_int_ti hp hB hK _ xl xp dg.size (by rw [hz]; omega) (by rw [hz]; omega) (fun i hi => by rw [byteAt_app_left _ _ _ hi]; exact dig_true (hdig i hi)) (by rw [hb0]; rfl) (by rw [hb0]; decide) ?_ (numOf dg.data.toList : Nat) (fun w => by rw [he]; exact ParseInt_pos dg hd0 hdig (by omega) (by omega) w) ⟨#[116, 105]⟩ hf ?_ rfl rfl rfl (by omega) hn htb hs
  · intro i hi
    rw [hz] at hi
    by_cases h : i < dg.size
    · rw [byteAt_app_left _ _ _ h]; have := hdig i h; omega
    · obtain ⟨j, rfl⟩ : ∃ j, i = dg.size + j := ⟨i - dg.size, by omega⟩
      rw [byteAt_app_right]
      have hj : j < 2 := by omega
      exact hkey j hj
  · exact asc_list _ hkey
end
end Go.Cf

/-
  'a = <number>' newline: what it feeds.
-/
namespace Go.Cf
open Go.RowKit Go.Conc Go.Proofs
section
variable {s : ByteArray} {p st : Nat} {stk : List Nat}
/-- Digits, one after another. -/
theorem leads_digits (n : Nat) (hn : p + n ≤ s.size) (hd : ∀ i, i < n → 48 ≤ byteAt s (p + i) ∧ byteAt s (p + i) ≤ 57) : Leads s p st stk (plainT 199) (p + n) st stk (plainT 199) := by
  induction n with
  | zero => exact Leads.refl
  | succ n ih =>
    have h := hd n (by omega)
    have h1 := ih (by omega) (fun i hi => hd i (by omega))
    exact h1.trans (by have h2 := ld_num_dig (s := s) (p := p + n) (st := st) (stk := stk) (by omega) (dig_true h) (by omega); exact h2)
/-- The text 'a = ' and the digits dg, behind them tl, behind that a newline. -/
def eqText (dg tl : ByteArray) : ByteArray := (⟨#[97, 32, 61, 32]⟩ : ByteArray) ++ dg ++ tl ++ ⟨#[10]⟩
theorem Feeds.pre {K : PK} {n : Nat} {L L1 : LX} {cx : List CJ} {ks : List ByteArray} {prev : It} {X' : PX} (r : Run n L L1) (h : Feeds K ⟨L1, cx, ks⟩ prev X') : Feeds K ⟨L, cx, ks⟩ prev X' := by
  cases h with
  | eof R hx ht hp => exact .eof (X := ⟨L, cx, ks⟩) (r.trans R) hx ht hp
  | step R hx ht hw h => exact .step (X := ⟨L, cx, ks⟩) (r.trans R) hx ht hw h
theorem Fd.lead {K : PK} {p1 st1 : Nat} {stk1 : List Nat} {t t1 : Tag} {cx fin : List CJ} {ks : List ByteArray} {pt : Nat} (h : Leads s p st stk t p1 st1 stk1 t1) (k : Fd K s p1 st1 stk1 t1 cx ks pt fin) : Fd K s p st stk t cx ks pt fin := by
  intro L prev hL hp
  obtain ⟨n, L1, r, h1⟩ := h L hL
  obtain ⟨X', hF, hc⟩ := k L1 prev h1 hp
  exact ⟨X', hF.pre r, hc⟩
/-- 'a = ' up to the value's first digit. -/
theorem fd_a {K : PK} {cx fin : List CJ} {ks : List ByteArray} {pt : Nat} (hK : K.ped = false) (hl : ks.length ≤ 1000000) (hs : 4 < s.size) (b0 : byteAt s 0 = 97) (b1 : byteAt s 1 = 32) (b2 : byteAt s 2 = 61) (b3 : byteAt s 3 = 32) (b4 : 48 ≤ byteAt s 4 ∧ byteAt s 4 ≤ 57) (hk : s.extract 0 1 = ⟨#[97]⟩)
    (rest : Fd K s 5 4 [94] (plainT 199) cx (ks ++ [⟨#[97]⟩]) 3 fin) : Fd K s 0 0 [] (plainT 60) cx ks pt fin := by
  have l1 : Leads s 0 0 [] (plainT 60) 0 0 [94] (plainT 95) := ld_top_key (by omega) (by simp) (by rw [b0]; rfl) (by omega) (by omega) (by omega) (by omega)
  have l2 : Leads s 0 0 [94] (plainT 95) 1 0 [94] (plainT 139) := ld_ks_key (by omega) (by rw [b0]; rfl) (by rw [b0]; rfl) (by omega) (by omega)
  have e1 : Emits s 1 0 [94] (plainT 139) 3 (s.extract 0 1) (1 + (nlc s 1 : Nat)) 1 1 [94] (plainT 163) := ld_key_sp (by omega) (by omega) (by rw [b1]; rfl) (by rw [hk]; rfl)
  have l3 : Leads s 1 1 [94] (plainT 163) 2 1 [94] (skipT 163) := ld_ke_sp (by omega) (by rw [b1]; rfl)
  have l4 : Leads s 2 2 [94] (plainT 163) 3 2 [94] (skipT 174) := ld_ke_sep (by omega) (by rw [b2]; rfl) (by rw [b2]; rfl)
  have l5 : Leads s 3 3 [94] (plainT 174) 4 3 [94] (skipT 174) := ld_val_ws (by omega) (by rw [b3]; rfl)
  have l6 : Leads s 4 4 [94] (plainT 174) 4 4 [94] (plainT 186) := ld_val_dig hs (by simp [isWS]; omega) (dig_true b4) b4
  have l7 : Leads s 4 4 [94] (plainT 186) 5 4 [94] (plainT 199) := ld_num_start hs (dig_true b4)
  refine Fd.lead (l1.trans l2) (Fd.step (cx1 := cx) (ks1 := ks ++ [⟨#[97]⟩]) e1 (by decide) (fun L x h1 h2 _ => ?_) (Fd.lead ((((((l3.trans (ld_skip 163)).trans l4).trans (ld_skip 174)).trans l5).trans (ld_skip 174)).trans (l6.trans l7)) rest))
  have := works_key (cx := cx) (ks := ks) hK L x h1 hl
  rwa [h2, hk] at this
/-- Behind the value: a newline, and the end. -/
theorem fd_end {K : PK} {cx : List CJ} {ks : List ByteArray} {pt : Nat} (hs : p + 1 = s.size) (b : byteAt s p = 10) (hpt : pt ≠ 3) : Fd K s p p [] (plainT 94) cx ks pt cx :=
  Fd.lead (ld_tve_nl (by omega) b) (Fd.eof (ld_top_eof (by omega) rfl) hpt)
/-- A whole number without a size, to the end. -/
theorem fd_plain {K : PK} {cx cx1 : List CJ} {ks ks1 : List ByteArray} (hK : K.ped = false) (d : Nat) (hd0 : 0 < d) (hs : 4 + d + 1 = s.size) (hdig : ∀ i, i < d → 48 ≤ byteAt s (4 + i) ∧ byteAt s (4 + i) ≤ 57) (bl : byteAt s (4 + d) = 10)
    (dg : ByteArray) (hdg : s.extract 4 (4 + d) = dg) (hdd : isDigits dg) (hn : numOf dg.data.toList < 9223372036854775808) (hsz : dg.size ≤ 900000) (hd1 : 0 < dg.size)
    (hw : ∀ L, (⟨L, cx, ks⟩ : PX).Sets (.int (numOf dg.data.toList : Nat)) ⟨L, cx1, ks1⟩) : Fd K s 5 4 [94] (plainT 199) cx ks 3 cx1 := by
  have l1 : Leads s 5 4 [94] (plainT 199) (4 + d) 4 [94] (plainT 199) := by
    have := leads_digits (s := s) (p := 5) (st := 4) (stk := [94]) (d - 1) (by omega) (fun i hi => by have h := hdig (i + 1) (by omega); rw [show 4 + (i + 1) = 5 + i from by omega] at h; exact h)
    rwa [show 5 + (d - 1) = 4 + d from by omega] at this
  have e1 := ld_num_nl (s := s) (p := 4 + d) (st := 4) (stk := [94]) (by omega) (by omega) bl [] 94 rfl (by simp)
  refine Fd.lead l1 (Fd.step (cx1 := cx1) (ks1 := ks1) e1 (by decide) (fun L x h1 h2 _ => ?_) (fd_end (by omega) bl (by decide)))
  rw [hdg] at h2
  subst h2
  exact works_int hK L x h1 hd1 hdd hn hsz (hw L)
/-- A whole number with a size, to the end. -/
theorem fd_k {K : PK} {cx cx1 : List CJ} {ks ks1 : List ByteArray} (hK : K.ped = false) (d : Nat) (hd0 : 0 < d) (hs : 4 + d + 1 + 1 = s.size) (hdig : ∀ i, i < d → 48 ≤ byteAt s (4 + i) ∧ byteAt s (4 + i) ≤ 57) (q0 : byteAt s (4 + d + 0) = 107) (bl : byteAt s (4 + d + 1) = 10)
    (dg : ByteArray) (hdg : s.extract 4 (4 + d + 1) = dg ++ ⟨#[107]⟩) (hdd : isDigits dg) (hn : ((numOf dg.data.toList : Nat) : Int) * 1000 ≤ 4611686018427387904) (hsz : dg.size ≤ 900000) (hd1 : 0 < dg.size)
    (hw : ∀ L, (⟨L, cx, ks⟩ : PX).Sets (.int (((numOf dg.data.toList : Nat) : Int) * 1000)) ⟨L, cx1, ks1⟩) : Fd K s 5 4 [94] (plainT 199) cx ks 3 cx1 := by
  have l1 : Leads s 5 4 [94] (plainT 199) (4 + d) 4 [94] (plainT 199) := by
    have := leads_digits (s := s) (p := 5) (st := 4) (stk := [94]) (d - 1) (by omega) (fun i hi => by have h := hdig (i + 1) (by omega); rw [show 4 + (i + 1) = 5 + i from by omega] at h; exact h)
    rwa [show 5 + (d - 1) = 4 + d from by omega] at this
  have m0 : Leads s (4 + d + 0) 4 [94] (plainT 199) (4 + d + 0 + 1) 4 [94] (plainT 212) := ld_num_suf (by omega) (by rw [q0]; rfl) (by rw [q0]; rfl) (by omega) (by omega)
  have e1 := ld_suf_nl (s := s) (p := 4 + d + 1) (st := 4) (stk := [94]) (by omega) (by omega) bl [] 94 rfl (by simp)
  refine Fd.lead (l1.trans (m0)) (Fd.step (cx1 := cx1) (ks1 := ks1) e1 (by decide) (fun L x h1 h2 _ => ?_) (fd_end (by omega) bl (by decide)))
  exact works_k dg hK L x h1 (h2.trans hdg) hd1 hdd hn hsz (hw L)
theorem fd_kb {K : PK} {cx cx1 : List CJ} {ks ks1 : List ByteArray} (hK : K.ped = false) (d : Nat) (hd0 : 0 < d) (hs : 4 + d + 2 + 1 = s.size) (hdig : ∀ i, i < d → 48 ≤ byteAt s (4 + i) ∧ byteAt s (4 + i) ≤ 57) (q0 : byteAt s (4 + d + 0) = 107) (q1 : byteAt s (4 + d + 1) = 98) (bl : byteAt s (4 + d + 2) = 10)
    (dg : ByteArray) (hdg : s.extract 4 (4 + d + 2) = dg ++ ⟨#[107, 98]⟩) (hdd : isDigits dg) (hn : ((numOf dg.data.toList : Nat) : Int) * 1024 ≤ 4611686018427387904) (hsz : dg.size ≤ 900000) (hd1 : 0 < dg.size)
    (hw : ∀ L, (⟨L, cx, ks⟩ : PX).Sets (.int (((numOf dg.data.toList : Nat) : Int) * 1024)) ⟨L, cx1, ks1⟩) : Fd K s 5 4 [94] (plainT 199) cx ks 3 cx1 := by
  have l1 : Leads s 5 4 [94] (plainT 199) (4 + d) 4 [94] (plainT 199) := by
    have := leads_digits (s := s) (p := 5) (st := 4) (stk := [94]) (d - 1) (by omega) (fun i hi => by have h := hdig (i + 1) (by omega); rw [show 4 + (i + 1) = 5 + i from by omega] at h; exact h)
    rwa [show 5 + (d - 1) = 4 + d from by omega] at this
  have m0 : Leads s (4 + d + 0) 4 [94] (plainT 199) (4 + d + 0 + 1) 4 [94] (plainT 212) := ld_num_suf (by omega) (by rw [q0]; rfl) (by rw [q0]; rfl) (by omega) (by omega)
  have m1 : Leads s (4 + d + 1) 4 [94] (plainT 212) (4 + d + 1 + 1) 4 [94] (plainT 212) := ld_suf_b (by omega) q1
  have e1 := ld_suf_nl (s := s) (p := 4 + d + 2) (st := 4) (stk := [94]) (by omega) (by omega) bl [] 94 rfl (by simp)
  refine Fd.lead (l1.trans ((m0).trans m1)) (Fd.step (cx1 := cx1) (ks1 := ks1) e1 (by decide) (fun L x h1 h2 _ => ?_) (fd_end (by omega) bl (by decide)))
  exact works_kb dg hK L x h1 (h2.trans hdg) hd1 hdd hn hsz (hw L)
theorem fd_kib {K : PK} {cx cx1 : List CJ} {ks ks1 : List ByteArray} (hK : K.ped = false) (d : Nat) (hd0 : 0 < d) (hs : 4 + d + 3 + 1 = s.size) (hdig : ∀ i, i < d → 48 ≤ byteAt s (4 + i) ∧ byteAt s (4 + i) ≤ 57) (q0 : byteAt s (4 + d + 0) = 107) (q1 : byteAt s (4 + d + 1) = 105) (q2 : byteAt s (4 + d + 2) = 98) (bl : byteAt s (4 + d + 3) = 10)
    (dg : ByteArray) (hdg : s.extract 4 (4 + d + 3) = dg ++ ⟨#[107, 105, 98]⟩) (hdd : isDigits dg) (hn : ((numOf dg.data.toList : Nat) : Int) * 1024 ≤ 4611686018427387904) (hsz : dg.size ≤ 900000) (hd1 : 0 < dg.size)
    (hw : ∀ L, (⟨L, cx, ks⟩ : PX).Sets (.int (((numOf dg.data.toList : Nat) : Int) * 1024)) ⟨L, cx1, ks1⟩) : Fd K s 5 4 [94] (plainT 199) cx ks 3 cx1 := by
  have l1 : Leads s 5 4 [94] (plainT 199) (4 + d) 4 [94] (plainT 199) := by
    have := leads_digits (s := s) (p := 5) (st := 4) (stk := [94]) (d - 1) (by omega) (fun i hi => by have h := hdig (i + 1) (by omega); rw [show 4 + (i + 1) = 5 + i from by omega] at h; exact h)
    rwa [show 5 + (d - 1) = 4 + d from by omega] at this
  have m0 : Leads s (4 + d + 0) 4 [94] (plainT 199) (4 + d + 0 + 1) 4 [94] (plainT 212) := ld_num_suf (by omega) (by rw [q0]; rfl) (by rw [q0]; rfl) (by omega) (by omega)
  have m1 : Leads s (4 + d + 1) 4 [94] (plainT 212) (4 + d + 1 + 1) 4 [94] (plainT 212) := ld_suf_i (by omega) q1
  have m2 : Leads s (4 + d + 2) 4 [94] (plainT 212) (4 + d + 2 + 1) 4 [94] (plainT 212) := ld_suf_b (by omega) q2
  have e1 := ld_suf_nl (s := s) (p := 4 + d + 3) (st := 4) (stk := [94]) (by omega) (by omega) bl [] 94 rfl (by simp)
  refine Fd.lead (l1.trans (((m0).trans m1).trans m2)) (Fd.step (cx1 := cx1) (ks1 := ks1) e1 (by decide) (fun L x h1 h2 _ => ?_) (fd_end (by omega) bl (by decide)))
  exact works_kib dg hK L x h1 (h2.trans hdg) hd1 hdd hn hsz (hw L)
theorem fd_ki {K : PK} {cx cx1 : List CJ} {ks ks1 : List ByteArray} (hK : K.ped = false) (d : Nat) (hd0 : 0 < d) (hs : 4 + d + 2 + 1 = s.size) (hdig : ∀ i, i < d → 48 ≤ byteAt s (4 + i) ∧ byteAt s (4 + i) ≤ 57) (q0 : byteAt s (4 + d + 0) = 107) (q1 : byteAt s (4 + d + 1) = 105) (bl : byteAt s (4 + d + 2) = 10)
    (dg : ByteArray) (hdg : s.extract 4 (4 + d + 2) = dg ++ ⟨#[107, 105]⟩) (hdd : isDigits dg) (hn : ((numOf dg.data.toList : Nat) : Int) * 1024 ≤ 4611686018427387904) (hsz : dg.size ≤ 900000) (hd1 : 0 < dg.size)
    (hw : ∀ L, (⟨L, cx, ks⟩ : PX).Sets (.int (((numOf dg.data.toList : Nat) : Int) * 1024)) ⟨L, cx1, ks1⟩) : Fd K s 5 4 [94] (plainT 199) cx ks 3 cx1 := by
  have l1 : Leads s 5 4 [94] (plainT 199) (4 + d) 4 [94] (plainT 199) := by
    have := leads_digits (s := s) (p := 5) (st := 4) (stk := [94]) (d - 1) (by omega) (fun i hi => by have h := hdig (i + 1) (by omega); rw [show 4 + (i + 1) = 5 + i from by omega] at h; exact h)
    rwa [show 5 + (d - 1) = 4 + d from by omega] at this
  have m0 : Leads s (4 + d + 0) 4 [94] (plainT 199) (4 + d + 0 + 1) 4 [94] (plainT 212) := ld_num_suf (by omega) (by rw [q0]; rfl) (by rw [q0]; rfl) (by omega) (by omega)
  have m1 : Leads s (4 + d + 1) 4 [94] (plainT 212) (4 + d + 1 + 1) 4 [94] (plainT 212) := ld_suf_i (by omega) q1
  have e1 := ld_suf_nl (s := s) (p := 4 + d + 2) (st := 4) (stk := [94]) (by omega) (by omega) bl [] 94 rfl (by simp)
  refine Fd.lead (l1.trans ((m0).trans m1)) (Fd.step (cx1 := cx1) (ks1 := ks1) e1 (by decide) (fun L x h1 h2 _ => ?_) (fd_end (by omega) bl (by decide)))
  exact works_ki dg hK L x h1 (h2.trans hdg) hd1 hdd hn hsz (hw L)
theorem fd_m {K : PK} {cx cx1 : List CJ} {ks ks1 : List ByteArray} (hK : K.ped = false) (d : Nat) (hd0 : 0 < d) (hs : 4 + d + 1 + 1 = s.size) (hdig : ∀ i, i < d → 48 ≤ byteAt s (4 + i) ∧ byteAt s (4 + i) ≤ 57) (q0 : byteAt s (4 + d + 0) = 109) (bl : byteAt s (4 + d + 1) = 10)
    (dg : ByteArray) (hdg : s.extract 4 (4 + d + 1) = dg ++ ⟨#[109]⟩) (hdd : isDigits dg) (hn : ((numOf dg.data.toList : Nat) : Int) * 1000 * 1000 ≤ 4611686018427387904) (hsz : dg.size ≤ 900000) (hd1 : 0 < dg.size)
    (hw : ∀ L, (⟨L, cx, ks⟩ : PX).Sets (.int (((numOf dg.data.toList : Nat) : Int) * 1000 * 1000)) ⟨L, cx1, ks1⟩) : Fd K s 5 4 [94] (plainT 199) cx ks 3 cx1 := by
  have l1 : Leads s 5 4 [94] (plainT 199) (4 + d) 4 [94] (plainT 199) := by
    have := leads_digits (s := s) (p := 5) (st := 4) (stk := [94]) (d - 1) (by omega) (fun i hi => by have h := hdig (i + 1) (by omega); rw [show 4 + (i + 1) = 5 + i from by omega] at h; exact h)
    rwa [show 5 + (d - 1) = 4 + d from by omega] at this
  have m0 : Leads s (4 + d + 0) 4 [94] (plainT 199) (4 + d + 0 + 1) 4 [94] (plainT 212) := ld_num_suf (by omega) (by rw [q0]; rfl) (by rw [q0]; rfl) (by omega) (by omega)
  have e1 := ld_suf_nl (s := s) (p := 4 + d + 1) (st := 4) (stk := [94]) (by omega) (by omega) bl [] 94 rfl (by simp)
  refine Fd.lead (l1.trans (m0)) (Fd.step (cx1 := cx1) (ks1 := ks1) e1 (by decide) (fun L x h1 h2 _ => ?_) (fd_end (by omega) bl (by decide)))
  exact works_m dg hK L x h1 (h2.trans hdg) hd1 hdd hn hsz (hw L)
theorem fd_mb {K : PK} {cx cx1 : List CJ} {ks ks1 : List ByteArray} (hK : K.ped = false) (d : Nat) (hd0 : 0 < d) (hs : 4 + d + 2 + 1 = s.size) (hdig : ∀ i, i < d → 48 ≤ byteAt s (4 + i) ∧ byteAt s (4 + i) ≤ 57) (q0 : byteAt s (4 + d + 0) = 109) (q1 : byteAt s (4 + d + 1) = 98) (bl : byteAt s (4 + d + 2) = 10)
    (dg : ByteArray) (hdg : s.extract 4 (4 + d + 2) = dg ++ ⟨#[109, 98]⟩) (hdd : isDigits dg) (hn : ((numOf dg.data.toList : Nat) : Int) * 1024 * 1024 ≤ 4611686018427387904) (hsz : dg.size ≤ 900000) (hd1 : 0 < dg.size)
    (hw : ∀ L, (⟨L, cx, ks⟩ : PX).Sets (.int (((numOf dg.data.toList : Nat) : Int) * 1024 * 1024)) ⟨L, cx1, ks1⟩) : Fd K s 5 4 [94] (plainT 199) cx ks 3 cx1 := by
  have l1 : Leads s 5 4 [94] (plainT 199) (4 + d) 4 [94] (plainT 199) := by
    have := leads_digits (s := s) (p := 5) (st := 4) (stk := [94]) (d - 1) (by omega) (fun i hi => by have h := hdig (i + 1) (by omega); rw [show 4 + (i + 1) = 5 + i from by omega] at h; exact h)
    rwa [show 5 + (d - 1) = 4 + d from by omega] at this
  have m0 : Leads s (4 + d + 0) 4 [94] (plainT 199) (4 + d + 0 + 1) 4 [94] (plainT 212) := ld_num_suf (by omega) (by rw [q0]; rfl) (by rw [q0]; rfl) (by omega) (by omega)
  have m1 : Leads s (4 + d + 1) 4 [94] (plainT 212) (4 + d + 1 + 1) 4 [94] (plainT 212) := ld_suf_b (by omega) q1
  have e1 := ld_suf_nl (s := s) (p := 4 + d + 2) (st := 4) (stk := [94]) (by omega) (by omega) bl [] 94 rfl (by simp)
  refine Fd.lead (l1.trans ((m0).trans m1)) (Fd.step (cx1 := cx1) (ks1 := ks1) e1 (by decide) (fun L x h1 h2 _ => ?_) (fd_end (by omega) bl (by decide)))
  exact works_mb dg hK L x h1 (h2.trans hdg) hd1 hdd hn hsz (hw L)
theorem fd_mib {K : PK} {cx cx1 : List CJ} {ks ks1 : List ByteArray} (hK : K.ped = false) (d : Nat) (hd0 : 0 < d) (hs : 4 + d + 3 + 1 = s.size) (hdig : ∀ i, i < d → 48 ≤ byteAt s (4 + i) ∧ byteAt s (4 + i) ≤ 57) (q0 : byteAt s (4 + d + 0) = 109) (q1 : byteAt s (4 + d + 1) = 105) (q2 : byteAt s (4 + d + 2) = 98) (bl : byteAt s (4 + d + 3) = 10)
    (dg : ByteArray) (hdg : s.extract 4 (4 + d + 3) = dg ++ ⟨#[109, 105, 98]⟩) (hdd : isDigits dg) (hn : ((numOf dg.data.toList : Nat) : Int) * 1024 * 1024 ≤ 4611686018427387904) (hsz : dg.size ≤ 900000) (hd1 : 0 < dg.size)
    (hw : ∀ L, (⟨L, cx, ks⟩ : PX).Sets (.int (((numOf dg.data.toList : Nat) : Int) * 1024 * 1024)) ⟨L, cx1, ks1⟩) : Fd K s 5 4 [94] (plainT 199) cx ks 3 cx1 := by
  have l1 : Leads s 5 4 [94] (plainT 199) (4 + d) 4 [94] (plainT 199) := by
    have := leads_digits (s := s) (p := 5) (st := 4) (stk := [94]) (d - 1) (by omega) (fun i hi => by have h := hdig (i + 1) (by omega); rw [show 4 + (i + 1) = 5 + i from by omega] at h; exact h)
    rwa [show 5 + (d - 1) = 4 + d from by omega] at this
  have m0 : Leads s (4 + d + 0) 4 [94] (plainT 199) (4 + d + 0 + 1) 4 [94] (plainT 212) := ld_num_suf (by omega) (by rw [q0]; rfl) (by rw [q0]; rfl) (by omega) (by omega)
  have m1 : Leads s (4 + d + 1) 4 [94] (plainT 212) (4 + d + 1 + 1) 4 [94] (plainT 212) := ld_suf_i (by omega) q1
  have m2 : Leads s (4 + d + 2) 4 [94] (plainT 212) (4 + d + 2 + 1) 4 [94] (plainT 212) := ld_suf_b (by omega) q2
  have e1 := ld_suf_nl (s := s) (p := 4 + d + 3) (st := 4) (stk := [94]) (by omega) (by omega) bl [] 94 rfl (by simp)
  refine Fd.lead (l1.trans (((m0).trans m1).trans m2)) (Fd.step (cx1 := cx1) (ks1 := ks1) e1 (by decide) (fun L x h1 h2 _ => ?_) (fd_end (by omega) bl (by decide)))
  exact works_mib dg hK L x h1 (h2.trans hdg) hd1 hdd hn hsz (hw L)
theorem fd_mi {K : PK} {cx cx1 : List CJ} {ks ks1 : List ByteArray} (hK : K.ped = false) (d : Nat) (hd0 : 0 < d) (hs : 4 + d + 2 + 1 = s.size) (hdig : ∀ i, i < d → 48 ≤ byteAt s (4 + i) ∧ byteAt s (4 + i) ≤ 57) (q0 : byteAt s (4 + d + 0) = 109) (q1 : byteAt s (4 + d + 1) = 105) (bl : byteAt s (4 + d + 2) = 10)
    (dg : ByteArray) (hdg : s.extract 4 (4 + d + 2) = dg ++ ⟨#[109, 105]⟩) (hdd : isDigits dg) (hn : ((numOf dg.data.toList : Nat) : Int) * 1024 * 1024 ≤ 4611686018427387904) (hsz : dg.size ≤ 900000) (hd1 : 0 < dg.size)
    (hw : ∀ L, (⟨L, cx, ks⟩ : PX).Sets (.int (((numOf dg.data.toList : Nat) : Int) * 1024 * 1024)) ⟨L, cx1, ks1⟩) : Fd K s 5 4 [94] (plainT 199) cx ks 3 cx1 := by
  have l1 : Leads s 5 4 [94] (plainT 199) (4 + d) 4 [94] (plainT 199) := by
    have := leads_digits (s := s) (p := 5) (st := 4) (stk := [94]) (d - 1) (by omega) (fun i hi => by have h := hdig (i + 1) (by omega); rw [show 4 + (i + 1) = 5 + i from by omega] at h; exact h)
    rwa [show 5 + (d - 1) = 4 + d from by omega] at this
  have m0 : Leads s (4 + d + 0) 4 [94] (plainT 199) (4 + d + 0 + 1) 4 [94] (plainT 212) := ld_num_suf (by omega) (by rw [q0]; rfl) (by rw [q0]; rfl) (by omega) (by omega)
  have m1 : Leads s (4 + d + 1) 4 [94] (plainT 212) (4 + d + 1 + 1) 4 [94] (plainT 212) := ld_suf_i (by omega) q1
  have e1 := ld_suf_nl (s := s) (p := 4 + d + 2) (st := 4) (stk := [94]) (by omega) (by omega) bl [] 94 rfl (by simp)
  refine Fd.lead (l1.trans ((m0).trans m1)) (Fd.step (cx1 := cx1) (ks1 := ks1) e1 (by decide) (fun L x h1 h2 _ => ?_) (fd_end (by omega) bl (by decide)))
  exact works_mi dg hK L x h1 (h2.trans hdg) hd1 hdd hn hsz (hw L)
theorem fd_g {K : PK} {cx cx1 : List CJ} {ks ks1 : List ByteArray} (hK : K.ped = false) (d : Nat) (hd0 : 0 < d) (hs : 4 + d + 1 + 1 = s.size) (hdig : ∀ i, i < d → 48 ≤ byteAt s (4 + i) ∧ byteAt s (4 + i) ≤ 57) (q0 : byteAt s (4 + d + 0) = 103) (bl : byteAt s (4 + d + 1) = 10)
    (dg : ByteArray) (hdg : s.extract 4 (4 + d + 1) = dg ++ ⟨#[103]⟩) (hdd : isDigits dg) (hn : ((numOf dg.data.toList : Nat) : Int) * 1000 * 1000 * 1000 ≤ 4611686018427387904) (hsz : dg.size ≤ 900000) (hd1 : 0 < dg.size)
    (hw : ∀ L, (⟨L, cx, ks⟩ : PX).Sets (.int (((numOf dg.data.toList : Nat) : Int) * 1000 * 1000 * 1000)) ⟨L, cx1, ks1⟩) : Fd K s 5 4 [94] (plainT 199) cx ks 3 cx1 := by
  have l1 : Leads s 5 4 [94] (plainT 199) (4 + d) 4 [94] (plainT 199) := by
    have := leads_digits (s := s) (p := 5) (st := 4) (stk := [94]) (d - 1) (by omega) (fun i hi => by have h := hdig (i + 1) (by omega); rw [show 4 + (i + 1) = 5 + i from by omega] at h; exact h)
    rwa [show 5 + (d - 1) = 4 + d from by omega] at this
  have m0 : Leads s (4 + d + 0) 4 [94] (plainT 199) (4 + d + 0 + 1) 4 [94] (plainT 212) := ld_num_suf (by omega) (by rw [q0]; rfl) (by rw [q0]; rfl) (by omega) (by omega)
  have e1 := ld_suf_nl (s := s) (p := 4 + d + 1) (st := 4) (stk := [94]) (by omega) (by omega) bl [] 94 rfl (by simp)
  refine Fd.lead (l1.trans (m0)) (Fd.step (cx1 := cx1) (ks1 := ks1) e1 (by decide) (fun L x h1 h2 _ => ?_) (fd_end (by omega) bl (by decide)))
  exact works_g dg hK L x h1 (h2.trans hdg) hd1 hdd hn hsz (hw L)
theorem fd_gb {K : PK} {cx cx1 : List CJ} {ks ks1 : List ByteArray} (hK : K.ped = false) (d : Nat) (hd0 : 0 < d) (hs : 4 + d + 2 + 1 = s.size) (hdig : ∀ i, i < d → 48 ≤ byteAt s (4 + i) ∧ byteAt s (4 + i) ≤ 57) (q0 : byteAt s (4 + d + 0) = 103) (q1 : byteAt s (4 + d + 1) = 98) (bl : byteAt s (4 + d + 2) = 10)
    (dg : ByteArray) (hdg : s.extract 4 (4 + d + 2) = dg ++ ⟨#[103, 98]⟩) (hdd : isDigits dg) (hn : ((numOf dg.data.toList : Nat) : Int) * 1024 * 1024 * 1024 ≤ 4611686018427387904) (hsz : dg.size ≤ 900000) (hd1 : 0 < dg.size)
    (hw : ∀ L, (⟨L, cx, ks⟩ : PX).Sets (.int (((numOf dg.data.toList : Nat) : Int) * 1024 * 1024 * 1024)) ⟨L, cx1, ks1⟩) : Fd K s 5 4 [94] (plainT 199) cx ks 3 cx1 := by
  have l1 : Leads s 5 4 [94] (plainT 199) (4 + d) 4 [94] (plainT 199) := by
    have := leads_digits (s := s) (p := 5) (st := 4) (stk := [94]) (d - 1) (by omega) (fun i hi => by have h := hdig (i + 1) (by omega); rw [show 4 + (i + 1) = 5 + i from by omega] at h; exact h)
    rwa [show 5 + (d - 1) = 4 + d from by omega] at this
  have m0 : Leads s (4 + d + 0) 4 [94] (plainT 199) (4 + d + 0 + 1) 4 [94] (plainT 212) := ld_num_suf (by omega) (by rw [q0]; rfl) (by rw [q0]; rfl) (by omega) (by omega)
  have m1 : Leads s (4 + d + 1) 4 [94] (plainT 212) (4 + d + 1 + 1) 4 [94] (plainT 212) := ld_suf_b (by omega) q1
  have e1 := ld_suf_nl (s := s) (p := 4 + d + 2) (st := 4) (stk := [94]) (by omega) (by omega) bl [] 94 rfl (by simp)
  refine Fd.lead (l1.trans ((m0).trans m1)) (Fd.step (cx1 := cx1) (ks1 := ks1) e1 (by decide) (fun L x h1 h2 _ => ?_) (fd_end (by omega) bl (by decide)))
  exact works_gb dg hK L x h1 (h2.trans hdg) hd1 hdd hn hsz (hw L)
theorem fd_gib {K : PK} {cx cx1 : List CJ} {ks ks1 : List ByteArray} (hK : K.ped = false) (d : Nat) (hd0 : 0 < d) (hs : 4 + d + 3 + 1 = s.size) (hdig : ∀ i, i < d → 48 ≤ byteAt s (4 + i) ∧ byteAt s (4 + i) ≤ 57) (q0 : byteAt s (4 + d + 0) = 103) (q1 : byteAt s (4 + d + 1) = 105) (q2 : byteAt s (4 + d + 2) = 98) (bl : byteAt s (4 + d + 3) = 10)
    (dg : ByteArray) (hdg : s.extract 4 (4 + d + 3) = dg ++ ⟨#[103, 105, 98]⟩) (hdd : isDigits dg) (hn : ((numOf dg.data.toList : Nat) : Int) * 1024 * 1024 * 1024 ≤ 4611686018427387904) (hsz : dg.size ≤ 900000) (hd1 : 0 < dg.size)
    (hw : ∀ L, (⟨L, cx, ks⟩ : PX).Sets (.int (((numOf dg.data.toList : Nat) : Int) * 1024 * 1024 * 1024)) ⟨L, cx1, ks1⟩) : Fd K s 5 4 [94] (plainT 199) cx ks 3 cx1 := by
  have l1 : Leads s 5 4 [94] (plainT 199) (4 + d) 4 [94] (plainT 199) := by
    have := leads_digits (s := s) (p := 5) (st := 4) (stk := [94]) (d - 1) (by omega) (fun i hi => by have h := hdig (i + 1) (by omega); rw [show 4 + (i + 1) = 5 + i from by omega] at h; exact h)
    rwa [show 5 + (d - 1) = 4 + d from by omega] at this
  have m0 : Leads s (4 + d + 0) 4 [94] (plainT 199) (4 + d + 0 + 1) 4 [94] (plainT 212) := ld_num_suf (by omega) (by rw [q0]; rfl) (by rw [q0]; rfl) (by omega) (by omega)
  have m1 : Leads s (4 + d + 1) 4 [94] (plainT 212) (4 + d + 1 + 1) 4 [94] (plainT 212) := ld_suf_i (by omega) q1
  have m2 : Leads s (4 + d + 2) 4 [94] (plainT 212) (4 + d + 2 + 1) 4 [94] (plainT 212) := ld_suf_b (by omega) q2
  have e1 := ld_suf_nl (s := s) (p := 4 + d + 3) (st := 4) (stk := [94]) (by omega) (by omega) bl [] 94 rfl (by simp)
  refine Fd.lead (l1.trans (((m0).trans m1).trans m2)) (Fd.step (cx1 := cx1) (ks1 := ks1) e1 (by decide) (fun L x h1 h2 _ => ?_) (fd_end (by omega) bl (by decide)))
  exact works_gib dg hK L x h1 (h2.trans hdg) hd1 hdd hn hsz (hw L)
theorem fd_gi {K : PK} {cx cx1 : List CJ} {ks ks1 : List ByteArray} (hK : K.ped = false) (d : Nat) (hd0 : 0 < d) (hs : 4 + d + 2 + 1 = s.size) (hdig : ∀ i, i < d → 48 ≤ byteAt s (4 + i) ∧ byteAt s (4 + i) ≤ 57) (q0 : byteAt s (4 + d + 0) = 103) (q1 : byteAt s (4 + d + 1) = 105) (bl : byteAt s (4 + d + 2) = 10)
    (dg : ByteArray) (hdg : s.extract 4 (4 + d + 2) = dg ++ ⟨#[103, 105]⟩) (hdd : isDigits dg) (hn : ((numOf dg.data.toList : Nat) : Int) * 1024 * 1024 * 1024 ≤ 4611686018427387904) (hsz : dg.size ≤ 900000) (hd1 : 0 < dg.size)
    (hw : ∀ L, (⟨L, cx, ks⟩ : PX).Sets (.int (((numOf dg.data.toList : Nat) : Int) * 1024 * 1024 * 1024)) ⟨L, cx1, ks1⟩) : Fd K s 5 4 [94] (plainT 199) cx ks 3 cx1 := by
  have l1 : Leads s 5 4 [94] (plainT 199) (4 + d) 4 [94] (plainT 199) := by
    have := leads_digits (s := s) (p := 5) (st := 4) (stk := [94]) (d - 1) (by omega) (fun i hi => by have h := hdig (i + 1) (by omega); rw [show 4 + (i + 1) = 5 + i from by omega] at h; exact h)
    rwa [show 5 + (d - 1) = 4 + d from by omega] at this
  have m0 : Leads s (4 + d + 0) 4 [94] (plainT 199) (4 + d + 0 + 1) 4 [94] (plainT 212) := ld_num_suf (by omega) (by rw [q0]; rfl) (by rw [q0]; rfl) (by omega) (by omega)
  have m1 : Leads s (4 + d + 1) 4 [94] (plainT 212) (4 + d + 1 + 1) 4 [94] (plainT 212) := ld_suf_i (by omega) q1
  have e1 := ld_suf_nl (s := s) (p := 4 + d + 2) (st := 4) (stk := [94]) (by omega) (by omega) bl [] 94 rfl (by simp)
  refine Fd.lead (l1.trans ((m0).trans m1)) (Fd.step (cx1 := cx1) (ks1 := ks1) e1 (by decide) (fun L x h1 h2 _ => ?_) (fd_end (by omega) bl (by decide)))
  exact works_gi dg hK L x h1 (h2.trans hdg) hd1 hdd hn hsz (hw L)
theorem fd_t {K : PK} {cx cx1 : List CJ} {ks ks1 : List ByteArray} (hK : K.ped = false) (d : Nat) (hd0 : 0 < d) (hs : 4 + d + 1 + 1 = s.size) (hdig : ∀ i, i < d → 48 ≤ byteAt s (4 + i) ∧ byteAt s (4 + i) ≤ 57) (q0 : byteAt s (4 + d + 0) = 116) (bl : byteAt s (4 + d + 1) = 10)
    (dg : ByteArray) (hdg : s.extract 4 (4 + d + 1) = dg ++ ⟨#[116]⟩) (hdd : isDigits dg) (hn : ((numOf dg.data.toList : Nat) : Int) * 1000 * 1000 * 1000 * 1000 ≤ 4611686018427387904) (hsz : dg.size ≤ 900000) (hd1 : 0 < dg.size)
    (hw : ∀ L, (⟨L, cx, ks⟩ : PX).Sets (.int (((numOf dg.data.toList : Nat) : Int) * 1000 * 1000 * 1000 * 1000)) ⟨L, cx1, ks1⟩) : Fd K s 5 4 [94] (plainT 199) cx ks 3 cx1 := by
  have l1 : Leads s 5 4 [94] (plainT 199) (4 + d) 4 [94] (plainT 199) := by
    have := leads_digits (s := s) (p := 5) (st := 4) (stk := [94]) (d - 1) (by omega) (fun i hi => by have h := hdig (i + 1) (by omega); rw [show 4 + (i + 1) = 5 + i from by omega] at h; exact h)
    rwa [show 5 + (d - 1) = 4 + d from by omega] at this
  have m0 : Leads s (4 + d + 0) 4 [94] (plainT 199) (4 + d + 0 + 1) 4 [94] (plainT 212) := ld_num_suf (by omega) (by rw [q0]; rfl) (by rw [q0]; rfl) (by omega) (by omega)
  have e1 := ld_suf_nl (s := s) (p := 4 + d + 1) (st := 4) (stk := [94]) (by omega) (by omega) bl [] 94 rfl (by simp)
  refine Fd.lead (l1.trans (m0)) (Fd.step (cx1 := cx1) (ks1 := ks1) e1 (by decide) (fun L x h1 h2 _ => ?_) (fd_end (by omega) bl (by decide)))
  exact works_t dg hK L x h1 (h2.trans hdg) hd1 hdd hn hsz (hw L)
theorem fd_tb {K : PK} {cx cx1 : List CJ} {ks ks1 : List ByteArray} (hK : K.ped = false) (d : Nat) (hd0 : 0 < d) (hs : 4 + d + 2 + 1 = s.size) (hdig : ∀ i, i < d → 48 ≤ byteAt s (4 + i) ∧ byteAt s (4 + i) ≤ 57) (q0 : byteAt s (4 + d + 0) = 116) (q1 : byteAt s (4 + d + 1) = 98) (bl : byteAt s (4 + d + 2) = 10)
    (dg : ByteArray) (hdg : s.extract 4 (4 + d + 2) = dg ++ ⟨#[116, 98]⟩) (hdd : isDigits dg) (hn : ((numOf dg.data.toList : Nat) : Int) * 1024 * 1024 * 1024 * 1024 ≤ 4611686018427387904) (hsz : dg.size ≤ 900000) (hd1 : 0 < dg.size)
    (hw : ∀ L, (⟨L, cx, ks⟩ : PX).Sets (.int (((numOf dg.data.toList : Nat) : Int) * 1024 * 1024 * 1024 * 1024)) ⟨L, cx1, ks1⟩) : Fd K s 5 4 [94] (plainT 199) cx ks 3 cx1 := by
  have l1 : Leads s 5 4 [94] (plainT 199) (4 + d) 4 [94] (plainT 199) := by
    have := leads_digits (s := s) (p := 5) (st := 4) (stk := [94]) (d - 1) (by omega) (fun i hi => by have h := hdig (i + 1) (by omega); rw [show 4 + (i + 1) = 5 + i from by omega] at h; exact h)
    rwa [show 5 + (d - 1) = 4 + d from by omega] at this
  have m0 : Leads s (4 + d + 0) 4 [94] (plainT 199) (4 + d + 0 + 1) 4 [94] (plainT 212) := ld_num_suf (by omega) (by rw [q0]; rfl) (by rw [q0]; rfl) (by omega) (by omega)
  have m1 : Leads s (4 + d + 1) 4 [94] (plainT 212) (4 + d + 1 + 1) 4 [94] (plainT 212) := ld_suf_b (by omega) q1
  have e1 := ld_suf_nl (s := s) (p := 4 + d + 2) (st := 4) (stk := [94]) (by omega) (by omega) bl [] 94 rfl (by simp)
  refine Fd.lead (l1.trans ((m0).trans m1)) (Fd.step (cx1 := cx1) (ks1 := ks1) e1 (by decide) (fun L x h1 h2 _ => ?_) (fd_end (by omega) bl (by decide)))
  exact works_tb dg hK L x h1 (h2.trans hdg) hd1 hdd hn hsz (hw L)
theorem fd_tib {K : PK} {cx cx1 : List CJ} {ks ks1 : List ByteArray} (hK : K.ped = false) (d : Nat) (hd0 : 0 < d) (hs : 4 + d + 3 + 1 = s.size) (hdig : ∀ i, i < d → 48 ≤ byteAt s (4 + i) ∧ byteAt s (4 + i) ≤ 57) (q0 : byteAt s (4 + d + 0) = 116) (q1 : byteAt s (4 + d + 1) = 105) (q2 : byteAt s (4 + d + 2) = 98) (bl : byteAt s (4 + d + 3) = 10)
    (dg : ByteArray) (hdg : s.extract 4 (4 + d + 3) = dg ++ ⟨#[116, 105, 98]⟩) (hdd : isDigits dg) (hn : ((numOf dg.data.toList : Nat) : Int) * 1024 * 1024 * 1024 * 1024 ≤ 4611686018427387904) (hsz : dg.size ≤ 900000) (hd1 : 0 < dg.size)
    (hw : ∀ L, (⟨L, cx, ks⟩ : PX).Sets (.int (((numOf dg.data.toList : Nat) : Int) * 1024 * 1024 * 1024 * 1024)) ⟨L, cx1, ks1⟩) : Fd K s 5 4 [94] (plainT 199) cx ks 3 cx1 := by
  have l1 : Leads s 5 4 [94] (plainT 199) (4 + d) 4 [94] (plainT 199) := by
    have := leads_digits (s := s) (p := 5) (st := 4) (stk := [94]) (d - 1) (by omega) (fun i hi => by have h := hdig (i + 1) (by omega); rw [show 4 + (i + 1) = 5 + i from by omega] at h; exact h)
    rwa [show 5 + (d - 1) = 4 + d from by omega] at this
  have m0 : Leads s (4 + d + 0) 4 [94] (plainT 199) (4 + d + 0 + 1) 4 [94] (plainT 212) := ld_num_suf (by omega) (by rw [q0]; rfl) (by rw [q0]; rfl) (by omega) (by omega)
  have m1 : Leads s (4 + d + 1) 4 [94] (plainT 212) (4 + d + 1 + 1) 4 [94] (plainT 212) := ld_suf_i (by omega) q1
  have m2 : Leads s (4 + d + 2) 4 [94] (plainT 212) (4 + d + 2 + 1) 4 [94] (plainT 212) := ld_suf_b (by omega) q2
  have e1 := ld_suf_nl (s := s) (p := 4 + d + 3) (st := 4) (stk := [94]) (by omega) (by omega) bl [] 94 rfl (by simp)
  refine Fd.lead (l1.trans (((m0).trans m1).trans m2)) (Fd.step (cx1 := cx1) (ks1 := ks1) e1 (by decide) (fun L x h1 h2 _ => ?_) (fd_end (by omega) bl (by decide)))
  exact works_tib dg hK L x h1 (h2.trans hdg) hd1 hdd hn hsz (hw L)
theorem fd_ti {K : PK} {cx cx1 : List CJ} {ks ks1 : List ByteArray} (hK : K.ped = false) (d : Nat) (hd0 : 0 < d) (hs : 4 + d + 2 + 1 = s.size) (hdig : ∀ i, i < d → 48 ≤ byteAt s (4 + i) ∧ byteAt s (4 + i) ≤ 57) (q0 : byteAt s (4 + d + 0) = 116) (q1 : byteAt s (4 + d + 1) = 105) (bl : byteAt s (4 + d + 2) = 10)
    (dg : ByteArray) (hdg : s.extract 4 (4 + d + 2) = dg ++ ⟨#[116, 105]⟩) (hdd : isDigits dg) (hn : ((numOf dg.data.toList : Nat) : Int) * 1024 * 1024 * 1024 * 1024 ≤ 4611686018427387904) (hsz : dg.size ≤ 900000) (hd1 : 0 < dg.size)
    (hw : ∀ L, (⟨L, cx, ks⟩ : PX).Sets (.int (((numOf dg.data.toList : Nat) : Int) * 1024 * 1024 * 1024 * 1024)) ⟨L, cx1, ks1⟩) : Fd K s 5 4 [94] (plainT 199) cx ks 3 cx1 := by
  have l1 : Leads s 5 4 [94] (plainT 199) (4 + d) 4 [94] (plainT 199) := by
    have := leads_digits (s := s) (p := 5) (st := 4) (stk := [94]) (d - 1) (by omega) (fun i hi => by have h := hdig (i + 1) (by omega); rw [show 4 + (i + 1) = 5 + i from by omega] at h; exact h)
    rwa [show 5 + (d - 1) = 4 + d from by omega] at this
  have m0 : Leads s (4 + d + 0) 4 [94] (plainT 199) (4 + d + 0 + 1) 4 [94] (plainT 212) := ld_num_suf (by omega) (by rw [q0]; rfl) (by rw [q0]; rfl) (by omega) (by omega)
  have m1 : Leads s (4 + d + 1) 4 [94] (plainT 212) (4 + d + 1 + 1) 4 [94] (plainT 212) := ld_suf_i (by omega) q1
  have e1 := ld_suf_nl (s := s) (p := 4 + d + 2) (st := 4) (stk := [94]) (by omega) (by omega) bl [] 94 rfl (by simp)
  refine Fd.lead (l1.trans ((m0).trans m1)) (Fd.step (cx1 := cx1) (ks1 := ks1) e1 (by decide) (fun L x h1 h2 _ => ?_) (fd_end (by omega) bl (by decide)))
  exact works_ti dg hK L x h1 (h2.trans hdg) hd1 hdd hn hsz (hw L)
end
end Go.Cf
