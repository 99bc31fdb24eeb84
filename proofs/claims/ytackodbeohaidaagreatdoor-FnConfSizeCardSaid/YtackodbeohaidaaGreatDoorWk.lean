/-
  Whole numbers as items: what processItem makes of them.
-/
import Derived.Test.YtackodbeohaidaaGreatDoorFd
namespace Go.Cf
open Go.RowKit Go.Conc Go.Proofs
section
variable {K : PK} {cx cx1 : List CJ} {ks ks1 : List ByteArray}
theorem app_list (a b : ByteArray) : (a ++ b).data.toList = a.data.toList ++ b.data.toList := by
  rw [ByteArray.data_append, Array.toList_append]
theorem byteAt_app_left (a b : ByteArray) (i : Nat) (h : i < a.size) : byteAt (a ++ b) i = byteAt a i := by
  unfold byteAt
  rw [app_list, List.getD_eq_getElem?_getD, List.getD_eq_getElem?_getD, List.getElem?_append_left (by rw [data_length]; exact h)]
theorem byteAt_app_right (a b : ByteArray) (i : Nat) : byteAt (a ++ b) (a.size + i) = byteAt b i := by
  unfold byteAt
  rw [app_list, List.getD_eq_getElem?_getD, List.getD_eq_getElem?_getD, List.getElem?_append_right (by rw [data_length]; omega), data_length, Nat.add_sub_cancel_left]
theorem asc_list (s : ByteArray) (h : ∀ j, j < s.size → byteAt s j < 128) (j : Nat) (b : UInt8) (hj : s.data.toList[j]? = some b) : b.toNat < 128 := by
  have h1 : byteAt s j = b.toNat := by unfold byteAt; rw [List.getD_eq_getElem?_getD, hj]; rfl
  have hlt := (List.getElem?_eq_some_iff.1 hj).1
  rw [data_length] at hlt
  rw [← h1]
  exact h j hlt
theorem dig_true {c : Nat} (h : 48 ≤ c ∧ c ≤ 57) : isDig c = true := by simp [isDig, h.1, h.2]
theorem works_int (hK : K.ped = false) (L : LX) (x : It) (hx : x.typ = 7) (hd0 : 0 < x.val.size) (hdig : isDigits x.val) (hn : numOf x.val.data.toList < 9223372036854775808) (hsz : x.val.size ≤ 900000)
    (hs : (⟨L, cx, ks⟩ : PX).Sets (.int (numOf x.val.data.toList : Nat)) ⟨L, cx1, ks1⟩) : Works K ⟨L, cx, ks⟩ x ⟨L, cx1, ks1⟩ := by
  intro B lab w hB hp htb
  obtain ⟨xt, xv, xl, xp⟩ := x
  obtain rfl : xt = 7 := hx
  exact item_int_plain hp hB hK xv xl xp (by simp only at hsz; omega) (fun i hi => dig_true (hdig i hi)) (fun i hi => by have h := hdig i hi; simp only at h; omega) _ (fun w => ParseInt_pos xv hd0 hdig hn (by simp only at hsz; omega) w) htb hs
theorem works_k (dg : ByteArray) (hK : K.ped = false) (L : LX) (x : It) (hx : x.typ = 7) (hv : x.val = dg ++ ⟨#[107]⟩) (hd0 : 0 < dg.size) (hdig : isDigits dg) (hn : ((numOf dg.data.toList : Nat) : Int) * 1000 ≤ 4611686018427387904) (hsz : dg.size ≤ 900000)
    (hs : (⟨L, cx, ks⟩ : PX).Sets (.int (((numOf dg.data.toList : Nat) : Int) * 1000)) ⟨L, cx1, ks1⟩) : Works K ⟨L, cx, ks⟩ x ⟨L, cx1, ks1⟩ := by
  intro B lab w hB hp htb
  obtain ⟨xt, xv, xl, xp⟩ := x
  obtain rfl : xt = 7 := hx
  obtain rfl : xv = dg ++ ⟨#[107]⟩ := hv
  have hz : (dg ++ (⟨#[107]⟩ : ByteArray)).size = dg.size + 1 := by rw [ByteArray.size_append]; rfl
  have hb0 : byteAt (dg ++ (⟨#[107]⟩ : ByteArray)) dg.size = 107 := by have := byteAt_app_right dg ⟨#[107]⟩ 0; rw [Nat.add_zero] at this; rw [this]; rfl
  have hkey : ∀ j, j < 1 → byteAt (⟨#[107]⟩ : ByteArray) j < 128 := by decide
  have he : (dg ++ (⟨#[107]⟩ : ByteArray)).extract 0 dg.size = dg := ByteArray.extract_append_eq_left rfl
  have hf : (dg ++ (⟨#[107]⟩ : ByteArray)).extract dg.size (dg ++ (⟨#[107]⟩ : ByteArray)).size = ⟨#[107]⟩ := ByteArray.extract_append_eq_right rfl (by rw [ByteArray.size_append])
  refine item_int_k hp hB hK _ xl xp dg.size (by rw [hz]; omega) (by rw [hz]; omega) (fun i hi => by rw [byteAt_app_left _ _ _ hi]; exact dig_true (hdig i hi)) (by rw [hb0]; rfl) (by rw [hb0]; decide) ?_ (numOf dg.data.toList : Nat) (fun w => by rw [he]; exact ParseInt_pos dg hd0 hdig (by omega) (by omega) w) ⟨#[107]⟩ hf ?_ rfl rfl rfl (by omega) hn htb hs
  · intro i hi
    rw [hz] at hi
    by_cases h : i < dg.size
    · rw [byteAt_app_left _ _ _ h]; have := hdig i h; omega
    · obtain ⟨j, rfl⟩ : ∃ j, i = dg.size + j := ⟨i - dg.size, by omega⟩
      rw [byteAt_app_right]
      have hj : j < 1 := by omega
      exact hkey j hj
  · exact asc_list _ hkey
theorem works_kb (dg : ByteArray) (hK : K.ped = false) (L : LX) (x : It) (hx : x.typ = 7) (hv : x.val = dg ++ ⟨#[107, 98]⟩) (hd0 : 0 < dg.size) (hdig : isDigits dg) (hn : ((numOf dg.data.toList : Nat) : Int) * 1024 ≤ 4611686018427387904) (hsz : dg.size ≤ 900000)
    (hs : (⟨L, cx, ks⟩ : PX).Sets (.int (((numOf dg.data.toList : Nat) : Int) * 1024)) ⟨L, cx1, ks1⟩) : Works K ⟨L, cx, ks⟩ x ⟨L, cx1, ks1⟩ := by
  intro B lab w hB hp htb
  obtain ⟨xt, xv, xl, xp⟩ := x
  obtain rfl : xt = 7 := hx
  obtain rfl : xv = dg ++ ⟨#[107, 98]⟩ := hv
  have hz : (dg ++ (⟨#[107, 98]⟩ : ByteArray)).size = dg.size + 2 := by rw [ByteArray.size_append]; rfl
  have hb0 : byteAt (dg ++ (⟨#[107, 98]⟩ : ByteArray)) dg.size = 107 := by have := byteAt_app_right dg ⟨#[107, 98]⟩ 0; rw [Nat.add_zero] at this; rw [this]; rfl
  have hkey : ∀ j, j < 2 → byteAt (⟨#[107, 98]⟩ : ByteArray) j < 128 := by decide
  have he : (dg ++ (⟨#[107, 98]⟩ : ByteArray)).extract 0 dg.size = dg := ByteArray.extract_append_eq_left rfl
  have hf : (dg ++ (⟨#[107, 98]⟩ : ByteArray)).extract dg.size (dg ++ (⟨#[107, 98]⟩ : ByteArray)).size = ⟨#[107, 98]⟩ := ByteArray.extract_append_eq_right rfl (by rw [ByteArray.size_append])
  refine item_int_kb hp hB hK _ xl xp dg.size (by rw [hz]; omega) (by rw [hz]; omega) (fun i hi => by rw [byteAt_app_left _ _ _ hi]; exact dig_true (hdig i hi)) (by rw [hb0]; rfl) (by rw [hb0]; decide) ?_ (numOf dg.data.toList : Nat) (fun w => by rw [he]; exact ParseInt_pos dg hd0 hdig (by omega) (by omega) w) ⟨#[107, 98]⟩ hf ?_ rfl rfl rfl (by omega) hn htb hs
  · intro i hi
    rw [hz] at hi
    by_cases h : i < dg.size
    · rw [byteAt_app_left _ _ _ h]; have := hdig i h; omega
    · obtain ⟨j, rfl⟩ : ∃ j, i = dg.size + j := ⟨i - dg.size, by omega⟩
      rw [byteAt_app_right]
      have hj : j < 2 := by omega
      exact hkey j hj
  · exact asc_list _ hkey
theorem works_kib (dg : ByteArray) (hK : K.ped = false) (L : LX) (x : It) (hx : x.typ = 7) (hv : x.val = dg ++ ⟨#[107, 105, 98]⟩) (hd0 : 0 < dg.size) (hdig : isDigits dg) (hn : ((numOf dg.data.toList : Nat) : Int) * 1024 ≤ 4611686018427387904) (hsz : dg.size ≤ 900000)
    (hs : (⟨L, cx, ks⟩ : PX).Sets (.int (((numOf dg.data.toList : Nat) : Int) * 1024)) ⟨L, cx1, ks1⟩) : Works K ⟨L, cx, ks⟩ x ⟨L, cx1, ks1⟩ := by
  intro B lab w hB hp htb
  obtain ⟨xt, xv, xl, xp⟩ := x
  obtain rfl : xt = 7 := hx
  obtain rfl : xv = dg ++ ⟨#[107, 105, 98]⟩ := hv
  have hz : (dg ++ (⟨#[107, 105, 98]⟩ : ByteArray)).size = dg.size + 3 := by rw [ByteArray.size_append]; rfl
  have hb0 : byteAt (dg ++ (⟨#[107, 105, 98]⟩ : ByteArray)) dg.size = 107 := by have := byteAt_app_right dg ⟨#[107, 105, 98]⟩ 0; rw [Nat.add_zero] at this; rw [this]; rfl
  have hkey : ∀ j, j < 3 → byteAt (⟨#[107, 105, 98]⟩ : ByteArray) j < 128 := by decide
  have he : (dg ++ (⟨#[107, 105, 98]⟩ : ByteArray)).extract 0 dg.size = dg := ByteArray.extract_append_eq_left rfl
  have hf : (dg ++ (⟨#[107, 105, 98]⟩ : ByteArray)).extract dg.size (dg ++ (⟨#[107, 105, 98]⟩ : ByteArray)).size = ⟨#[107, 105, 98]⟩ := ByteArray.extract_append_eq_right rfl (by rw [ByteArray.size_append])
  refine item_int_kib hp hB hK _ xl xp dg.size (by rw [hz]; omega) (by rw [hz]; omega) (fun i hi => by rw [byteAt_app_left _ _ _ hi]; exact dig_true (hdig i hi)) (by rw [hb0]; rfl) (by rw [hb0]; decide) ?_ (numOf dg.data.toList : Nat) (fun w => by rw [he]; exact ParseInt_pos dg hd0 hdig (by omega) (by omega) w) ⟨#[107, 105, 98]⟩ hf ?_ rfl rfl rfl (by omega) hn htb hs
  · intro i hi
    rw [hz] at hi
    by_cases h : i < dg.size
    · rw [byteAt_app_left _ _ _ h]; have := hdig i h; omega
    · obtain ⟨j, rfl⟩ : ∃ j, i = dg.size + j := ⟨i - dg.size, by omega⟩
      rw [byteAt_app_right]
      have hj : j < 3 := by omega
      exact hkey j hj
  · exact asc_list _ hkey
theorem works_ki (dg : ByteArray) (hK : K.ped = false) (L : LX) (x : It) (hx : x.typ = 7) (hv : x.val = dg ++ ⟨#[107, 105]⟩) (hd0 : 0 < dg.size) (hdig : isDigits dg) (hn : ((numOf dg.data.toList : Nat) : Int) * 1024 ≤ 4611686018427387904) (hsz : dg.size ≤ 900000)
    (hs : (⟨L, cx, ks⟩ : PX).Sets (.int (((numOf dg.data.toList : Nat) : Int) * 1024)) ⟨L, cx1, ks1⟩) : Works K ⟨L, cx, ks⟩ x ⟨L, cx1, ks1⟩ := by
  intro B lab w hB hp htb
  obtain ⟨xt, xv, xl, xp⟩ := x
  obtain rfl : xt = 7 := hx
  obtain rfl : xv = dg ++ ⟨#[107, 105]⟩ := hv
  have hz : (dg ++ (⟨#[107, 105]⟩ : ByteArray)).size = dg.size + 2 := by rw [ByteArray.size_append]; rfl
  have hb0 : byteAt (dg ++ (⟨#[107, 105]⟩ : ByteArray)) dg.size = 107 := by have := byteAt_app_right dg ⟨#[107, 105]⟩ 0; rw [Nat.add_zero] at this; rw [this]; rfl
  have hkey : ∀ j, j < 2 → byteAt (⟨#[107, 105]⟩ : ByteArray) j < 128 := by decide
  have he : (dg ++ (⟨#[107, 105]⟩ : ByteArray)).extract 0 dg.size = dg := ByteArray.extract_append_eq_left rfl
  have hf : (dg ++ (⟨#[107, 105]⟩ : ByteArray)).extract dg.size (dg ++ (⟨#[107, 105]⟩ : ByteArray)).size = ⟨#[107, 105]⟩ := ByteArray.extract_append_eq_right rfl (by rw [ByteArray.size_append])
  refine item_int_ki hp hB hK _ xl xp dg.size (by rw [hz]; omega) (by rw [hz]; omega) (fun i hi => by rw [byteAt_app_left _ _ _ hi]; exact dig_true (hdig i hi)) (by rw [hb0]; rfl) (by rw [hb0]; decide) ?_ (numOf dg.data.toList : Nat) (fun w => by rw [he]; exact ParseInt_pos dg hd0 hdig (by omega) (by omega) w) ⟨#[107, 105]⟩ hf ?_ rfl rfl rfl (by omega) hn htb hs
  · intro i hi
    rw [hz] at hi
    by_cases h : i < dg.size
    · rw [byteAt_app_left _ _ _ h]; have := hdig i h; omega
    · obtain ⟨j, rfl⟩ : ∃ j, i = dg.size + j := ⟨i - dg.size, by omega⟩
      rw [byteAt_app_right]
      have hj : j < 2 := by omega
      exact hkey j hj
  · exact asc_list _ hkey
theorem works_m (dg : ByteArray) (hK : K.ped = false) (L : LX) (x : It) (hx : x.typ = 7) (hv : x.val = dg ++ ⟨#[109]⟩) (hd0 : 0 < dg.size) (hdig : isDigits dg) (hn : ((numOf dg.data.toList : Nat) : Int) * 1000 * 1000 ≤ 4611686018427387904) (hsz : dg.size ≤ 900000)
    (hs : (⟨L, cx, ks⟩ : PX).Sets (.int (((numOf dg.data.toList : Nat) : Int) * 1000 * 1000)) ⟨L, cx1, ks1⟩) : Works K ⟨L, cx, ks⟩ x ⟨L, cx1, ks1⟩ := by
  intro B lab w hB hp htb
  obtain ⟨xt, xv, xl, xp⟩ := x
  obtain rfl : xt = 7 := hx
  obtain rfl : xv = dg ++ ⟨#[109]⟩ := hv
  have hz : (dg ++ (⟨#[109]⟩ : ByteArray)).size = dg.size + 1 := by rw [ByteArray.size_append]; rfl
  have hb0 : byteAt (dg ++ (⟨#[109]⟩ : ByteArray)) dg.size = 109 := by have := byteAt_app_right dg ⟨#[109]⟩ 0; rw [Nat.add_zero] at this; rw [this]; rfl
  have hkey : ∀ j, j < 1 → byteAt (⟨#[109]⟩ : ByteArray) j < 128 := by decide
  have he : (dg ++ (⟨#[109]⟩ : ByteArray)).extract 0 dg.size = dg := ByteArray.extract_append_eq_left rfl
  have hf : (dg ++ (⟨#[109]⟩ : ByteArray)).extract dg.size (dg ++ (⟨#[109]⟩ : ByteArray)).size = ⟨#[109]⟩ := ByteArray.extract_append_eq_right rfl (by rw [ByteArray.size_append])
  refine item_int_m hp hB hK _ xl xp dg.size (by rw [hz]; omega) (by rw [hz]; omega) (fun i hi => by rw [byteAt_app_left _ _ _ hi]; exact dig_true (hdig i hi)) (by rw [hb0]; rfl) (by rw [hb0]; decide) ?_ (numOf dg.data.toList : Nat) (fun w => by rw [he]; exact ParseInt_pos dg hd0 hdig (by omega) (by omega) w) ⟨#[109]⟩ hf ?_ rfl rfl rfl (by omega) hn htb hs
  · intro i hi
    rw [hz] at hi
    by_cases h : i < dg.size
    · rw [byteAt_app_left _ _ _ h]; have := hdig i h; omega
    · obtain ⟨j, rfl⟩ : ∃ j, i = dg.size + j := ⟨i - dg.size, by omega⟩
      rw [byteAt_app_right]
      have hj : j < 1 := by omega
      exact hkey j hj
  · exact asc_list _ hkey
theorem works_mb (dg : ByteArray) (hK : K.ped = false) (L : LX) (x : It) (hx : x.typ = 7) (hv : x.val = dg ++ ⟨#[109, 98]⟩) (hd0 : 0 < dg.size) (hdig : isDigits dg) (hn : ((numOf dg.data.toList : Nat) : Int) * 1024 * 1024 ≤ 4611686018427387904) (hsz : dg.size ≤ 900000)
    (hs : (⟨L, cx, ks⟩ : PX).Sets (.int (((numOf dg.data.toList : Nat) : Int) * 1024 * 1024)) ⟨L, cx1, ks1⟩) : Works K ⟨L, cx, ks⟩ x ⟨L, cx1, ks1⟩ := by
  intro B lab w hB hp htb
  obtain ⟨xt, xv, xl, xp⟩ := x
  obtain rfl : xt = 7 := hx
  obtain rfl : xv = dg ++ ⟨#[109, 98]⟩ := hv
  have hz : (dg ++ (⟨#[109, 98]⟩ : ByteArray)).size = dg.size + 2 := by rw [ByteArray.size_append]; rfl
  have hb0 : byteAt (dg ++ (⟨#[109, 98]⟩ : ByteArray)) dg.size = 109 := by have := byteAt_app_right dg ⟨#[109, 98]⟩ 0; rw [Nat.add_zero] at this; rw [this]; rfl
  have hkey : ∀ j, j < 2 → byteAt (⟨#[109, 98]⟩ : ByteArray) j < 128 := by decide
  have he : (dg ++ (⟨#[109, 98]⟩ : ByteArray)).extract 0 dg.size = dg := ByteArray.extract_append_eq_left rfl
  have hf : (dg ++ (⟨#[109, 98]⟩ : ByteArray)).extract dg.size (dg ++ (⟨#[109, 98]⟩ : ByteArray)).size = ⟨#[109, 98]⟩ := ByteArray.extract_append_eq_right rfl (by rw [ByteArray.size_append])
  refine item_int_mb hp hB hK _ xl xp dg.size (by rw [hz]; omega) (by rw [hz]; omega) (fun i hi => by rw [byteAt_app_left _ _ _ hi]; exact dig_true (hdig i hi)) (by rw [hb0]; rfl) (by rw [hb0]; decide) ?_ (numOf dg.data.toList : Nat) (fun w => by rw [he]; exact ParseInt_pos dg hd0 hdig (by omega) (by omega) w) ⟨#[109, 98]⟩ hf ?_ rfl rfl rfl (by omega) hn htb hs
  · intro i hi
    rw [hz] at hi
    by_cases h : i < dg.size
    · rw [byteAt_app_left _ _ _ h]; have := hdig i h; omega
    · obtain ⟨j, rfl⟩ : ∃ j, i = dg.size + j := ⟨i - dg.size, by omega⟩
      rw [byteAt_app_right]
      have hj : j < 2 := by omega
      exact hkey j hj
  · exact asc_list _ hkey
theorem works_mib (dg : ByteArray) (hK : K.ped = false) (L : LX) (x : It) (hx : x.typ = 7) (hv : x.val = dg ++ ⟨#[109, 105, 98]⟩) (hd0 : 0 < dg.size) (hdig : isDigits dg) (hn : ((numOf dg.data.toList : Nat) : Int) * 1024 * 1024 ≤ 4611686018427387904) (hsz : dg.size ≤ 900000)
    (hs : (⟨L, cx, ks⟩ : PX).Sets (.int (((numOf dg.data.toList : Nat) : Int) * 1024 * 1024)) ⟨L, cx1, ks1⟩) : Works K ⟨L, cx, ks⟩ x ⟨L, cx1, ks1⟩ := by
  intro B lab w hB hp htb
  obtain ⟨xt, xv, xl, xp⟩ := x
  obtain rfl : xt = 7 := hx
  obtain rfl : xv = dg ++ ⟨#[109, 105, 98]⟩ := hv
  have hz : (dg ++ (⟨#[109, 105, 98]⟩ : ByteArray)).size = dg.size + 3 := by rw [ByteArray.size_append]; rfl
  have hb0 : byteAt (dg ++ (⟨#[109, 105, 98]⟩ : ByteArray)) dg.size = 109 := by have := byteAt_app_right dg ⟨#[109, 105, 98]⟩ 0; rw [Nat.add_zero] at this; rw [this]; rfl
  have hkey : ∀ j, j < 3 → byteAt (⟨#[109, 105, 98]⟩ : ByteArray) j < 128 := by decide
  have he : (dg ++ (⟨#[109, 105, 98]⟩ : ByteArray)).extract 0 dg.size = dg := ByteArray.extract_append_eq_left rfl
  have hf : (dg ++ (⟨#[109, 105, 98]⟩ : ByteArray)).extract dg.size (dg ++ (⟨#[109, 105, 98]⟩ : ByteArray)).size = ⟨#[109, 105, 98]⟩ := ByteArray.extract_append_eq_right rfl (by rw [ByteArray.size_append])
  refine item_int_mib hp hB hK _ xl xp dg.size (by rw [hz]; omega) (by rw [hz]; omega) (fun i hi => by rw [byteAt_app_left _ _ _ hi]; exact dig_true (hdig i hi)) (by rw [hb0]; rfl) (by rw [hb0]; decide) ?_ (numOf dg.data.toList : Nat) (fun w => by rw [he]; exact ParseInt_pos dg hd0 hdig (by omega) (by omega) w) ⟨#[109, 105, 98]⟩ hf ?_ rfl rfl rfl (by omega) hn htb hs
  · intro i hi
    rw [hz] at hi
    by_cases h : i < dg.size
    · rw [byteAt_app_left _ _ _ h]; have := hdig i h; omega
    · obtain ⟨j, rfl⟩ : ∃ j, i = dg.size + j := ⟨i - dg.size, by omega⟩
      rw [byteAt_app_right]
      have hj : j < 3 := by omega
      exact hkey j hj
  · exact asc_list _ hkey
theorem works_mi (dg : ByteArray) (hK : K.ped = false) (L : LX) (x : It) (hx : x.typ = 7) (hv : x.val = dg ++ ⟨#[109, 105]⟩) (hd0 : 0 < dg.size) (hdig : isDigits dg) (hn : ((numOf dg.data.toList : Nat) : Int) * 1024 * 1024 ≤ 4611686018427387904) (hsz : dg.size ≤ 900000)
    (hs : (⟨L, cx, ks⟩ : PX).Sets (.int (((numOf dg.data.toList : Nat) : Int) * 1024 * 1024)) ⟨L, cx1, ks1⟩) : Works K ⟨L, cx, ks⟩ x ⟨L, cx1, ks1⟩ := by
  intro B lab w hB hp htb
  obtain ⟨xt, xv, xl, xp⟩ := x
  obtain rfl : xt = 7 := hx
  obtain rfl : xv = dg ++ ⟨#[109, 105]⟩ := hv
  have hz : (dg ++ (⟨#[109, 105]⟩ : ByteArray)).size = dg.size + 2 := by rw [ByteArray.size_append]; rfl
  have hb0 : byteAt (dg ++ (⟨#[109, 105]⟩ : ByteArray)) dg.size = 109 := by have := byteAt_app_right dg ⟨#[109, 105]⟩ 0; rw [Nat.add_zero] at this; rw [this]; rfl
  have hkey : ∀ j, j < 2 → byteAt (⟨#[109, 105]⟩ : ByteArray) j < 128 := by decide
  have he : (dg ++ (⟨#[109, 105]⟩ : ByteArray)).extract 0 dg.size = dg := ByteArray.extract_append_eq_left rfl
  have hf : (dg ++ (⟨#[109, 105]⟩ : ByteArray)).extract dg.size (dg ++ (⟨#[109, 105]⟩ : ByteArray)).size = ⟨#[109, 105]⟩ := ByteArray.extract_append_eq_right rfl (by rw [ByteArray.size_append])
  refine item_int_mi hp hB hK _ xl xp dg.size (by rw [hz]; omega) (by rw [hz]; omega) (fun i hi => by rw [byteAt_app_left _ _ _ hi]; exact dig_true (hdig i hi)) (by rw [hb0]; rfl) (by rw [hb0]; decide) ?_ (numOf dg.data.toList : Nat) (fun w => by rw [he]; exact ParseInt_pos dg hd0 hdig (by omega) (by omega) w) ⟨#[109, 105]⟩ hf ?_ rfl rfl rfl (by omega) hn htb hs
  · intro i hi
    rw [hz] at hi
    by_cases h : i < dg.size
    · rw [byteAt_app_left _ _ _ h]; have := hdig i h; omega
    · obtain ⟨j, rfl⟩ : ∃ j, i = dg.size + j := ⟨i - dg.size, by omega⟩
      rw [byteAt_app_right]
      have hj : j < 2 := by omega
      exact hkey j hj
  · exact asc_list _ hkey
theorem works_g (dg : ByteArray) (hK : K.ped = false) (L : LX) (x : It) (hx : x.typ = 7) (hv : x.val = dg ++ ⟨#[103]⟩) (hd0 : 0 < dg.size) (hdig : isDigits dg) (hn : ((numOf dg.data.toList : Nat) : Int) * 1000 * 1000 * 1000 ≤ 4611686018427387904) (hsz : dg.size ≤ 900000)
    (hs : (⟨L, cx, ks⟩ : PX).Sets (.int (((numOf dg.data.toList : Nat) : Int) * 1000 * 1000 * 1000)) ⟨L, cx1, ks1⟩) : Works K ⟨L, cx, ks⟩ x ⟨L, cx1, ks1⟩ := by
  intro B lab w hB hp htb
  obtain ⟨xt, xv, xl, xp⟩ := x
  obtain rfl : xt = 7 := hx
  obtain rfl : xv = dg ++ ⟨#[103]⟩ := hv
  have hz : (dg ++ (⟨#[103]⟩ : ByteArray)).size = dg.size + 1 := by rw [ByteArray.size_append]; rfl
  have hb0 : byteAt (dg ++ (⟨#[103]⟩ : ByteArray)) dg.size = 103 := by have := byteAt_app_right dg ⟨#[103]⟩ 0; rw [Nat.add_zero] at this; rw [this]; rfl
  have hkey : ∀ j, j < 1 → byteAt (⟨#[103]⟩ : ByteArray) j < 128 := by decide
  have he : (dg ++ (⟨#[103]⟩ : ByteArray)).extract 0 dg.size = dg := ByteArray.extract_append_eq_left rfl
  have hf : (dg ++ (⟨#[103]⟩ : ByteArray)).extract dg.size (dg ++ (⟨#[103]⟩ : ByteArray)).size = ⟨#[103]⟩ := ByteArray.extract_append_eq_right rfl (by rw [ByteArray.size_append])
  refine item_int_g hp hB hK _ xl xp dg.size (by rw [hz]; omega) (by rw [hz]; omega) (fun i hi => by rw [byteAt_app_left _ _ _ hi]; exact dig_true (hdig i hi)) (by rw [hb0]; rfl) (by rw [hb0]; decide) ?_ (numOf dg.data.toList : Nat) (fun w => by rw [he]; exact ParseInt_pos dg hd0 hdig (by omega) (by omega) w) ⟨#[103]⟩ hf ?_ rfl rfl rfl (by omega) hn htb hs
  · intro i hi
    rw [hz] at hi
    by_cases h : i < dg.size
    · rw [byteAt_app_left _ _ _ h]; have := hdig i h; omega
    · obtain ⟨j, rfl⟩ : ∃ j, i = dg.size + j := ⟨i - dg.size, by omega⟩
      rw [byteAt_app_right]
      have hj : j < 1 := by omega
      exact hkey j hj
  · exact asc_list _ hkey
theorem works_gb (dg : ByteArray) (hK : K.ped = false) (L : LX) (x : It) (hx : x.typ = 7) (hv : x.val = dg ++ ⟨#[103, 98]⟩) (hd0 : 0 < dg.size) (hdig : isDigits dg) (hn : ((numOf dg.data.toList : Nat) : Int) * 1024 * 1024 * 1024 ≤ 4611686018427387904) (hsz : dg.size ≤ 900000)
    (hs : (⟨L, cx, ks⟩ : PX).Sets (.int (((numOf dg.data.toList : Nat) : Int) * 1024 * 1024 * 1024)) ⟨L, cx1, ks1⟩) : Works K ⟨L, cx, ks⟩ x ⟨L, cx1, ks1⟩ := by
  intro B lab w hB hp htb
  obtain ⟨xt, xv, xl, xp⟩ := x
  obtain rfl : xt = 7 := hx
  obtain rfl : xv = dg ++ ⟨#[103, 98]⟩ := hv
  have hz : (dg ++ (⟨#[103, 98]⟩ : ByteArray)).size = dg.size + 2 := by rw [ByteArray.size_append]; rfl
  have hb0 : byteAt (dg ++ (⟨#[103, 98]⟩ : ByteArray)) dg.size = 103 := by have := byteAt_app_right dg ⟨#[103, 98]⟩ 0; rw [Nat.add_zero] at this; rw [this]; rfl
  have hkey : ∀ j, j < 2 → byteAt (⟨#[103, 98]⟩ : ByteArray) j < 128 := by decide
  have he : (dg ++ (⟨#[103, 98]⟩ : ByteArray)).extract 0 dg.size = dg := ByteArray.extract_append_eq_left rfl
  have hf : (dg ++ (⟨#[103, 98]⟩ : ByteArray)).extract dg.size (dg ++ (⟨#[103, 98]⟩ : ByteArray)).size = ⟨#[103, 98]⟩ := ByteArray.extract_append_eq_right rfl (by rw [ByteArray.size_append])
  refine item_int_gb hp hB hK _ xl xp dg.size (by rw [hz]; omega) (by rw [hz]; omega) (fun i hi => by rw [byteAt_app_left _ _ _ hi]; exact dig_true (hdig i hi)) (by rw [hb0]; rfl) (by rw [hb0]; decide) ?_ (numOf dg.data.toList : Nat) (fun w => by rw [he]; exact ParseInt_pos dg hd0 hdig (by omega) (by omega) w) ⟨#[103, 98]⟩ hf ?_ rfl rfl rfl (by omega) hn htb hs
  · intro i hi
    rw [hz] at hi
    by_cases h : i < dg.size
    · rw [byteAt_app_left _ _ _ h]; have := hdig i h; omega
    · obtain ⟨j, rfl⟩ : ∃ j, i = dg.size + j := ⟨i - dg.size, by omega⟩
      rw [byteAt_app_right]
      have hj : j < 2 := by omega
      exact hkey j hj
  · exact asc_list _ hkey
theorem works_gib (dg : ByteArray) (hK : K.ped = false) (L : LX) (x : It) (hx : x.typ = 7) (hv : x.val = dg ++ ⟨#[103, 105, 98]⟩) (hd0 : 0 < dg.size) (hdig : isDigits dg) (hn : ((numOf dg.data.toList : Nat) : Int) * 1024 * 1024 * 1024 ≤ 4611686018427387904) (hsz : dg.size ≤ 900000)
    (hs : (⟨L, cx, ks⟩ : PX).Sets (.int (((numOf dg.data.toList : Nat) : Int) * 1024 * 1024 * 1024)) ⟨L, cx1, ks1⟩) : Works K ⟨L, cx, ks⟩ x ⟨L, cx1, ks1⟩ := by
  intro B lab w hB hp htb
  obtain ⟨xt, xv, xl, xp⟩ := x
  obtain rfl : xt = 7 := hx
  obtain rfl : xv = dg ++ ⟨#[103, 105, 98]⟩ := hv
  have hz : (dg ++ (⟨#[103, 105, 98]⟩ : ByteArray)).size = dg.size + 3 := by rw [ByteArray.size_append]; rfl
  have hb0 : byteAt (dg ++ (⟨#[103, 105, 98]⟩ : ByteArray)) dg.size = 103 := by have := byteAt_app_right dg ⟨#[103, 105, 98]⟩ 0; rw [Nat.add_zero] at this; rw [this]; rfl
  have hkey : ∀ j, j < 3 → byteAt (⟨#[103, 105, 98]⟩ : ByteArray) j < 128 := by decide
  have he : (dg ++ (⟨#[103, 105, 98]⟩ : ByteArray)).extract 0 dg.size = dg := ByteArray.extract_append_eq_left rfl
  have hf : (dg ++ (⟨#[103, 105, 98]⟩ : ByteArray)).extract dg.size (dg ++ (⟨#[103, 105, 98]⟩ : ByteArray)).size = ⟨#[103, 105, 98]⟩ := ByteArray.extract_append_eq_right rfl (by rw [ByteArray.size_append])
  refine item_int_gib hp hB hK _ xl xp dg.size (by rw [hz]; omega) (by rw [hz]; omega) (fun i hi => by rw [byteAt_app_left _ _ _ hi]; exact dig_true (hdig i hi)) (by rw [hb0]; rfl) (by rw [hb0]; decide) ?_ (numOf dg.data.toList : Nat) (fun w => by rw [he]; exact ParseInt_pos dg hd0 hdig (by omega) (by omega) w) ⟨#[103, 105, 98]⟩ hf ?_ rfl rfl rfl (by omega) hn htb hs
  · intro i hi
    rw [hz] at hi
    by_cases h : i < dg.size
    · rw [byteAt_app_left _ _ _ h]; have := hdig i h; omega
    · obtain ⟨j, rfl⟩ : ∃ j, i = dg.size + j := ⟨i - dg.size, by omega⟩
      rw [byteAt_app_right]
      have hj : j < 3 := by omega
      exact hkey j hj
  · exact asc_list _ hkey
theorem works_gi (dg : ByteArray) (hK : K.ped = false) (L : LX) (x : It) (hx : x.typ = 7) (hv : x.val = dg ++ ⟨#[103, 105]⟩) (hd0 : 0 < dg.size) (hdig : isDigits dg) (hn : ((numOf dg.data.toList : Nat) : Int) * 1024 * 1024 * 1024 ≤ 4611686018427387904) (hsz : dg.size ≤ 900000)
    (hs : (⟨L, cx, ks⟩ : PX).Sets (.int (((numOf dg.data.toList : Nat) : Int) * 1024 * 1024 * 1024)) ⟨L, cx1, ks1⟩) : Works K ⟨L, cx, ks⟩ x ⟨L, cx1, ks1⟩ := by
  intro B lab w hB hp htb
  obtain ⟨xt, xv, xl, xp⟩ := x
  obtain rfl : xt = 7 := hx
  obtain rfl : xv = dg ++ ⟨#[103, 105]⟩ := hv
  have hz : (dg ++ (⟨#[103, 105]⟩ : ByteArray)).size = dg.size + 2 := by rw [ByteArray.size_append]; rfl
  have hb0 : byteAt (dg ++ (⟨#[103, 105]⟩ : ByteArray)) dg.size = 103 := by have := byteAt_app_right dg ⟨#[103, 105]⟩ 0; rw [Nat.add_zero] at this; rw [this]; rfl
  have hkey : ∀ j, j < 2 → byteAt (⟨#[103, 105]⟩ : ByteArray) j < 128 := by decide
  have he : (dg ++ (⟨#[103, 105]⟩ : ByteArray)).extract 0 dg.size = dg := ByteArray.extract_append_eq_left rfl
  have hf : (dg ++ (⟨#[103, 105]⟩ : ByteArray)).extract dg.size (dg ++ (⟨#[103, 105]⟩ : ByteArray)).size = ⟨#[103, 105]⟩ := ByteArray.extract_append_eq_right rfl (by rw [ByteArray.size_append])
  refine item_int_gi hp hB hK _ xl xp dg.size (by rw [hz]; omega) (by rw [hz]; omega) (fun i hi => by rw [byteAt_app_left _ _ _ hi]; exact dig_true (hdig i hi)) (by rw [hb0]; rfl) (by rw [hb0]; decide) ?_ (numOf dg.data.toList : Nat) (fun w => by rw [he]; exact ParseInt_pos dg hd0 hdig (by omega) (by omega) w) ⟨#[103, 105]⟩ hf ?_ rfl rfl rfl (by omega) hn htb hs
  · intro i hi
    rw [hz] at hi
    by_cases h : i < dg.size
    · rw [byteAt_app_left _ _ _ h]; have := hdig i h; omega
    · obtain ⟨j, rfl⟩ : ∃ j, i = dg.size + j := ⟨i - dg.size, by omega⟩
      rw [byteAt_app_right]
      have hj : j < 2 := by omega
      exact hkey j hj
  · exact asc_list _ hkey
theorem works_t (dg : ByteArray) (hK : K.ped = false) (L : LX) (x : It) (hx : x.typ = 7) (hv : x.val = dg ++ ⟨#[116]⟩) (hd0 : 0 < dg.size) (hdig : isDigits dg) (hn : ((numOf dg.data.toList : Nat) : Int) * 1000 * 1000 * 1000 * 1000 ≤ 4611686018427387904) (hsz : dg.size ≤ 900000)
    (hs : (⟨L, cx, ks⟩ : PX).Sets (.int (((numOf dg.data.toList : Nat) : Int) * 1000 * 1000 * 1000 * 1000)) ⟨L, cx1, ks1⟩) : Works K ⟨L, cx, ks⟩ x ⟨L, cx1, ks1⟩ := by
  intro B lab w hB hp htb
  obtain ⟨xt, xv, xl, xp⟩ := x
  obtain rfl : xt = 7 := hx
  obtain rfl : xv = dg ++ ⟨#[116]⟩ := hv
  have hz : (dg ++ (⟨#[116]⟩ : ByteArray)).size = dg.size + 1 := by rw [ByteArray.size_append]; rfl
  have hb0 : byteAt (dg ++ (⟨#[116]⟩ : ByteArray)) dg.size = 116 := by have := byteAt_app_right dg ⟨#[116]⟩ 0; rw [Nat.add_zero] at this; rw [this]; rfl
  have hkey : ∀ j, j < 1 → byteAt (⟨#[116]⟩ : ByteArray) j < 128 := by decide
  have he : (dg ++ (⟨#[116]⟩ : ByteArray)).extract 0 dg.size = dg := ByteArray.extract_append_eq_left rfl
  have hf : (dg ++ (⟨#[116]⟩ : ByteArray)).extract dg.size (dg ++ (⟨#[116]⟩ : ByteArray)).size = ⟨#[116]⟩ := ByteArray.extract_append_eq_right rfl (by rw [ByteArray.size_append])
  refine item_int_t hp hB hK _ xl xp dg.size (by rw [hz]; omega) (by rw [hz]; omega) (fun i hi => by rw [byteAt_app_left _ _ _ hi]; exact dig_true (hdig i hi)) (by rw [hb0]; rfl) (by rw [hb0]; decide) ?_ (numOf dg.data.toList : Nat) (fun w => by rw [he]; exact ParseInt_pos dg hd0 hdig (by omega) (by omega) w) ⟨#[116]⟩ hf ?_ rfl rfl rfl (by omega) hn htb hs
  · intro i hi
    rw [hz] at hi
    by_cases h : i < dg.size
    · rw [byteAt_app_left _ _ _ h]; have := hdig i h; omega
    · obtain ⟨j, rfl⟩ : ∃ j, i = dg.size + j := ⟨i - dg.size, by omega⟩
      rw [byteAt_app_right]
      have hj : j < 1 := by omega
      exact hkey j hj
  · exact asc_list _ hkey
theorem works_tb (dg : ByteArray) (hK : K.ped = false) (L : LX) (x : It) (hx : x.typ = 7) (hv : x.val = dg ++ ⟨#[116, 98]⟩) (hd0 : 0 < dg.size) (hdig : isDigits dg) (hn : ((numOf dg.data.toList : Nat) : Int) * 1024 * 1024 * 1024 * 1024 ≤ 4611686018427387904) (hsz : dg.size ≤ 900000)
    (hs : (⟨L, cx, ks⟩ : PX).Sets (.int (((numOf dg.data.toList : Nat) : Int) * 1024 * 1024 * 1024 * 1024)) ⟨L, cx1, ks1⟩) : Works K ⟨L, cx, ks⟩ x ⟨L, cx1, ks1⟩ := by
  intro B lab w hB hp htb
  obtain ⟨xt, xv, xl, xp⟩ := x
  obtain rfl : xt = 7 := hx
  obtain rfl : xv = dg ++ ⟨#[116, 98]⟩ := hv
  have hz : (dg ++ (⟨#[116, 98]⟩ : ByteArray)).size = dg.size + 2 := by rw [ByteArray.size_append]; rfl
  have hb0 : byteAt (dg ++ (⟨#[116, 98]⟩ : ByteArray)) dg.size = 116 := by have := byteAt_app_right dg ⟨#[116, 98]⟩ 0; rw [Nat.add_zero] at this; rw [this]; rfl
  have hkey : ∀ j, j < 2 → byteAt (⟨#[116, 98]⟩ : ByteArray) j < 128 := by decide
  have he : (dg ++ (⟨#[116, 98]⟩ : ByteArray)).extract 0 dg.size = dg := ByteArray.extract_append_eq_left rfl
  have hf : (dg ++ (⟨#[116, 98]⟩ : ByteArray)).extract dg.size (dg ++ (⟨#[116, 98]⟩ : ByteArray)).size = ⟨#[116, 98]⟩ := ByteArray.extract_append_eq_right rfl (by rw [ByteArray.size_append])
  refine item_int_tb hp hB hK _ xl xp dg.size (by rw [hz]; omega) (by rw [hz]; omega) (fun i hi => by rw [byteAt_app_left _ _ _ hi]; exact dig_true (hdig i hi)) (by rw [hb0]; rfl) (by rw [hb0]; decide) ?_ (numOf dg.data.toList : Nat) (fun w => by rw [he]; exact ParseInt_pos dg hd0 hdig (by omega) (by omega) w) ⟨#[116, 98]⟩ hf ?_ rfl rfl rfl (by omega) hn htb hs
  · intro i hi
    rw [hz] at hi
    by_cases h : i < dg.size
    · rw [byteAt_app_left _ _ _ h]; have := hdig i h; omega
    · obtain ⟨j, rfl⟩ : ∃ j, i = dg.size + j := ⟨i - dg.size, by omega⟩
      rw [byteAt_app_right]
      have hj : j < 2 := by omega
      exact hkey j hj
  · exact asc_list _ hkey
theorem works_tib (dg : ByteArray) (hK : K.ped = false) (L : LX) (x : It) (hx : x.typ = 7) (hv : x.val = dg ++ ⟨#[116, 105, 98]⟩) (hd0 : 0 < dg.size) (hdig : isDigits dg) (hn : ((numOf dg.data.toList : Nat) : Int) * 1024 * 1024 * 1024 * 1024 ≤ 4611686018427387904) (hsz : dg.size ≤ 900000)
    (hs : (⟨L, cx, ks⟩ : PX).Sets (.int (((numOf dg.data.toList : Nat) : Int) * 1024 * 1024 * 1024 * 1024)) ⟨L, cx1, ks1⟩) : Works K ⟨L, cx, ks⟩ x ⟨L, cx1, ks1⟩ := by
  intro B lab w hB hp htb
  obtain ⟨xt, xv, xl, xp⟩ := x
  obtain rfl : xt = 7 := hx
  obtain rfl : xv = dg ++ ⟨#[116, 105, 98]⟩ := hv
  have hz : (dg ++ (⟨#[116, 105, 98]⟩ : ByteArray)).size = dg.size + 3 := by rw [ByteArray.size_append]; rfl
  have hb0 : byteAt (dg ++ (⟨#[116, 105, 98]⟩ : ByteArray)) dg.size = 116 := by have := byteAt_app_right dg ⟨#[116, 105, 98]⟩ 0; rw [Nat.add_zero] at this; rw [this]; rfl
  have hkey : ∀ j, j < 3 → byteAt (⟨#[116, 105, 98]⟩ : ByteArray) j < 128 := by decide
  have he : (dg ++ (⟨#[116, 105, 98]⟩ : ByteArray)).extract 0 dg.size = dg := ByteArray.extract_append_eq_left rfl
  have hf : (dg ++ (⟨#[116, 105, 98]⟩ : ByteArray)).extract dg.size (dg ++ (⟨#[116, 105, 98]⟩ : ByteArray)).size = ⟨#[116, 105, 98]⟩ := ByteArray.extract_append_eq_right rfl (by rw [ByteArray.size_append])
  refine item_int_tib hp hB hK _ xl xp dg.size (by rw [hz]; omega) (by rw [hz]; omega) (fun i hi => by rw [byteAt_app_left _ _ _ hi]; exact dig_true (hdig i hi)) (by rw [hb0]; rfl) (by rw [hb0]; decide) ?_ (numOf dg.data.toList : Nat) (fun w => by rw [he]; exact ParseInt_pos dg hd0 hdig (by omega) (by omega) w) ⟨#[116, 105, 98]⟩ hf ?_ rfl rfl rfl (by omega) hn htb hs
  · intro i hi
    rw [hz] at hi
    by_cases h : i < dg.size
    · rw [byteAt_app_left _ _ _ h]; have := hdig i h; omega
    · obtain ⟨j, rfl⟩ : ∃ j, i = dg.size + j := ⟨i - dg.size, by omega⟩
      rw [byteAt_app_right]
      have hj : j < 3 := by omega
      exact hkey j hj
  · exact asc_list _ hkey
theorem works_ti (dg : ByteArray) (hK : K.ped = false) (L : LX) (x : It) (hx : x.typ = 7) (hv : x.val = dg ++ ⟨#[116, 105]⟩) (hd0 : 0 < dg.size) (hdig : isDigits dg) (hn : ((numOf dg.data.toList : Nat) : Int) * 1024 * 1024 * 1024 * 1024 ≤ 4611686018427387904) (hsz : dg.size ≤ 900000)
    (hs : (⟨L, cx, ks⟩ : PX).Sets (.int (((numOf dg.data.toList : Nat) : Int) * 1024 * 1024 * 1024 * 1024)) ⟨L, cx1, ks1⟩) : Works K ⟨L, cx, ks⟩ x ⟨L, cx1, ks1⟩ := by
  intro B lab w hB hp htb
  obtain ⟨xt, xv, xl, xp⟩ := x
  obtain rfl : xt = 7 := hx
  obtain rfl : xv = dg ++ ⟨#[116, 105]⟩ := hv
  have hz : (dg ++ (⟨#[116, 105]⟩ : ByteArray)).size = dg.size + 2 := by rw [ByteArray.size_append]; rfl
  have hb0 : byteAt (dg ++ (⟨#[116, 105]⟩ : ByteArray)) dg.size = 116 := by have := byteAt_app_right dg ⟨#[116, 105]⟩ 0; rw [Nat.add_zero] at this; rw [this]; rfl
  have hkey : ∀ j, j < 2 → byteAt (⟨#[116, 105]⟩ : ByteArray) j < 128 := by decide
  have he : (dg ++ (⟨#[116, 105]⟩ : ByteArray)).extract 0 dg.size = dg := ByteArray.extract_append_eq_left rfl
  have hf : (dg ++ (⟨#[116, 105]⟩ : ByteArray)).extract dg.size (dg ++ (⟨#[116, 105]⟩ : ByteArray)).size = ⟨#[116, 105]⟩ := ByteArray.extract_append_eq_right rfl (by rw [ByteArray.size_append])
  refine item_int_ti hp hB hK _ xl xp dg.size (by rw [hz]; omega) (by rw [hz]; omega) (fun i hi => by rw [byteAt_app_left _ _ _ hi]; exact dig_true (hdig i hi)) (by rw [hb0]; rfl) (by rw [hb0]; decide) ?_ (numOf dg.data.toList : Nat) (fun w => by rw [he]; exact ParseInt_pos dg hd0 hdig (by omega) (by omega) w) ⟨#[116, 105]⟩ hf ?_ rfl rfl rfl (by omega) hn htb hs
  · intro i hi
    rw [hz] at hi
    by_cases h : i < dg.size
    · rw [byteAt_app_left _ _ _ h]; have := hdig i h; omega
    · obtain ⟨j, rfl⟩ : ∃ j, i = dg.size + j := ⟨i - dg.size, by omega⟩
      rw [byteAt_app_right]
      have hj : j < 2 := by omega
      exact hkey j hj
  · exact asc_list _ hkey
end
end Go.Cf
