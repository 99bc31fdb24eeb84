/-
  Texts joined: Wj Rn Wi Ix Rp Iy Iz Lf Iv Rs Wh Va Wl Rw Er18 En Vb.
-/
import Derived.Test.YtackodbeohaidaaGreatDoorBq03
import Derived.Test.YtackodbeohaidaaGreatDoorBq06
import Derived.Test.YtackodbeohaidaaGreatDoorBq07
import Derived.Test.YtackodbeohaidaaGreatDoorBq08
import Derived.Test.YtackodbeohaidaaGreatDoorBq09
import Derived.Deep.RegionLaw
namespace Go.Cf
open Go.RowKit Go.Conc Go.Proofs
theorem ng_k : LowF ⟨#[107]⟩ (fun n => n * 1000) := .k
theorem ng_kb : LowF ⟨#[107,98]⟩ (fun n => n * 1024) := .kb
theorem ng_kib : LowF ⟨#[107,105,98]⟩ (fun n => n * 1024) := .kib
theorem ng_ki : LowF ⟨#[107,105]⟩ (fun n => n * 1024) := .ki
theorem ng_m : LowF ⟨#[109]⟩ (fun n => n * 1000 * 1000) := .m
theorem ng_mb : LowF ⟨#[109,98]⟩ (fun n => n * 1024 * 1024) := .mb
theorem ng_mib : LowF ⟨#[109,105,98]⟩ (fun n => n * 1024 * 1024) := .mib
theorem ng_mi : LowF ⟨#[109,105]⟩ (fun n => n * 1024 * 1024) := .mi
theorem ng_g : LowF ⟨#[103]⟩ (fun n => n * 1000 * 1000 * 1000) := .g
theorem ng_gb : LowF ⟨#[103,98]⟩ (fun n => n * 1024 * 1024 * 1024) := .gb
theorem ng_gib : LowF ⟨#[103,105,98]⟩ (fun n => n * 1024 * 1024 * 1024) := .gib
theorem ng_gi : LowF ⟨#[103,105]⟩ (fun n => n * 1024 * 1024 * 1024) := .gi
theorem ng_t : LowF ⟨#[116]⟩ (fun n => n * 1000 * 1000 * 1000 * 1000) := .t
theorem ng_tb : LowF ⟨#[116,98]⟩ (fun n => n * 1024 * 1024 * 1024 * 1024) := .tb
theorem ng_tib : LowF ⟨#[116,105,98]⟩ (fun n => n * 1024 * 1024 * 1024 * 1024) := .tib
theorem ng_ti : LowF ⟨#[116,105]⟩ (fun n => n * 1024 * 1024 * 1024 * 1024) := .ti
theorem pi_c (sg : ByteArray) (m : Nat) (v : Int) (hv : (sg = ⟨#[]⟩ ∧ v = m) ∨ (sg = ⟨#[45]⟩ ∧ v = -(m : Int))) (hm : m ≤ 4611686018427387904) (w : World) :
  Calls Tryz.prog 68 #[.string (sg ++ decB m),i64 10,i64 64] w fun e w' => e = .returned (.tuple #[.int .i64 v,.nilIface]) ∧ Below w.heap.size w w' := by
 have hz := decB_small m (by omega);rcases hv with ⟨rfl,rfl⟩ | ⟨rfl,rfl⟩
 ·rw [empty_app];have := ParseInt_pos (decB m) hz.1 (decB_dig m) (by rw [decB_num];omega) (by omega) w;rwa [decB_num] at this
 ·have := ParseInt_neg _ (decB m) rfl hz.1 (decB_dig m) (by rw [decB_num];omega) (by omega) w;rwa [decB_num] at this
theorem sgdig (sg : ByteArray) (m : Nat) (hsg : sg = ⟨#[]⟩ ∨ sg = ⟨#[45]⟩) (i : Nat) (hi : i < (sg ++ decB m).size) : (48 ≤ byteAt (sg ++ decB m) i ∧ byteAt (sg ++ decB m) i ≤ 57) ∨ byteAt (sg ++ decB m) i = 45 := by
 rcases hsg with rfl | rfl
 ·rw [empty_app] at hi ⊢;exact .inl (decB_dig m i hi)
 ·rw [bsa] at hi
  cases i with
  | zero => right;rw [byteAt_app_left _ _ _ (by decide)];rfl
  | succ i =>
   left
   have h := byteAt_app_right (⟨#[45]⟩ : ByteArray) (decB m) i;rw [show (⟨#[45]⟩ : ByteArray).size + i = i + 1 from Nat.add_comm _ _] at h;rw [h];have h1 : (⟨#[45]⟩ : ByteArray).size = 1 := rfl;exact decB_dig m i (by omega)
section
variable {K : PK} {cx cx1 : List CJ} {ks ks1 : List ByteArray}
theorem works_ng {low : ByteArray} {f : Int → Int} (I : LowF low f) (hK : K.ped = false) (L : LX) (x : It) (hx : x.typ = 7) (sg : ByteArray) (m : Nat) (sf : ByteArray) (hv : x.val = sg ++ decB m ++ sf) (v n : Int)
  (hsv : (sg = ⟨#[]⟩ ∧ v = m) ∨ (sg = ⟨#[45]⟩ ∧ v = -(m : Int))) (hm : m ≤ 4611686018427387904) (hs0 : 0 < sf.size) (hs3 : sf.size ≤ 3) (hd : isDig (byteAt sf 0) = false) (hd2 : byteAt sf 0 ≠ 45) (hasc : ∀ j,j < sf.size → byteAt sf j < 128)
  (htrim : Lib.trimSpace sf.data.toList = sf.data.toList) (hlow : (⟨(Lib.toLowerA sf.data.toList).toArray⟩ : ByteArray) = low) (hn : f v = n) (hb1 : -4611686018427387904 ≤ n) (hb2 : n ≤ 4611686018427387904)
  (hs : (⟨L,cx,ks⟩ : PX).Sets (.int n) ⟨L,cx1,ks1⟩) : Works K ⟨L,cx,ks⟩ x ⟨L,cx1,ks1⟩ := by
 intro B lab w hB hp htb;obtain ⟨xt,xv,xl,xp⟩ := x;obtain rfl : xt = 7 := hx;obtain rfl : xv = sg ++ decB m ++ sf := hv;have hz := decB_small m (by omega);have hsgs : sg.size ≤ 1 := by rcases hsv with ⟨rfl,_⟩ | ⟨rfl,_⟩ <;> decide
 have hsg : sg = ⟨#[]⟩ ∨ sg = ⟨#[45]⟩ := by rcases hsv with ⟨h,_⟩ | ⟨h,_⟩;exact .inl h;exact .inr h
 have hps : (sg ++ decB m).size ≤ 20 := by rw [bsa];omega
 have hall : (sg ++ decB m ++ sf).size = (sg ++ decB m).size + sf.size := bsa;have hat : ∀ i,byteAt (sg ++ decB m ++ sf) ((sg ++ decB m).size + i) = byteAt sf i := fun i => byteAt_app_right _ _ _
 have hat0 := hat 0;rw [Nat.add_zero] at hat0;subst hn;refine item_ng I B lab w K _ _ hp hB hK (sg ++ decB m ++ sf) xl xp (sg ++ decB m).size (by omega) (by omega) (fun i hi => ?_) (by rw [hat0];exact hd) (by rw [hat0];exact hd2) (fun i hi => ?_) v (fun w => ?_) sf ?_ (asc_list sf hasc) htrim hlow hb1 hb2 htb hs
 ·rw [byteAt_app_left _ _ _ hi];rcases sgdig sg m hsg i hi with h | h
  ·exact .inl (dig_true h)
  ·exact .inr h
 ·rcases Nat.lt_or_ge i (sg ++ decB m).size with h | h
  ·rw [byteAt_app_left _ _ _ h];have := sgdig sg m hsg i h;omega
  ·obtain ⟨j,rfl⟩ := Nat.exists_eq_add_of_le h;rw [hat];exact hasc j (by omega)
 ·rw [show (sg ++ decB m ++ sf).extract 0 (sg ++ decB m).size = sg ++ decB m from ByteArray.extract_append_eq_left rfl];exact pi_c sg m v hsv hm w
 ·exact ByteArray.extract_append_eq_right rfl (by rw [bsa])
theorem works_ng0 (hK : K.ped = false) (L : LX) (x : It) (hx : x.typ = 7) (sg : ByteArray) (m : Nat) (hv : x.val = sg ++ decB m) (v : Int)
  (hsv : (sg = ⟨#[]⟩ ∧ v = m) ∨ (sg = ⟨#[45]⟩ ∧ v = -(m : Int))) (hm : m ≤ 4611686018427387904)
  (hs : (⟨L,cx,ks⟩ : PX).Sets (.int v) ⟨L,cx1,ks1⟩) : Works K ⟨L,cx,ks⟩ x ⟨L,cx1,ks1⟩ := by
 intro B lab w hB hp htb;obtain ⟨xt,xv,xl,xp⟩ := x;obtain rfl : xt = 7 := hx;obtain rfl : xv = sg ++ decB m := hv;have hz := decB_small m (by omega);have hsgs : sg.size ≤ 1 := by rcases hsv with ⟨rfl,_⟩ | ⟨rfl,_⟩ <;> decide
 have hsg : sg = ⟨#[]⟩ ∨ sg = ⟨#[45]⟩ := by rcases hsv with ⟨h,_⟩ | ⟨h,_⟩;exact .inl h;exact .inr h
 have hps : (sg ++ decB m).size ≤ 20 := by rw [bsa];omega
 refine item_ng_plain hp hB hK (sg ++ decB m) xl xp (by omega) (fun i hi => ?_) (fun i hi => ?_) v (fun w => pi_c sg m v hsv hm w) htb hs
 ·rcases sgdig sg m hsg i hi with h | h
  ·exact .inl (dig_true h)
  ·exact .inr h
 ·have := sgdig sg m hsg i hi;omega
structure SfI (sf : ByteArray) (u : Int) : Prop where
 ex : ∃ (low : ByteArray) (f : Int → Int),LowF low f ∧ (⟨(Lib.toLowerA sf.data.toList).toArray⟩ : ByteArray) = low ∧ ∀ v,f v = v * u
 s0 : 0 < sf.size
 s3 : sf.size ≤ 3
 d : isDig (byteAt sf 0) = false
 d2 : byteAt sf 0 ≠ 45
 suf : isSuf (byteAt sf 0) = true
 asc : ∀ j,j < sf.size → byteAt sf j < 128
 rest : ∀ j,0 < j → j < sf.size → byteAt sf j = 98 ∨ byteAt sf j = 66 ∨ byteAt sf j = 105
 trim : Lib.trimSpace sf.data.toList = sf.data.toList
theorem sfi_low0 : SfI ⟨#[107]⟩ (mulB 1000 (0 + 1)) := ⟨⟨_,_,ng_k,rfl,fun v => by simp only [mulB];omega⟩,by decide,by decide,rfl,by decide,rfl,(show ∀ j,j < 1 → byteAt ⟨#[107]⟩ j < 128 by decide),(fun j h0 h1 => absurd h1 (by show ¬ j < 1;omega)),rfl⟩
theorem sfi_up0 : SfI ⟨#[75]⟩ (mulB 1000 (0 + 1)) := ⟨⟨_,_,ng_k,rfl,fun v => by simp only [mulB];omega⟩,by decide,by decide,rfl,by decide,rfl,(show ∀ j,j < 1 → byteAt ⟨#[75]⟩ j < 128 by decide),(fun j h0 h1 => absurd h1 (by show ¬ j < 1;omega)),rfl⟩
theorem sfi_kib00 : SfI ⟨#[107,98]⟩ (mulB 1024 (0 + 1)) := ⟨⟨_,_,ng_kb,rfl,fun v => by simp only [mulB];omega⟩,by decide,by decide,rfl,by decide,rfl,(show ∀ j,j < 2 → byteAt ⟨#[107,98]⟩ j < 128 by decide),(show ∀ j,0 < j → j < 2 → byteAt ⟨#[107,98]⟩ j = 98 ∨ byteAt ⟨#[107,98]⟩ j = 66 ∨ byteAt ⟨#[107,98]⟩ j = 105 from (fun j h0 h1 => (show ∀ j,j < 2 → 0 < j → byteAt ⟨#[107,98]⟩ j = 98 ∨ byteAt ⟨#[107,98]⟩ j = 66 ∨ byteAt ⟨#[107,98]⟩ j = 105 by decide) j h1 h0)),rfl⟩
theorem sfi_kib01 : SfI ⟨#[107,105,98]⟩ (mulB 1024 (0 + 1)) := ⟨⟨_,_,ng_kib,rfl,fun v => by simp only [mulB];omega⟩,by decide,by decide,rfl,by decide,rfl,(show ∀ j,j < 3 → byteAt ⟨#[107,105,98]⟩ j < 128 by decide),(show ∀ j,0 < j → j < 3 → byteAt ⟨#[107,105,98]⟩ j = 98 ∨ byteAt ⟨#[107,105,98]⟩ j = 66 ∨ byteAt ⟨#[107,105,98]⟩ j = 105 from (fun j h0 h1 => (show ∀ j,j < 3 → 0 < j → byteAt ⟨#[107,105,98]⟩ j = 98 ∨ byteAt ⟨#[107,105,98]⟩ j = 66 ∨ byteAt ⟨#[107,105,98]⟩ j = 105 by decide) j h1 h0)),rfl⟩
theorem sfi_kib02 : SfI ⟨#[107,105]⟩ (mulB 1024 (0 + 1)) := ⟨⟨_,_,ng_ki,rfl,fun v => by simp only [mulB];omega⟩,by decide,by decide,rfl,by decide,rfl,(show ∀ j,j < 2 → byteAt ⟨#[107,105]⟩ j < 128 by decide),(show ∀ j,0 < j → j < 2 → byteAt ⟨#[107,105]⟩ j = 98 ∨ byteAt ⟨#[107,105]⟩ j = 66 ∨ byteAt ⟨#[107,105]⟩ j = 105 from (fun j h0 h1 => (show ∀ j,j < 2 → 0 < j → byteAt ⟨#[107,105]⟩ j = 98 ∨ byteAt ⟨#[107,105]⟩ j = 66 ∨ byteAt ⟨#[107,105]⟩ j = 105 by decide) j h1 h0)),rfl⟩
theorem sfi_kib03 : SfI ⟨#[107,66]⟩ (mulB 1024 (0 + 1)) := ⟨⟨_,_,ng_kb,rfl,fun v => by simp only [mulB];omega⟩,by decide,by decide,rfl,by decide,rfl,(show ∀ j,j < 2 → byteAt ⟨#[107,66]⟩ j < 128 by decide),(show ∀ j,0 < j → j < 2 → byteAt ⟨#[107,66]⟩ j = 98 ∨ byteAt ⟨#[107,66]⟩ j = 66 ∨ byteAt ⟨#[107,66]⟩ j = 105 from (fun j h0 h1 => (show ∀ j,j < 2 → 0 < j → byteAt ⟨#[107,66]⟩ j = 98 ∨ byteAt ⟨#[107,66]⟩ j = 66 ∨ byteAt ⟨#[107,66]⟩ j = 105 by decide) j h1 h0)),rfl⟩
theorem sfi_low1 : SfI ⟨#[109]⟩ (mulB 1000 (1 + 1)) := ⟨⟨_,_,ng_m,rfl,fun v => by simp only [mulB];omega⟩,by decide,by decide,rfl,by decide,rfl,(show ∀ j,j < 1 → byteAt ⟨#[109]⟩ j < 128 by decide),(fun j h0 h1 => absurd h1 (by show ¬ j < 1;omega)),rfl⟩
theorem sfi_up1 : SfI ⟨#[77]⟩ (mulB 1000 (1 + 1)) := ⟨⟨_,_,ng_m,rfl,fun v => by simp only [mulB];omega⟩,by decide,by decide,rfl,by decide,rfl,(show ∀ j,j < 1 → byteAt ⟨#[77]⟩ j < 128 by decide),(fun j h0 h1 => absurd h1 (by show ¬ j < 1;omega)),rfl⟩
theorem sfi_kib10 : SfI ⟨#[109,98]⟩ (mulB 1024 (1 + 1)) := ⟨⟨_,_,ng_mb,rfl,fun v => by simp only [mulB];omega⟩,by decide,by decide,rfl,by decide,rfl,(show ∀ j,j < 2 → byteAt ⟨#[109,98]⟩ j < 128 by decide),(show ∀ j,0 < j → j < 2 → byteAt ⟨#[109,98]⟩ j = 98 ∨ byteAt ⟨#[109,98]⟩ j = 66 ∨ byteAt ⟨#[109,98]⟩ j = 105 from (fun j h0 h1 => (show ∀ j,j < 2 → 0 < j → byteAt ⟨#[109,98]⟩ j = 98 ∨ byteAt ⟨#[109,98]⟩ j = 66 ∨ byteAt ⟨#[109,98]⟩ j = 105 by decide) j h1 h0)),rfl⟩
theorem sfi_kib11 : SfI ⟨#[109,105,98]⟩ (mulB 1024 (1 + 1)) := ⟨⟨_,_,ng_mib,rfl,fun v => by simp only [mulB];omega⟩,by decide,by decide,rfl,by decide,rfl,(show ∀ j,j < 3 → byteAt ⟨#[109,105,98]⟩ j < 128 by decide),(show ∀ j,0 < j → j < 3 → byteAt ⟨#[109,105,98]⟩ j = 98 ∨ byteAt ⟨#[109,105,98]⟩ j = 66 ∨ byteAt ⟨#[109,105,98]⟩ j = 105 from (fun j h0 h1 => (show ∀ j,j < 3 → 0 < j → byteAt ⟨#[109,105,98]⟩ j = 98 ∨ byteAt ⟨#[109,105,98]⟩ j = 66 ∨ byteAt ⟨#[109,105,98]⟩ j = 105 by decide) j h1 h0)),rfl⟩
theorem sfi_kib12 : SfI ⟨#[109,105]⟩ (mulB 1024 (1 + 1)) := ⟨⟨_,_,ng_mi,rfl,fun v => by simp only [mulB];omega⟩,by decide,by decide,rfl,by decide,rfl,(show ∀ j,j < 2 → byteAt ⟨#[109,105]⟩ j < 128 by decide),(show ∀ j,0 < j → j < 2 → byteAt ⟨#[109,105]⟩ j = 98 ∨ byteAt ⟨#[109,105]⟩ j = 66 ∨ byteAt ⟨#[109,105]⟩ j = 105 from (fun j h0 h1 => (show ∀ j,j < 2 → 0 < j → byteAt ⟨#[109,105]⟩ j = 98 ∨ byteAt ⟨#[109,105]⟩ j = 66 ∨ byteAt ⟨#[109,105]⟩ j = 105 by decide) j h1 h0)),rfl⟩
theorem sfi_kib13 : SfI ⟨#[109,66]⟩ (mulB 1024 (1 + 1)) := ⟨⟨_,_,ng_mb,rfl,fun v => by simp only [mulB];omega⟩,by decide,by decide,rfl,by decide,rfl,(show ∀ j,j < 2 → byteAt ⟨#[109,66]⟩ j < 128 by decide),(show ∀ j,0 < j → j < 2 → byteAt ⟨#[109,66]⟩ j = 98 ∨ byteAt ⟨#[109,66]⟩ j = 66 ∨ byteAt ⟨#[109,66]⟩ j = 105 from (fun j h0 h1 => (show ∀ j,j < 2 → 0 < j → byteAt ⟨#[109,66]⟩ j = 98 ∨ byteAt ⟨#[109,66]⟩ j = 66 ∨ byteAt ⟨#[109,66]⟩ j = 105 by decide) j h1 h0)),rfl⟩
theorem sfi_low2 : SfI ⟨#[103]⟩ (mulB 1000 (2 + 1)) := ⟨⟨_,_,ng_g,rfl,fun v => by simp only [mulB];omega⟩,by decide,by decide,rfl,by decide,rfl,(show ∀ j,j < 1 → byteAt ⟨#[103]⟩ j < 128 by decide),(fun j h0 h1 => absurd h1 (by show ¬ j < 1;omega)),rfl⟩
theorem sfi_up2 : SfI ⟨#[71]⟩ (mulB 1000 (2 + 1)) := ⟨⟨_,_,ng_g,rfl,fun v => by simp only [mulB];omega⟩,by decide,by decide,rfl,by decide,rfl,(show ∀ j,j < 1 → byteAt ⟨#[71]⟩ j < 128 by decide),(fun j h0 h1 => absurd h1 (by show ¬ j < 1;omega)),rfl⟩
theorem sfi_kib20 : SfI ⟨#[103,98]⟩ (mulB 1024 (2 + 1)) := ⟨⟨_,_,ng_gb,rfl,fun v => by simp only [mulB];omega⟩,by decide,by decide,rfl,by decide,rfl,(show ∀ j,j < 2 → byteAt ⟨#[103,98]⟩ j < 128 by decide),(show ∀ j,0 < j → j < 2 → byteAt ⟨#[103,98]⟩ j = 98 ∨ byteAt ⟨#[103,98]⟩ j = 66 ∨ byteAt ⟨#[103,98]⟩ j = 105 from (fun j h0 h1 => (show ∀ j,j < 2 → 0 < j → byteAt ⟨#[103,98]⟩ j = 98 ∨ byteAt ⟨#[103,98]⟩ j = 66 ∨ byteAt ⟨#[103,98]⟩ j = 105 by decide) j h1 h0)),rfl⟩
theorem sfi_kib21 : SfI ⟨#[103,105,98]⟩ (mulB 1024 (2 + 1)) := ⟨⟨_,_,ng_gib,rfl,fun v => by simp only [mulB];omega⟩,by decide,by decide,rfl,by decide,rfl,(show ∀ j,j < 3 → byteAt ⟨#[103,105,98]⟩ j < 128 by decide),(show ∀ j,0 < j → j < 3 → byteAt ⟨#[103,105,98]⟩ j = 98 ∨ byteAt ⟨#[103,105,98]⟩ j = 66 ∨ byteAt ⟨#[103,105,98]⟩ j = 105 from (fun j h0 h1 => (show ∀ j,j < 3 → 0 < j → byteAt ⟨#[103,105,98]⟩ j = 98 ∨ byteAt ⟨#[103,105,98]⟩ j = 66 ∨ byteAt ⟨#[103,105,98]⟩ j = 105 by decide) j h1 h0)),rfl⟩
theorem sfi_kib22 : SfI ⟨#[103,105]⟩ (mulB 1024 (2 + 1)) := ⟨⟨_,_,ng_gi,rfl,fun v => by simp only [mulB];omega⟩,by decide,by decide,rfl,by decide,rfl,(show ∀ j,j < 2 → byteAt ⟨#[103,105]⟩ j < 128 by decide),(show ∀ j,0 < j → j < 2 → byteAt ⟨#[103,105]⟩ j = 98 ∨ byteAt ⟨#[103,105]⟩ j = 66 ∨ byteAt ⟨#[103,105]⟩ j = 105 from (fun j h0 h1 => (show ∀ j,j < 2 → 0 < j → byteAt ⟨#[103,105]⟩ j = 98 ∨ byteAt ⟨#[103,105]⟩ j = 66 ∨ byteAt ⟨#[103,105]⟩ j = 105 by decide) j h1 h0)),rfl⟩
theorem sfi_kib23 : SfI ⟨#[103,66]⟩ (mulB 1024 (2 + 1)) := ⟨⟨_,_,ng_gb,rfl,fun v => by simp only [mulB];omega⟩,by decide,by decide,rfl,by decide,rfl,(show ∀ j,j < 2 → byteAt ⟨#[103,66]⟩ j < 128 by decide),(show ∀ j,0 < j → j < 2 → byteAt ⟨#[103,66]⟩ j = 98 ∨ byteAt ⟨#[103,66]⟩ j = 66 ∨ byteAt ⟨#[103,66]⟩ j = 105 from (fun j h0 h1 => (show ∀ j,j < 2 → 0 < j → byteAt ⟨#[103,66]⟩ j = 98 ∨ byteAt ⟨#[103,66]⟩ j = 66 ∨ byteAt ⟨#[103,66]⟩ j = 105 by decide) j h1 h0)),rfl⟩
theorem sfi_low3 : SfI ⟨#[116]⟩ (mulB 1000 (3 + 1)) := ⟨⟨_,_,ng_t,rfl,fun v => by simp only [mulB];omega⟩,by decide,by decide,rfl,by decide,rfl,(show ∀ j,j < 1 → byteAt ⟨#[116]⟩ j < 128 by decide),(fun j h0 h1 => absurd h1 (by show ¬ j < 1;omega)),rfl⟩
theorem sfi_up3 : SfI ⟨#[84]⟩ (mulB 1000 (3 + 1)) := ⟨⟨_,_,ng_t,rfl,fun v => by simp only [mulB];omega⟩,by decide,by decide,rfl,by decide,rfl,(show ∀ j,j < 1 → byteAt ⟨#[84]⟩ j < 128 by decide),(fun j h0 h1 => absurd h1 (by show ¬ j < 1;omega)),rfl⟩
theorem sfi_kib30 : SfI ⟨#[116,98]⟩ (mulB 1024 (3 + 1)) := ⟨⟨_,_,ng_tb,rfl,fun v => by simp only [mulB];omega⟩,by decide,by decide,rfl,by decide,rfl,(show ∀ j,j < 2 → byteAt ⟨#[116,98]⟩ j < 128 by decide),(show ∀ j,0 < j → j < 2 → byteAt ⟨#[116,98]⟩ j = 98 ∨ byteAt ⟨#[116,98]⟩ j = 66 ∨ byteAt ⟨#[116,98]⟩ j = 105 from (fun j h0 h1 => (show ∀ j,j < 2 → 0 < j → byteAt ⟨#[116,98]⟩ j = 98 ∨ byteAt ⟨#[116,98]⟩ j = 66 ∨ byteAt ⟨#[116,98]⟩ j = 105 by decide) j h1 h0)),rfl⟩
theorem sfi_kib31 : SfI ⟨#[116,105,98]⟩ (mulB 1024 (3 + 1)) := ⟨⟨_,_,ng_tib,rfl,fun v => by simp only [mulB];omega⟩,by decide,by decide,rfl,by decide,rfl,(show ∀ j,j < 3 → byteAt ⟨#[116,105,98]⟩ j < 128 by decide),(show ∀ j,0 < j → j < 3 → byteAt ⟨#[116,105,98]⟩ j = 98 ∨ byteAt ⟨#[116,105,98]⟩ j = 66 ∨ byteAt ⟨#[116,105,98]⟩ j = 105 from (fun j h0 h1 => (show ∀ j,j < 3 → 0 < j → byteAt ⟨#[116,105,98]⟩ j = 98 ∨ byteAt ⟨#[116,105,98]⟩ j = 66 ∨ byteAt ⟨#[116,105,98]⟩ j = 105 by decide) j h1 h0)),rfl⟩
theorem sfi_kib32 : SfI ⟨#[116,105]⟩ (mulB 1024 (3 + 1)) := ⟨⟨_,_,ng_ti,rfl,fun v => by simp only [mulB];omega⟩,by decide,by decide,rfl,by decide,rfl,(show ∀ j,j < 2 → byteAt ⟨#[116,105]⟩ j < 128 by decide),(show ∀ j,0 < j → j < 2 → byteAt ⟨#[116,105]⟩ j = 98 ∨ byteAt ⟨#[116,105]⟩ j = 66 ∨ byteAt ⟨#[116,105]⟩ j = 105 from (fun j h0 h1 => (show ∀ j,j < 2 → 0 < j → byteAt ⟨#[116,105]⟩ j = 98 ∨ byteAt ⟨#[116,105]⟩ j = 66 ∨ byteAt ⟨#[116,105]⟩ j = 105 by decide) j h1 h0)),rfl⟩
theorem sfi_kib33 : SfI ⟨#[116,66]⟩ (mulB 1024 (3 + 1)) := ⟨⟨_,_,ng_tb,rfl,fun v => by simp only [mulB];omega⟩,by decide,by decide,rfl,by decide,rfl,(show ∀ j,j < 2 → byteAt ⟨#[116,66]⟩ j < 128 by decide),(show ∀ j,0 < j → j < 2 → byteAt ⟨#[116,66]⟩ j = 98 ∨ byteAt ⟨#[116,66]⟩ j = 66 ∨ byteAt ⟨#[116,66]⟩ j = 105 from (fun j h0 h1 => (show ∀ j,j < 2 → 0 < j → byteAt ⟨#[116,66]⟩ j = 98 ∨ byteAt ⟨#[116,66]⟩ j = 66 ∨ byteAt ⟨#[116,66]⟩ j = 105 by decide) j h1 h0)),rfl⟩
theorem Sfx.item {sf : ByteArray} {u : Int} (h : Sfx sf u) : (sf = ⟨#[]⟩ ∧ u = 1) ∨ SfI sf u := by
 cases h with
 | one => exact .inl ⟨rfl,rfl⟩
 | low U hU =>
  right
  match U,hU with
  | 0,_ => exact sfi_low0
  | 1,_ => exact sfi_low1
  | 2,_ => exact sfi_low2
  | 3,_ => exact sfi_low3
 | up U hU =>
  right
  match U,hU with
  | 0,_ => exact sfi_up0
  | 1,_ => exact sfi_up1
  | 2,_ => exact sfi_up2
  | 3,_ => exact sfi_up3
 | kib U H hU hH =>
  right
  match U,H,hU,hH with
  | 0,0,_,_ => exact sfi_kib00
  | 0,1,_,_ => exact sfi_kib01
  | 0,2,_,_ => exact sfi_kib02
  | 0,3,_,_ => exact sfi_kib03
  | 1,0,_,_ => exact sfi_kib10
  | 1,1,_,_ => exact sfi_kib11
  | 1,2,_,_ => exact sfi_kib12
  | 1,3,_,_ => exact sfi_kib13
  | 2,0,_,_ => exact sfi_kib20
  | 2,1,_,_ => exact sfi_kib21
  | 2,2,_,_ => exact sfi_kib22
  | 2,3,_,_ => exact sfi_kib23
  | 3,0,_,_ => exact sfi_kib30
  | 3,1,_,_ => exact sfi_kib31
  | 3,2,_,_ => exact sfi_kib32
  | 3,3,_,_ => exact sfi_kib33
theorem mulB_pos {sf : ByteArray} {u : Int} (h : Sfx sf u) : 1 ≤ u := by
 cases h with
 | one => omega
 | low U hU => exact (mulB_bd true (U + 1) (by omega)).1
 | up U hU => exact (mulB_bd true (U + 1) (by omega)).1
 | kib U H hU hH => exact (mulB_bd false (U + 1) (by omega)).1
theorem works_intsp (hK : K.ped = false) (L : LX) (x : It) (hx : x.typ = 7) (n : Int) (h : IntSp n x.val) (hs : (⟨L,cx,ks⟩ : PX).Sets (.int n) ⟨L,cx1,ks1⟩) : Works K ⟨L,cx,ks⟩ x ⟨L,cx1,ks1⟩ := by
 obtain ⟨sg,m,sf,u,hv,hsf,hn,hb⟩ := h;have hu := mulB_pos hsf;have hmu : (m : Int) ≤ m * u := by
  have := Int.mul_le_mul_of_nonneg_left hu (Int.natCast_nonneg m);omega
 have hmu0 : (0 : Int) ≤ m * u := by omega
 have hm : m ≤ 4611686018427387904 := by omega
 rcases hsf.item with ⟨rfl,rfl⟩ | hI
 ·have hv2 : x.val = sg ++ decB m := hv.trans ByteArray.append_empty;refine works_ng0 hK L x hx sg m hv2 n ?_ hm hs;rcases hn with ⟨h1,h2⟩ | ⟨h1,h2⟩
  ·exact .inl ⟨h1,by omega⟩
  ·exact .inr ⟨h1,by omega⟩
 ·obtain ⟨low,f,I,hl,hf⟩ := hI.ex;rcases hn with ⟨h1,h2⟩ | ⟨h1,h2⟩
  ·exact works_ng I hK L x hx sg m sf hv m n (.inl ⟨h1,rfl⟩) hm hI.s0 hI.s3 hI.d hI.d2 hI.asc hI.trim hl (by rw [hf];exact h2.symm) (by omega) (by omega) hs
  ·exact works_ng I hK L x hx sg m sf hv (-(m : Int)) n (.inr ⟨h1,rfl⟩) hm hI.s0 hI.s3 hI.d hI.d2 hI.asc hI.trim hl (by rw [hf,h2,Int.neg_mul]) (by omega) (by omega) hs
end
section
variable {s : ByteArray} {p st : Nat} {stk sk : List Nat} {L : LX} {n : Nat}
theorem ld_num_tm (hp : p < s.size) (hst : st ≤ p) (e : tmB (byteAt s p)) (sk : List Nat) (n : Nat) (hk : stk = sk ++ [n]) (hl : sk.length ≤ 1000000) : Emits s p st stk (plainT 199) 7 (s.extract st p) (1 + (nlc s p : Nat)) p p sk (plainT n) := by
 rcases e with e | e | e | e | e
 ·exact ld_num_nl hp hst e sk n hk hl
 ·exact ld_num_ws hp hst e sk n hk hl
 ·exact ld_num_semi hp hst e sk n hk hl
 ·exact ld_num_comma hp hst e sk n hk hl
 ·exact ld_num_brace hp hst e sk n hk hl
theorem ld_suf_tm (hp : p < s.size) (hst : st ≤ p) (e : tmB (byteAt s p)) (sk : List Nat) (n : Nat) (hk : stk = sk ++ [n]) (hl : sk.length ≤ 1000000) : Emits s p st stk (plainT 212) 7 (s.extract st p) (1 + (nlc s p : Nat)) p p sk (plainT n) := by
 rcases e with e | e | e | e | e
 ·exact ld_suf_nl hp hst e sk n hk hl
 ·exact ld_suf_ws hp hst e sk n hk hl
 ·exact ld_suf_semi hp hst e sk n hk hl
 ·exact ld_suf_comma hp hst e sk n hk hl
 ·exact ld_suf_brace hp hst e sk n hk hl
theorem ld_neg_tm (hp : p < s.size) (hst : st ≤ p) (e : tmB (byteAt s p)) (sk : List Nat) (n : Nat) (hk : stk = sk ++ [n]) (hl : sk.length ≤ 1000000) : Emits s p st stk (plainT 198) 7 (s.extract st p) (1 + (nlc s p : Nat)) p p sk (plainT n) := by
 refine ld_neg_end hp hst ?_ ?_ ?_ sk n hk hl
 ·rcases e with e | e | e | e | e <;> rw [e] <;> rfl
 ·rcases e with e | e | e | e | e <;> rw [e] <;> rfl
 ·rcases e with e | e | e | e | e <;> rw [e] <;> decide
theorem rd_tail {f : Nat} {sf : ByteArray} {u : Int} (hsf : Sfx sf u) (h : Has s p sf) (hlt : p + sf.size < s.size) (hst : st ≤ p) (he : tmB (byteAt s (p + sf.size)))
  (hend : sf = ⟨#[]⟩ → Emits s p st stk (plainT f) 7 (s.extract st p) (1 + (nlc s p : Nat)) p p sk (plainT n))
  (hsuf : p < s.size → isDig (byteAt s p) = false → isSuf (byteAt s p) = true → byteAt s p ≠ 45 → byteAt s p ≠ 46 → Leads s p st stk (plainT f) (p + 1) st stk (plainT 212))
  (hk : stk = sk ++ [n]) (hl : sk.length ≤ 1000000) : ∃ line,Emits s p st stk (plainT f) 7 (s.extract st (p + sf.size)) line (p + sf.size) (p + sf.size) sk (plainT n) := by
 rcases hsf.item with ⟨rfl,_⟩ | hI
 ·exact ⟨_,hend rfl⟩
 ·have h0 := h.at 0 hI.s0;rw [Nat.add_zero] at h0;have hs0 := hI.s0;have l0 := hsuf (by omega) (by rw [h0];exact hI.d) (by rw [h0];exact hI.suf) (by rw [h0];exact hI.d2) (by rw [h0];intro e;have := hI.suf;rw [e] at this;exact absurd this (by decide))
  have l1 := leads_run (s := s) (p := p + 1) (st := st) (stk := stk) (f := 212) (Q := fun c => c = 98 ∨ c = 66 ∨ c = 105) (fun p hp hq => by
   rcases hq with hq | hq | hq
   ·exact ld_suf_b hp hq
   ·exact ld_suf_B hp hq
   ·exact ld_suf_i hp hq) (sf.size - 1) (by omega) (fun i hi => by
   have := h.at (i + 1) (by omega);rw [show p + 1 + i = p + (i + 1) from by omega,this]
   exact hI.rest (i + 1) (by omega) (by omega))
  rw [show p + 1 + (sf.size - 1) = p + sf.size from by omega] at l1;exact ⟨_,(l0.trans l1).emits (ld_suf_tm hlt (by omega) he sk n hk hl)⟩
theorem rd_int {v : Int} {T : ByteArray} (hsp : IntSp v T) (h : Has s p T) (hlt : p + T.size < s.size) (he : tmB (byteAt s (p + T.size))) (hk : stk = sk ++ [n]) (hl : sk.length ≤ 1000000) :
  ∃ line,Emits s p p stk (plainT 174) 7 T line (p + T.size) (p + T.size) sk (plainT n) := by
 obtain ⟨sg,m,sf,u,rfl,hsf,hn,hb⟩ := hsp;have hu := mulB_pos hsf;have hmu : (m : Int) ≤ m * u := by
  have := Int.mul_le_mul_of_nonneg_left hu (Int.natCast_nonneg m);omega
 have hz := decB_small m (by omega);have hd := decB_dig m;have hall := h.ext;have h1 := h.left.left;have h2 := h.left.right;have h3 := h.right;have hsz : (sg ++ decB m ++ sf).size = sg.size + (decB m).size + sf.size := by rw [bsa,bsa]
 rw [bsa,← Nat.add_assoc] at h3;rw [hsz] at hlt he hall ⊢;rw [show p + (sg.size + (decB m).size + sf.size) = p + sg.size + (decB m).size + sf.size from by omega] at hlt he hall ⊢;have hd0 := h2.at 0 hz.1;rw [Nat.add_zero] at hd0;have hdd0 := hd 0 hz.1;rw [← hd0] at hdd0;rcases hn with ⟨rfl,_⟩ | ⟨rfl,_⟩
 ·have hs0 : (⟨#[]⟩ : ByteArray).size = 0 := rfl;rw [hs0,Nat.add_zero] at h2 h3 hlt he hall hdd0 ⊢;have l0 : Leads s p p stk (plainT 174) p p stk (plainT 186) := ld_val_dig (by omega) (by simp [isWS];omega) (dig_true hdd0) hdd0;have l1 : Leads s p p stk (plainT 186) (p + 1) p stk (plainT 199) := ld_num_start (by omega) (dig_true hdd0)
  have l2 := leads_digits (s := s) (p := p + 1) (st := p) (stk := stk) ((decB m).size - 1) (by omega) (fun i hi => by
   rw [show p + 1 + i = p + (i + 1) from by omega,h2.at (i + 1) (by omega)]
   exact hd (i + 1) (by omega))
  rw [show p + 1 + ((decB m).size - 1) = p + (decB m).size from by omega] at l2;obtain ⟨line,E⟩ := rd_tail (st := p) (f := 199) (stk := stk) hsf h3 hlt (by omega) he (fun e => ld_num_tm (by omega) (by omega) (by subst e;exact he) sk n hk hl) (fun h1 h2 h3 h4 h5 => ld_num_suf h1 h2 h3 h4 h5) hk hl;rw [hall] at E;exact ⟨line,(l0.trans (l1.trans l2)).emits E⟩
 ·have hs1 : (⟨#[45]⟩ : ByteArray).size = 1 := rfl;have e45 : byteAt s p = 45 := h1.at 0 (by decide);rw [hs1] at h2 h3 hlt he hall hdd0 ⊢;have l0 : Leads s p p stk (plainT 174) (p + 1) p stk (plainT 184) := ld_val_neg (by omega) e45;have l1 : Leads s (p + 1) p stk (plainT 184) (p + 1 + 1) p stk (plainT 198) := ld_neg_start (by omega) (dig_true hdd0)
  have l2 := leads_run (s := s) (p := p + 1 + 1) (st := p) (stk := stk) (f := 198) (Q := fun c => isDig c = true) (fun p hp hq => ld_neg_dig hp hq) ((decB m).size - 1) (by omega) (fun i hi => by
   rw [show p + 1 + 1 + i = p + 1 + (i + 1) from by omega,h2.at (i + 1) (by omega)]
   exact dig_true (hd (i + 1) (by omega)))
  rw [show p + 1 + 1 + ((decB m).size - 1) = p + 1 + (decB m).size from by omega] at l2;obtain ⟨line,E⟩ := rd_tail (st := p) (f := 198) (stk := stk) hsf h3 hlt (by omega) he (fun e => ld_neg_tm (by omega) (by omega) (by subst e;exact he) sk n hk hl) (fun h1 h2 h3 _ h5 => ld_neg_suf h1 h2 h3 h5) hk hl;rw [hall] at E;exact ⟨line,(l0.trans (l1.trans l2)).emits E⟩
end
section
variable {p ev : Nat} {A A' : LW} {x : It} {lab labg labg' : Lab} {w w' : World}
end
section
variable {K : PK} {L : LX} {ks : List ByteArray} {lab : Lab} {w : World} {n : Nat} {its : List Value} {k : ByteArray}
end
attribute [local go_sem ↓] mk75z mk61
section
variable {B : Nat} {lab lab1 : Lab} {w w1 : World} {K : PK} {X X' : PX} {M : Nat → Prop}
set_option maxRecDepth 100000 in
set_option maxHeartbeats 1000000 in
theorem item_str (h : PAt B lab w K X) (hB : B ≤ w.heap.size) (hped : K.ped = false) (xv : ByteArray) (xl xp : Int) (hs : X.Sets (.txt xv) X') :
  Calls Tryz.prog 57 #[.pointer (some ⟨K.p,0,none⟩),.agg #[i64 (5 : Nat),.string xv,i64 xl,i64 xp],.string { data := #[] }] w fun e w' => e = .returned .nilIface ∧ ∃ lab',PAt B lab' w' K X' ∧ Mv PM w lab w' lab' := by
 obtain ⟨lab1,hb,m1⟩ := h.boxed hB 5 xv xl xp;have HC := Lib.hid (lay_c hb.pat hb.hB hped hs 9 (.string xv) rfl _ (w.heap.size + 1 + 1) hb.b0 5 xv xl xp);clear hb;go_enter Tryz.func57,Tryz.ntmps57;go_wp2_with fail;refine HC.out.mono ?_;rintro e w6 ⟨rfl,lab6,h6,m6⟩;go_wp2;go_ret;exact ⟨rfl,lab6,h6,m1.trans m6 (fun _ h => h)⟩
set_option maxRecDepth 100000 in
set_option maxHeartbeats 1000000 in
theorem item_cmt14 (h : PAt B lab w K X) (hB : B ≤ w.heap.size) (xv : ByteArray) (xl xp : Int) :
  Calls Tryz.prog 57 #[.pointer (some ⟨K.p,0,none⟩),.agg #[i64 (14 : Nat),.string xv,i64 xl,i64 xp],.string { data := #[] }] w fun e w' => e = .returned .nilIface ∧ ∃ lab',PAt B lab' w' K X ∧ Mv PM w lab w' lab' := by
 obtain ⟨lab1,hb,m1⟩ := h.boxed hB 14 xv xl xp;have HB := Lib.hid hb.pat;clear hb;go_enter Tryz.func57,Tryz.ntmps57;go_wp2;go_ret;exact ⟨rfl,lab1,HB.out,m1⟩
set_option maxRecDepth 100000 in
set_option maxHeartbeats 1000000 in
theorem item_cmt4 (h : PAt B lab w K X) (hB : B ≤ w.heap.size) (xv : ByteArray) (xl xp : Int) :
  Calls Tryz.prog 57 #[.pointer (some ⟨K.p,0,none⟩),.agg #[i64 (4 : Nat),.string xv,i64 xl,i64 xp],.string { data := #[] }] w fun e w' => e = .returned .nilIface ∧ ∃ lab',PAt B lab' w' K X ∧ Mv PM w lab w' lab' := by
 obtain ⟨lab1,hb,m1⟩ := h.boxed hB 4 xv xl xp;have HB := Lib.hid hb.pat;clear hb;go_enter Tryz.func57,Tryz.ntmps57;go_wp2;go_ret;exact ⟨rfl,lab1,HB.out,m1⟩
set_option maxRecDepth 100000 in
set_option maxHeartbeats 1000000 in
theorem item_list (h : PAt B lab w K X) (hB : B ≤ w.heap.size) (hl : X.cx.length ≤ 1000000) (hne : X.cx ≠ []) (xv : ByteArray) (xl xp : Int) :
  Calls Tryz.prog 57 #[.pointer (some ⟨K.p,0,none⟩),.agg #[i64 (10 : Nat),.string xv,i64 xl,i64 xp],.string { data := #[] }] w fun e w' => e = .returned .nilIface ∧ ∃ lab',PAt B lab' w' K { X with cx := .arr [] :: X.cx } ∧ Mv PM w lab w' lab' := by
 obtain ⟨lab1,hb,m1⟩ := h.boxed hB 10 xv xl xp;have m2 : Mv (fun _ => False) (Boxed w K 10 xv xl xp) lab1 ((Boxed w K 10 xv xl xp).alloc (.cells #[] 20)) (lab1.ext (Boxed w K 10 xv xl xp).heap.size (10 + X.cx.length)) := Mv.alloc _ _ _ _;have hrw := row_new (B := B) (Boxed w K 10 xv xl xp) lab1 (10 + X.cx.length) 20 1 0 #[] hb.hB (by unfold maxLen;omega) rfl;have hp2 := hb.pat.mv m2 (fun _ _ h => h);have HC := pushContext_c hp2 (Nat.le_trans hb.hB m2.size) hl (.arr []) 75 _ ⟨_,[],rfl,hrw,trivial⟩ (fun e => absurd e hne);have m12 := m1.trans m2 (fun _ h => h.elim);have hWs : (Boxed w K 10 xv xl xp).heap.size = w.heap.size + 1 + 1 + 1 := by unfold Boxed;simp [World.size_alloc]
 rw [hWs] at HC m12;have HCH := Lib.hid HC;have HB := Lib.hid hb;clear m2 hrw hp2 m1 HC hb hWs;go_enter Tryz.func57,Tryz.ntmps57;go_wp2_with fail;refine HCH.out.mono ?_;rintro e w6 ⟨rfl,lab6,h6,m6⟩;go_wp2;go_ret;exact ⟨rfl,lab6,h6,m12.trans m6 (fun _ h => h)⟩
set_option maxRecDepth 100000 in
set_option maxHeartbeats 1000000 in
theorem item_map (h : PAt B lab w K X) (hB : B ≤ w.heap.size) (hl : X.cx.length ≤ 1000000) (hne : X.cx ≠ []) (xv : ByteArray) (xl xp : Int) :
  Calls Tryz.prog 57 #[.pointer (some ⟨K.p,0,none⟩),.agg #[i64 (12 : Nat),.string xv,i64 xl,i64 xp],.string { data := #[] }] w fun e w' => e = .returned .nilIface ∧ ∃ lab',PAt B lab' w' K { X with cx := .map [] :: X.cx } ∧ Mv PM w lab w' lab' := by
 obtain ⟨lab1,hb,m1⟩ := h.boxed hB 12 xv xl xp;have m2 : Mv (fun _ => False) (Boxed w K 12 xv xl xp) lab1 ((Boxed w K 12 xv xl xp).alloc (.map #[] 0)) (lab1.ext (Boxed w K 12 xv xl xp).heap.size (10 + X.cx.length)) := Mv.alloc _ _ _ _;have hrw := map_new (Boxed w K 12 xv xl xp) lab1 (10 + X.cx.length);have hp2 := hb.pat.mv m2 (fun _ _ h => h);have HC := pushContext_c hp2 (Nat.le_trans hb.hB m2.size) hl (.map []) 61 _ ⟨_,[],rfl,hrw,rfl,trivial⟩ (fun e => absurd e hne);have m12 := m1.trans m2 (fun _ h => h.elim);have hWs : (Boxed w K 12 xv xl xp).heap.size = w.heap.size + 1 + 1 + 1 := by unfold Boxed;simp [World.size_alloc]
 rw [hWs] at HC m12;have HCH := Lib.hid HC;have HB := Lib.hid hb;clear m2 hrw hp2 m1 HC hb hWs;go_enter Tryz.func57,Tryz.ntmps57;go_wp2_with fail;refine HCH.out.mono ?_;rintro e w6 ⟨rfl,lab6,h6,m6⟩;go_wp2;go_ret;exact ⟨rfl,lab6,h6,m12.trans m6 (fun _ h => h)⟩
def CJ.jv : CJ → JV
 | .map m => .map (m.map (·.1)) (m.map (·.2))
 | .arr l => .arr l
theorem CAt.close {ℓ : Nat} {c : CJ} {v : Value} (h : CAt B ℓ lab w c v) (h6 : ℓ ≠ 6) : isJ B (fun k => if lab k = ℓ then 6 else lab k) w c.jv v := by
 have m : Mv (fun x => x = ℓ) w lab w (fun k => if lab k = ℓ then 6 else lab k) := ⟨rfl,rfl,rfl,Nat.le_refl _,fun _ _ _ => rfl,fun k _ hn => if_neg hn⟩;have hm6 : ¬ (fun x => x = ℓ) 6 := fun e => h6 e.symm
 cases c with
 | map l =>
  obtain ⟨b,t,rfl,hp,ht,hj⟩ := h;have e1 : t.map (·.1) = l.map (·.1) := by rw [← ht,List.map_map];rfl
  have e2 : t.map (·.2.1) = l.map (·.2) := by rw [← ht,List.map_map];rfl
  have hj2 := isJs.mv m hm6 _ _ hj;rw [e2] at hj2;exact ⟨b,t,rfl,⟨hp.1,if_pos hp.2⟩,e1,e2,hj2⟩
 | arr l =>
  obtain ⟨s,xs,rfl,hr,hj⟩ := h;exact ⟨s,xs,rfl,⟨hr.1,fun k hk => if_pos (hr.2 k hk)⟩,isJs.mv m hm6 _ _ hj⟩
theorem PAt.relab (h : PAt B lab w K X) (ℓ : Nat) (hℓ : 10 + X.cx.length ≤ ℓ) : PAt B (fun k => if lab k = ℓ then 6 else lab k) w K X ∧ Mv PM w lab w (fun k => if lab k = ℓ then 6 else lab k) := by
 have m : Mv (fun x => x = ℓ) w lab w (fun k => if lab k = ℓ then 6 else lab k) := ⟨rfl,rfl,rfl,Nat.le_refl _,fun _ _ _ => rfl,fun k _ hn => if_neg hn⟩;obtain ⟨top,cv,kv,vs,h⟩ := h;refine ⟨⟨top,cv,kv,vs,h.cl.mv m (by omega),h.lx.mv m (by omega),h.cv.mv m (by omega),h.kv.mv m (by omega),h.cs.mv m (by omega) (fun i hi => by omega),h.top,h.root⟩,m.mono (fun x hx => by subst hx;exact ⟨by omega,by omega,by omega⟩)⟩
end
end Go.Cf
namespace Go.Cf
open Go.RowKit Go.Conc Go.Proofs
section
variable {K : PK} {s : ByteArray} {p st : Nat} {stk sk : List Nat} {cx cx1 fin : List CJ} {ks ks1 : List ByteArray} {pt n : Nat}
theorem works_str (hK : K.ped = false) (L : LX) (x : It) (hx : x.typ = 5) (hs : (⟨L,cx,ks⟩ : PX).Sets (.txt x.val) ⟨L,cx1,ks1⟩) : Works K ⟨L,cx,ks⟩ x ⟨L,cx1,ks1⟩ := by
 intro B lab w hB hp _;obtain ⟨xt,xv,xl,xp⟩ := x;obtain rfl : xt = 5 := hx;exact item_str hp hB hK xv xl xp hs
theorem works_cmt14 (L : LX) (x : It) (hx : x.typ = 14) : Works K ⟨L,cx,ks⟩ x ⟨L,cx,ks⟩ := by
 intro B lab w hB hp _;obtain ⟨xt,xv,xl,xp⟩ := x;obtain rfl : xt = 14 := hx;exact item_cmt14 hp hB xv xl xp
theorem works_cmt4 (L : LX) (x : It) (hx : x.typ = 4) : Works K ⟨L,cx,ks⟩ x ⟨L,cx,ks⟩ := by
 intro B lab w hB hp _;obtain ⟨xt,xv,xl,xp⟩ := x;obtain rfl : xt = 4 := hx;exact item_cmt4 hp hB xv xl xp
theorem fd_cmt (k : Nat) (hst : st ≤ p) (hk : p + k < s.size) (hc : ∀ i,i < k → isNLb (byteAt s (p + i)) = false ∧ byteAt s (p + i) ≠ 0) (e : byteAt s (p + k) = 10) (hl : sk.length ≤ 1000000)
  (rest : Fd K s (p + k) (p + k) sk (plainT n) cx ks 4 fin) : Fd K s p st (sk ++ [n]) (plainT 90) cx ks pt fin := by
 refine Fd.step (ld_cs_go hst) (by decide) (fun L x h1 _ _ => works_cmt14 L x h1) ?_;have l1 := leads_run (s := s) (p := p) (st := p) (stk := sk ++ [n]) (f := 130) (Q := fun c => isNLb c = false ∧ c ≠ 0) (fun p hp hq => ld_cm_ch hp hq.1 hq.2) k (by omega) hc;refine Fd.lead l1 (Fd.step (ld_cm_nl hk (by omega) e sk n rfl hl) (by decide) (fun L x h1 _ _ => works_cmt4 L x h1) rest)
def vsB (c : Nat) : Prop := isSp c = false ∧ isSep c = false ∧ c ≠ 0
theorem ld_sep (j : Nat) (hj : j < 6) (h : Has s p (sepT j)) (hlt : p + (sepT j).size < s.size) (hv : vsB (byteAt s (p + (sepT j).size))) : Leads s p p stk (plainT 163) (p + (sepT j).size) (p + (sepT j).size) stk (plainT 174) := by
 obtain ⟨v1,v2,v3⟩ := hv
 match j,hj with
 | 0,_ =>
  have hle : p + 3 < s.size := hlt;have b0 : byteAt s p = 32 := h.at 0 (by decide);have b1 : byteAt s (p + 1) = 61 := h.at 1 (by decide);have b2 : byteAt s (p + 2) = 32 := h.at 2 (by decide);exact (((ld_ke_sp (by omega) (by rw [b0];rfl)).trans (ld_skip 163)).trans ((ld_ke_sep (by omega) (by rw [b1];rfl) (by rw [b1];rfl)).trans (ld_skip 174))).trans ((ld_val_ws (by omega) (by rw [show p + 1 + 1 = p + 2 from rfl,b2];rfl)).trans (ld_skip 174))
 | 1,_ =>
  have hle : p + 1 < s.size := hlt;have b0 : byteAt s p = 61 := h.at 0 (by decide);exact (ld_ke_sep (by omega) (by rw [b0];rfl) (by rw [b0];rfl)).trans (ld_skip 174)
 | 2,_ =>
  have hle : p + 2 < s.size := hlt;have b0 : byteAt s p = 58 := h.at 0 (by decide);have b1 : byteAt s (p + 1) = 32 := h.at 1 (by decide);exact ((ld_ke_sep (by omega) (by rw [b0];rfl) (by rw [b0];rfl)).trans (ld_skip 174)).trans ((ld_val_ws (by omega) (by rw [b1];rfl)).trans (ld_skip 174))
 | 3,_ =>
  have hle : p + 1 < s.size := hlt;have b0 : byteAt s p = 58 := h.at 0 (by decide);exact (ld_ke_sep (by omega) (by rw [b0];rfl) (by rw [b0];rfl)).trans (ld_skip 174)
 | 4,_ =>
  have hle : p + 1 < s.size := hlt;have b0 : byteAt s p = 32 := h.at 0 (by decide);exact ((ld_ke_sp (by omega) (by rw [b0];rfl)).trans (ld_skip 163)).trans (ld_ke_other hle v1 v2 v3)
 | 5,_ =>
  have hle : p + 3 < s.size := hlt;have b0 : byteAt s p = 32 := h.at 0 (by decide);have b1 : byteAt s (p + 1) = 32 := h.at 1 (by decide);have b2 : byteAt s (p + 2) = 32 := h.at 2 (by decide);exact (((ld_ke_sp (by omega) (by rw [b0];rfl)).trans (ld_skip 163)).trans ((ld_ke_sp (by omega) (by rw [b1];rfl)).trans (ld_skip 163))).trans (((ld_ke_sp (by omega) (by rw [show p + 1 + 1 = p + 2 from rfl,b2];rfl)).trans (ld_skip 163)).trans (ld_ke_other hle v1 v2 v3))
theorem sep_first (j : Nat) (hj : j < 6) : 0 < (sepT j).size ∧ (isSp (byteAt (sepT j) 0) = true ∨ (isSp (byteAt (sepT j) 0) = false ∧ isSep (byteAt (sepT j) 0) = true)) := by
 match j,hj with
 | 0,_ => decide
 | 1,_ => decide
 | 2,_ => decide
 | 3,_ => decide
 | 4,_ => decide
 | 5,_ => decide
end
section
variable {B : Nat} {lab lab1 : Lab} {w w1 : World} {K : PK} {X X' : PX} {M : Nat → Prop} {L : LX} {c2 : CJ} {cs : List CJ} {ks : List ByteArray}
set_option maxRecDepth 100000 in
set_option maxHeartbeats 400000 in
theorem popTop_c (c c2 : CJ) (cs : List CJ) {top cv kv : Value} {vs : List Value} (h : PAtX B lab w K X top cv kv vs) (hcx : X.cx = c :: c2 :: cs) (hlen : cs.length ≤ 1000000) :
  Calls Tryz.prog 66 #[.pointer (some ⟨K.p,0,none⟩)] w fun e w' => e = .returned top ∧ CAt B (11 + cs.length) lab w' c top ∧ PAt B lab w' K { X with cx := c2 :: cs } ∧ Mv (· = 2) w lab w' lab := by
 have hcs := h.cs;rw [hcx] at hcs;obtain ⟨v,v2,vs',rfl⟩ : ∃ v v2 vs',vs = v :: v2 :: vs' := by
  match vs,hcs with
  | v :: v2 :: vs',_ => exact ⟨v,v2,vs',rfl⟩
  | [_],h => exact h.2.elim
 have hvl : vs'.length = cs.length := hcs.2.2.length;obtain rfl : top = v := by
  rcases h.top with h | h
  ·exact (Option.some.inj h).symm
  ·cases h
 have hown := h.cv;simp only [List.length_cons,List.reverse_cons,List.append_assoc,List.cons_append,List.nil_append] at hown;obtain ⟨g,cap,rfl,hcap,hmx,hcell,cur,hgb⟩ := own_open hown.1 (by omega);have hl1 := hcell (vs'.length + 1) top (by simp);have hl2 := hcell vs'.length v2 (by simp);have hown2 := Rw.shorter (m := vs'.length + 1) (xs := vs'.reverse ++ [v2]) (ys := [top]) (by simpa using hown) (by simp) (by omega);have c3 : w.cell? ⟨K.p,3,none⟩ = some (.slice (some ⟨g,0,none⟩) (vs'.length + 1 + 1) cap) := h.cl.cell 3;have f3 : w.frozen? ⟨K.p,3,none⟩ = false := h.cl.free 3;have c2' : w.cell? ⟨K.p,2,none⟩ = some top := h.cl.cell 2;have f2' : w.frozen? ⟨K.p,2,none⟩ = false := h.cl.free 2;have hne : g ≠ K.p := (h.cl.ne (hown.2 g rfl) (by decide)).symm;have m23 : Mv (· = 2) w lab ((w.setCell ⟨K.p,3,none⟩ (.slice (some ⟨g,0,none⟩) (vs'.length + 1) cap)).setCell ⟨K.p,2,none⟩ v2) lab := (Mv.setCell _ _ _ _ h.cl.2).trans (Mv.setCell _ _ _ _ h.cl.2) (fun _ h => h);have key : PAt B lab ((w.setCell ⟨K.p,3,none⟩ (.slice (some ⟨g,0,none⟩) (vs'.length + 1) cap)).setCell ⟨K.p,2,none⟩ v2) K { X with cx := c2 :: cs } := by
  refine ⟨v2,.slice (some ⟨g,0,none⟩) (vs'.length + 1) cap,kv,v2 :: vs',?_⟩
  exact {
   cl := (h.cl.set 3 _).set 2 _
   lx := h.lx.mv m23 (by decide)
   cv := by simpa using hown2.mv m23 (by decide)
   kv := h.kv.mv m23 (by decide)
   cs := hcs.2.mv m23 (by decide) (fun i _ => by omega)
   top := .inl rfl
   root := fun u hu => h.root u (by simpa using hu) }
 have kc : CAt B (11 + cs.length) lab ((w.setCell ⟨K.p,3,none⟩ (.slice (some ⟨g,0,none⟩) (vs'.length + 1) cap)).setCell ⟨K.p,2,none⟩ v2) c top := by
  have := hcs.1.mv m23 (by simp;omega) (by decide);simpa [Nat.add_comm,Nat.add_left_comm,← Nat.add_assoc] using this
 obtain ⟨t2,u2,rfl⟩ : ∃ t u,v2 = .iface t u := hcs.2.1.form;obtain ⟨t1,u1,rfl⟩ : ∃ t u,top = .iface t u := hcs.1.form;clear hown hown2 h hcell hgb hcs;have hpos : ((vs'.length : Int) + 1 + 1 == 0) = false := by simp;omega
 have hc2 : vs'.length + 1 ≤ cap := by omega
 unfold maxLen at hmx;have HK := Lib.hid hcx;have HV := Lib.hid hvl;have hsm : (vs'.length : Int) < 9223372036854775808 := by omega
 have hw : IntKind.wrap .i64 ((vs'.length : Nat) : Int) = ((vs'.length : Nat) : Int) := by
  simp [IntKind.wrap,IntKind.bits,IntKind.signed];omega
 have i0 : (0 : Int) ≤ ((vs'.length : Nat) : Int) := by omega
 have i1 : ((vs'.length : Nat) : Int) < ((vs'.length : Nat) : Int) + 1 := by omega
 have i2 : ((vs'.length : Nat) : Int) < ((vs'.length + 1 : Nat) : Int) := by omega
 clear hcx hvl;go_enter Tryz.func66,Tryz.ntmps66;go_wp2;refine wp_still_tail 15 mixed (by kernel_rfl) ?_;simp only [List.take_succ_cons,List.take_zero,List.drop_succ_cons,List.drop_zero]
 repeat still_step
 refine wpStill_nil ?_;go_wp2;go_ret;have md : ∀ W,Mv (fun _ => False) W lab W.drew lab := fun W => Mv.aDraw _ W lab
 exact ⟨rfl,kc.mv (md _) (fun h => h) (fun h => h),key.mv (md _) (fun _ _ h => h),m23.trans (md _) (fun _ h => h.elim)⟩
set_option maxRecDepth 100000 in
set_option maxHeartbeats 1000000 in
theorem item_mapend (m : List (ByteArray × JV)) (h : PAt B lab w K ⟨L,.map m :: c2 :: cs,ks⟩) (hB : B ≤ w.heap.size) (hped : K.ped = false) (hlen : cs.length ≤ 1000000) (xv : ByteArray) (xl xp : Int) (hs : (⟨L,c2 :: cs,ks⟩ : PX).Sets (CJ.map m).jv X') :
  Calls Tryz.prog 57 #[.pointer (some ⟨K.p,0,none⟩),.agg #[i64 (13 : Nat),.string xv,i64 xl,i64 xp],.string { data := #[] }] w fun e w' => e = .returned .nilIface ∧ ∃ lab',PAt B lab' w' K X' ∧ Mv PM w lab w' lab' := by
 obtain ⟨lab1,hb,m1⟩ := h.boxed hB 13 xv xl xp;have md : Mv (fun _ => False) (Boxed w K 13 xv xl xp) lab1 (Boxed w K 13 xv xl xp).drew lab1 := Mv.aDraw _ _ _;have hbd := hb.mv (hb.pat.mv md (fun _ _ h => h)) (md.mono (fun _ h => h.elim));obtain ⟨top,cv,kv,vs,hx⟩ := id hbd.pat;have HP := Lib.hid (popTop_c (.map m) c2 cs hx rfl hlen);have HB := Lib.hid hbd;have HM := Lib.hid (m1.trans md (fun _ h => h.elim));have d0 : (Boxed w K 13 xv xl xp).drew.cell? ⟨w.heap.size,0,none⟩ = some (.pointer (some ⟨K.p,0,none⟩)) := hbd.b0.cell 0;have d1 : (Boxed w K 13 xv xl xp).drew.cell? ⟨w.heap.size + 1,0,none⟩ = some (i64 (13 : Nat)) := hbd.b1.cell 0;have d2 : (Boxed w K 13 xv xl xp).drew.cell? ⟨w.heap.size + 1,1,none⟩ = some (.string xv) := hbd.b1.cell 1;have d3 : (Boxed w K 13 xv xl xp).drew.cell? ⟨w.heap.size + 1,2,none⟩ = some (i64 xl) := hbd.b1.cell 2;have d4 : (Boxed w K 13 xv xl xp).drew.cell? ⟨w.heap.size + 1,3,none⟩ = some (i64 xp) := hbd.b1.cell 3;clear hx hbd hb m1 md;go_enter Tryz.func57,Tryz.ntmps57;go_wp2_with fail
 go_region_law (first
  | (
   go_simp
   go_at_call 66
   refine HP.out.mono ?_;rintro e w5 ⟨rfl,hc,hp,m5⟩;obtain ⟨hr,mr⟩ := hp.relab (11 + cs.length) (by simp only [List.length_cons];omega);have hj := hc.close (by omega);obtain ⟨t,u,rfl⟩ := hc.form;have m05 := (m5.mono (M' := PM) (fun x hx => by subst hx;decide)).trans mr (fun _ h => h);have HC := Lib.hid (lay_c hr (Nat.le_trans HB.out.hB m5.size) hped hs t u hj _ (w.heap.size + 1 + 1) (HB.out.b0.mv m05 (by simp [PM])) 13 xv xl xp);have HMM := Lib.hid (HM.out.trans m05 (fun _ h => h));have f1 : w5.cell? ⟨w.heap.size + 1,0,none⟩ = some (i64 (13 : Nat)) := (HB.out.b1.mv m05 (by simp [PM])).cell 0;have f2 : w5.cell? ⟨w.heap.size + 1,1,none⟩ = some (.string xv) := (HB.out.b1.mv m05 (by simp [PM])).cell 1;have f3 : w5.cell? ⟨w.heap.size + 1,2,none⟩ = some (i64 xl) := (HB.out.b1.mv m05 (by simp [PM])).cell 2;have f4 : w5.cell? ⟨w.heap.size + 1,3,none⟩ = some (i64 xp) := (HB.out.b1.mv m05 (by simp [PM])).cell 3
   clear hc hp m5 hr mr hj m05)
  | (
   go_simp
   go_at_call 62
   refine HC.out.mono ?_
   rintro e w6 ⟨rfl,lab6,h6,m6⟩))
 all_goals
  go_wp2;go_ret;exact ⟨rfl,lab6,h6,HMM.out.trans m6 (fun _ h => h)⟩
end
section
variable {B : Nat} {lab lab1 : Lab} {w w1 : World} {K : PK} {X X' : PX} {M : Nat → Prop} {L : LX} {c2 : CJ} {cs : List CJ} {ks : List ByteArray}
set_option maxRecDepth 100000 in
set_option maxHeartbeats 1000000 in
theorem item_listend (l : List JV) (h : PAt B lab w K ⟨L,.arr l :: c2 :: cs,ks⟩) (hB : B ≤ w.heap.size) (hped : K.ped = false) (hlen : cs.length ≤ 1000000) (xv : ByteArray) (xl xp : Int) (hs : (⟨L,c2 :: cs,ks⟩ : PX).Sets (CJ.arr l).jv X') :
  Calls Tryz.prog 57 #[.pointer (some ⟨K.p,0,none⟩),.agg #[i64 (11 : Nat),.string xv,i64 xl,i64 xp],.string { data := #[] }] w fun e w' => e = .returned .nilIface ∧ ∃ lab',PAt B lab' w' K X' ∧ Mv PM w lab w' lab' := by
 obtain ⟨lab1,hb,m1⟩ := h.boxed hB 11 xv xl xp;obtain ⟨top,cv,kv,vs,hx⟩ := id hb.pat;have HP := Lib.hid (popTop_c (.arr l) c2 cs hx rfl hlen);have HB := Lib.hid hb;have HM := Lib.hid m1;have c2' : (((w.alloc (.cells #[.pointer (some ⟨K.p,0,none⟩)] 71)).alloc (.cells #[i64 11,.string xv,i64 xl,i64 xp] 98)).alloc (.cells #[.string { data := #[] }] 9)).cell? ⟨K.p,2,none⟩ = some top := hx.cl.cell 2;have d0 : (((w.alloc (.cells #[.pointer (some ⟨K.p,0,none⟩)] 71)).alloc (.cells #[i64 11,.string xv,i64 xl,i64 xp] 98)).alloc (.cells #[.string { data := #[] }] 9)).cell? ⟨w.heap.size,0,none⟩ = some (.pointer (some ⟨K.p,0,none⟩)) := hb.b0.cell 0;clear hx hb m1;go_enter Tryz.func57,Tryz.ntmps57;go_wp2_with fail;refine HP.out.mono ?_;rintro e w5 ⟨rfl,hc,hp,m5⟩;obtain ⟨hr,mr⟩ := hp.relab (11 + cs.length) (by simp only [List.length_cons];omega);have hj := hc.close (by omega);obtain ⟨t,u,rfl⟩ := hc.form;have m05 := (m5.mono (M' := PM) (fun x hx => by subst hx;decide)).trans mr (fun _ h => h);have HC := Lib.hid (lay_c hr (Nat.le_trans HB.out.hB m5.size) hped hs t u hj _ (w.heap.size + 1 + 1) (HB.out.b0.mv m05 (by simp [PM])) 11 xv xl xp);have HMM := Lib.hid (HM.out.trans m05 (fun _ h => h));have f1 : w5.cell? ⟨w.heap.size + 1,0,none⟩ = some (i64 (11 : Nat)) := (HB.out.b1.mv m05 (by simp [PM])).cell 0;have f2 : w5.cell? ⟨w.heap.size + 1,1,none⟩ = some (.string xv) := (HB.out.b1.mv m05 (by simp [PM])).cell 1;have f3 : w5.cell? ⟨w.heap.size + 1,2,none⟩ = some (i64 xl) := (HB.out.b1.mv m05 (by simp [PM])).cell 2;have f4 : w5.cell? ⟨w.heap.size + 1,3,none⟩ = some (i64 xp) := (HB.out.b1.mv m05 (by simp [PM])).cell 3;clear hc hp m5 hr mr hj m05 c2' d0;go_wp2_with fail;refine HC.out.mono ?_;rintro e w6 ⟨rfl,lab6,h6,m6⟩;go_wp2;go_ret;exact ⟨rfl,lab6,h6,HMM.out.trans m6 (fun _ h => h)⟩
end
end Go.Cf
namespace Go.Cf
open Go.RowKit Go.Conc Go.Proofs Go.Maps
theorem nt_61_61b (u : Value) (w : World) : (Instr.typeAssert (.iface 61 u) 20 61 true).run Tryz.prog w = .ok (.tuple #[u,.bool true]) w := by kernel_rfl
theorem nt_75_61b (u : Value) (w : World) : (Instr.typeAssert (.iface 75 u) 20 61 true).run Tryz.prog w = .ok (.tuple #[.map none,.bool false]) w := by kernel_rfl
attribute [local go_sem ↓] nt_61_61b nt_75_61b
def lookM (s : ByteArray) (m : List (ByteArray × JV)) : Option JV := (m.find? (fun x => x.1.data.toList == s.data.toList)).map (·.2)
def lookCx (s : ByteArray) : List CJ → Option JV
 | [] => none
 | .map m :: cs => match lookM s m with
  | some j => some j
  | none => lookCx s cs
 | .arr _ :: cs => lookCx s cs
theorem any_find {α : Type} (p : α → Bool) : ∀ l : List α,l.any p = (l.find? p).isSome
 | [] => rfl
 | a :: l => by
  rw [List.any_cons,List.find?_cons]
  cases h : p a with
  | true => rfl
  | false => exact (Bool.false_or _).trans (any_find p l)
section
variable {B ℓ b : Nat} {lab : Lab} {w : World} {K : PK} {X : PX} {t : List Ent} {s : ByteArray}
theorem ent_look (h : Mp ℓ lab w b t) (hs : s.size ≤ maxLen) : (∃ x,t.find? (fun x => x.1.data.toList == s.data.toList) = some x ∧ (Instr.lookup 61 (.map (some b)) (.string s) true).run Tryz.prog w = .ok (.tuple #[x.2.2,.bool true]) w) ∨
  (t.find? (fun x => x.1.data.toList == s.data.toList) = none ∧ (Instr.lookup 61 (.map (some b)) (.string s) true).run Tryz.prog w = .ok (.tuple #[.nilIface,.bool false]) w) := by
 have hkey := WideMaps.keyOf_string_mk (P := Tryz.prog) Tryz.underlying9 hs;obtain ⟨v,ps,hr,hv⟩ := h.1.look_ok (Maps.string_keyed Tryz.underlying9) Tryz.underlying61 (zero20 w) (zd := .held .nilIface) (zp := []) rfl hkey;have hf : (t.map fun x => ((Lit.string x.1.data.toList,DataW.held x.2.2) : Lit × DataW Value)).find? (fun p => p.1.sameKey (.string s.data.toList)) = (t.find? (fun x => x.1.data.toList == s.data.toList)).map fun x => ((Lit.string x.1.data.toList,DataW.held x.2.2) : Lit × DataW Value) := by
  rw [List.find?_map];rfl
 have hv' : some (DataW.held v,([] : List MemPlace)) = some ((entD t).atKey (.string s.data.toList) (.held .nilIface),ps) := hv;have hva : DataW.held v = (entD t).atKey (.string s.data.toList) (.held .nilIface) := (Prod.mk.inj (Option.some.inj hv')).1;unfold entD DataW.atKey at hva;simp only at hva;rw [hf] at hva;have hh : Maps.has (entD t) (.string s.data.toList) = (t.find? (fun x => x.1.data.toList == s.data.toList)).isSome := by
  show List.any _ _ = _
  rw [any_find,hf]
  cases t.find? (fun x => x.1.data.toList == s.data.toList) <;> rfl
 rw [hh] at hr
 cases hx : t.find? (fun x => x.1.data.toList == s.data.toList) with
 | some x =>
  rw [hx] at hva hr;simp only [Option.map_some,DataW.held.injEq] at hva;subst hva;exact .inl ⟨x,rfl,hr⟩
 | none =>
  rw [hx] at hva hr;simp only [Option.map_none,DataW.held.injEq] at hva;subst hva;exact .inr ⟨rfl,hr⟩
theorem CsAt.at : ∀ {cs : List CJ} {vs : List Value} (d : Nat) {c : CJ},CsAt B lab w cs vs → cs[d]? = some c → ∃ v,vs[d]? = some v ∧ CAt B (10 + (cs.length - 1 - d)) lab w c v
 | c :: cs,v :: vs,0,_,h,e => by
  simp only [List.getElem?_cons_zero,Option.some.injEq] at e;subst e;exact ⟨v,rfl,by simpa using h.1⟩
 | c :: cs,v :: vs,d + 1,_,h,e => by
  obtain ⟨u,h1,h2⟩ := CsAt.at d h.2 (by simpa using e);refine ⟨u,by simpa using h1,?_⟩;rwa [show (c :: cs).length - 1 - (d + 1) = cs.length - 1 - d from by simp;omega]
 | [],[],_,_,_,e => by simp at e
 | [],_ :: _,_,_,h,_ => h.elim
 | _ :: _,[],_,_,h,_ => h.elim
theorem drop_cons {α : Type} {l : List α} {d : Nat} {c : α} (h : l[d]? = some c) : l.drop d = c :: l.drop (d + 1) := by
 have hd := (List.getElem?_eq_some_iff.1 h).1;rw [List.drop_eq_getElem_cons hd,(List.getElem?_eq_some_iff.1 h).2]
set_option maxRecDepth 100000 in
set_option maxHeartbeats 4000000 in
theorem lookup_some (h : PAt B lab w K X) (hn : X.cx.length ≤ 1000000) (s : ByteArray) (hs : s.size ≤ 1000000) (hp : Lib.hasPrefix s.data.toList [50,97,36] = false) (j : JV) (hj : lookCx s X.cx = some j) :
  Calls Tryz.prog 72 #[.pointer (some ⟨K.p,0,none⟩),.string s] w fun e w' => (∃ v,e = .returned (.tuple #[v,.bool true,.nilIface]) ∧ isJ B lab w j v) ∧ w' = w := by
 obtain ⟨top,cv,kv,vs,h⟩ := h;have hlen : vs.length = X.cx.length := h.cs.length;have hpos : 0 < X.cx.length := by
  cases hc : X.cx with
  | nil => rw [hc] at hj;cases hj
  | cons a r => simp
 obtain ⟨g,cap,rfl,hcap,hmx,hcell,cur,hgb⟩ := own_open h.cv.1 (by omega);obtain ⟨n,hnn⟩ : ∃ n,n = X.cx.length := ⟨_,rfl⟩;have c3 : w.cell? ⟨K.p,3,none⟩ = some (.slice (some ⟨g,0,none⟩) n cap) := by have := h.cl.cell 3;rwa [hlen,← hnn] at this
 have hms : s.size ≤ maxLen := by unfold maxLen;omega
 have HCS := Lib.hid h.cs;have HCL := Lib.hid hcell;have HL := Lib.hid hlen;have HNN := Lib.hid hnn;have hn0 : 0 < n := by omega
 have hn6 : n ≤ 1000000 := by omega
 have hp2 : (Lib.hasPrefix s.data.toList (⟨#[50,97,36]⟩ : ByteArray).data.toList) = false := hp;have HJ := Lib.hid hj;clear hcell hgb hmx h hp hlen hn hj hpos hnn;refine calls_of_wp_b Tryz.func72 rfl ?_;simp only [Tryz.ntmps72,List.size_toArray,List.length_cons,List.length_nil,Nat.reduceAdd,Nat.reduceSub,Array.replicate_succ,Array.replicate_zero,List.push_toArray,List.append_toArray,List.nil_append,List.cons_append];go_wp2_with fail;refine (Tryz.strings_HasPrefix s _ _).mono ?_;rintro e w1 ⟨rfl,rfl⟩;rw [hp2];go_wp2_with fail;go_loopw [7] (fun i wr => (∃ d : Nat,d ≤ n ∧ i = .int .i64 ((n : Int) - 1 - d) ∧ lookCx s (X.cx.drop d) = some j) ∧ wr = w1) (fun i _ => (RowKit.intOf i + 1).toNat)
 case atStart => exact ⟨⟨0,Nat.zero_le _,by simp,HJ.out⟩,rfl⟩
 case round =>
  obtain ⟨⟨d,hd,rfl,hjd⟩,hwr⟩ := hrel;have hwr' := hwr.symm;clear hwr;subst hwr';have hdn : d < n := by
   rcases Nat.lt_or_ge d n with h | h
   ·exact h
   ·have hle : X.cx.length ≤ d := by have := HNN.out;omega
    rw [List.drop_eq_nil_of_le hle] at hjd;cases hjd
  obtain ⟨c,hc⟩ : ∃ c,X.cx[d]? = some c := ⟨_,List.getElem?_eq_getElem (by have := HNN.out;omega)⟩;rw [drop_cons hc] at hjd;obtain ⟨v,hv,hcat⟩ := CsAt.at d HCS.out hc;obtain ⟨i,hi⟩ : ∃ i : Nat,i = n - 1 - d := ⟨_,rfl⟩;have hii : (n : Int) - 1 - d = (i : Int) := by omega
  have q : w1.cell? ⟨g,i,none⟩ = some v := by
   refine HCL.out i v ?_;have hl := HL.out;have hN := HNN.out;rw [List.getElem?_reverse (by omega),show vs.length - 1 - i = d from by omega];exact hv
  have hin : (i : Int) < (n : Int) := by omega
  have hstep : (n : Int) - 1 - ((d + 1 : Nat) : Int) = (i : Int) - 1 := by omega
  rw [hii];have HST := Lib.hid hstep;have HDI := Lib.hid (aI hi hdn);clear hi hii hv hstep
  cases c with
  | arr l =>
   obtain ⟨s',xs,rfl,_,_⟩ := hcat;have HJD := Lib.hid hjd;clear hjd;go_wp2;go_roundw
   case rel => exact ⟨⟨d + 1,by omega,by rw [HST.out],HJD.out⟩,trivial⟩
   case measure => simp [RowKit.intOf]
  | map m =>
   obtain ⟨b,t,rfl,hmp,ht,hjs⟩ := hcat;rcases ent_look hmp hms with ⟨x,hx,hr⟩ | ⟨hx,hr⟩
   ·have hjx : j = x.2.1 ∧ isJ B lab w1 x.2.1 x.2.2 := by
     have hm : lookM s m = some x.2.1 := by
      unfold lookM;rw [← ht,List.find?_map];show Option.map _ (Option.map _ (t.find? (fun x => x.1.data.toList == s.data.toList))) = _;rw [hx];rfl
     refine ⟨?_,?_⟩
     ·simp only [lookCx,hm] at hjd;exact (Option.some.inj hjd).symm
     ·obtain ⟨k,hk,e⟩ := List.getElem_of_mem (List.mem_of_find?_eq_some hx);exact isJs.get k _ _ hjs (by rw [List.getElem?_map,List.getElem?_eq_getElem hk,e];rfl) (by rw [List.getElem?_map,List.getElem?_eq_getElem hk,e];rfl)
    have HX := Lib.hid hjx;clear hjx hjd hjs ht hx hmp;go_wp2_with fail;exact ⟨_,results_tmp3 rfl _ _ _,⟨_,rfl,by rw [HX.out.1];exact HX.out.2⟩,rfl⟩
   ·have hm : lookM s m = none := by
     unfold lookM;rw [← ht,List.find?_map];show Option.map _ (Option.map _ (t.find? (fun x => x.1.data.toList == s.data.toList))) = _;rw [hx];rfl
    have hjd2 : lookCx s (X.cx.drop (d + 1)) = some j := by
     simp only [lookCx,hm] at hjd;exact hjd
    have HJD := Lib.hid hjd2;clear hjd hjd2 hm hx ht hjs hmp;go_wp2;go_roundw
    case rel => exact ⟨⟨d + 1,by omega,by rw [HST.out],HJD.out⟩,trivial⟩
    case measure => simp [RowKit.intOf]
end
end Go.Cf
namespace Go.Cf
open Go.RowKit Go.Conc Go.Proofs
section
variable {B : Nat} {lab : Lab} {w : World} {K : PK} {X X' : PX}
theorem isJ.form : ∀ {j : JV} {v : Value},isJ B lab w j v → ∃ t u,v = .iface t u
 | .int _,_,h => ⟨_,_,h⟩
 | .num _,_,h => ⟨_,_,h⟩
 | .tr _,_,h => ⟨_,_,h⟩
 | .txt _,_,h => ⟨_,_,h⟩
 | .arr _,_,h => by
  simp only [isJ] at h;obtain ⟨s,xs,h,_⟩ := h;exact ⟨_,_,h⟩
 | .map _ _,_,h => by
  simp only [isJ] at h;obtain ⟨b,t,h,_⟩ := h;exact ⟨_,_,h⟩
set_option maxRecDepth 100000 in
set_option maxHeartbeats 4000000 in
theorem item_var (h : PAt B lab w K X) (hB : B ≤ w.heap.size) (hped : K.ped = false) (hn : X.cx.length ≤ 1000000) (xv : ByteArray) (xl xp : Int) (hsz : xv.size ≤ 1000000) (hp : Lib.hasPrefix xv.data.toList [50,97,36] = false) (j : JV) (hj : lookCx xv X.cx = some j) (hs : X.Sets j X') :
  Calls Tryz.prog 57 #[.pointer (some ⟨K.p,0,none⟩),.agg #[i64 15,.string xv,i64 xl,i64 xp],.string { data := #[] }] w fun e w' => e = .returned .nilIface ∧ ∃ lab',PAt B lab' w' K X' ∧ Mv PM w lab w' lab' := by
 obtain ⟨lab1,hb,m1⟩ := h.boxed hB 15 xv xl xp;have HL := Lib.hid (lookup_some hb.pat hn xv hsz hp j hj);have c7 : (((w.alloc (.cells #[.pointer (some ⟨K.p,0,none⟩)] 71)).alloc (.cells #[i64 15,.string xv,i64 xl,i64 xp] 98)).alloc (.cells #[.string { data := #[] }] 9)).cell? ⟨K.p,7,none⟩ = some (.bool false) := hb.pat.ped hped;have d0 : (((w.alloc (.cells #[.pointer (some ⟨K.p,0,none⟩)] 71)).alloc (.cells #[i64 15,.string xv,i64 xl,i64 xp] 98)).alloc (.cells #[.string { data := #[] }] 9)).cell? ⟨w.heap.size,0,none⟩ = some (.pointer (some ⟨K.p,0,none⟩)) := hb.b0.cell 0;have HB := Lib.hid hb;have HM := Lib.hid m1;clear hb m1 h hj;go_enter Tryz.func57,Tryz.ntmps57;go_wp2_with fail;refine HL.out.mono ?_;rintro e w5 ⟨⟨v,rfl,hv⟩,rfl⟩;obtain ⟨t,u,rfl⟩ := hv.form;have HC := Lib.hid (setValue_c HB.out.pat HB.out.hB hped hs t u hv);clear hv HL;unfold Boxed at *;go_wp2_with fail;refine HC.out.mono ?_;rintro e w6 ⟨rfl,lab6,h6,m6⟩;go_wp2;go_ret;exact ⟨rfl,lab6,h6,HM.out.trans m6 (fun _ h => h)⟩
end
section
variable {K : PK} {s : ByteArray} {p st : Nat} {stk sk : List Nat} {cx cx1 fin : List CJ} {ks ks1 : List ByteArray} {pt n : Nat} {j : JV}
theorem works_var (hK : K.ped = false) (L : LX) (x : It) (hx : x.typ = 15) (hsz : x.val.size ≤ 1000000) (hp : Lib.hasPrefix x.val.data.toList [50,97,36] = false) (hn : cx.length ≤ 1000000) (hj : lookCx x.val cx = some j) (hs : (⟨L,cx,ks⟩ : PX).Sets j ⟨L,cx1,ks1⟩) : Works K ⟨L,cx,ks⟩ x ⟨L,cx1,ks1⟩ := by
 intro B lab w hB h _;obtain ⟨xt,xv,xl,xp⟩ := x;obtain rfl : xt = 15 := hx;exact item_var h hB hK hn xv xl xp hsz hp j hj hs
theorem works_map (L : LX) (x : It) (hx : x.typ = 12) (hl : cx.length ≤ 1000000) (hne : cx ≠ []) : Works K ⟨L,cx,ks⟩ x ⟨L,.map [] :: cx,ks⟩ := by
 intro B lab w hB h _;obtain ⟨xt,xv,xl,xp⟩ := x;obtain rfl : xt = 12 := hx;exact item_map h hB hl hne xv xl xp
theorem works_list (L : LX) (x : It) (hx : x.typ = 10) (hl : cx.length ≤ 1000000) (hne : cx ≠ []) : Works K ⟨L,cx,ks⟩ x ⟨L,.arr [] :: cx,ks⟩ := by
 intro B lab w hB h _;obtain ⟨xt,xv,xl,xp⟩ := x;obtain rfl : xt = 10 := hx;exact item_list h hB hl hne xv xl xp
theorem works_mapend {m : List (ByteArray × JV)} {c2 : CJ} {cs : List CJ} (hK : K.ped = false) (L : LX) (x : It) (hx : x.typ = 13) (hl : cs.length ≤ 1000000) (hs : (⟨L,c2 :: cs,ks⟩ : PX).Sets (CJ.map m).jv ⟨L,cx1,ks1⟩) : Works K ⟨L,.map m :: c2 :: cs,ks⟩ x ⟨L,cx1,ks1⟩ := by
 intro B lab w hB h _;obtain ⟨xt,xv,xl,xp⟩ := x;obtain rfl : xt = 13 := hx;exact item_mapend m h hB hK hl xv xl xp hs
theorem works_listend {l : List JV} {c2 : CJ} {cs : List CJ} (hK : K.ped = false) (L : LX) (x : It) (hx : x.typ = 11) (hl : cs.length ≤ 1000000) (hs : (⟨L,c2 :: cs,ks⟩ : PX).Sets (CJ.arr l).jv ⟨L,cx1,ks1⟩) : Works K ⟨L,.arr l :: c2 :: cs,ks⟩ x ⟨L,cx1,ks1⟩ := by
 intro B lab w hB h _;obtain ⟨xt,xv,xl,xp⟩ := x;obtain rfl : xt = 11 := hx;exact item_listend l h hB hK hl xv xl xp hs
def endT (e : Nat) : ByteArray := match e with
 | 0 => ⟨#[10]⟩
 | 1 => ⟨#[59,10]⟩
 | 2 => ⟨#[32,35,32,101,110,100,10]⟩
 | 3 => ⟨#[10,10]⟩
 | _ => ⟨#[32,47,47,32,101,110,100,10]⟩
end
theorem order_symm (d e : Ieee.Datum) (h : d.order e = some .eq) : e.order d = some .eq := by
 cases d with
 | nan => cases h
 | infinity s =>
  cases e with
  | nan => cases h
  | infinity t => cases s <;> cases t <;> first | rfl | (exact absurd h (by decide))
  | number t n j => cases s <;> simp [Ieee.Datum.order] at h
 | number s m i =>
  cases e with
  | nan => cases h
  | infinity t => cases t <;> simp [Ieee.Datum.order] at h
  | number t n j =>
   simp only [Ieee.Datum.order,Option.some.injEq] at h ⊢;rw [Int.compare_eq_eq] at h ⊢;rw [Int.min_comm j i,h]
def FZ (f : Nat) : Prop := (FloatKind.f64.format.order f 0 == some .eq) = true ∧ (FloatKind.f64.format.order 0 f == some .eq) = true
theorem FZ.of (f : Nat) (h : (FloatKind.f64.format.order 0 f == some .eq) = true) : FZ f := by
 refine ⟨?_,h⟩;rw [beq_iff_eq] at h ⊢;exact order_symm _ _ h
section
variable {lab lab1 : Lab} {w w1 : World} {b : Nat} {W W1 W2 : CW} {T T2 : ByteArray} {k n : Int} {f : Nat} {is : Bool} {t : ByteArray} {a1 a2 : Option Addr} {c1 c2 : Nat} {j : JV}
theorem Rw.shape {B ℓ e size m : Nat} {v : Value} {xs : List Value} (h : Rw B ℓ lab w e size v m xs) : ∃ A c,v = .slice A m c := by
 obtain ⟨⟨_,⟨rfl,rfl⟩ | ⟨g,cap,cur,rfl,_⟩⟩,_⟩ := h
 ·exact ⟨none,0,rfl⟩
 ·exact ⟨_,_,rfl⟩
end
attribute [local go_sem] run_store_flt
def KeysIn (w : World) (a : Option Addr) (m : Nat) : Prop := m = 0 ∨ ∃ ad : Addr,a = some ad ∧ ∀ i,i < m → ∃ s : ByteArray,w.cell? (ad.add i) = some (.string s) ∧ s.size ≤ maxLen
section
variable {w w1 : World} {k n : Int} {f : Nat} {is : Bool} {t : ByteArray} {a a1 a2 : Option Addr} {m c m1 m2 c1 c2 : Nat}
set_option maxRecDepth 100000 in
set_option maxHeartbeats 2000000 in
theorem fits2_c (hm : m ≤ maxLen) (hk : KeysIn w a m) : Calls Tryz.prog 23 #[.slice a m c] w fun e w' => (∃ ok,e = .returned (.bool ok)) ∧ w' = w := by
 have hmx : (m : Int) ≤ 9223372036854775807 := by unfold maxLen at hm;omega
 go_enter Tryz.func23,Tryz.ntmps23;by_cases hb : m ≤ 2147483647
 ·have d1 : decide ((2147483647 : Int) < (m : Int)) = false := decide_eq_false (by omega);go_wp2;go_loopw [10] (fun i wr => ∃ j : Nat,i = .int .i64 j ∧ j ≤ m ∧ wr = w) (fun i _ => m - (RowKit.intOf i).toNat)
  case atStart => exact ⟨0,rfl,Nat.zero_le _,rfl⟩
  case round =>
   obtain ⟨j,rfl,hj,rfl⟩ := hrel;by_cases hjm : j < m
   ·have d2 : decide ((j : Int) < (m : Int)) = true := decide_eq_true (by omega);rcases hk with h0 | ⟨ad,rfl,hk⟩
    ·omega
    ·obtain ⟨s,hs,hss⟩ := hk j hjm;have hj0 : (0 : Int) ≤ (j : Int) := Int.natCast_nonneg _;have hj1 : (j : Int) < (m : Int) := by omega
     by_cases hsz : s.size ≤ 2147483647
     ·have d3 : decide ((2147483647 : Int) < (s.size : Int)) = false := decide_eq_false (by omega);go_wp2;exact ⟨⟨j + 1,by push_cast;rfl,by omega,trivial⟩,by simp [RowKit.intOf];omega⟩
     ·have d3 : decide ((2147483647 : Int) < (s.size : Int)) = true := decide_eq_true (by omega);go_wp2;go_ret;exact ⟨⟨_,rfl⟩,rfl⟩
   ·have d2 : decide ((j : Int) < (m : Int)) = false := decide_eq_false (by omega);go_wp2;go_ret;exact ⟨⟨_,rfl⟩,rfl⟩
 ·have d1 : decide ((2147483647 : Int) < (m : Int)) = true := decide_eq_true (by omega);go_wp2;go_ret;exact ⟨⟨_,rfl⟩,rfl⟩
theorem KeysIn.below (h : KeysIn w a m) (b : Below w.heap.size w w1) : KeysIn w1 a m := by
 rcases h with h | ⟨ad,rfl,h⟩
 ·exact .inl h
 ·refine .inr ⟨ad,rfl,fun i hi => ?_⟩;obtain ⟨s,hs,hz⟩ := h i hi;refine ⟨s,?_,hz⟩;have hl := World.block_lt_of_cell? w _ hs;unfold World.cell? at hs ⊢;rw [b.block _ hl];exact hs
def nodV (k n : Int) (f : Nat) (is : Bool) (t : ByteArray) (a1 : Option Addr) (m1 c1 : Nat) (a2 : Option Addr) (m2 c2 : Nat) : Value := .agg #[.int .i64 k,.int .i64 n,.float .f64 f,.bool is,.string t,.slice a1 m1 c1,.slice a2 m2 c2]
set_option maxRecDepth 100000 in
set_option maxHeartbeats 2000000 in
theorem fits1_c (h1 : m1 ≤ maxLen) (hk : KeysIn w a1 m1) (ht : t.size ≤ maxLen) (h2 : m2 ≤ maxLen) : Calls Tryz.prog 11 #[nodV k n f is t a1 m1 c1 a2 m2 c2] w fun e w' => (∃ ok,e = .returned (.bool ok)) ∧ Below w.heap.size w w' := by
 have hb : ∀ o,Below w.heap.size w (w.alloc o) := fun o => (Below.refl _ _).alloc (Nat.le_refl _) o
 have hF := fun o => fits2_c (c := c1) h1 (hk.below (hb o))
 have htx : (t.size : Int) ≤ 9223372036854775807 := by unfold maxLen at ht;omega
 have h2x : (m2 : Int) ≤ 9223372036854775807 := by unfold maxLen at h2;omega
 have HB := Lib.hid hb;have HF := Lib.hid hF;clear hb hF hk;unfold nodV;go_enter Tryz.func11,Tryz.ntmps11;by_cases d : t.size ≤ 2147483647
 ·have d1 : decide ((2147483647 : Int) < (t.size : Int)) = false := decide_eq_false (by omega);go_wp2_with fail;refine (HF.out _).mono ?_;rintro e w1 ⟨⟨ok,rfl⟩,rfl⟩
  cases ok with
  | false =>
   go_wp2;go_ret;exact ⟨⟨_,rfl⟩,HB.out _⟩
  | true =>
   by_cases d2 : m2 ≤ 2147483647
   ·have d3 : decide ((2147483647 : Int) < (m2 : Int)) = false := decide_eq_false (by omega);go_wp2;go_ret;exact ⟨⟨_,rfl⟩,HB.out _⟩
   ·have d3 : decide ((2147483647 : Int) < (m2 : Int)) = true := decide_eq_true (by omega);go_wp2;go_ret;exact ⟨⟨_,rfl⟩,HB.out _⟩
 ·have d1 : decide ((2147483647 : Int) < (t.size : Int)) = true := decide_eq_true (by omega);go_wp2;go_ret;exact ⟨⟨_,rfl⟩,HB.out _⟩
theorem text_nil {t : ByteArray} (h : t.toList.isEmpty = true) : t = ⟨#[]⟩ := by
 rw [Lib.toList_data,List.isEmpty_iff] at h;obtain ⟨⟨l⟩⟩ := t
 cases (show l = [] from h)
 rfl
end
end Go.Cf
namespace Go.Cf
open Go.RowKit Go.Conc Go.Proofs
section
variable {lab lab1 : Lab} {w w1 : World} {b : Nat} {W W1 W2 : CW} {T T2 : ByteArray} {k n : Int} {f : Nat} {is : Bool} {t : ByteArray} {a1 a2 : Option Addr} {c1 c2 : Nat} {j : JV}
end
section
variable {K : PK} {s : ByteArray} {p : Nat} {cx fin : List CJ} {pt : Nat} {j : JV} {m m2 : List (ByteArray × JV)}
end
attribute [local go_sem ↓] appX_eq
abbrev KM (x : Nat) : Prop := x = 40 ∨ x = 41 ∨ x = 42
def s18 (i : Nat) : Nat := if i ≤ 21 then 153 + i else 152 + i
theorem getD_set (L : Array Bool) (i j : Nat) (hi : i < L.size) : (L.setIfInBounds i true).getD j false = if j = i then true else L.getD j false := by
 rw [gdg,gdg];by_cases h : j = i
 ·subst h;rw [if_pos rfl,Array.getElem?_setIfInBounds_self_of_lt hi];rfl
 ·rw [if_neg h,Array.getElem?_setIfInBounds_ne (fun e => h e.symm)]
theorem wpOp_run {P : Program} {Q : Exit → Act → World → Prop} {l : List Oper} {i : Nat} {o : Oper} {a : Act} {w w2 : World} {R : Act → World → Prop} {v : Value} (ho : l[i]? = some o) (hg : o.guard = none) (hrun : (execOp a.eval o).run P w = .ok (.value v) w2) (k : R (a.put o.dst v) w2) : wpOp P l.toArray Q i R a w := by
 have hw : Region.wanted o (yielded l.toArray a.tmps) = true := by simp [Region.wanted,hg]
 unfold wpOp;simp only [List.getElem?_toArray,ho,hw,if_true]
 left
 unfold Oper.wp;rw [hrun];exact k
section
variable {lab0 lab lab2 : Lab} {w0 w w2 : World} {b nb gl : Nat} {W : CW} {sv kn va us inn : Value} {kB : ByteArray} {xs : List Value} {t0 : Array Value} {L : Array Bool} {a : Act}
theorem s18_inj {i j : Nat} (h : s18 i = s18 j) (hi : i ≠ 22) (hj : j ≠ 22) : i = j := by
 unfold s18 at h
 split at h <;> split at h <;> omega
end
end Go.Cf
namespace Go.Cf
open Go.RowKit Go.Conc Go.Proofs
theorem info60 : (Tryz.prog.info? 60).map (fun i => (i.zero,i.size,i.bytes)) = some (some (.agg #[.string { data := #[] },i64 0,i64 0,.bool false]),4,40) := by kernel_rfl
attribute [local go_sem ↓] appX_eq
theorem FZ0 : FZ 0 := ⟨by kernel_rfl,by kernel_rfl⟩
section
variable {lab lab1 : Lab} {w w1 : World} {b : Nat} {W W1 W2 : CW} {T T2 : ByteArray} {k n : Int} {f : Nat} {is : Bool} {t : ByteArray} {a1 a2 : Option Addr} {c1 c2 : Nat} {j : JV} {gk gl : Nat}
theorem wpOp_skip {P : Program} {Q : Exit → Act → World → Prop} {l : List Oper} {i : Nat} {o : Oper} {a : Act} {w w2 : World} {R : Act → World → Prop} (ho : l[i]? = some o) (hg : o.guard = none) (hrun : (execOp a.eval o).run P w = .ok .skip w2) (k : R (a.put o.dst undef) w2) : wpOp P l.toArray Q i R a w := by
 have hw : Region.wanted o (yielded l.toArray a.tmps) = true := by simp [Region.wanted,hg]
 unfold wpOp;simp only [List.getElem?_toArray,ho,hw,if_true]
 left
 unfold Oper.wp;rw [hrun];exact k
theorem WAt.cLine (h : WAt lab w b W) : w.cell? ⟨b,1,none⟩ = some (i64 W.line) := by
 obtain ⟨sv,kn,va,us,inn,h⟩ := h;exact h.cl.cell 1
theorem WAt.cText (h : WAt lab w b W) : w.cell? ⟨b,0,none⟩ = some (.string W.text) := by
 obtain ⟨sv,kn,va,us,inn,h⟩ := h;exact h.cl.cell 0
structure Same (W W' : CW) : Prop where
 text : W'.text = W.text
 line : W'.line = W.line
 bad : W'.bad = W.bad
 used : W'.used = W.used
def qd : ByteArray := ⟨#[46,45,95,48,49,50,51,52,53,54,55,56,57]⟩
def endRow : Array Value := #[.string ⟨#[10]⟩,.string ⟨#[59,10]⟩,.string ⟨#[32,35,32,101,110,100,10]⟩,.string ⟨#[10,10]⟩,.string ⟨#[32,47,47,32,101,110,100,10]⟩,.string ⟨#[59]⟩,.string ⟨#[44]⟩]
def endS (e : Nat) : ByteArray := match e with
 | 5 => ⟨#[59]⟩
 | 6 => ⟨#[44]⟩
 | e => endT e
theorem end_get (e : Nat) (h : e < 7) : endRow[e]? = some (.string (endS e)) := by
 match e,h with
 | 0,_ => rfl
 | 1,_ => rfl
 | 2,_ => rfl
 | 3,_ => rfl
 | 4,_ => rfl
 | 5,_ => rfl
 | 6,_ => rfl
end
end Go.Cf
namespace Go.Cf
open Go.RowKit Go.Conc Go.Proofs
attribute [local go_sem] run_store_flt
section
variable {w w1 w2 : World} {k n : Int} {f : Nat} {is : Bool} {t : ByteArray} {a a1 a2 : Option Addr} {m c m1 m2 c1 c2 gk gl : Nat}
theorem _root_.Go.RowKit.Below.cellB {a : Addr} {v : Value} (b : Below w.heap.size w w1) (h : w.cell? a = some v) : w1.cell? a = some v := by
 have hl := World.block_lt_of_cell? w _ h;unfold World.cell? at h ⊢;rw [b.block _ hl];exact h
end
end Go.Cf
