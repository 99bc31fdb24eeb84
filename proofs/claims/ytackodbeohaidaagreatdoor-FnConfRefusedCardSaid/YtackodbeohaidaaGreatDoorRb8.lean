/-
  Texts joined: Dc Cn Bd Bi Bp Bt.
-/
import Derived.Test.YtackodbeohaidaaGreatDoorRb2
import Derived.Test.YtackodbeohaidaaGreatDoorRb4
import Derived.Test.YtackodbeohaidaaGreatDoorRb6
import Derived.Test.YtackodbeohaidaaGreatDoorRb7
import Derived.Deep.RegionLaw
/-
  The texts 'a = <number><size>' newline, by their bytes, and what they are read as.
-/
namespace Go.Cf
open Go.RowKit Go.Conc Go.Proofs
theorem ext_mid (P M S : ByteArray) : (P ++ M ++ S).extract P.size (P.size + M.size) = M := by
  rw [ByteArray.extract_append, ByteArray.extract_append_eq_right rfl rfl]
  have h : S.extract (P.size - (P ++ M).size) (P.size + M.size - (P ++ M).size) = ByteArray.empty := by
    rw [ByteArray.extract_eq_empty_iff]; simp [ByteArray.size_append]
  rw [h, ByteArray.append_empty]
/-- The text. -/
def szText (dg sfx : ByteArray) : ByteArray := (⟨#[97, 32, 61, 32]⟩ : ByteArray) ++ (dg ++ sfx) ++ ⟨#[10]⟩
section
variable (dg sfx : ByteArray)
theorem sz_size : (szText dg sfx).size = 4 + dg.size + sfx.size + 1 := by
  simp only [szText, ByteArray.size_append]
  show 4 + (dg.size + sfx.size) + 1 = _
  omega
theorem sz_head (i : Nat) (h : i < 4) : byteAt (szText dg sfx) i = byteAt ⟨#[97, 32, 61, 32]⟩ i := by
  unfold szText
  rw [byteAt_app_left _ _ _ (by rw [ByteArray.size_append]; show i < 4 + _; omega), byteAt_app_left _ _ _ h]
theorem sz_mid (i : Nat) (h : i < (dg ++ sfx).size) : byteAt (szText dg sfx) (4 + i) = byteAt (dg ++ sfx) i := by
  unfold szText
  rw [byteAt_app_left _ _ _ (by rw [ByteArray.size_append]; show 4 + i < 4 + _; omega)]
  exact byteAt_app_right ⟨#[97, 32, 61, 32]⟩ _ i
theorem sz_dig (i : Nat) (h : i < dg.size) : byteAt (szText dg sfx) (4 + i) = byteAt dg i := by
  rw [sz_mid _ _ _ (by rw [ByteArray.size_append]; omega), byteAt_app_left _ _ _ h]
theorem sz_sfx (j : Nat) (h : j < sfx.size) : byteAt (szText dg sfx) (4 + dg.size + j) = byteAt sfx j := by
  rw [Nat.add_assoc, sz_mid _ _ _ (by rw [ByteArray.size_append]; omega), byteAt_app_right]
theorem sz_nl : byteAt (szText dg sfx) (4 + dg.size + sfx.size) = 10 := by
  have h := byteAt_app_right ((⟨#[97, 32, 61, 32]⟩ : ByteArray) ++ (dg ++ sfx)) ⟨#[10]⟩ 0
  rw [Nat.add_zero, ByteArray.size_append, ByteArray.size_append, ← Nat.add_assoc] at h
  exact h
theorem sz_ext : (szText dg sfx).extract 4 (4 + dg.size + sfx.size) = dg ++ sfx := by
  have h := ext_mid ⟨#[97, 32, 61, 32]⟩ (dg ++ sfx) ⟨#[10]⟩
  rw [ByteArray.size_append, ← Nat.add_assoc] at h
  exact h
theorem sz_key : (szText dg sfx).extract 0 1 = ⟨#[97]⟩ := by
  have h : szText dg sfx = (⟨#[97]⟩ : ByteArray) ++ (⟨#[32, 61, 32]⟩ ++ (dg ++ sfx) ++ ⟨#[10]⟩) := by
    have e : (⟨#[97, 32, 61, 32]⟩ : ByteArray) = ⟨#[97]⟩ ++ ⟨#[32, 61, 32]⟩ := by decide
    simp only [szText, e, ByteArray.append_assoc]
  rw [h]
  exact ByteArray.extract_append_eq_left rfl
theorem sz_asc (hd : isDigits dg) (hx : ∀ j, j < sfx.size → byteAt sfx j < 128) (i : Nat) (h : i < (szText dg sfx).size) : byteAt (szText dg sfx) i < 128 := by
  rw [sz_size] at h
  rcases Nat.lt_or_ge i 4 with h4 | h4
  · rw [sz_head _ _ _ h4]
    match i, h4 with
    | 0, _ => decide
    | 1, _ => decide
    | 2, _ => decide
    | 3, _ => decide
  · rcases Nat.lt_or_ge i (4 + dg.size) with h5 | h5
    · obtain ⟨j, rfl⟩ := Nat.exists_eq_add_of_le h4
      rw [sz_dig _ _ _ (by omega)]
      have := hd j (by omega)
      omega
    · rcases Nat.lt_or_ge i (4 + dg.size + sfx.size) with h6 | h6
      · obtain ⟨j, rfl⟩ := Nat.exists_eq_add_of_le h5
        rw [sz_sfx _ _ _ (by omega)]
        exact hx j (by omega)
      · rw [show i = 4 + dg.size + sfx.size from by omega, sz_nl]
        decide
end
theorem sets_a (L : LX) (j : JV) : (⟨L, [.map []], [] ++ [⟨#[97]⟩]⟩ : PX).Sets j ⟨L, [.map [(⟨#[97]⟩, j)]], []⟩ :=
  .map [] [] [] ⟨#[97]⟩ rfl rfl (by simp) (by simp) (by decide)
theorem ra_plain (dg : ByteArray) (hdd : isDigits dg) (hd1 : 0 < dg.size) (hsz : dg.size ≤ 1000) (hn : ((numOf dg.data.toList : Nat) : Int) ≤ 4611686018427387904) : ReadAs (szText dg ⟨#[]⟩) [(⟨#[97]⟩, .int (((numOf dg.data.toList : Nat) : Int)))] := by
  have hs := sz_size dg ⟨#[]⟩
  have hk : (⟨#[]⟩ : ByteArray).size = 0 := rfl
  rw [hk] at hs
  have hx := sz_ext dg ⟨#[]⟩
  have hl := sz_nl dg ⟨#[]⟩
  rw [hk] at hx hl
  refine readAs_of (by omega) (sz_asc _ _ hdd (fun j hj => ?_)) fun K hK => ?_
  · rw [hk] at hj
    omega
  refine fd_a hK (by simp) (by omega) (sz_head _ _ 0 (by omega)) (sz_head _ _ 1 (by omega)) (sz_head _ _ 2 (by omega)) (sz_head _ _ 3 (by omega)) (by have h := sz_dig dg ⟨#[]⟩ 0 hd1; rw [Nat.add_zero] at h; rw [h]; exact hdd 0 hd1) (sz_key _ _) ?_
  exact fd_plain hK dg.size hd1 (by omega) (fun i hi => by rw [sz_dig _ _ _ hi]; exact hdd i hi) hl dg (hx.trans ByteArray.append_empty) hdd (by omega) (by omega) hd1 (fun L => sets_a L _)
theorem ra_k (dg : ByteArray) (hdd : isDigits dg) (hd1 : 0 < dg.size) (hsz : dg.size ≤ 1000) (hn : ((numOf dg.data.toList : Nat) : Int) * 1000 ≤ 4611686018427387904) : ReadAs (szText dg ⟨#[107]⟩) [(⟨#[97]⟩, .int (((numOf dg.data.toList : Nat) : Int) * 1000))] := by
  have hs := sz_size dg ⟨#[107]⟩
  have hk : (⟨#[107]⟩ : ByteArray).size = 1 := rfl
  rw [hk] at hs
  have hx := sz_ext dg ⟨#[107]⟩
  have hl := sz_nl dg ⟨#[107]⟩
  rw [hk] at hx hl
  refine readAs_of (by omega) (sz_asc _ _ hdd (fun j hj => ?_)) fun K hK => ?_
  · rw [hk] at hj
    match j, hj with
    | 0, _ => decide
  refine fd_a hK (by simp) (by omega) (sz_head _ _ 0 (by omega)) (sz_head _ _ 1 (by omega)) (sz_head _ _ 2 (by omega)) (sz_head _ _ 3 (by omega)) (by have h := sz_dig dg ⟨#[107]⟩ 0 hd1; rw [Nat.add_zero] at h; rw [h]; exact hdd 0 hd1) (sz_key _ _) ?_
  exact fd_k hK dg.size hd1 (by omega) (fun i hi => by rw [sz_dig _ _ _ hi]; exact hdd i hi) (sz_sfx dg ⟨#[107]⟩ 0 (by decide)) hl dg hx hdd hn (by omega) hd1 (fun L => sets_a L _)
theorem ra_kb (dg : ByteArray) (hdd : isDigits dg) (hd1 : 0 < dg.size) (hsz : dg.size ≤ 1000) (hn : ((numOf dg.data.toList : Nat) : Int) * 1024 ≤ 4611686018427387904) : ReadAs (szText dg ⟨#[107, 98]⟩) [(⟨#[97]⟩, .int (((numOf dg.data.toList : Nat) : Int) * 1024))] := by
  have hs := sz_size dg ⟨#[107, 98]⟩
  have hk : (⟨#[107, 98]⟩ : ByteArray).size = 2 := rfl
  rw [hk] at hs
  have hx := sz_ext dg ⟨#[107, 98]⟩
  have hl := sz_nl dg ⟨#[107, 98]⟩
  rw [hk] at hx hl
  refine readAs_of (by omega) (sz_asc _ _ hdd (fun j hj => ?_)) fun K hK => ?_
  · rw [hk] at hj
    match j, hj with
    | 0, _ => decide
    | 1, _ => decide
  refine fd_a hK (by simp) (by omega) (sz_head _ _ 0 (by omega)) (sz_head _ _ 1 (by omega)) (sz_head _ _ 2 (by omega)) (sz_head _ _ 3 (by omega)) (by have h := sz_dig dg ⟨#[107, 98]⟩ 0 hd1; rw [Nat.add_zero] at h; rw [h]; exact hdd 0 hd1) (sz_key _ _) ?_
  exact fd_kb hK dg.size hd1 (by omega) (fun i hi => by rw [sz_dig _ _ _ hi]; exact hdd i hi) (sz_sfx dg ⟨#[107, 98]⟩ 0 (by decide)) (sz_sfx dg ⟨#[107, 98]⟩ 1 (by decide)) hl dg hx hdd hn (by omega) hd1 (fun L => sets_a L _)
theorem ra_kib (dg : ByteArray) (hdd : isDigits dg) (hd1 : 0 < dg.size) (hsz : dg.size ≤ 1000) (hn : ((numOf dg.data.toList : Nat) : Int) * 1024 ≤ 4611686018427387904) : ReadAs (szText dg ⟨#[107, 105, 98]⟩) [(⟨#[97]⟩, .int (((numOf dg.data.toList : Nat) : Int) * 1024))] := by
  have hs := sz_size dg ⟨#[107, 105, 98]⟩
  have hk : (⟨#[107, 105, 98]⟩ : ByteArray).size = 3 := rfl
  rw [hk] at hs
  have hx := sz_ext dg ⟨#[107, 105, 98]⟩
  have hl := sz_nl dg ⟨#[107, 105, 98]⟩
  rw [hk] at hx hl
  refine readAs_of (by omega) (sz_asc _ _ hdd (fun j hj => ?_)) fun K hK => ?_
  · rw [hk] at hj
    match j, hj with
    | 0, _ => decide
    | 1, _ => decide
    | 2, _ => decide
  refine fd_a hK (by simp) (by omega) (sz_head _ _ 0 (by omega)) (sz_head _ _ 1 (by omega)) (sz_head _ _ 2 (by omega)) (sz_head _ _ 3 (by omega)) (by have h := sz_dig dg ⟨#[107, 105, 98]⟩ 0 hd1; rw [Nat.add_zero] at h; rw [h]; exact hdd 0 hd1) (sz_key _ _) ?_
  exact fd_kib hK dg.size hd1 (by omega) (fun i hi => by rw [sz_dig _ _ _ hi]; exact hdd i hi) (sz_sfx dg ⟨#[107, 105, 98]⟩ 0 (by decide)) (sz_sfx dg ⟨#[107, 105, 98]⟩ 1 (by decide)) (sz_sfx dg ⟨#[107, 105, 98]⟩ 2 (by decide)) hl dg hx hdd hn (by omega) hd1 (fun L => sets_a L _)
theorem ra_ki (dg : ByteArray) (hdd : isDigits dg) (hd1 : 0 < dg.size) (hsz : dg.size ≤ 1000) (hn : ((numOf dg.data.toList : Nat) : Int) * 1024 ≤ 4611686018427387904) : ReadAs (szText dg ⟨#[107, 105]⟩) [(⟨#[97]⟩, .int (((numOf dg.data.toList : Nat) : Int) * 1024))] := by
  have hs := sz_size dg ⟨#[107, 105]⟩
  have hk : (⟨#[107, 105]⟩ : ByteArray).size = 2 := rfl
  rw [hk] at hs
  have hx := sz_ext dg ⟨#[107, 105]⟩
  have hl := sz_nl dg ⟨#[107, 105]⟩
  rw [hk] at hx hl
  refine readAs_of (by omega) (sz_asc _ _ hdd (fun j hj => ?_)) fun K hK => ?_
  · rw [hk] at hj
    match j, hj with
    | 0, _ => decide
    | 1, _ => decide
  refine fd_a hK (by simp) (by omega) (sz_head _ _ 0 (by omega)) (sz_head _ _ 1 (by omega)) (sz_head _ _ 2 (by omega)) (sz_head _ _ 3 (by omega)) (by have h := sz_dig dg ⟨#[107, 105]⟩ 0 hd1; rw [Nat.add_zero] at h; rw [h]; exact hdd 0 hd1) (sz_key _ _) ?_
  exact fd_ki hK dg.size hd1 (by omega) (fun i hi => by rw [sz_dig _ _ _ hi]; exact hdd i hi) (sz_sfx dg ⟨#[107, 105]⟩ 0 (by decide)) (sz_sfx dg ⟨#[107, 105]⟩ 1 (by decide)) hl dg hx hdd hn (by omega) hd1 (fun L => sets_a L _)
theorem ra_m (dg : ByteArray) (hdd : isDigits dg) (hd1 : 0 < dg.size) (hsz : dg.size ≤ 1000) (hn : ((numOf dg.data.toList : Nat) : Int) * 1000 * 1000 ≤ 4611686018427387904) : ReadAs (szText dg ⟨#[109]⟩) [(⟨#[97]⟩, .int (((numOf dg.data.toList : Nat) : Int) * 1000 * 1000))] := by
  have hs := sz_size dg ⟨#[109]⟩
  have hk : (⟨#[109]⟩ : ByteArray).size = 1 := rfl
  rw [hk] at hs
  have hx := sz_ext dg ⟨#[109]⟩
  have hl := sz_nl dg ⟨#[109]⟩
  rw [hk] at hx hl
  refine readAs_of (by omega) (sz_asc _ _ hdd (fun j hj => ?_)) fun K hK => ?_
  · rw [hk] at hj
    match j, hj with
    | 0, _ => decide
  refine fd_a hK (by simp) (by omega) (sz_head _ _ 0 (by omega)) (sz_head _ _ 1 (by omega)) (sz_head _ _ 2 (by omega)) (sz_head _ _ 3 (by omega)) (by have h := sz_dig dg ⟨#[109]⟩ 0 hd1; rw [Nat.add_zero] at h; rw [h]; exact hdd 0 hd1) (sz_key _ _) ?_
  exact fd_m hK dg.size hd1 (by omega) (fun i hi => by rw [sz_dig _ _ _ hi]; exact hdd i hi) (sz_sfx dg ⟨#[109]⟩ 0 (by decide)) hl dg hx hdd hn (by omega) hd1 (fun L => sets_a L _)
theorem ra_mb (dg : ByteArray) (hdd : isDigits dg) (hd1 : 0 < dg.size) (hsz : dg.size ≤ 1000) (hn : ((numOf dg.data.toList : Nat) : Int) * 1024 * 1024 ≤ 4611686018427387904) : ReadAs (szText dg ⟨#[109, 98]⟩) [(⟨#[97]⟩, .int (((numOf dg.data.toList : Nat) : Int) * 1024 * 1024))] := by
  have hs := sz_size dg ⟨#[109, 98]⟩
  have hk : (⟨#[109, 98]⟩ : ByteArray).size = 2 := rfl
  rw [hk] at hs
  have hx := sz_ext dg ⟨#[109, 98]⟩
  have hl := sz_nl dg ⟨#[109, 98]⟩
  rw [hk] at hx hl
  refine readAs_of (by omega) (sz_asc _ _ hdd (fun j hj => ?_)) fun K hK => ?_
  · rw [hk] at hj
    match j, hj with
    | 0, _ => decide
    | 1, _ => decide
  refine fd_a hK (by simp) (by omega) (sz_head _ _ 0 (by omega)) (sz_head _ _ 1 (by omega)) (sz_head _ _ 2 (by omega)) (sz_head _ _ 3 (by omega)) (by have h := sz_dig dg ⟨#[109, 98]⟩ 0 hd1; rw [Nat.add_zero] at h; rw [h]; exact hdd 0 hd1) (sz_key _ _) ?_
  exact fd_mb hK dg.size hd1 (by omega) (fun i hi => by rw [sz_dig _ _ _ hi]; exact hdd i hi) (sz_sfx dg ⟨#[109, 98]⟩ 0 (by decide)) (sz_sfx dg ⟨#[109, 98]⟩ 1 (by decide)) hl dg hx hdd hn (by omega) hd1 (fun L => sets_a L _)
theorem ra_mib (dg : ByteArray) (hdd : isDigits dg) (hd1 : 0 < dg.size) (hsz : dg.size ≤ 1000) (hn : ((numOf dg.data.toList : Nat) : Int) * 1024 * 1024 ≤ 4611686018427387904) : ReadAs (szText dg ⟨#[109, 105, 98]⟩) [(⟨#[97]⟩, .int (((numOf dg.data.toList : Nat) : Int) * 1024 * 1024))] := by
  have hs := sz_size dg ⟨#[109, 105, 98]⟩
  have hk : (⟨#[109, 105, 98]⟩ : ByteArray).size = 3 := rfl
  rw [hk] at hs
  have hx := sz_ext dg ⟨#[109, 105, 98]⟩
  have hl := sz_nl dg ⟨#[109, 105, 98]⟩
  rw [hk] at hx hl
  refine readAs_of (by omega) (sz_asc _ _ hdd (fun j hj => ?_)) fun K hK => ?_
  · rw [hk] at hj
    match j, hj with
    | 0, _ => decide
    | 1, _ => decide
    | 2, _ => decide
  refine fd_a hK (by simp) (by omega) (sz_head _ _ 0 (by omega)) (sz_head _ _ 1 (by omega)) (sz_head _ _ 2 (by omega)) (sz_head _ _ 3 (by omega)) (by have h := sz_dig dg ⟨#[109, 105, 98]⟩ 0 hd1; rw [Nat.add_zero] at h; rw [h]; exact hdd 0 hd1) (sz_key _ _) ?_
  exact fd_mib hK dg.size hd1 (by omega) (fun i hi => by rw [sz_dig _ _ _ hi]; exact hdd i hi) (sz_sfx dg ⟨#[109, 105, 98]⟩ 0 (by decide)) (sz_sfx dg ⟨#[109, 105, 98]⟩ 1 (by decide)) (sz_sfx dg ⟨#[109, 105, 98]⟩ 2 (by decide)) hl dg hx hdd hn (by omega) hd1 (fun L => sets_a L _)
theorem ra_mi (dg : ByteArray) (hdd : isDigits dg) (hd1 : 0 < dg.size) (hsz : dg.size ≤ 1000) (hn : ((numOf dg.data.toList : Nat) : Int) * 1024 * 1024 ≤ 4611686018427387904) : ReadAs (szText dg ⟨#[109, 105]⟩) [(⟨#[97]⟩, .int (((numOf dg.data.toList : Nat) : Int) * 1024 * 1024))] := by
  have hs := sz_size dg ⟨#[109, 105]⟩
  have hk : (⟨#[109, 105]⟩ : ByteArray).size = 2 := rfl
  rw [hk] at hs
  have hx := sz_ext dg ⟨#[109, 105]⟩
  have hl := sz_nl dg ⟨#[109, 105]⟩
  rw [hk] at hx hl
  refine readAs_of (by omega) (sz_asc _ _ hdd (fun j hj => ?_)) fun K hK => ?_
  · rw [hk] at hj
    match j, hj with
    | 0, _ => decide
    | 1, _ => decide
  refine fd_a hK (by simp) (by omega) (sz_head _ _ 0 (by omega)) (sz_head _ _ 1 (by omega)) (sz_head _ _ 2 (by omega)) (sz_head _ _ 3 (by omega)) (by have h := sz_dig dg ⟨#[109, 105]⟩ 0 hd1; rw [Nat.add_zero] at h; rw [h]; exact hdd 0 hd1) (sz_key _ _) ?_
  exact fd_mi hK dg.size hd1 (by omega) (fun i hi => by rw [sz_dig _ _ _ hi]; exact hdd i hi) (sz_sfx dg ⟨#[109, 105]⟩ 0 (by decide)) (sz_sfx dg ⟨#[109, 105]⟩ 1 (by decide)) hl dg hx hdd hn (by omega) hd1 (fun L => sets_a L _)
theorem ra_g (dg : ByteArray) (hdd : isDigits dg) (hd1 : 0 < dg.size) (hsz : dg.size ≤ 1000) (hn : ((numOf dg.data.toList : Nat) : Int) * 1000 * 1000 * 1000 ≤ 4611686018427387904) : ReadAs (szText dg ⟨#[103]⟩) [(⟨#[97]⟩, .int (((numOf dg.data.toList : Nat) : Int) * 1000 * 1000 * 1000))] := by
  have hs := sz_size dg ⟨#[103]⟩
  have hk : (⟨#[103]⟩ : ByteArray).size = 1 := rfl
  rw [hk] at hs
  have hx := sz_ext dg ⟨#[103]⟩
  have hl := sz_nl dg ⟨#[103]⟩
  rw [hk] at hx hl
  refine readAs_of (by omega) (sz_asc _ _ hdd (fun j hj => ?_)) fun K hK => ?_
  · rw [hk] at hj
    match j, hj with
    | 0, _ => decide
  refine fd_a hK (by simp) (by omega) (sz_head _ _ 0 (by omega)) (sz_head _ _ 1 (by omega)) (sz_head _ _ 2 (by omega)) (sz_head _ _ 3 (by omega)) (by have h := sz_dig dg ⟨#[103]⟩ 0 hd1; rw [Nat.add_zero] at h; rw [h]; exact hdd 0 hd1) (sz_key _ _) ?_
  exact fd_g hK dg.size hd1 (by omega) (fun i hi => by rw [sz_dig _ _ _ hi]; exact hdd i hi) (sz_sfx dg ⟨#[103]⟩ 0 (by decide)) hl dg hx hdd hn (by omega) hd1 (fun L => sets_a L _)
theorem ra_gb (dg : ByteArray) (hdd : isDigits dg) (hd1 : 0 < dg.size) (hsz : dg.size ≤ 1000) (hn : ((numOf dg.data.toList : Nat) : Int) * 1024 * 1024 * 1024 ≤ 4611686018427387904) : ReadAs (szText dg ⟨#[103, 98]⟩) [(⟨#[97]⟩, .int (((numOf dg.data.toList : Nat) : Int) * 1024 * 1024 * 1024))] := by
  have hs := sz_size dg ⟨#[103, 98]⟩
  have hk : (⟨#[103, 98]⟩ : ByteArray).size = 2 := rfl
  rw [hk] at hs
  have hx := sz_ext dg ⟨#[103, 98]⟩
  have hl := sz_nl dg ⟨#[103, 98]⟩
  rw [hk] at hx hl
  refine readAs_of (by omega) (sz_asc _ _ hdd (fun j hj => ?_)) fun K hK => ?_
  · rw [hk] at hj
    match j, hj with
    | 0, _ => decide
    | 1, _ => decide
  refine fd_a hK (by simp) (by omega) (sz_head _ _ 0 (by omega)) (sz_head _ _ 1 (by omega)) (sz_head _ _ 2 (by omega)) (sz_head _ _ 3 (by omega)) (by have h := sz_dig dg ⟨#[103, 98]⟩ 0 hd1; rw [Nat.add_zero] at h; rw [h]; exact hdd 0 hd1) (sz_key _ _) ?_
  exact fd_gb hK dg.size hd1 (by omega) (fun i hi => by rw [sz_dig _ _ _ hi]; exact hdd i hi) (sz_sfx dg ⟨#[103, 98]⟩ 0 (by decide)) (sz_sfx dg ⟨#[103, 98]⟩ 1 (by decide)) hl dg hx hdd hn (by omega) hd1 (fun L => sets_a L _)
theorem ra_gib (dg : ByteArray) (hdd : isDigits dg) (hd1 : 0 < dg.size) (hsz : dg.size ≤ 1000) (hn : ((numOf dg.data.toList : Nat) : Int) * 1024 * 1024 * 1024 ≤ 4611686018427387904) : ReadAs (szText dg ⟨#[103, 105, 98]⟩) [(⟨#[97]⟩, .int (((numOf dg.data.toList : Nat) : Int) * 1024 * 1024 * 1024))] := by
  have hs := sz_size dg ⟨#[103, 105, 98]⟩
  have hk : (⟨#[103, 105, 98]⟩ : ByteArray).size = 3 := rfl
  rw [hk] at hs
  have hx := sz_ext dg ⟨#[103, 105, 98]⟩
  have hl := sz_nl dg ⟨#[103, 105, 98]⟩
  rw [hk] at hx hl
  refine readAs_of (by omega) (sz_asc _ _ hdd (fun j hj => ?_)) fun K hK => ?_
  · rw [hk] at hj
    match j, hj with
    | 0, _ => decide
    | 1, _ => decide
    | 2, _ => decide
  refine fd_a hK (by simp) (by omega) (sz_head _ _ 0 (by omega)) (sz_head _ _ 1 (by omega)) (sz_head _ _ 2 (by omega)) (sz_head _ _ 3 (by omega)) (by have h := sz_dig dg ⟨#[103, 105, 98]⟩ 0 hd1; rw [Nat.add_zero] at h; rw [h]; exact hdd 0 hd1) (sz_key _ _) ?_
  exact fd_gib hK dg.size hd1 (by omega) (fun i hi => by rw [sz_dig _ _ _ hi]; exact hdd i hi) (sz_sfx dg ⟨#[103, 105, 98]⟩ 0 (by decide)) (sz_sfx dg ⟨#[103, 105, 98]⟩ 1 (by decide)) (sz_sfx dg ⟨#[103, 105, 98]⟩ 2 (by decide)) hl dg hx hdd hn (by omega) hd1 (fun L => sets_a L _)
theorem ra_gi (dg : ByteArray) (hdd : isDigits dg) (hd1 : 0 < dg.size) (hsz : dg.size ≤ 1000) (hn : ((numOf dg.data.toList : Nat) : Int) * 1024 * 1024 * 1024 ≤ 4611686018427387904) : ReadAs (szText dg ⟨#[103, 105]⟩) [(⟨#[97]⟩, .int (((numOf dg.data.toList : Nat) : Int) * 1024 * 1024 * 1024))] := by
  have hs := sz_size dg ⟨#[103, 105]⟩
  have hk : (⟨#[103, 105]⟩ : ByteArray).size = 2 := rfl
  rw [hk] at hs
  have hx := sz_ext dg ⟨#[103, 105]⟩
  have hl := sz_nl dg ⟨#[103, 105]⟩
  rw [hk] at hx hl
  refine readAs_of (by omega) (sz_asc _ _ hdd (fun j hj => ?_)) fun K hK => ?_
  · rw [hk] at hj
    match j, hj with
    | 0, _ => decide
    | 1, _ => decide
  refine fd_a hK (by simp) (by omega) (sz_head _ _ 0 (by omega)) (sz_head _ _ 1 (by omega)) (sz_head _ _ 2 (by omega)) (sz_head _ _ 3 (by omega)) (by have h := sz_dig dg ⟨#[103, 105]⟩ 0 hd1; rw [Nat.add_zero] at h; rw [h]; exact hdd 0 hd1) (sz_key _ _) ?_
  exact fd_gi hK dg.size hd1 (by omega) (fun i hi => by rw [sz_dig _ _ _ hi]; exact hdd i hi) (sz_sfx dg ⟨#[103, 105]⟩ 0 (by decide)) (sz_sfx dg ⟨#[103, 105]⟩ 1 (by decide)) hl dg hx hdd hn (by omega) hd1 (fun L => sets_a L _)
theorem ra_t (dg : ByteArray) (hdd : isDigits dg) (hd1 : 0 < dg.size) (hsz : dg.size ≤ 1000) (hn : ((numOf dg.data.toList : Nat) : Int) * 1000 * 1000 * 1000 * 1000 ≤ 4611686018427387904) : ReadAs (szText dg ⟨#[116]⟩) [(⟨#[97]⟩, .int (((numOf dg.data.toList : Nat) : Int) * 1000 * 1000 * 1000 * 1000))] := by
  have hs := sz_size dg ⟨#[116]⟩
  have hk : (⟨#[116]⟩ : ByteArray).size = 1 := rfl
  rw [hk] at hs
  have hx := sz_ext dg ⟨#[116]⟩
  have hl := sz_nl dg ⟨#[116]⟩
  rw [hk] at hx hl
  refine readAs_of (by omega) (sz_asc _ _ hdd (fun j hj => ?_)) fun K hK => ?_
  · rw [hk] at hj
    match j, hj with
    | 0, _ => decide
  refine fd_a hK (by simp) (by omega) (sz_head _ _ 0 (by omega)) (sz_head _ _ 1 (by omega)) (sz_head _ _ 2 (by omega)) (sz_head _ _ 3 (by omega)) (by have h := sz_dig dg ⟨#[116]⟩ 0 hd1; rw [Nat.add_zero] at h; rw [h]; exact hdd 0 hd1) (sz_key _ _) ?_
  exact fd_t hK dg.size hd1 (by omega) (fun i hi => by rw [sz_dig _ _ _ hi]; exact hdd i hi) (sz_sfx dg ⟨#[116]⟩ 0 (by decide)) hl dg hx hdd hn (by omega) hd1 (fun L => sets_a L _)
theorem ra_tb (dg : ByteArray) (hdd : isDigits dg) (hd1 : 0 < dg.size) (hsz : dg.size ≤ 1000) (hn : ((numOf dg.data.toList : Nat) : Int) * 1024 * 1024 * 1024 * 1024 ≤ 4611686018427387904) : ReadAs (szText dg ⟨#[116, 98]⟩) [(⟨#[97]⟩, .int (((numOf dg.data.toList : Nat) : Int) * 1024 * 1024 * 1024 * 1024))] := by
  have hs := sz_size dg ⟨#[116, 98]⟩
  have hk : (⟨#[116, 98]⟩ : ByteArray).size = 2 := rfl
  rw [hk] at hs
  have hx := sz_ext dg ⟨#[116, 98]⟩
  have hl := sz_nl dg ⟨#[116, 98]⟩
  rw [hk] at hx hl
  refine readAs_of (by omega) (sz_asc _ _ hdd (fun j hj => ?_)) fun K hK => ?_
  · rw [hk] at hj
    match j, hj with
    | 0, _ => decide
    | 1, _ => decide
  refine fd_a hK (by simp) (by omega) (sz_head _ _ 0 (by omega)) (sz_head _ _ 1 (by omega)) (sz_head _ _ 2 (by omega)) (sz_head _ _ 3 (by omega)) (by have h := sz_dig dg ⟨#[116, 98]⟩ 0 hd1; rw [Nat.add_zero] at h; rw [h]; exact hdd 0 hd1) (sz_key _ _) ?_
  exact fd_tb hK dg.size hd1 (by omega) (fun i hi => by rw [sz_dig _ _ _ hi]; exact hdd i hi) (sz_sfx dg ⟨#[116, 98]⟩ 0 (by decide)) (sz_sfx dg ⟨#[116, 98]⟩ 1 (by decide)) hl dg hx hdd hn (by omega) hd1 (fun L => sets_a L _)
theorem ra_tib (dg : ByteArray) (hdd : isDigits dg) (hd1 : 0 < dg.size) (hsz : dg.size ≤ 1000) (hn : ((numOf dg.data.toList : Nat) : Int) * 1024 * 1024 * 1024 * 1024 ≤ 4611686018427387904) : ReadAs (szText dg ⟨#[116, 105, 98]⟩) [(⟨#[97]⟩, .int (((numOf dg.data.toList : Nat) : Int) * 1024 * 1024 * 1024 * 1024))] := by
  have hs := sz_size dg ⟨#[116, 105, 98]⟩
  have hk : (⟨#[116, 105, 98]⟩ : ByteArray).size = 3 := rfl
  rw [hk] at hs
  have hx := sz_ext dg ⟨#[116, 105, 98]⟩
  have hl := sz_nl dg ⟨#[116, 105, 98]⟩
  rw [hk] at hx hl
  refine readAs_of (by omega) (sz_asc _ _ hdd (fun j hj => ?_)) fun K hK => ?_
  · rw [hk] at hj
    match j, hj with
    | 0, _ => decide
    | 1, _ => decide
    | 2, _ => decide
  refine fd_a hK (by simp) (by omega) (sz_head _ _ 0 (by omega)) (sz_head _ _ 1 (by omega)) (sz_head _ _ 2 (by omega)) (sz_head _ _ 3 (by omega)) (by have h := sz_dig dg ⟨#[116, 105, 98]⟩ 0 hd1; rw [Nat.add_zero] at h; rw [h]; exact hdd 0 hd1) (sz_key _ _) ?_
  exact fd_tib hK dg.size hd1 (by omega) (fun i hi => by rw [sz_dig _ _ _ hi]; exact hdd i hi) (sz_sfx dg ⟨#[116, 105, 98]⟩ 0 (by decide)) (sz_sfx dg ⟨#[116, 105, 98]⟩ 1 (by decide)) (sz_sfx dg ⟨#[116, 105, 98]⟩ 2 (by decide)) hl dg hx hdd hn (by omega) hd1 (fun L => sets_a L _)
theorem ra_ti (dg : ByteArray) (hdd : isDigits dg) (hd1 : 0 < dg.size) (hsz : dg.size ≤ 1000) (hn : ((numOf dg.data.toList : Nat) : Int) * 1024 * 1024 * 1024 * 1024 ≤ 4611686018427387904) : ReadAs (szText dg ⟨#[116, 105]⟩) [(⟨#[97]⟩, .int (((numOf dg.data.toList : Nat) : Int) * 1024 * 1024 * 1024 * 1024))] := by
  have hs := sz_size dg ⟨#[116, 105]⟩
  have hk : (⟨#[116, 105]⟩ : ByteArray).size = 2 := rfl
  rw [hk] at hs
  have hx := sz_ext dg ⟨#[116, 105]⟩
  have hl := sz_nl dg ⟨#[116, 105]⟩
  rw [hk] at hx hl
  refine readAs_of (by omega) (sz_asc _ _ hdd (fun j hj => ?_)) fun K hK => ?_
  · rw [hk] at hj
    match j, hj with
    | 0, _ => decide
    | 1, _ => decide
  refine fd_a hK (by simp) (by omega) (sz_head _ _ 0 (by omega)) (sz_head _ _ 1 (by omega)) (sz_head _ _ 2 (by omega)) (sz_head _ _ 3 (by omega)) (by have h := sz_dig dg ⟨#[116, 105]⟩ 0 hd1; rw [Nat.add_zero] at h; rw [h]; exact hdd 0 hd1) (sz_key _ _) ?_
  exact fd_ti hK dg.size hd1 (by omega) (fun i hi => by rw [sz_dig _ _ _ hi]; exact hdd i hi) (sz_sfx dg ⟨#[116, 105]⟩ 0 (by decide)) (sz_sfx dg ⟨#[116, 105]⟩ 1 (by decide)) hl dg hx hdd hn (by omega) hd1 (fun L => sets_a L _)
end Go.Cf

/-
  A configuration's text is read and told as a Node.
-/
namespace Go.Cf
open Go.RowKit Go.Conc Go.Proofs
attribute [local go_sem] run_store_flt
section
variable {B : Nat} {lab lab1 : Lab} {w w1 : World}
/-- The outermost map, when it is finished. -/
theorem CAt.root {m : List (ByteArray × JV)} {v : Value} (h : CAt B 10 lab w (.map m) v) : ∃ b, v = .iface 61 (.map (some b)) ∧ lab b = 10 ∧ isJ B (fun k => if k = b then 6 else lab k) w (.map (m.map (·.1)) (m.map (·.2))) v ∧
    Mv (fun x => x = 10) w lab w (fun k => if k = b then 6 else lab k) := by
  obtain ⟨b, t, rfl, hm, rfl, hj⟩ := h
  have mv : Mv (fun x => x = 10) w lab w (fun k => if k = b then 6 else lab k) :=
    ⟨rfl, rfl, rfl, Nat.le_refl _, fun _ _ _ => rfl, fun k _ hn => if_neg (fun e => hn (by rw [e]; exact hm.2))⟩
  refine ⟨b, rfl, hm.2, ?_, mv⟩
  simp only [isJ]
  refine ⟨b, t, rfl, ⟨hm.1, if_pos rfl⟩, by simp [List.map_map], by simp [List.map_map], ?_⟩
  have e : List.map (fun x => x.snd) (List.map (fun x => (x.fst, x.snd.fst)) t) = t.map (·.2.1) := by rw [List.map_map]; rfl
  rw [e]
  exact isJs.mv mv (by decide) _ _ hj
theorem results_cell2 {P : Program} {fn : Func} {t u : Tmp} {ty e : TypeId} {tmps : Array Value} {W : World} {g : Nat} {cs : Array Value} {fr : Nat × Nat} {d : TypeDesc} (h : fn.results = #[.cell t ty, .tmp u]) (hp : tmps.getD t undef = .pointer (some ⟨g, 0, none⟩)) (hg : W.heap[g]? = some (.cells cs e fr))
    (hu : P.underlying ty = some d) (hd : (match d with | .struct _ | .array _ _ => true | _ => false) = true) (hi : (P.info? ty).map (·.size) = some cs.size) : (results fn tmps).run P W = .ok (.tuple #[.agg cs, tmps.getD u undef]) W := by
  have := run_loadVar_row W g e ty cs fr d hg hu hd hi
  rw [results_cell_tmp h, hp]
  simp [asAddr, this, Result.andThen]
theorem Mv.grown_new {M : Nat → Prop} {w2 : World} {r : Nat} (h : Mv M w lab w1 lab1) (hg : w1.grownBy w2 (some r)) (hr : w.heap.size ≤ r) (ℓ : Nat) : Mv M w lab w2 (lab1.ext w1.heap.size ℓ) :=
  ⟨hg.os.trans h.os, hg.tape.trans h.tape, hg.output.trans h.output, Nat.le_trans h.size hg.size,
    fun x hx hn => (hg.block x (Nat.lt_of_lt_of_le hx h.size) (fun e => by cases e; omega)).trans (h.block x hx hn),
    fun x hx hn => by rw [Lab.ext_lt (Nat.lt_of_lt_of_le hx h.size)]; exact h.lab x hx hn⟩
/-- Conf on a text that is read. -/
def isC (B : Nat) (lab : Lab) (w : World) (m : List (ByteArray × JV)) (c : Array Value) : Prop := isN B lab w (.map (m.map (·.1)) (m.map (·.2))) c
set_option maxRecDepth 100000 in
set_option maxHeartbeats 1000000 in
theorem Conf_c (s : ByteArray) (m : List (ByteArray × JV)) (hB : B ≤ w.heap.size) (htb : Tb lab w) (hr : ReadAs s m) (hf : (JV.map (m.map (·.1)) (m.map (·.2))).fits) :
    Calls Tryz.prog 15 #[.string s] w fun e w' => ∃ c lab', e = .returned (.tuple #[.agg c, .int .i64 0]) ∧ isC B lab' w' m c ∧ Mv PM w lab w' lab' := by
  have bl : w.heap.size < (w.alloc z26).heap.size := by rw [World.size_alloc]; omega
  have hr1 : (w.alloc z26).heap[w.heap.size]? = some z26 := heap_alloc_new w _
  have hB1 : B ≤ (w.alloc z26).heap.size := Nat.le_trans hB (Nat.le_of_lt bl)
  have hres : Cl 7 ((lab.ext w.heap.size 7)) (w.alloc z26) w.heap.size (ndC 0 0 0 false { data := #[] } nilS nilS) 26 := ⟨hr1, Lab.ext_ge (Nat.le_refl _)⟩
  have hal7 : Mv (fun _ => False) w lab (w.alloc z26) (lab.ext w.heap.size 7) := Mv.alloc w lab _ 7
  have htb1 := htb.mv hal7 (fun h => h)
  have HA := Lib.hid hal7
  have HR := Lib.hid hres
  have HT := Lib.hid htb1
  clear hr1 hres hal7 htb1
  go_enter Tryz.func15, Tryz.ntmps15
  go_wp2_with fail
  refine (Parse_c s m hB1 HT.out hr).mono ?_
  rintro e w1 ⟨mp, lab1, rfl, hc, m1⟩
  obtain ⟨b, hb1, hb2, hj, m2⟩ := hc.root
  cases hb1
  have hB2 := Nat.le_trans hB1 m1.size
  have hres1 := HR.out.mv m1 (by decide)
  have hres2 := hres1.mv m2 (by decide)
  have M12 := (HA.out.mono (M' := PM) (fun _ h => h.elim)).trans (m1.trans m2 (fun x h => by subst h; decide)) (fun _ h => h)
  clear hc hb2 hres1 m1 m2
  go_wp2_with fail
  refine (node_c _ B w1 _ _ hB2 hf hj).mono ?_
  rintro e w2 ⟨c, lab2, rfl, hn, m3⟩
  have hres := hres2.mv m3 (fun h => h)
  have M123 := M12.trans m3 (fun _ h => h.elim)
  clear hres2 M12 m3 hj
  have hn' := hn
  simp only [isN] at hn'
  obtain ⟨kv, lv, cs, rfl, hk, hl, _⟩ := hn'
  obtain ⟨ka, kcap, rfl⟩ := own_slice hk.1
  obtain ⟨la, lcap, rfl⟩ := own_slice hl.1
  have z0 := blk_cell hres.1 0
  have z1 := blk_cell hres.1 1
  have z2 := blk_cell hres.1 2
  have z3 := blk_cell hres.1 3
  have z4 := blk_cell hres.1 4
  have z5 := blk_cell hres.1 5
  have z6 := blk_cell hres.1 6
  have f0 := blk_free hres.1 0
  have f1 := blk_free hres.1 1
  have f2 := blk_free hres.1 2
  have f3 := blk_free hres.1 3
  have f4 := blk_free hres.1 4
  have f5 := blk_free hres.1 5
  have f6 := blk_free hres.1 6
  have S7 := Lib.hid (set7 (.int .i64 6) (.int .i64 0) (.float .f64 0) (.bool false) (.string { data := #[] }) (.slice ka m.length kcap) (.slice la m.length lcap) hres.1)
  have HN := Lib.hid hn
  have HM := Lib.hid M123
  have h7 := Lib.hid hres.2
  clear hn hres M123 hk hl
  go_wp2
  refine bodyPost_ret (results_cell2 rfl rfl S7.out.1 Tryz.underlying26 rfl info26) rfl ?_
  have mm : Mv (· = 7) w2 lab2 _ (lab2.ext w2.heap.size 7) := Mv.grown S7.out.2 lab2 7 (fun x hx => by cases hx; exact h7.out)
  refine ⟨_, _, rfl, ?_, HM.out.grown_new S7.out.2 (Nat.le_refl _) 7⟩
  have := isN.mv mm (by decide) _ _ HN.out
  simp only [List.length_map] at this
  exact this
end
end Go.Cf

/-
  A text that is no configuration: the parser's loop ends in an error.
-/
namespace Go.Cf
open Go.RowKit Go.Conc Go.Proofs
attribute [local go_sem] run_store_flt
/-- What may turn while a text is refused. -/
abbrev PM6 (x : Nat) : Prop := x ≠ 0 ∧ x ≠ 7
abbrev LW := Lab → World → Prop
def Stab (A : LW) : Prop := ∀ lab w lab' w', A lab w → Mv (· = 7) w lab w' lab' → A lab' w'
/-- The next item. -/
def Nx (p : Nat) (A : LW) (x : It) (A' : LW) : Prop := ∀ lab w, A lab w → Calls Tryz.prog 55 #[.pointer (some ⟨p, 0, none⟩)] w fun e w' => e = .returned x.v ∧ ∃ lab', A' lab' w' ∧ Mv PM6 w lab w' lab'
/-- An item is worked in. -/
def Itm (p : Nat) (A : LW) (x : It) (A' : LW) : Prop := ∀ lab w, A lab w → Calls Tryz.prog 57 #[.pointer (some ⟨p, 0, none⟩), x.v, .string { data := #[] }] w fun e w' => e = .returned .nilIface ∧ ∃ lab', A' lab' w' ∧ Mv PM6 w lab w' lab'
/-- An item is refused. -/
def Fl (p : Nat) (A : LW) (x : It) : Prop := ∀ lab w, A lab w → Calls Tryz.prog 57 #[.pointer (some ⟨p, 0, none⟩), x.v, .string { data := #[] }] w fun e w' => (∃ t v, e = .returned (.iface t v)) ∧ ∃ lab', Mv PM6 w lab w' lab'
/-- From this state on, behind the item prev, the loop ends in an error. -/
inductive Rd (p : Nat) : LW → It → Prop
  | eof {A A' : LW} {x prev : It} (n : Nx p A x A') (hs : Stab A') (hx : x.typ = 2) (h3 : prev.typ = 3) (hv : (prev.val.toList == [125]) = false) : Rd p A prev
  | err {A A' : LW} {x prev : It} (n : Nx p A x A') (hs : Stab A') (hx : x.typ ≠ 2) (hf : Fl p A' x) : Rd p A prev
  | step {A A' A2 : LW} {x prev : It} (n : Nx p A x A') (hs : Stab A') (hx : x.typ ≠ 2) (hi : Itm p A' x A2) (h : Rd p A2 x) : Rd p A prev
section
variable {lab lab1 lab00 : Lab} {w w1 w00 : World} {p r : Nat}
theorem wpL_rd {P : Program} {Q : Exit → Act → World → Prop} {c : Code} {I : LW → It → Act → World → Prop} {A : LW} {prev : It} {a : Act} (R : Rd p A prev) (hI : I A prev a w)
    (heof : ∀ (A A' : LW) (x prev : It) (a : Act) (w : World), Nx p A x A' → Stab A' → x.typ = 2 → prev.typ = 3 → (prev.val.toList == [125]) = false → I A prev a w → wpN P c (Exit.then (fun _ _ => False) Q) a w)
    (herr : ∀ (A A' : LW) (x prev : It) (a : Act) (w : World), Nx p A x A' → Stab A' → x.typ ≠ 2 → Fl p A' x → I A prev a w → wpN P c (Exit.then (fun _ _ => False) Q) a w)
    (hstep : ∀ (A A' A2 : LW) (x prev : It) (a : Act) (w : World), Nx p A x A' → Stab A' → x.typ ≠ 2 → Itm p A' x A2 → I A prev a w → wpN P c (Exit.then (I A2 x) Q) a w) : wpL P c Q a w := by
  induction R generalizing a w with
  | eof n hs hx h3 hv => exact wpL_round (wpN_mono (heof _ _ _ _ _ _ n hs hx h3 hv hI) (fun e a w q => by cases e <;> first | exact q | exact q.elim))
  | err n hs hx hf => exact wpL_round (wpN_mono (herr _ _ _ _ _ _ n hs hx hf hI) (fun e a w q => by cases e <;> first | exact q | exact q.elim))
  | step n hs hx hi _ ih => exact wpL_round (wpN_mono (hstep _ _ _ _ _ _ _ n hs hx hi hI) (fun e a w q => by cases e <;> first | exact q | exact ih q))
def PIr (lab00 : Lab) (w00 : World) (p r : Nat) (A : LW) (prev : It) (a : Act) (w : World) : Prop :=
  (∃ t2 t3 t6 t7 t8 t9 t10 t11 t12 t13 t14 t15 t16 t17 t18 t19 t20 t21 t22 t23 t24 t25 t26 t27 t28 t29 t30 t31 t32 t33 t34 t35 t36 : Value, a = { tmps := #[.pointer (some ⟨p, 0, none⟩), .string { data := #[] }, t2, t3, .nilIface, .pointer (some ⟨r, 0, none⟩), t6, t7, t8, t9, t10, t11, t12, t13, t14, t15, t16, t17, t18, t19, t20, t21, t22, t23, t24, t25, t26, t27, t28, t29, t30, t31, t32, t33, t34, t35, t36], defers := [] }) ∧
  ∃ lab, A lab w ∧ Cl 7 lab w r #[i64 prev.typ, .string prev.val, i64 prev.line, i64 prev.pos] 98 ∧ Mv PM6 w00 lab00 w lab
theorem new_c (s : ByteArray) (w : World) : Calls Tryz.prog 56 #[.string s] w fun e w' => (∃ t v, e = .returned (.iface t v)) ∧ Below w.heap.size w w' := by
  go_enter Tryz.func56, Tryz.ntmps56
  go_wp2
  go_ret
  exact ⟨⟨_, _, rfl⟩, (Below.refl _ w).alloc (Nat.le_refl _) _⟩
set_option maxRecDepth 100000 in
set_option maxHeartbeats 4000000 in
theorem parse48_bad {s : ByteArray} {c : Nat} {K : PK} (hp0 : PAt 0 lab w K ⟨LX.new s c, [], []⟩) (hmp : Mp 10 lab w K.mp []) (m00 : Mv PM6 w00 lab00 w lab) {A : LW} (hst : Stab A) (hA : ∀ lab' w', PAt 0 lab' w' K ⟨LX.new s c, [.map []], []⟩ → Mv PM w lab w' lab' → A lab' w') (R : Rd K.p A ⟨0, { data := #[] }, 0, 0⟩) :
    Calls Tryz.prog 48 #[.pointer (some ⟨K.p, 0, none⟩), .string { data := #[] }] w fun e w' => (∃ t v, e = .returned (.iface t v)) ∧ ∃ lab', Mv PM6 w00 lab00 w' lab' := by
  have c0 := hp0.c0
  refine calls_of_wpN Tryz.func48 rfl ?_
  simp only [Tryz.ntmps48, List.size_toArray, List.length_cons, List.length_nil, Nat.reduceAdd, Nat.reduceSub, Array.replicate_succ, Array.replicate_zero, List.push_toArray, List.append_toArray, List.nil_append, List.cons_append]
  refine wpN_seq_k (fun K0 hK0 => ?_)
  go_wp2
  refine wpN_seq_k (fun K1 hK1 => ?_)
  go_wp2_with fail
  refine (pushContext_c hp0 (Nat.zero_le _) (by simp) (.map []) 61 (.map (some K.mp)) ⟨K.mp, [], rfl, hmp, rfl, trivial⟩ (fun _ => rfl)).mono ?_
  rintro e w1 ⟨rfl, lab1, hp1, m1⟩
  go_wp2
  refine wpN_seq_k (fun K2 hK2 => ?_)
  go_wp2
  have hz : Cl 7 (lab1.ext w1.heap.size 7) (w1.alloc Zero98) w1.heap.size #[i64 0, .string { data := #[] }, i64 0, i64 0] 98 := Cl.alloc _ _ _ _ _
  have mz : Mv (fun _ => False) w1 lab1 (w1.alloc Zero98) (lab1.ext w1.heap.size 7) := Mv.alloc _ _ _ _
  have hAz := hst _ _ _ _ (hA _ _ hp1 m1) (mz.mono (M' := (· = 7)) (fun _ h => h.elim))
  have mmz := (m00.trans m1 (fun x h => ⟨h.1, h.2.2⟩)).trans mz (fun _ h => h.elim)
  obtain ⟨W, hW⟩ : ∃ W, W = w1.alloc Zero98 := ⟨_, rfl⟩
  have hW2 : w1.alloc (Obj.cells #[Value.int IntKind.i64 0, Value.string { data := #[] }, Value.int IntKind.i64 0, Value.int IntKind.i64 0] 98) = W := hW.symm
  rw [← hW] at hz mmz hAz
  rw [hW2]
  obtain ⟨r, hr⟩ : ∃ r, r = w1.heap.size := ⟨_, rfl⟩
  rw [← hr] at hz mmz hAz ⊢
  have hwr : w00.heap.size ≤ r := by rw [hr]; exact Nat.le_trans m00.size m1.size
  clear hr hW hW2 hp1 mz m1 hA hst
  refine wpN_seq (wpN_block (wpL.loop ?_))
  refine wpL_rd (I := PIr lab00 w00 K.p r) R ⟨⟨_, _, _, _, _, _, _, _, _, _, _, _, _, _, _, _, _, _, _, _, _, _, _, _, _, _, _, _, _, _, _, _, _, rfl⟩, _, hAz, hz, mmz⟩ ?_ ?_ ?_
  · rintro A A' ⟨xt, xv, xl, xp⟩ prev a w2 hn hs hx h3 hv ⟨⟨t2, t3, t6, t7, t8, t9, t10, t11, t12, t13, t14, t15, t16, t17, t18, t19, t20, t21, t22, t23, t24, t25, t26, t27, t28, t29, t30, t31, t32, t33, t34, t35, t36, rfl⟩, lab2, hA2, hz2, mm2⟩
    obtain rfl : xt = 2 := hx
    obtain ⟨pt, pv, pl, pp⟩ := prev
    refine wpN_of_wp ?_
    go_wp2_with fail
    refine (hn _ _ hA2).mono ?_
    rintro e w3 ⟨rfl, lab3, hA3, m3⟩
    have hz3 := hz2.mv m3 (by simp [PM6])
    have d0 : w3.cell? ⟨r, 0, none⟩ = some (i64 pt) := hz3.cell 0
    have d1 : w3.cell? ⟨r, 1, none⟩ = some (.string pv) := hz3.cell 1
    have e0 : ∀ o, (w3.alloc o).cell? ⟨r, 0, none⟩ = some (i64 pt) := fun o => (World.cell?_alloc_lt w3 o _ (World.block_lt_of_cell? w3 _ d0)).trans d0
    have e0' : ∀ o, (w3.alloc o).cell? ⟨r, 1, none⟩ = some (.string pv) := fun o => (World.cell?_alloc_lt w3 o _ (World.block_lt_of_cell? w3 _ d1)).trans d1
    obtain rfl : pt = 3 := h3
    have e2 : (pv.toList == [125]) = false := hv
    have m4 := (mm2.trans m3 (fun _ h => h)).trans (Mv.alloc (M := fun _ => False) w3 lab3 (.cells #[i64 (2 : Nat), .string xv, i64 xl, i64 xp] 98) 7) (fun _ h => h.elim)
    try simp only [It.v]
    clear d0 d1 hA3 hn hv
    have HM4 := Lib.hid m4
    clear m4
    go_wp2_with fail
    refine (new_c _ _).mono ?_
    rintro e w5 ⟨⟨t, v, rfl⟩, hb5⟩
    have HB5 := Lib.hid hb5
    clear hb5
    go_wp2
    go_ret
    exact ⟨⟨_, _, rfl⟩, _, HM4.out.trans (Mv.below (M := fun _ => False) HB5.out _ 33) (fun _ (h : False) => h.elim)⟩
  · rintro A A' ⟨xt, xv, xl, xp⟩ prev a w2 hn hs hx hf ⟨⟨t2, t3, t6, t7, t8, t9, t10, t11, t12, t13, t14, t15, t16, t17, t18, t19, t20, t21, t22, t23, t24, t25, t26, t27, t28, t29, t30, t31, t32, t33, t34, t35, t36, rfl⟩, lab2, hA2, hz2, mm2⟩
    have e1 : (((xt : Nat) : Int) == 2) = false := beq_eq_false_iff_ne.2 (by have h3 : xt ≠ 2 := hx; omega)
    obtain ⟨pt, pv, pl, pp⟩ := prev
    refine wpN_of_wp ?_
    go_wp2_with fail
    refine (hn _ _ hA2).mono ?_
    rintro e w3 ⟨rfl, lab3, hA3, m3⟩
    have hz3 := hz2.mv m3 (by simp [PM6])
    have d0 : w3.cell? ⟨r, 0, none⟩ = some (i64 pt) := hz3.cell 0
    have d1 : w3.cell? ⟨r, 1, none⟩ = some (.string pv) := hz3.cell 1
    have d2 : w3.cell? ⟨r, 2, none⟩ = some (i64 pl) := hz3.cell 2
    have d3 : w3.cell? ⟨r, 3, none⟩ = some (i64 pp) := hz3.cell 3
    have f0 := hz3.free 0
    have f1 := hz3.free 1
    have f2 := hz3.free 2
    have f3 := hz3.free 3
    have hlt3 := lt_of_block hz3.1
    have hne : r ≠ w3.heap.size := by omega
    try simp only [It.v]
    clear hx hn
    go_wp2_with fail
    have m7 : Mv (· = 7) w3 lab3 ((((w3.setCell ⟨r, 0, none⟩ (i64 xt)).setCell ⟨r, 1, none⟩ (.string xv)).setCell ⟨r, 2, none⟩ (i64 xl)).setCell ⟨r, 3, none⟩ (i64 xp)) lab3 :=
      (((Mv.setCell _ _ _ _ hz3.2).trans (Mv.setCell _ _ _ _ hz3.2) (fun _ h => h)).trans (Mv.setCell _ _ _ _ hz3.2) (fun _ h => h)).trans (Mv.setCell _ _ _ _ hz3.2) (fun _ h => h)
    have hA4 := hs _ _ _ _ hA3 m7
    have mm3 := mm2.trans m3 (fun _ h => h)
    have HM : Mv PM6 w00 lab00 ((((w3.setCell ⟨r, 0, none⟩ (i64 xt)).setCell ⟨r, 1, none⟩ (.string xv)).setCell ⟨r, 2, none⟩ (i64 xl)).setCell ⟨r, 3, none⟩ (i64 xp)) lab3 := by
      refine ⟨mm3.os, mm3.tape, mm3.output, Nat.le_trans mm3.size m7.size, fun k hk hn => ?_, mm3.lab⟩
      refine Eq.trans ?_ (mm3.block k hk hn)
      have hne : k ≠ r := by omega
      rw [Below.heap_setCell _ _ _ _ hne, Below.heap_setCell _ _ _ _ hne, Below.heap_setCell _ _ _ _ hne, Below.heap_setCell _ _ _ _ hne]
    have hz4 : Cl 7 lab3 ((((w3.setCell ⟨r, 0, none⟩ (i64 xt)).setCell ⟨r, 1, none⟩ (.string xv)).setCell ⟨r, 2, none⟩ (i64 xl)).setCell ⟨r, 3, none⟩ (i64 xp)) r #[i64 xt, .string xv, i64 xl, i64 xp] 98 := (((hz3.set 0 (i64 xt)).set 1 (.string xv)).set 2 (i64 xl)).set 3 (i64 xp)
    obtain ⟨W4, hW4⟩ : ∃ W4, W4 = ((((w3.setCell ⟨r, 0, none⟩ (i64 xt)).setCell ⟨r, 1, none⟩ (.string xv)).setCell ⟨r, 2, none⟩ (i64 xl)).setCell ⟨r, 3, none⟩ (i64 xp)) := ⟨_, rfl⟩
    rw [← hW4] at hA4 HM hz4 ⊢
    clear hW4 m7 d0 d1 d2 d3 f0 f1 f2 f3 hz3 hA3
    have m5 := Mv.alloc (M := fun _ => False) W4 lab3 (Obj.cells #[i64 xt, .string xv, i64 xl, i64 xp] 98) 7
    have M5 := HM.trans m5 (fun _ h => h.elim)
    have hA5 := hs _ _ _ _ hA4 (m5.mono (M' := (· = 7)) (fun _ h => h.elim))
    refine (hf _ _ hA5).mono ?_
    rintro e w6 ⟨⟨t, v, rfl⟩, lab6, m6⟩
    have HM6 := Lib.hid (M5.trans m6 (fun _ h => h))
    clear hz4 hA4 hA5 HM m5 M5 m6 hf
    go_wp2
    go_ret
    exact ⟨⟨_, _, rfl⟩, _, HM6.out⟩
  · rintro A A' A2 ⟨xt, xv, xl, xp⟩ prev a w2 hn hs hx hi ⟨⟨t2, t3, t6, t7, t8, t9, t10, t11, t12, t13, t14, t15, t16, t17, t18, t19, t20, t21, t22, t23, t24, t25, t26, t27, t28, t29, t30, t31, t32, t33, t34, t35, t36, rfl⟩, lab2, hA2, hz2, mm2⟩
    have e1 : (((xt : Nat) : Int) == 2) = false := beq_eq_false_iff_ne.2 (by have h3 : xt ≠ 2 := hx; omega)
    obtain ⟨pt, pv, pl, pp⟩ := prev
    refine wpN_of_wp ?_
    go_wp2_with fail
    refine (hn _ _ hA2).mono ?_
    rintro e w3 ⟨rfl, lab3, hA3, m3⟩
    have hz3 := hz2.mv m3 (by simp [PM6])
    have d0 : w3.cell? ⟨r, 0, none⟩ = some (i64 pt) := hz3.cell 0
    have d1 : w3.cell? ⟨r, 1, none⟩ = some (.string pv) := hz3.cell 1
    have d2 : w3.cell? ⟨r, 2, none⟩ = some (i64 pl) := hz3.cell 2
    have d3 : w3.cell? ⟨r, 3, none⟩ = some (i64 pp) := hz3.cell 3
    have f0 := hz3.free 0
    have f1 := hz3.free 1
    have f2 := hz3.free 2
    have f3 := hz3.free 3
    have hlt3 := lt_of_block hz3.1
    have hne : r ≠ w3.heap.size := by omega
    try simp only [It.v]
    clear hx hn
    go_wp2_with fail
    have m7 : Mv (· = 7) w3 lab3 ((((w3.setCell ⟨r, 0, none⟩ (i64 xt)).setCell ⟨r, 1, none⟩ (.string xv)).setCell ⟨r, 2, none⟩ (i64 xl)).setCell ⟨r, 3, none⟩ (i64 xp)) lab3 :=
      (((Mv.setCell _ _ _ _ hz3.2).trans (Mv.setCell _ _ _ _ hz3.2) (fun _ h => h)).trans (Mv.setCell _ _ _ _ hz3.2) (fun _ h => h)).trans (Mv.setCell _ _ _ _ hz3.2) (fun _ h => h)
    have hA4 := hs _ _ _ _ hA3 m7
    have mm3 := mm2.trans m3 (fun _ h => h)
    have HM : Mv PM6 w00 lab00 ((((w3.setCell ⟨r, 0, none⟩ (i64 xt)).setCell ⟨r, 1, none⟩ (.string xv)).setCell ⟨r, 2, none⟩ (i64 xl)).setCell ⟨r, 3, none⟩ (i64 xp)) lab3 := by
      refine ⟨mm3.os, mm3.tape, mm3.output, Nat.le_trans mm3.size m7.size, fun k hk hn => ?_, mm3.lab⟩
      refine Eq.trans ?_ (mm3.block k hk hn)
      have hne : k ≠ r := by omega
      rw [Below.heap_setCell _ _ _ _ hne, Below.heap_setCell _ _ _ _ hne, Below.heap_setCell _ _ _ _ hne, Below.heap_setCell _ _ _ _ hne]
    have hz4 : Cl 7 lab3 ((((w3.setCell ⟨r, 0, none⟩ (i64 xt)).setCell ⟨r, 1, none⟩ (.string xv)).setCell ⟨r, 2, none⟩ (i64 xl)).setCell ⟨r, 3, none⟩ (i64 xp)) r #[i64 xt, .string xv, i64 xl, i64 xp] 98 := (((hz3.set 0 (i64 xt)).set 1 (.string xv)).set 2 (i64 xl)).set 3 (i64 xp)
    obtain ⟨W4, hW4⟩ : ∃ W4, W4 = ((((w3.setCell ⟨r, 0, none⟩ (i64 xt)).setCell ⟨r, 1, none⟩ (.string xv)).setCell ⟨r, 2, none⟩ (i64 xl)).setCell ⟨r, 3, none⟩ (i64 xp)) := ⟨_, rfl⟩
    rw [← hW4] at hA4 HM hz4 ⊢
    clear hW4 m7 d0 d1 d2 d3 f0 f1 f2 f3 hz3 hA3
    have m5 := Mv.alloc (M := fun _ => False) W4 lab3 (Obj.cells #[i64 xt, .string xv, i64 xl, i64 xp] 98) 7
    have M5 := HM.trans m5 (fun _ h => h.elim)
    have hA5 := hs _ _ _ _ hA4 (m5.mono (M' := (· = 7)) (fun _ h => h.elim))
    refine (hi _ _ hA5).mono ?_
    rintro e w6 ⟨rfl, lab6, hA6, m6⟩
    have M6 := M5.trans m6 (fun _ h => h)
    have hz6 := (hz4.mv m5 (fun h => h)).mv m6 (by simp [PM6])
    clear hz4 hA4 hA5 HM m5 M5 m6 hi
    go_wp2
    exact ⟨⟨_, _, _, _, _, _, _, _, _, _, _, _, _, _, _, _, _, _, _, _, _, _, _, _, _, _, _, _, _, _, _, _, _, rfl⟩, _, hA6, hz6, M6⟩
/-- The parser as it is made, the row of its keys' items finished. -/
theorem NewP.items {s : ByteArray} {c : Nat} {K : PK} (h : NewP 0 lab w K s c) : ∃ lab', PAt 0 lab' w K ⟨LX.new s c, [], []⟩ ∧ Mp 10 lab' w K.mp [] ∧ Mp 6 lab' w K.ev [] ∧ Rw 0 6 lab' w 98 4 K.iv 0 [] ∧ Mv (fun x => x = 5 ∨ x = 8) w lab w lab' := by
  obtain ⟨⟨top, cv, kv, vs, hx⟩, h2, h3, h4⟩ := h
  have m : Mv (fun x => x = 5 ∨ x = 8) w lab w (fun k => if lab k = 5 ∨ lab k = 8 then 6 else lab k) := ⟨rfl, rfl, rfl, Nat.le_refl _, fun _ _ _ => rfl, fun k _ hn => if_neg hn⟩
  refine ⟨_, ⟨top, cv, kv, vs, ?_⟩, h2.mv m (by decide), ⟨h3.1, if_pos (.inr h3.2)⟩, ⟨h4.1, fun k hk => if_pos (.inl (h4.2 k hk))⟩, m⟩
  exact {
    cl := hx.cl.mv m (by decide)
    lx := hx.lx.mv m (by decide)
    cv := hx.cv.mv m (by decide)
    kv := hx.kv.mv m (by decide)
    cs := by
      have := hx.cs
      cases vs with
      | nil => trivial
      | cons a r => exact this.elim
    top := hx.top
    root := hx.root }
/-- The text is refused, in either way of reading. -/
def Refused (s : ByteArray) : Prop := ∀ (K : PK) (c : Nat), ∃ A : LW, Stab A ∧ (∀ lab w, PAt 0 lab w K ⟨LX.new s c, [.map []], []⟩ → Mp 6 lab w K.ev [] → Rw 0 6 lab w 98 4 K.iv 0 [] → Tb lab w → A lab w) ∧ Rd K.p A ⟨0, { data := #[] }, 0, 0⟩
set_option maxRecDepth 100000 in
set_option maxHeartbeats 1000000 in
theorem parse39_bad (s : ByteArray) (ped : Bool) (htb : Tb lab w) (hr : Refused s) :
    Calls Tryz.prog 39 #[.string s, .string { data := #[] }, .bool ped] w fun e w' => (∃ t v, e = .returned (.tuple #[.pointer none, .iface t v])) ∧ ∃ lab', Mv PM6 w lab w' lab' := by
  go_enter Tryz.func39, Tryz.ntmps39
  go_wp2_with fail
  refine (newParser_c (lab := lab) s ped (Nat.zero_le _)).mono ?_
  rintro e w1 ⟨K, c, lab1, hped, rfl, hn, m1⟩
  obtain ⟨A, hst, hA, hR⟩ := hr K c
  obtain ⟨lab2, hp, hmp, hev, hiv, m2⟩ := hn.items
  have M2 := (m1.mono (M' := PM6) (fun _ h => h.elim)).trans (m2.mono (M' := PM6) (by rintro x (rfl | rfl) <;> decide)) (fun _ h => h)
  have htb2 := (htb.mv m1 (fun h => h)).mv m2 (by decide)
  have HC := parse48_bad hp hmp M2 hst (fun lab' w' h m => hA lab' w' h (hev.mv m (by decide)) (hiv.mv m (by decide)) (htb2.mv m (by decide))) hR
  clear hn hp hmp hev hiv m1 m2 M2 htb2 hst hA hR hped
  go_wp2_with fail
  refine HC.mono ?_
  rintro e w2 ⟨⟨t, v, rfl⟩, lab3, m3⟩
  clear HC
  have HM := Lib.hid m3
  clear m3
  go_wp2
  go_ret2
  exact ⟨⟨_, _, rfl⟩, _, HM.out⟩
set_option maxRecDepth 100000 in
theorem Parse_bad (s : ByteArray) (htb : Tb lab w) (hr : Refused s) : Calls Tryz.prog 30 #[.string s] w fun e w' => (∃ t v, e = .returned (.tuple #[.map none, .iface t v])) ∧ ∃ lab', Mv PM6 w lab w' lab' := by
  go_enter Tryz.func30, Tryz.ntmps30
  go_wp2_with fail
  refine (parse39_bad s false htb hr).mono ?_
  rintro e w1 ⟨⟨t, v, rfl⟩, lab1, m1⟩
  have HM := Lib.hid m1
  clear m1
  go_wp2
  go_ret2
  exact ⟨⟨_, _, rfl⟩, _, HM.out⟩
set_option maxRecDepth 100000 in
theorem Checks_bad (s : ByteArray) (htb : Tb lab w) (hr : Refused s) : Calls Tryz.prog 32 #[.string s] w fun e w' => (∃ t v, e = .returned (.tuple #[.map none, .iface t v])) ∧ ∃ lab', Mv PM6 w lab w' lab' := by
  go_enter Tryz.func32, Tryz.ntmps32
  go_wp2_with fail
  refine (parse39_bad s true htb hr).mono ?_
  rintro e w1 ⟨⟨t, v, rfl⟩, lab1, m1⟩
  have HM := Lib.hid m1
  clear m1
  go_wp2
  go_ret2
  exact ⟨⟨_, _, rfl⟩, _, HM.out⟩
set_option maxRecDepth 100000 in
theorem Places_bad (s : ByteArray) (htb : Tb lab w) (hr : Refused s) : Calls Tryz.prog 20 #[.string s] w fun e w' => (∃ v, e = .returned (.tuple #[v, .int .i64 1])) ∧ ∃ lab', Mv PM6 w lab w' lab' := by
  go_enter Tryz.func20, Tryz.ntmps20
  go_wp2_with fail
  refine (Checks_bad s htb hr).mono ?_
  rintro e w1 ⟨⟨t, v, rfl⟩, lab1, m1⟩
  have HM := Lib.hid m1
  clear m1
  go_wp2
  go_ret2
  exact ⟨⟨_, rfl⟩, _, HM.out⟩
set_option maxRecDepth 100000 in
set_option maxHeartbeats 1000000 in
theorem Conf_bad (s : ByteArray) (htb : Tb lab w) (hr : Refused s) : Calls Tryz.prog 15 #[.string s] w fun e w' => e = .returned (.tuple #[.agg (ndC 0 0 0 false { data := #[] } nilS nilS), .int .i64 1]) ∧ ∃ lab', Mv PM6 w lab w' lab' := by
  have hal : Mv (fun _ => False) w lab (w.alloc z26) (lab.ext w.heap.size 7) := Mv.alloc w lab _ 7
  have hres : Cl 7 (lab.ext w.heap.size 7) (w.alloc z26) w.heap.size (ndC 0 0 0 false { data := #[] } nilS nilS) 26 := ⟨heap_alloc_new w _, Lab.ext_ge (Nat.le_refl _)⟩
  have htb1 := htb.mv hal (fun h => h)
  have HA := Lib.hid hal
  have HR := Lib.hid hres
  have HT := Lib.hid htb1
  clear hal hres htb1
  go_enter Tryz.func15, Tryz.ntmps15
  go_wp2_with fail
  refine (Parse_bad s HT.out hr).mono ?_
  rintro e w1 ⟨⟨t, v, rfl⟩, lab1, m1⟩
  have hres := HR.out.mv m1 (by simp [PM6])
  have M1 := (HA.out.mono (M' := PM6) (fun _ h => h.elim)).trans m1 (fun _ h => h)
  have z0 := blk_cell hres.1 0
  have z1 := blk_cell hres.1 1
  have z2 := blk_cell hres.1 2
  have z3 := blk_cell hres.1 3
  have z4 := blk_cell hres.1 4
  have z5 := blk_cell hres.1 5
  have z6 := blk_cell hres.1 6
  have f0 := blk_free hres.1 0
  have f1 := blk_free hres.1 1
  have f2 := blk_free hres.1 2
  have f3 := blk_free hres.1 3
  have f4 := blk_free hres.1 4
  have f5 := blk_free hres.1 5
  have f6 := blk_free hres.1 6
  have S7 := Lib.hid (set7 (.int .i64 0) (.int .i64 0) (.float .f64 0) (.bool false) (.string { data := #[] }) (.slice none 0 0) (.slice none 0 0) hres.1)
  have HM := Lib.hid M1
  clear hres M1 m1
  go_wp2
  refine bodyPost_ret (results_cell2 rfl rfl S7.out.1 Tryz.underlying26 rfl info26) rfl ?_
  exact ⟨rfl, _, HM.out.grown_new S7.out.2 (Nat.le_refl _) 7⟩
end
end Go.Cf

/-
  Items while a text is refused: errors, keys, in either way of reading.
-/
namespace Go.Cf
open Go.RowKit Go.Conc Go.Proofs
/-- Of the parser: the lexer alone. -/
def SW (K : PK) (L : LX) : LW := fun lab w => ∃ iv top cv kv, Cl 2 lab w K.p (({ K with iv := iv } : PK).cells top cv kv) 79 ∧ Lx 0 lab w K.b L
/-- The parser, and the row of its keys' items. -/
def SI (K : PK) (n : Nat) (its : List Value) (X : PX) : LW := fun lab w => ∃ iv, PAt 0 lab w { K with iv := iv } X ∧ Rw 0 6 lab w 98 4 iv n its ∧ Tb lab w
section
variable {K : PK} {X : PX} {L L' : LX} {lab lab1 : Lab} {w w1 : World} {n : Nat} {its : List Value}
theorem stab_SW : Stab (SW K L) := by
  rintro lab w lab' w' ⟨iv, top, cv, kv, h1, h2⟩ m
  exact ⟨iv, top, cv, kv, h1.mv m (by decide), h2.mv m (by decide)⟩
theorem stab_SI : Stab (SI K n its X) := by
  rintro lab w lab' w' ⟨iv, h1, h2, h3⟩ m
  exact ⟨iv, h1.mv m (fun x hx e => hx e), h2.mv m (by decide), h3.mv m (by decide)⟩
theorem SI.weak (h : SI K n its X lab w) : SW K X.L lab w := by
  obtain ⟨iv, ⟨top, cv, kv, vs, h1⟩, _⟩ := h
  exact ⟨iv, top, cv, kv, h1.cl, h1.lx⟩
theorem PAt.weak (h : PAt 0 lab w K X) : SW K X.L lab w := by
  obtain ⟨top, cv, kv, vs, h1⟩ := h
  exact ⟨K.iv, top, cv, kv, h1.cl, h1.lx⟩
theorem nx_SI {m : Nat} {x : It} {q : List It} (R : Run m X.L L') (hx : L'.q = x :: q) : Nx K.p (SI K n its X) x (SI K n its { X with L := L'.took q }) := by
  rintro lab w ⟨iv, h1, h2, h3⟩
  refine (next_item_c (K := { K with iv := iv }) h1 R hx).mono ?_
  rintro e w' ⟨rfl, lab', hp, m⟩
  exact ⟨rfl, lab', ⟨iv, hp, h2.mv m (by decide), h3.mv m (by decide)⟩, m.mono (fun x h => ⟨h.1, h.2.2⟩)⟩
set_option maxRecDepth 100000 in
set_option maxHeartbeats 1000000 in
theorem nx_SW {m : Nat} {x : It} {q : List It} (R : Run m L L') (hx : L'.q = x :: q) : Nx K.p (SW K L) x (SW K (L'.took q)) := by
  rintro lab w ⟨iv, top, cv, kv, hcl, hlx⟩
  have m1 : Mv (fun _ => False) w lab (w.alloc Zero98) (lab.ext w.heap.size 7) := Mv.alloc _ _ _ _
  have hr : Cl 7 (lab.ext w.heap.size 7) (w.alloc Zero98) w.heap.size #[i64 0, .string { data := #[] }, i64 0, i64 0] 98 := Cl.alloc _ _ _ _ _
  have hcl1 := hcl.mv m1 (fun h => h)
  have hlx1 := hlx.mv m1 (fun h => h)
  have c1 : (w.alloc Zero98).cell? ⟨K.p, 1, none⟩ = some (.pointer (some ⟨K.b, 0, none⟩)) := hcl1.cell 1
  have HC := nextItem_c R hx hlx1.at
  obtain ⟨W, hW⟩ : ∃ W, W = w.alloc Zero98 := ⟨_, rfl⟩
  have hW2 : w.alloc (Obj.cells #[Value.int IntKind.i64 0, Value.string { data := #[] }, Value.int IntKind.i64 0, Value.int IntKind.i64 0] 98) = W := hW.symm
  rw [← hW] at m1 hr hcl1 hlx1 c1 HC
  clear hW hcl hlx
  go_enter Tryz.func55, Tryz.ntmps55
  go_wp2_with fail
  refine HC.mono ?_
  rintro e w2 ⟨rfl, hA⟩
  obtain ⟨hl, ml⟩ := Lx.back hA
  have hr2 := hr.mv ml (by decide)
  have hp2 := hcl1.mv ml (by decide)
  have mm := (m1.mono (M' := PM6) (fun _ h => h.elim)).trans ml (by rintro x rfl; decide)
  obtain ⟨xt, xv, xl, xp⟩ := x
  have d0 : w2.cell? ⟨w.heap.size, 0, none⟩ = some (.int .i64 0) := hr2.cell 0
  have d1 : w2.cell? ⟨w.heap.size, 1, none⟩ = some (.string { data := #[] }) := hr2.cell 1
  have d2 : w2.cell? ⟨w.heap.size, 2, none⟩ = some (.int .i64 0) := hr2.cell 2
  have d3 : w2.cell? ⟨w.heap.size, 3, none⟩ = some (.int .i64 0) := hr2.cell 3
  have e0 := hr2.free 0
  have e1 := hr2.free 1
  have e2 := hr2.free 2
  have e3 := hr2.free 3
  have hlab := hr2.2
  have m7 : Mv (· = 7) w2 ((lab.ext w.heap.size 7).ext W.heap.size 1) ((((w2.setCell ⟨w.heap.size, 0, none⟩ (i64 xt)).setCell ⟨w.heap.size, 1, none⟩ (.string xv)).setCell ⟨w.heap.size, 2, none⟩ (i64 xl)).setCell ⟨w.heap.size, 3, none⟩ (i64 xp)) ((lab.ext w.heap.size 7).ext W.heap.size 1) :=
    (((Mv.setCell _ _ _ _ hlab).trans (Mv.setCell _ _ _ _ hlab) (fun _ h => h)).trans (Mv.setCell _ _ _ _ hlab) (fun _ h => h)).trans (Mv.setCell _ _ _ _ hlab) (fun _ h => h)
  have hp3 := hp2.mv m7 (by decide)
  have hl3 := hl.mv m7 (by decide)
  have c13 := blk_setCell (blk_setCell (blk_setCell (blk_setCell hr2.1 0 (i64 xt)) 1 (.string xv)) 2 (i64 xl)) 3 (i64 xp)
  have HC13 := Lib.hid c13
  have HX := Lib.hid hx
  have HL := Lib.hid hlab
  have HM : Mv PM6 w lab ((((w2.setCell ⟨w.heap.size, 0, none⟩ (i64 xt)).setCell ⟨w.heap.size, 1, none⟩ (.string xv)).setCell ⟨w.heap.size, 2, none⟩ (i64 xl)).setCell ⟨w.heap.size, 3, none⟩ (i64 xp)) ((lab.ext w.heap.size 7).ext W.heap.size 1) := by
    refine ⟨mm.os, mm.tape, mm.output, Nat.le_trans mm.size m7.size, fun k hk hn => ?_, mm.lab⟩
    refine Eq.trans ?_ (mm.block k hk hn)
    have hne : k ≠ w.heap.size := by omega
    rw [Below.heap_setCell _ _ _ _ hne, Below.heap_setCell _ _ _ _ hne, Below.heap_setCell _ _ _ _ hne, Below.heap_setCell _ _ _ _ hne]
  clear c13 hx hlab hr2 hr hp2 m7 hA hl ml hcl1 hlx1 HC
  simp only [It.v]
  go_wp2
  refine bodyPost_ret (results_cell rfl rfl HC13.out Tryz.underlying98 rfl info98) rfl ?_
  exact ⟨rfl, _, ⟨iv, top, cv, kv, hp3, hl3⟩, HM⟩
set_option maxRecDepth 100000 in
set_option maxHeartbeats 1000000 in
/-- An error's item. -/
theorem fl_err {A : LW} {p : Nat} {x : It} (hx : x.typ = 0) : Fl p A x := by
  obtain ⟨xt, xv, xl, xp⟩ := x
  obtain rfl : xt = 0 := hx
  intro lab w _
  have hb : ∀ o1 o2 o3, Below w.heap.size w (((w.alloc o1).alloc o2).alloc o3) := fun o1 o2 o3 => (((Below.refl _ w).alloc (Nat.le_refl _) _).alloc (by rw [World.size_alloc]; omega) _).alloc (by rw [World.size_alloc, World.size_alloc]; omega) _
  have HB := Lib.hid hb
  clear hb
  simp only [It.v]
  go_enter Tryz.func57, Tryz.ntmps57
  go_wp2_with fail
  refine (new_c _ _).mono ?_
  rintro e w5 ⟨⟨t, v, rfl⟩, hb5⟩
  have HB5 := Lib.hid hb5
  clear hb5
  go_wp2
  go_ret
  have key : ∀ W, Below w.heap.size w W → Below W.heap.size W w5 → Mv PM6 w lab w5 ((lab.ext w.heap.size 33).ext W.heap.size 33) := fun W k1 k2 =>
    ((Mv.below (M := fun _ => False) k1 lab 33).trans (Mv.below (M := fun _ => False) k2 (lab.ext w.heap.size 33) 33) (fun _ h => h)).mono (fun _ h => h.elim)
  exact ⟨⟨_, _, rfl⟩, _, key _ (HB.out _ _ _) HB5.out⟩
/-- A key, read plainly. -/
theorem itm_key (hK : K.ped = false) (hl : X.ks.length ≤ 1000000) (xv : ByteArray) (xl xp : Int) : Itm K.p (SI K n its X) ⟨3, xv, xl, xp⟩ (SI K n its { X with ks := X.ks ++ [xv] }) := by
  rintro lab w ⟨iv, h1, h2, h3⟩
  refine (item_key (K := { K with iv := iv }) h1 (Nat.zero_le _) hK hl xv xl xp).mono ?_
  rintro e w' ⟨rfl, lab', hp, m⟩
  exact ⟨rfl, lab', ⟨iv, hp, h2.mv m (by decide), h3.mv m (by decide)⟩, m.mono (fun x h => ⟨h.1, h.2.2⟩)⟩
end
end Go.Cf

/-
  Keys with their items: the reading that keeps places.
-/
namespace Go.Cf
open Go.RowKit Go.Conc Go.Proofs
theorem info98z : (Tryz.prog.info? 98).map (fun i => (i.zero, i.size, i.bytes)) = some (some (.agg #[.int .i64 0, .string { data := #[] }, .int .i64 0, .int .i64 0]), 4, 40) := by kernel_rfl
section
variable {K : PK} {X : PX} {L L' : LX} {lab lab1 : Lab} {w w1 : World} {n : Nat} {top cv kv : Value}
set_option maxRecDepth 100000 in
set_option maxHeartbeats 2000000 in
theorem pushItem_c (xs : List Value) (hcl : Cl 2 lab w K.p (K.cells top cv kv) 79) (hiv : Rw 0 6 lab w 98 4 K.iv n xs) (hn : n ≤ 1000000) (xt : Nat) (xv : ByteArray) (xl xp : Int) :
    Calls Tryz.prog 65 #[.pointer (some ⟨K.p, 0, none⟩), .agg #[i64 xt, .string xv, i64 xl, i64 xp]] w fun e w' => e = .returned (.tuple #[]) ∧ ∃ lab' v1, Cl 2 lab' w' K.p (({ K with iv := v1 } : PK).cells top cv kv) 79 ∧
      Rw 0 6 lab' w' 98 4 v1 (n + 1) (xs ++ [i64 xt, .string xv, i64 xl, i64 xp]) ∧ Mv (fun x => x = 2 ∨ x = 6) w lab w' lab' := by
  have m0 : Mv (fun _ => False) w lab (w.alloc (Obj.cells #[i64 xt, .string xv, i64 xl, i64 xp] 98)) (lab.ext w.heap.size 7) := Mv.alloc w lab _ 7
  have hcl1 := hcl.mv m0 (fun h => h)
  have hiv1 := hiv.mv m0 (fun h => h)
  obtain ⟨i0, hi0, hz0, hz1, hz2⟩ := info_parts info98z
  have c5 : ∀ o, (w.alloc o).cell? ⟨K.p, 5, none⟩ = some K.iv := fun o => (World.cell?_alloc_lt w o _ (lt_of_block hcl.1)).trans (hcl.cell 5)
  have c5' : ∀ o o', ((w.alloc o).alloc o').cell? ⟨K.p, 5, none⟩ = some K.iv := fun o o' => (World.cell?_alloc_lt _ o' _ (by show K.p < _; rw [World.size_alloc]; have := lt_of_block hcl.1; omega)).trans (c5 o)
  have hone : ∀ u ∈ [Value.int .i64 xt, .string xv, .int .i64 xl, .int .i64 xp], u.oneCell' = true := by
    intro u hu
    simp only [List.mem_cons, List.not_mem_nil, or_false] at hu
    rcases hu with rfl | rfl | rfl | rfl <;> rfl
  have HO : ((w.alloc (.cells #[.int .i64 xt, .string xv, .int .i64 xl, .int .i64 xp] 98)).alloc (.cells #[.int .i64 xt, .string xv, .int .i64 xl, .int .i64 xp] 98)).drew.ownsRow 0 98 4 K.iv n xs := (hiv1.1.alloc _).drew
  have HN : ∀ (j : Nat) (u : Value), [Value.int .i64 xt, .string xv, .int .i64 xl, .int .i64 xp][j]? = some u → ((w.alloc (.cells #[.int .i64 xt, .string xv, .int .i64 xl, .int .i64 xp] 98)).alloc (.cells #[.int .i64 xt, .string xv, .int .i64 xl, .int .i64 xp] 98)).drew.cell? ((⟨w.heap.size + 1, 0, none⟩ : Addr).add j) = some u := by
    have := World.news_of_block (cs := #[.int .i64 xt, .string xv, .int .i64 xl, .int .i64 xp]) (t := 98) (fr := (0, 0)) (heap_alloc_new (w.alloc (.cells #[.int .i64 xt, .string xv, .int .i64 xl, .int .i64 xp] 98)) (.cells #[.int .i64 xt, .string xv, .int .i64 xl, .int .i64 xp] 98))
    rw [World.size_alloc] at this
    exact this
  have HZ : ((w.alloc (.cells #[.int .i64 xt, .string xv, .int .i64 xl, .int .i64 xp] 98)).alloc (.cells #[.int .i64 xt, .string xv, .int .i64 xl, .int .i64 xp] 98)).drew.heap.size = w.heap.size + 1 + 1 := by
    show ((w.alloc (.cells #[.int .i64 xt, .string xv, .int .i64 xl, .int .i64 xp] 98)).alloc (.cells #[.int .i64 xt, .string xv, .int .i64 xl, .int .i64 xp] 98)).heap.size = _
    rw [World.size_alloc, World.size_alloc]
  have HL1 : n + 1 ≤ maxLen := by simp only [maxLen]; omega
  have HL2 : (n + 1) * 40 ≤ 140737488355328 := by omega
  go_enter Tryz.func65, Tryz.ntmps65
  go_wp2_with fail
  go_region_law (first
      | (refine step_append_lies _ (by rfl) _ _ _ (by rfl) 0 98 i0 _ 4 40 Tryz.underlying76 hi0 hz0 hz1 hz2 rfl (by omega) K.iv n xs (by rfl) HO
          ⟨w.heap.size + 1, 0, none⟩ 1 1 [.int .i64 xt, .string xv, .int .i64 xl, .int .i64 xp] (by rfl) (by rfl) HN hone
          (by omega) HL1 HL2 (Nat.zero_le _) (w.heap.size + 1 + 1) HZ ?_
         intro gg cap2 w2 hown2 hg2 hat2 hlt2
         have hg3 : (w.alloc (.cells #[.int .i64 xt, .string xv, .int .i64 xl, .int .i64 xp] 98)).grownBy w2 K.iv.ownBlock := World.grownBy.trans (World.grownBy_alloc (w.alloc (.cells #[.int .i64 xt, .string xv, .int .i64 xl, .int .i64 xp] 98)) (.cells #[.int .i64 xt, .string xv, .int .i64 xl, .int .i64 xp] 98) K.iv.ownBlock) ⟨hg2.os, hg2.tape, hg2.output, hg2.size, hg2.block⟩
         have m1 : Mv (· = 6) (w.alloc (.cells #[.int .i64 xt, .string xv, .int .i64 xl, .int .i64 xp] 98)) (lab.ext w.heap.size 7) w2 ((lab.ext w.heap.size 7).ext (w.alloc (.cells #[.int .i64 xt, .string xv, .int .i64 xl, .int .i64 xp] 98)).heap.size 6) := Mv.grown hg3 _ 6 (fun x hx => (hiv1.own_lab x hx).1)
         have hcl2 := hcl1.mv m1 (by decide)
         have r1 : w2.cell? ⟨K.p, 5, none⟩ = some K.iv := hcl2.cell 5
         have r2 : w2.frozen? ⟨K.p, 5, none⟩ = false := hcl2.free 5))
  all_goals
    have hl3 : (Value.slice (some ⟨gg, 0, none⟩) (n + 1) cap2).ownBlock = some gg := rfl
    have hlab3 : ((lab.ext w.heap.size 7).ext (w.alloc (.cells #[.int .i64 xt, .string xv, .int .i64 xl, .int .i64 xp] 98)).heap.size 6) gg = 6 := by
      rcases hat2 with e | e
      · have := hiv1.own_lab gg e
        rw [Lab.ext_lt this.2.2]
        exact this.1
      · rw [e]
        exact Lab.ext_ge (by rw [World.size_alloc]; omega)
    have hne : (Value.slice (some ⟨gg, 0, none⟩) (n + 1) cap2).ownBlock ≠ some K.p := by
      rw [hl3]
      intro e
      cases e
      rw [hcl2.2] at hlab3
      cases hlab3
    have hrow3 : Rw 0 6 ((lab.ext w.heap.size 7).ext (w.alloc (.cells #[.int .i64 xt, .string xv, .int .i64 xl, .int .i64 xp] 98)).heap.size 6) (w2.setCell ⟨K.p, 5, none⟩ (.slice (some ⟨gg, 0, none⟩) (n + 1) cap2)) 98 4 (.slice (some ⟨gg, 0, none⟩) (n + 1) cap2) (n + 1) (xs ++ [i64 xt, .string xv, i64 xl, i64 xp]) :=
      ⟨ownsRow_setCell_other hown2 hne _, fun k hk => by rw [hl3] at hk; cases hk; exact hlab3⟩
    have hcl3 := hcl2.set 5 (.slice (some ⟨gg, 0, none⟩) (n + 1) cap2)
    have mm := ((m0.mono (M' := fun x => x = 2 ∨ x = 6) (fun _ h => h.elim)).trans m1 (fun x h => .inr h)).trans (Mv.setCell (M := (· = 2)) w2 _ ⟨K.p, 5, none⟩ (.slice (some ⟨gg, 0, none⟩) (n + 1) cap2) hcl2.2) (fun x h => .inl h)
    clear r1 r2 c5 c5' hown2 hg2 hg3 m1
    go_wp2
    go_end0
    exact ⟨rfl, _, _, hcl3, hrow3, mm⟩
theorem CsAt.empty {vs : List Value} (h : CsAt 0 lab w [.map []] vs) {M : Nat → Prop} (m : Mv M w lab w1 lab1) (hM : ¬ M 10) : CsAt 0 lab1 w1 [.map []] vs := by
  obtain ⟨v, vs', rfl, hc, hcs⟩ := CsAt.form h
  obtain ⟨b, t, rfl, hm, ht, _⟩ := hc
  have ht0 : t = [] := List.map_eq_nil_iff.1 ht
  subst ht0
  refine ⟨⟨b, [], rfl, hm.mv m hM, rfl, trivial⟩, ?_⟩
  cases vs' with
  | nil => trivial
  | cons x xs => exact hcs.elim
theorem PAtX.items {ks : List ByteArray} {vs : List Value} {v1 : Value} (hx : PAtX 0 lab w K ⟨L, [.map []], ks⟩ top cv kv vs) (m : Mv (fun x => x = 2 ∨ x = 6) w lab w1 lab1) (hcl : Cl 2 lab1 w1 K.p (({ K with iv := v1 } : PK).cells top cv kv) 79) :
    PAtX 0 lab1 w1 { K with iv := v1 } ⟨L, [.map []], ks⟩ top cv kv vs where
  cl := hcl
  lx := hx.lx.mv m (by decide)
  cv := hx.cv.mv m (by decide)
  kv := hx.kv.mv m (by decide)
  cs := hx.cs.empty m (by decide)
  top := hx.top
  root := hx.root
set_option maxRecDepth 100000 in
set_option maxHeartbeats 4000000 in
/-- A key, its item kept. -/
theorem itm_key_ped (hK : K.ped = true) (xv : ByteArray) (xl xp : Int) : Itm K.p (SI K 0 [] ⟨L, [.map []], []⟩) ⟨3, xv, xl, xp⟩ (SI K 1 [i64 (3 : Nat), .string xv, i64 xl, i64 xp] ⟨L, [.map []], [xv]⟩) := by
  rintro lab w ⟨iv, hp, hrow, htb⟩
  obtain ⟨lab1, hb, m1⟩ := hp.boxed (Nat.zero_le _) 3 xv xl xp
  have hrow1 := hrow.mv m1 (by decide)
  have htb1 := htb.mv m1 (by decide)
  simp only [It.v]
  go_enter Tryz.func57, Tryz.ntmps57
  go_wp2_with fail
  refine (pushKey_c hb.pat hb.hB (by simp) xv).mono ?_
  rintro e w2 ⟨rfl, lab2, h2, m2⟩
  have hb2 := hb.mv h2 m2
  have hrow2 := hrow1.mv m2 (by decide)
  have htb2 := htb1.mv m2 (by decide)
  have d0 := hb2.b0.cell 0
  have e0 := hb2.b1.cell 0
  have e1 := hb2.b1.cell 1
  have e2 := hb2.b1.cell 2
  have e3 := hb2.b1.cell 3
  have c7 := h2.ped (show ({ K with iv := iv } : PK).ped = true from hK)
  simp at d0 e0 e1 e2 e3
  obtain ⟨top, cv, kv, vs, hx⟩ := h2
  have m12 := m1.trans m2 (fun _ h => h)
  have HT := Lib.hid htb2
  clear hb hb2 m1 m2 hrow1 htb1 hp htb2
  go_wp2_with fail
  refine (pushItem_c (K := { K with iv := iv }) [] hx.cl hrow2 (by decide) 3 xv xl xp).mono ?_
  rintro e w3 ⟨rfl, lab3, v1, hcl3, hrow3, m3⟩
  have hx3 := hx.items m3 hcl3
  have m123 := (m12.mono (M' := PM6) (fun x h => ⟨h.1, h.2.2⟩)).trans m3 (by rintro x (rfl | rfl) <;> decide)
  have htb3 := HT.out.mv m3 (by decide)
  clear hx hcl3 m3 m12 hrow2
  go_wp2
  go_ret
  exact ⟨rfl, lab3, ⟨v1, ⟨top, cv, kv, vs, hx3⟩, hrow3, htb3⟩, m123⟩
set_option maxRecDepth 100000 in
set_option maxHeartbeats 2000000 in
theorem popItem_c (a c d : Int) (s : ByteArray) (hcl : Cl 2 lab w K.p (K.cells top cv kv) 79) (hiv : Rw 0 6 lab w 98 4 K.iv 1 [i64 a, .string s, i64 c, i64 d]) :
    Calls Tryz.prog 97 #[.pointer (some ⟨K.p, 0, none⟩)] w fun e w' => e = .returned (.agg #[i64 a, .string s, i64 c, i64 d]) ∧ ∃ lab' v1, Cl 2 lab' w' K.p (({ K with iv := v1 } : PK).cells top cv kv) 79 ∧ Mv (fun x => x = 2) w lab w' lab' := by
  obtain ⟨g, cap, hivv, _, hg⟩ := hiv.1.form (by decide)
  have q : ∀ (j : Nat) (u : Value), [i64 a, Value.string s, i64 c, i64 d][j]? = some u → w.cell? ⟨g, j, none⟩ = some u := by
    intro j u hj
    have hlt := (List.getElem?_eq_some_iff.1 hj).1
    rw [(hivv ▸ hiv.1 : w.ownsRow 0 98 4 (.slice (some ⟨g, 0, none⟩) 1 cap) 1 _).cellAt j (by simpa using hlt)]
    exact hj
  have q0 := q 0 _ rfl
  have q1 := q 1 _ rfl
  have q2 := q 2 _ rfl
  have q3 := q 3 _ rfl
  have c5 : w.cell? ⟨K.p, 5, none⟩ = some (.slice (some ⟨g, 0, none⟩) 1 cap) := by rw [← hivv]; exact hcl.cell 5
  have f5 : w.frozen? ⟨K.p, 5, none⟩ = false := hcl.free 5
  have hp := lt_of_block hcl.1
  have p0 : ∀ o, (w.alloc o).cell? ⟨g, 0, none⟩ = some (i64 a) := fun o => (World.cell?_alloc_lt w o _ hg).trans q0
  have p1 : ∀ o, (w.alloc o).cell? ⟨g, 1, none⟩ = some (.string s) := fun o => (World.cell?_alloc_lt w o _ hg).trans q1
  have p2 : ∀ o, (w.alloc o).cell? ⟨g, 2, none⟩ = some (i64 c) := fun o => (World.cell?_alloc_lt w o _ hg).trans q2
  have p3 : ∀ o, (w.alloc o).cell? ⟨g, 3, none⟩ = some (i64 d) := fun o => (World.cell?_alloc_lt w o _ hg).trans q3
  have p5 : ∀ o, (w.alloc o).cell? ⟨K.p, 5, none⟩ = some (.slice (some ⟨g, 0, none⟩) 1 cap) := fun o => (World.cell?_alloc_lt w o _ hp).trans c5
  have r5 : ∀ o o', ((w.alloc o).alloc o').cell? ⟨K.p, 5, none⟩ = some (.slice (some ⟨g, 0, none⟩) 1 cap) := fun o o' => (World.cell?_alloc_lt _ o' _ (by show K.p < _; rw [World.size_alloc]; omega)).trans (p5 o)
  have hne1 : K.p ≠ w.heap.size := by omega
  have hne2 : K.p ≠ w.heap.size + 1 := by omega
  have hs1 : Cl 2 lab (w.setCell ⟨K.p, 5, none⟩ (.slice (some ⟨g, 0, none⟩) 0 cap)) K.p (({ K with iv := .slice (some ⟨g, 0, none⟩) 0 cap } : PK).cells top cv kv) 79 := hcl.set 5 (.slice (some ⟨g, 0, none⟩) 0 cap)
  have m1 : Mv (fun x => x = 2) w lab (w.setCell ⟨K.p, 5, none⟩ (.slice (some ⟨g, 0, none⟩) 0 cap)) lab := Mv.setCell _ _ _ _ hcl.2
  have hsz : (w.setCell ⟨K.p, 5, none⟩ (.slice (some ⟨g, 0, none⟩) 0 cap)).heap.size = w.heap.size := by simp [World.setCell]
  obtain ⟨W, hW⟩ : ∃ W, W = w.setCell ⟨K.p, 5, none⟩ (.slice (some ⟨g, 0, none⟩) 0 cap) := ⟨_, rfl⟩
  rw [← hW] at hs1 m1 hsz
  have hbl : ((W.alloc (Obj.cells #[Value.int IntKind.i64 a, Value.string s, Value.int IntKind.i64 c, Value.int IntKind.i64 d] 98)).alloc (Obj.cells #[Value.int IntKind.i64 a, Value.string s, Value.int IntKind.i64 c, Value.int IntKind.i64 d] 98)).heap[w.heap.size]? = some (Obj.cells #[Value.int IntKind.i64 a, Value.string s, Value.int IntKind.i64 c, Value.int IntKind.i64 d] 98) := by
    rw [Below.heap_alloc _ _ _ (by rw [World.size_alloc, hsz]; omega), ← hsz]
    exact heap_alloc_new W _
  have m2 : Mv (fun _ => False) W lab (W.alloc (Obj.cells #[Value.int IntKind.i64 a, Value.string s, Value.int IntKind.i64 c, Value.int IntKind.i64 d] 98)) (lab.ext W.heap.size 33) := Mv.alloc _ _ _ _
  have m3 : Mv (fun _ => False) (W.alloc (Obj.cells #[Value.int IntKind.i64 a, Value.string s, Value.int IntKind.i64 c, Value.int IntKind.i64 d] 98)) (lab.ext W.heap.size 33) ((W.alloc (Obj.cells #[Value.int IntKind.i64 a, Value.string s, Value.int IntKind.i64 c, Value.int IntKind.i64 d] 98)).alloc (Obj.cells #[Value.int IntKind.i64 a, Value.string s, Value.int IntKind.i64 c, Value.int IntKind.i64 d] 98)) ((lab.ext W.heap.size 33).ext (W.alloc (Obj.cells #[Value.int IntKind.i64 a, Value.string s, Value.int IntKind.i64 c, Value.int IntKind.i64 d] 98)).heap.size 33) := Mv.alloc _ _ _ _
  have hs3 := (hs1.mv m2 (fun h => h)).mv m3 (fun h => h)
  have mm := (m1.trans m2 (fun _ h => h.elim)).trans m3 (fun _ h => h.elim)
  have H := Lib.hid (And.intro hbl (And.intro hs3 mm))
  have HW := Lib.hid hW
  clear hs1 m1 m2 m3 hs3 mm hbl hsz hW
  go_enter Tryz.func97, Tryz.ntmps97
  go_wp2
  rw [← HW.out]
  refine bodyPost_ret (results_cell rfl rfl H.out.1 Tryz.underlying98 rfl info98) rfl ?_
  exact ⟨rfl, _, _, H.out.2.1, H.out.2.2⟩
end
end Go.Cf

/-
  A value with its place is laid into a map, into a list.
-/
namespace Go.Cf
open Go.RowKit Go.Conc Go.Proofs
theorem ta_113_113 (u : Value) (w : World) : (Instr.typeAssert (.iface 113 u) 20 113 true).run Tryz.prog w = .ok (.tuple #[u, .bool true]) w := by kernel_rfl
attribute [local go_sem ↓] ta_61_75 ta_75_75 ta_61_61 ta_75_61 ta_113_113
section
variable {K : PK} {X : PX} {L L' : LX} {lab lab1 : Lab} {w w1 : World} {n : Nat} {top cv kv : Value} {vs : List Value}
/-- A value with its place, in memory. -/
abbrev tokC (xt : Int) (xv : ByteArray) (xl xp : Int) (u : Value) : Array Value := #[i64 xt, .string xv, i64 xl, i64 xp, u, .bool false, .string { data := #[] }]
set_option maxRecDepth 100000 in
set_option maxHeartbeats 2000000 in
theorem setv_map_ped (s s3 : ByteArray) (a c d : Int) (hp : PAtX 0 lab w K ⟨L, [.map []], [s]⟩ top cv kv vs) (hK : K.ped = true) (hrow : Rw 0 6 lab w 98 4 K.iv 1 [i64 a, .string s3, i64 c, i64 d]) (hs : s.size ≤ 1000000)
    (g : Nat) (xt : Int) (xv : ByteArray) (xl xp : Int) (u : Value) (htk : Cl 33 lab w g (tokC xt xv xl xp u) 115) :
    Calls Tryz.prog 63 #[.pointer (some ⟨K.p, 0, none⟩), .iface 113 (.pointer (some ⟨g, 0, none⟩))] w fun e w' => e = .returned (.tuple #[]) ∧ ∃ lab', SW K L lab' w' ∧ Mv PM6 w lab w' lab' := by
  obtain ⟨v, vs', rfl, hc, hcs⟩ := CsAt.form hp.cs
  obtain ⟨b, es, rfl, hmp, hes, _⟩ := hc
  have hes0 : es = [] := List.map_eq_nil_iff.1 hes
  subst hes0
  have htop : top = .iface 61 (.map (some b)) := by have := hp.top; simp at this; exact this.symm
  subst htop
  have c2 : w.cell? ⟨K.p, 2, none⟩ = some (.iface 61 (.map (some b))) := hp.cl.cell 2
  have hne : b ≠ g := by
    rintro rfl
    have := hmp.2
    rw [htk.2] at this
    cases this
  go_enter Tryz.func63, Tryz.ntmps63
  go_wp2_with fail
  refine (popKey_c [] s hp rfl (by simp)).mono ?_
  rintro e w1 ⟨rfl, ⟨kv1, h1⟩, m1⟩
  have c7 : w1.cell? ⟨K.p, 7, none⟩ = some (.bool K.ped) := h1.cl.cell 7
  rw [hK] at c7
  have hrow1 := hrow.mv m1 (by decide)
  have htk1 := htk.mv m1 (by decide)
  have hmp1 := hmp.mv m1 (by decide)
  go_wp2_with fail
  refine (popItem_c a c d s3 h1.cl hrow1).mono ?_
  rintro e w2 ⟨rfl, lab2, v2, hcl2, m2⟩
  have htk2 := htk1.mv m2 (by decide)
  have hmp2 := hmp1.mv m2 (by decide)
  have hlx2 := h1.lx.mv m2 (by decide)
  have q2 : w2.cell? ⟨g, 2, none⟩ = some (i64 xl) := htk2.cell 2
  have q3 : w2.cell? ⟨g, 3, none⟩ = some (i64 xp) := htk2.cell 3
  have f2 : w2.frozen? ⟨g, 2, none⟩ = false := htk2.free 2
  have f3 : w2.frozen? ⟨g, 3, none⟩ = false := htk2.free 3
  have hlt := lt_of_block htk2.1
  have hne2 : g ≠ w2.heap.size := by omega
  have M12 := (m1.mono (M' := PM6) (by rintro x rfl; decide)).trans m2 (by rintro x rfl; decide)
  clear hrow1 htk1 hmp1 m1 m2 hrow htk hmp hp h1 c2 c7
  go_wp2_with (at_mapUpdate; refine wpList_mapUpdate_own _ rfl _ _ _ 61 rfl 9 20 (Maps.string_keyed Tryz.underlying9) Tryz.underlying61 anyR b 0 (entD []) rfl ?_ ?_ (.string s) (.iface 113 (.pointer (some ⟨g, 0, none⟩))) (.string s.data.toList) rfl rfl (WideMaps.keyOf_string_mk (P := Tryz.prog) Tryz.underlying9 ?_) (.held (.iface 113 (.pointer (some ⟨g, 0, none⟩)))) [] rfl ?_)
  · exact ((hmp2.1.setCell (a := ⟨g, 3, none⟩) hne (.int .i64 d)).setCell (a := ⟨g, 2, none⟩) hne (.int .i64 c)).alloc _
  · unfold maxLen; simp
  · unfold maxLen; omega
  intro w3 hown3 hg3
  have ma : Mv (· = 33) w2 lab2 (w2.setCell ⟨g, 3, none⟩ (.int .i64 d)) lab2 := Mv.setCell _ _ _ _ htk2.2
  have mb : Mv (· = 33) (w2.setCell ⟨g, 3, none⟩ (.int .i64 d)) lab2 ((w2.setCell ⟨g, 3, none⟩ (.int .i64 d)).setCell ⟨g, 2, none⟩ (.int .i64 c)) lab2 := Mv.setCell _ _ _ _ htk2.2
  have hsz : ((w2.setCell ⟨g, 3, none⟩ (.int .i64 d)).setCell ⟨g, 2, none⟩ (.int .i64 c)).heap.size = w2.heap.size := by simp [World.setCell]
  have mc : Mv (fun _ => False) ((w2.setCell ⟨g, 3, none⟩ (.int .i64 d)).setCell ⟨g, 2, none⟩ (.int .i64 c)) lab2 (((w2.setCell ⟨g, 3, none⟩ (.int .i64 d)).setCell ⟨g, 2, none⟩ (.int .i64 c)).alloc (Obj.cells #[Value.int IntKind.i64 a, Value.string s3, Value.int IntKind.i64 c, Value.int IntKind.i64 d] 98)) (lab2.ext w2.heap.size 33) := by
    have := Mv.alloc (M := fun _ => False) ((w2.setCell ⟨g, 3, none⟩ (.int .i64 d)).setCell ⟨g, 2, none⟩ (.int .i64 c)) lab2 (Obj.cells #[Value.int IntKind.i64 a, Value.string s3, Value.int IntKind.i64 c, Value.int IntKind.i64 d] 98) 33
    rwa [hsz] at this
  have md := Mv.grown (M := (· = 10)) hg3 (lab2.ext w2.heap.size 33) 33 (fun x hx => by cases hx; rw [Lab.ext_lt hmp2.1.lt]; exact hmp2.2)
  have MM := (((M12.trans ma (by rintro x rfl; decide)).trans mb (by rintro x rfl; decide)).trans mc (fun _ h => h.elim)).trans md (by rintro x rfl; decide)
  have hcl3 := (((hcl2.mv ma (by decide)).mv mb (by decide)).mv mc (fun h => h)).mv md (by decide)
  have hlx3 := (((hlx2.mv ma (by decide)).mv mb (by decide)).mv mc (fun h => h)).mv md (by decide)
  clear ma mb mc md M12 hcl2 hlx2 hown3 hg3 q2 q3 f2 f3
  go_wp2
  go_end0
  exact ⟨rfl, _, ⟨_, _, _, _, hcl3, hlx3⟩, MM⟩
set_option maxRecDepth 100000 in
set_option maxHeartbeats 1000000 in
theorem setv_arr_ped (ks : List ByteArray) (h : PAtX 0 lab w K ⟨L, [.arr [], .map []], ks⟩ top cv kv vs) (g0 : Nat) :
    Calls Tryz.prog 63 #[.pointer (some ⟨K.p, 0, none⟩), .iface 113 (.pointer (some ⟨g0, 0, none⟩))] w fun e w' => e = .returned (.tuple #[]) ∧ ∃ lab', SW K L lab' w' ∧ Mv PM6 w lab w' lab' := by
  obtain ⟨v, vs', rfl, hc, hcs⟩ := CsAt.form h.cs
  obtain ⟨s, xs, rfl, hr, hjs⟩ := hc
  have htop : top = .iface 75 s := by have := h.top; simp at this; exact this.symm
  subst htop
  have hvl : vs'.length = 1 := hcs.length
  have c2 : w.cell? ⟨K.p, 2, none⟩ = some (.iface 75 s) := h.cl.cell 2
  have hown := hr.1
  go_enter Tryz.func63, Tryz.ntmps63
  go_wp2_with (at_builtin; refine app_one 0 rfl _ _ 75 20 .nilIface 1 16 rfl Tryz.underlying75 info20 rfl (by decide) (by decide) s 0 xs [.iface 113 (.pointer (some ⟨g0, 0, none⟩))] rfl rfl rfl (by simp; rfl) hown (Nat.zero_le _) (by omega) ?_)
  intro v1 w1 hown1 hg1 hat1
  have m1 : Mv (· = 10 + 1) w lab w1 (lab.ext w.heap.size (10 + 1)) := Mv.grown hg1 lab _ (fun k hk => hr.2 k hk)
  have hcl := h.cl.mv m1 (by omega)
  obtain ⟨g, cap, e7, _, _⟩ := hown1.form (by omega)
  subst e7
  have hrw := hr.appended hown1 hg1 hat1
  have hcv := h.cv.mv m1 (by omega)
  simp only [List.length_cons, List.reverse_cons] at hcv
  obtain ⟨g3, cap3, rfl, hcap3, hmx3, hcell3, cur3, hgb3⟩ := own_open hcv.1 (by omega)
  have hl1 := hcell3 vs'.length (.iface 75 s) (by simp)
  have c2' : w1.cell? ⟨K.p, 2, none⟩ = some (.iface 75 s) := hcl.cell 2
  have f2' : w1.frozen? ⟨K.p, 2, none⟩ = false := hcl.free 2
  have c3' : w1.cell? ⟨K.p, 3, none⟩ = some (.slice (some ⟨g3, 0, none⟩) (vs'.length + 1) cap3) := hcl.cell 3
  have fg3 : w1.frozen? ⟨g3, vs'.length, none⟩ = false := blk_free hgb3 _
  have hne : g3 ≠ K.p := (hcl.ne (hcv.2 g3 rfl) (by decide)).symm
  have hne2 : K.p ≠ g3 := fun e => hne e.symm
  have m2 : Mv (· = 2) w1 (lab.ext w.heap.size (10 + 1)) (w1.setCell ⟨K.p, 2, none⟩ (.iface 75 (.slice (some ⟨g, 0, none⟩) (0 + 1) cap))) (lab.ext w.heap.size (10 + 1)) := Mv.setCell _ _ _ _ hcl.2
  have hcv2 := hcv.mv m2 (by decide)
  have m3 : Mv (· = 3) (w1.setCell ⟨K.p, 2, none⟩ (.iface 75 (.slice (some ⟨g, 0, none⟩) (0 + 1) cap))) (lab.ext w.heap.size (10 + 1)) ((w1.setCell ⟨K.p, 2, none⟩ (.iface 75 (.slice (some ⟨g, 0, none⟩) (0 + 1) cap))).setCell ⟨g3, vs'.length, none⟩ (.iface 75 (.slice (some ⟨g, 0, none⟩) (0 + 1) cap))) (lab.ext w.heap.size (10 + 1)) := Mv.setCell _ _ _ _ (hcv2.2 g3 rfl)
  have hcv3 := Rw.setLast (y := .iface 75 (.slice (some ⟨g, 0, none⟩) (0 + 1) cap)) hcv2
  rw [List.length_reverse] at hcv3
  have key : SW K L (lab.ext w.heap.size (10 + 1)) ((w1.setCell ⟨K.p, 2, none⟩ (.iface 75 (.slice (some ⟨g, 0, none⟩) (0 + 1) cap))).setCell ⟨g3, vs'.length, none⟩ (.iface 75 (.slice (some ⟨g, 0, none⟩) (0 + 1) cap))) := by
    refine ⟨K.iv, .iface 75 (.slice (some ⟨g, 0, none⟩) (0 + 1) cap), .slice (some ⟨g3, 0, none⟩) (vs'.length + 1) cap3, kv, ?_, ?_⟩
    · exact (hcl.set 2 (.iface 75 (.slice (some ⟨g, 0, none⟩) (0 + 1) cap))).mv m3 (by decide)
    · exact ((h.lx.mv m1 (by omega)).mv m2 (by decide)).mv m3 (by decide)
  have mm : Mv PM6 w lab ((w1.setCell ⟨K.p, 2, none⟩ (.iface 75 (.slice (some ⟨g, 0, none⟩) (0 + 1) cap))).setCell ⟨g3, vs'.length, none⟩ (.iface 75 (.slice (some ⟨g, 0, none⟩) (0 + 1) cap))) (lab.ext w.heap.size (10 + 1)) :=
    ((m1.mono (M' := PM6) (by rintro x rfl; decide)).trans m2 (by rintro x rfl; decide)).trans m3 (by rintro x rfl; decide)
  have hw : IntKind.wrap .i64 ((vs'.length : Nat) : Int) = ((vs'.length : Nat) : Int) := by
    simp [IntKind.wrap, IntKind.bits, IntKind.signed]
    omega
  have i0 : (0 : Int) ≤ ((vs'.length : Nat) : Int) := by omega
  have i1 : ((vs'.length : Nat) : Int) < ((vs'.length : Nat) : Int) + 1 := by omega
  have i2 : ((vs'.length : Nat) : Int) < ((vs'.length + 1 : Nat) : Int) := by omega
  have HV := Lib.hid hvl
  clear hvl hcv3 hcv2 m3 m2 m1 hrw hown1 hg1 hat1 hcl h hr hcv hcell3 hgb3 hown hcs hjs c2
  go_wp2
  refine wp_still_tail 15 mixed (by kernel_rfl) ?_
  simp only [List.take_succ_cons, List.take_zero, List.drop_succ_cons, List.drop_zero]
  repeat still_step
  refine wpStill_nil ?_
  go_wp2
  go_end0
  exact ⟨rfl, _, stab_SW _ _ _ _ key ((Mv.aDraw (fun _ => False) _ _).mono (fun _ h => h.elim)), mm.trans (Mv.aDraw (fun _ => False) _ _) (fun _ h => h.elim)⟩
end
end Go.Cf
