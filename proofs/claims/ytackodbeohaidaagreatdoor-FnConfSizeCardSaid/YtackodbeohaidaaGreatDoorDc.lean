/-
  The texts 'a = <number><size>' newline, by their bytes, and what they are read as.
-/
import Derived.Test.YtackodbeohaidaaGreatDoorLn
import Derived.Test.YtackodbeohaidaaGreatDoorDe
namespace Go.Cf
open Go.RowKit Go.Conc Go.Proofs
theorem ext_mid (P M S : ByteArray) : (P ++ M ++ S).extract P.size (P.size + M.size) = M := by
  rw [ByteArray.extract_append, ByteArray.extract_append_eq_right rfl rfl]
  have h : S.extract (P.size - (P ++ M).size) (P.size + M.size - (P ++ M).size) = ByteArray.empty := by
    rw [ByteArray.extract_eq_empty_iff]; simp [ByteArray.size_append]
  rw [h, ByteArray.append_empty]
/-- The text. -/
def szText (dg sfx : ByteArray) : ByteArray := (⟨#[97, 32, 61, 32]⟩ : ByteArray) ++ (dg ++ sfx) ++ ⟨#[10]⟩
section
variable (dg sfx : ByteArray)
theorem sz_size : (szText dg sfx).size = 4 + dg.size + sfx.size + 1 := by
  simp only [szText, ByteArray.size_append]
  show 4 + (dg.size + sfx.size) + 1 = _
  omega
theorem sz_head (i : Nat) (h : i < 4) : byteAt (szText dg sfx) i = byteAt ⟨#[97, 32, 61, 32]⟩ i := by
  unfold szText
  rw [byteAt_app_left _ _ _ (by rw [ByteArray.size_append]; show i < 4 + _; omega), byteAt_app_left _ _ _ h]
theorem sz_mid (i : Nat) (h : i < (dg ++ sfx).size) : byteAt (szText dg sfx) (4 + i) = byteAt (dg ++ sfx) i := by
  unfold szText
  rw [byteAt_app_left _ _ _ (by rw [ByteArray.size_append]; show 4 + i < 4 + _; omega)]
  exact byteAt_app_right ⟨#[97, 32, 61, 32]⟩ _ i
theorem sz_dig (i : Nat) (h : i < dg.size) : byteAt (szText dg sfx) (4 + i) = byteAt dg i := by
  rw [sz_mid _ _ _ (by rw [ByteArray.size_append]; omega), byteAt_app_left _ _ _ h]
theorem sz_sfx (j : Nat) (h : j < sfx.size) : byteAt (szText dg sfx) (4 + dg.size + j) = byteAt sfx j := by
  rw [Nat.add_assoc, sz_mid _ _ _ (by rw [ByteArray.size_append]; omega), byteAt_app_right]
theorem sz_nl : byteAt (szText dg sfx) (4 + dg.size + sfx.size) = 10 := by
  have h := byteAt_app_right ((⟨#[97, 32, 61, 32]⟩ : ByteArray) ++ (dg ++ sfx)) ⟨#[10]⟩ 0
  rw [Nat.add_zero, ByteArray.size_append, ByteArray.size_append, ← Nat.add_assoc] at h
  exact h
theorem sz_ext : (szText dg sfx).extract 4 (4 + dg.size + sfx.size) = dg ++ sfx := by
  have h := ext_mid ⟨#[97, 32, 61, 32]⟩ (dg ++ sfx) ⟨#[10]⟩
  rw [ByteArray.size_append, ← Nat.add_assoc] at h
  exact h
theorem sz_key : (szText dg sfx).extract 0 1 = ⟨#[97]⟩ := by
  have h : szText dg sfx = (⟨#[97]⟩ : ByteArray) ++ (⟨#[32, 61, 32]⟩ ++ (dg ++ sfx) ++ ⟨#[10]⟩) := by
    have e : (⟨#[97, 32, 61, 32]⟩ : ByteArray) = ⟨#[97]⟩ ++ ⟨#[32, 61, 32]⟩ := by decide
    simp only [szText, e, ByteArray.append_assoc]
  rw [h]
  exact ByteArray.extract_append_eq_left rfl
theorem sz_asc (hd : isDigits dg) (hx : ∀ j, j < sfx.size → byteAt sfx j < 128) (i : Nat) (h : i < (szText dg sfx).size) : byteAt (szText dg sfx) i < 128 := by
  rw [sz_size] at h
  rcases Nat.lt_or_ge i 4 with h4 | h4
  · rw [sz_head _ _ _ h4]
    match i, h4 with
    | 0, _ => decide
    | 1, _ => decide
    | 2, _ => decide
    | 3, _ => decide
  · rcases Nat.lt_or_ge i (4 + dg.size) with h5 | h5
    · obtain ⟨j, rfl⟩ := Nat.exists_eq_add_of_le h4
      rw [sz_dig _ _ _ (by omega)]
      have := hd j (by omega)
      omega
    · rcases Nat.lt_or_ge i (4 + dg.size + sfx.size) with h6 | h6
      · obtain ⟨j, rfl⟩ := Nat.exists_eq_add_of_le h5
        rw [sz_sfx _ _ _ (by omega)]
        exact hx j (by omega)
      · rw [show i = 4 + dg.size + sfx.size from by omega, sz_nl]
        decide
end
theorem sets_a (L : LX) (j : JV) : (⟨L, [.map []], [] ++ [⟨#[97]⟩]⟩ : PX).Sets j ⟨L, [.map [(⟨#[97]⟩, j)]], []⟩ :=
  .map [] [] [] ⟨#[97]⟩ rfl rfl (by simp) (by simp) (by decide)
theorem ra_plain (dg : ByteArray) (hdd : isDigits dg) (hd1 : 0 < dg.size) (hsz : dg.size ≤ 1000) (hn : ((numOf dg.data.toList : Nat) : Int) ≤ 4611686018427387904) : ReadAs (szText dg ⟨#[]⟩) [(⟨#[97]⟩, .int (((numOf dg.data.toList : Nat) : Int)))] := by
  have hs := sz_size dg ⟨#[]⟩
  have hk : (⟨#[]⟩ : ByteArray).size = 0 := rfl
  rw [hk] at hs
  have hx := sz_ext dg ⟨#[]⟩
  have hl := sz_nl dg ⟨#[]⟩
  rw [hk] at hx hl
  refine readAs_of (by omega) (sz_asc _ _ hdd (fun j hj => ?_)) fun K hK => ?_
  · rw [hk] at hj
    omega
  refine fd_a hK (by simp) (by omega) (sz_head _ _ 0 (by omega)) (sz_head _ _ 1 (by omega)) (sz_head _ _ 2 (by omega)) (sz_head _ _ 3 (by omega)) (by have h := sz_dig dg ⟨#[]⟩ 0 hd1; rw [Nat.add_zero] at h; rw [h]; exact hdd 0 hd1) (sz_key _ _) ?_
  exact fd_plain hK dg.size hd1 (by omega) (fun i hi => by rw [sz_dig _ _ _ hi]; exact hdd i hi) hl dg (hx.trans ByteArray.append_empty) hdd (by omega) (by omega) hd1 (fun L => sets_a L _)
theorem ra_k (dg : ByteArray) (hdd : isDigits dg) (hd1 : 0 < dg.size) (hsz : dg.size ≤ 1000) (hn : ((numOf dg.data.toList : Nat) : Int) * 1000 ≤ 4611686018427387904) : ReadAs (szText dg ⟨#[107]⟩) [(⟨#[97]⟩, .int (((numOf dg.data.toList : Nat) : Int) * 1000))] := by
  have hs := sz_size dg ⟨#[107]⟩
  have hk : (⟨#[107]⟩ : ByteArray).size = 1 := rfl
  rw [hk] at hs
  have hx := sz_ext dg ⟨#[107]⟩
  have hl := sz_nl dg ⟨#[107]⟩
  rw [hk] at hx hl
  refine readAs_of (by omega) (sz_asc _ _ hdd (fun j hj => ?_)) fun K hK => ?_
  · rw [hk] at hj
    match j, hj with
    | 0, _ => decide
  refine fd_a hK (by simp) (by omega) (sz_head _ _ 0 (by omega)) (sz_head _ _ 1 (by omega)) (sz_head _ _ 2 (by omega)) (sz_head _ _ 3 (by omega)) (by have h := sz_dig dg ⟨#[107]⟩ 0 hd1; rw [Nat.add_zero] at h; rw [h]; exact hdd 0 hd1) (sz_key _ _) ?_
  exact fd_k hK dg.size hd1 (by omega) (fun i hi => by rw [sz_dig _ _ _ hi]; exact hdd i hi) (sz_sfx dg ⟨#[107]⟩ 0 (by decide)) hl dg hx hdd hn (by omega) hd1 (fun L => sets_a L _)
theorem ra_kb (dg : ByteArray) (hdd : isDigits dg) (hd1 : 0 < dg.size) (hsz : dg.size ≤ 1000) (hn : ((numOf dg.data.toList : Nat) : Int) * 1024 ≤ 4611686018427387904) : ReadAs (szText dg ⟨#[107, 98]⟩) [(⟨#[97]⟩, .int (((numOf dg.data.toList : Nat) : Int) * 1024))] := by
  have hs := sz_size dg ⟨#[107, 98]⟩
  have hk : (⟨#[107, 98]⟩ : ByteArray).size = 2 := rfl
  rw [hk] at hs
  have hx := sz_ext dg ⟨#[107, 98]⟩
  have hl := sz_nl dg ⟨#[107, 98]⟩
  rw [hk] at hx hl
  refine readAs_of (by omega) (sz_asc _ _ hdd (fun j hj => ?_)) fun K hK => ?_
  · rw [hk] at hj
    match j, hj with
    | 0, _ => decide
    | 1, _ => decide
  refine fd_a hK (by simp) (by omega) (sz_head _ _ 0 (by omega)) (sz_head _ _ 1 (by omega)) (sz_head _ _ 2 (by omega)) (sz_head _ _ 3 (by omega)) (by have h := sz_dig dg ⟨#[107, 98]⟩ 0 hd1; rw [Nat.add_zero] at h; rw [h]; exact hdd 0 hd1) (sz_key _ _) ?_
  exact fd_kb hK dg.size hd1 (by omega) (fun i hi => by rw [sz_dig _ _ _ hi]; exact hdd i hi) (sz_sfx dg ⟨#[107, 98]⟩ 0 (by decide)) (sz_sfx dg ⟨#[107, 98]⟩ 1 (by decide)) hl dg hx hdd hn (by omega) hd1 (fun L => sets_a L _)
theorem ra_kib (dg : ByteArray) (hdd : isDigits dg) (hd1 : 0 < dg.size) (hsz : dg.size ≤ 1000) (hn : ((numOf dg.data.toList : Nat) : Int) * 1024 ≤ 4611686018427387904) : ReadAs (szText dg ⟨#[107, 105, 98]⟩) [(⟨#[97]⟩, .int (((numOf dg.data.toList : Nat) : Int) * 1024))] := by
  have hs := sz_size dg ⟨#[107, 105, 98]⟩
  have hk : (⟨#[107, 105, 98]⟩ : ByteArray).size = 3 := rfl
  rw [hk] at hs
  have hx := sz_ext dg ⟨#[107, 105, 98]⟩
  have hl := sz_nl dg ⟨#[107, 105, 98]⟩
  rw [hk] at hx hl
  refine readAs_of (by omega) (sz_asc _ _ hdd (fun j hj => ?_)) fun K hK => ?_
  · rw [hk] at hj
    match j, hj with
    | 0, _ => decide
    | 1, _ => decide
    | 2, _ => decide
  refine fd_a hK (by simp) (by omega) (sz_head _ _ 0 (by omega)) (sz_head _ _ 1 (by omega)) (sz_head _ _ 2 (by omega)) (sz_head _ _ 3 (by omega)) (by have h := sz_dig dg ⟨#[107, 105, 98]⟩ 0 hd1; rw [Nat.add_zero] at h; rw [h]; exact hdd 0 hd1) (sz_key _ _) ?_
  exact fd_kib hK dg.size hd1 (by omega) (fun i hi => by rw [sz_dig _ _ _ hi]; exact hdd i hi) (sz_sfx dg ⟨#[107, 105, 98]⟩ 0 (by decide)) (sz_sfx dg ⟨#[107, 105, 98]⟩ 1 (by decide)) (sz_sfx dg ⟨#[107, 105, 98]⟩ 2 (by decide)) hl dg hx hdd hn (by omega) hd1 (fun L => sets_a L _)
theorem ra_ki (dg : ByteArray) (hdd : isDigits dg) (hd1 : 0 < dg.size) (hsz : dg.size ≤ 1000) (hn : ((numOf dg.data.toList : Nat) : Int) * 1024 ≤ 4611686018427387904) : ReadAs (szText dg ⟨#[107, 105]⟩) [(⟨#[97]⟩, .int (((numOf dg.data.toList : Nat) : Int) * 1024))] := by
  have hs := sz_size dg ⟨#[107, 105]⟩
  have hk : (⟨#[107, 105]⟩ : ByteArray).size = 2 := rfl
  rw [hk] at hs
  have hx := sz_ext dg ⟨#[107, 105]⟩
  have hl := sz_nl dg ⟨#[107, 105]⟩
  rw [hk] at hx hl
  refine readAs_of (by omega) (sz_asc _ _ hdd (fun j hj => ?_)) fun K hK => ?_
  · rw [hk] at hj
    match j, hj with
    | 0, _ => decide
    | 1, _ => decide
  refine fd_a hK (by simp) (by omega) (sz_head _ _ 0 (by omega)) (sz_head _ _ 1 (by omega)) (sz_head _ _ 2 (by omega)) (sz_head _ _ 3 (by omega)) (by have h := sz_dig dg ⟨#[107, 105]⟩ 0 hd1; rw [Nat.add_zero] at h; rw [h]; exact hdd 0 hd1) (sz_key _ _) ?_
  exact fd_ki hK dg.size hd1 (by omega) (fun i hi => by rw [sz_dig _ _ _ hi]; exact hdd i hi) (sz_sfx dg ⟨#[107, 105]⟩ 0 (by decide)) (sz_sfx dg ⟨#[107, 105]⟩ 1 (by decide)) hl dg hx hdd hn (by omega) hd1 (fun L => sets_a L _)
theorem ra_m (dg : ByteArray) (hdd : isDigits dg) (hd1 : 0 < dg.size) (hsz : dg.size ≤ 1000) (hn : ((numOf dg.data.toList : Nat) : Int) * 1000 * 1000 ≤ 4611686018427387904) : ReadAs (szText dg ⟨#[109]⟩) [(⟨#[97]⟩, .int (((numOf dg.data.toList : Nat) : Int) * 1000 * 1000))] := by
  have hs := sz_size dg ⟨#[109]⟩
  have hk : (⟨#[109]⟩ : ByteArray).size = 1 := rfl
  rw [hk] at hs
  have hx := sz_ext dg ⟨#[109]⟩
  have hl := sz_nl dg ⟨#[109]⟩
  rw [hk] at hx hl
  refine readAs_of (by omega) (sz_asc _ _ hdd (fun j hj => ?_)) fun K hK => ?_
  · rw [hk] at hj
    match j, hj with
    | 0, _ => decide
  refine fd_a hK (by simp) (by omega) (sz_head _ _ 0 (by omega)) (sz_head _ _ 1 (by omega)) (sz_head _ _ 2 (by omega)) (sz_head _ _ 3 (by omega)) (by have h := sz_dig dg ⟨#[109]⟩ 0 hd1; rw [Nat.add_zero] at h; rw [h]; exact hdd 0 hd1) (sz_key _ _) ?_
  exact fd_m hK dg.size hd1 (by omega) (fun i hi => by rw [sz_dig _ _ _ hi]; exact hdd i hi) (sz_sfx dg ⟨#[109]⟩ 0 (by decide)) hl dg hx hdd hn (by omega) hd1 (fun L => sets_a L _)
theorem ra_mb (dg : ByteArray) (hdd : isDigits dg) (hd1 : 0 < dg.size) (hsz : dg.size ≤ 1000) (hn : ((numOf dg.data.toList : Nat) : Int) * 1024 * 1024 ≤ 4611686018427387904) : ReadAs (szText dg ⟨#[109, 98]⟩) [(⟨#[97]⟩, .int (((numOf dg.data.toList : Nat) : Int) * 1024 * 1024))] := by
  have hs := sz_size dg ⟨#[109, 98]⟩
  have hk : (⟨#[109, 98]⟩ : ByteArray).size = 2 := rfl
  rw [hk] at hs
  have hx := sz_ext dg ⟨#[109, 98]⟩
  have hl := sz_nl dg ⟨#[109, 98]⟩
  rw [hk] at hx hl
  refine readAs_of (by omega) (sz_asc _ _ hdd (fun j hj => ?_)) fun K hK => ?_
  · rw [hk] at hj
    match j, hj with
    | 0, _ => decide
    | 1, _ => decide
  refine fd_a hK (by simp) (by omega) (sz_head _ _ 0 (by omega)) (sz_head _ _ 1 (by omega)) (sz_head _ _ 2 (by omega)) (sz_head _ _ 3 (by omega)) (by have h := sz_dig dg ⟨#[109, 98]⟩ 0 hd1; rw [Nat.add_zero] at h; rw [h]; exact hdd 0 hd1) (sz_key _ _) ?_
  exact fd_mb hK dg.size hd1 (by omega) (fun i hi => by rw [sz_dig _ _ _ hi]; exact hdd i hi) (sz_sfx dg ⟨#[109, 98]⟩ 0 (by decide)) (sz_sfx dg ⟨#[109, 98]⟩ 1 (by decide)) hl dg hx hdd hn (by omega) hd1 (fun L => sets_a L _)
theorem ra_mib (dg : ByteArray) (hdd : isDigits dg) (hd1 : 0 < dg.size) (hsz : dg.size ≤ 1000) (hn : ((numOf dg.data.toList : Nat) : Int) * 1024 * 1024 ≤ 4611686018427387904) : ReadAs (szText dg ⟨#[109, 105, 98]⟩) [(⟨#[97]⟩, .int (((numOf dg.data.toList : Nat) : Int) * 1024 * 1024))] := by
  have hs := sz_size dg ⟨#[109, 105, 98]⟩
  have hk : (⟨#[109, 105, 98]⟩ : ByteArray).size = 3 := rfl
  rw [hk] at hs
  have hx := sz_ext dg ⟨#[109, 105, 98]⟩
  have hl := sz_nl dg ⟨#[109, 105, 98]⟩
  rw [hk] at hx hl
  refine readAs_of (by omega) (sz_asc _ _ hdd (fun j hj => ?_)) fun K hK => ?_
  · rw [hk] at hj
    match j, hj with
    | 0, _ => decide
    | 1, _ => decide
    | 2, _ => decide
  refine fd_a hK (by simp) (by omega) (sz_head _ _ 0 (by omega)) (sz_head _ _ 1 (by omega)) (sz_head _ _ 2 (by omega)) (sz_head _ _ 3 (by omega)) (by have h := sz_dig dg ⟨#[109, 105, 98]⟩ 0 hd1; rw [Nat.add_zero] at h; rw [h]; exact hdd 0 hd1) (sz_key _ _) ?_
  exact fd_mib hK dg.size hd1 (by omega) (fun i hi => by rw [sz_dig _ _ _ hi]; exact hdd i hi) (sz_sfx dg ⟨#[109, 105, 98]⟩ 0 (by decide)) (sz_sfx dg ⟨#[109, 105, 98]⟩ 1 (by decide)) (sz_sfx dg ⟨#[109, 105, 98]⟩ 2 (by decide)) hl dg hx hdd hn (by omega) hd1 (fun L => sets_a L _)
theorem ra_mi (dg : ByteArray) (hdd : isDigits dg) (hd1 : 0 < dg.size) (hsz : dg.size ≤ 1000) (hn : ((numOf dg.data.toList : Nat) : Int) * 1024 * 1024 ≤ 4611686018427387904) : ReadAs (szText dg ⟨#[109, 105]⟩) [(⟨#[97]⟩, .int (((numOf dg.data.toList : Nat) : Int) * 1024 * 1024))] := by
  have hs := sz_size dg ⟨#[109, 105]⟩
  have hk : (⟨#[109, 105]⟩ : ByteArray).size = 2 := rfl
  rw [hk] at hs
  have hx := sz_ext dg ⟨#[109, 105]⟩
  have hl := sz_nl dg ⟨#[109, 105]⟩
  rw [hk] at hx hl
  refine readAs_of (by omega) (sz_asc _ _ hdd (fun j hj => ?_)) fun K hK => ?_
  · rw [hk] at hj
    match j, hj with
    | 0, _ => decide
    | 1, _ => decide
  refine fd_a hK (by simp) (by omega) (sz_head _ _ 0 (by omega)) (sz_head _ _ 1 (by omega)) (sz_head _ _ 2 (by omega)) (sz_head _ _ 3 (by omega)) (by have h := sz_dig dg ⟨#[109, 105]⟩ 0 hd1; rw [Nat.add_zero] at h; rw [h]; exact hdd 0 hd1) (sz_key _ _) ?_
  exact fd_mi hK dg.size hd1 (by omega) (fun i hi => by rw [sz_dig _ _ _ hi]; exact hdd i hi) (sz_sfx dg ⟨#[109, 105]⟩ 0 (by decide)) (sz_sfx dg ⟨#[109, 105]⟩ 1 (by decide)) hl dg hx hdd hn (by omega) hd1 (fun L => sets_a L _)
theorem ra_g (dg : ByteArray) (hdd : isDigits dg) (hd1 : 0 < dg.size) (hsz : dg.size ≤ 1000) (hn : ((numOf dg.data.toList : Nat) : Int) * 1000 * 1000 * 1000 ≤ 4611686018427387904) : ReadAs (szText dg ⟨#[103]⟩) [(⟨#[97]⟩, .int (((numOf dg.data.toList : Nat) : Int) * 1000 * 1000 * 1000))] := by
  have hs := sz_size dg ⟨#[103]⟩
  have hk : (⟨#[103]⟩ : ByteArray).size = 1 := rfl
  rw [hk] at hs
  have hx := sz_ext dg ⟨#[103]⟩
  have hl := sz_nl dg ⟨#[103]⟩
  rw [hk] at hx hl
  refine readAs_of (by omega) (sz_asc _ _ hdd (fun j hj => ?_)) fun K hK => ?_
  · rw [hk] at hj
    match j, hj with
    | 0, _ => decide
  refine fd_a hK (by simp) (by omega) (sz_head _ _ 0 (by omega)) (sz_head _ _ 1 (by omega)) (sz_head _ _ 2 (by omega)) (sz_head _ _ 3 (by omega)) (by have h := sz_dig dg ⟨#[103]⟩ 0 hd1; rw [Nat.add_zero] at h; rw [h]; exact hdd 0 hd1) (sz_key _ _) ?_
  exact fd_g hK dg.size hd1 (by omega) (fun i hi => by rw [sz_dig _ _ _ hi]; exact hdd i hi) (sz_sfx dg ⟨#[103]⟩ 0 (by decide)) hl dg hx hdd hn (by omega) hd1 (fun L => sets_a L _)
theorem ra_gb (dg : ByteArray) (hdd : isDigits dg) (hd1 : 0 < dg.size) (hsz : dg.size ≤ 1000) (hn : ((numOf dg.data.toList : Nat) : Int) * 1024 * 1024 * 1024 ≤ 4611686018427387904) : ReadAs (szText dg ⟨#[103, 98]⟩) [(⟨#[97]⟩, .int (((numOf dg.data.toList : Nat) : Int) * 1024 * 1024 * 1024))] := by
  have hs := sz_size dg ⟨#[103, 98]⟩
  have hk : (⟨#[103, 98]⟩ : ByteArray).size = 2 := rfl
  rw [hk] at hs
  have hx := sz_ext dg ⟨#[103, 98]⟩
  have hl := sz_nl dg ⟨#[103, 98]⟩
  rw [hk] at hx hl
  refine readAs_of (by omega) (sz_asc _ _ hdd (fun j hj => ?_)) fun K hK => ?_
  · rw [hk] at hj
    match j, hj with
    | 0, _ => decide
    | 1, _ => decide
  refine fd_a hK (by simp) (by omega) (sz_head _ _ 0 (by omega)) (sz_head _ _ 1 (by omega)) (sz_head _ _ 2 (by omega)) (sz_head _ _ 3 (by omega)) (by have h := sz_dig dg ⟨#[103, 98]⟩ 0 hd1; rw [Nat.add_zero] at h; rw [h]; exact hdd 0 hd1) (sz_key _ _) ?_
  exact fd_gb hK dg.size hd1 (by omega) (fun i hi => by rw [sz_dig _ _ _ hi]; exact hdd i hi) (sz_sfx dg ⟨#[103, 98]⟩ 0 (by decide)) (sz_sfx dg ⟨#[103, 98]⟩ 1 (by decide)) hl dg hx hdd hn (by omega) hd1 (fun L => sets_a L _)
theorem ra_gib (dg : ByteArray) (hdd : isDigits dg) (hd1 : 0 < dg.size) (hsz : dg.size ≤ 1000) (hn : ((numOf dg.data.toList : Nat) : Int) * 1024 * 1024 * 1024 ≤ 4611686018427387904) : ReadAs (szText dg ⟨#[103, 105, 98]⟩) [(⟨#[97]⟩, .int (((numOf dg.data.toList : Nat) : Int) * 1024 * 1024 * 1024))] := by
  have hs := sz_size dg ⟨#[103, 105, 98]⟩
  have hk : (⟨#[103, 105, 98]⟩ : ByteArray).size = 3 := rfl
  rw [hk] at hs
  have hx := sz_ext dg ⟨#[103, 105, 98]⟩
  have hl := sz_nl dg ⟨#[103, 105, 98]⟩
  rw [hk] at hx hl
  refine readAs_of (by omega) (sz_asc _ _ hdd (fun j hj => ?_)) fun K hK => ?_
  · rw [hk] at hj
    match j, hj with
    | 0, _ => decide
    | 1, _ => decide
    | 2, _ => decide
  refine fd_a hK (by simp) (by omega) (sz_head _ _ 0 (by omega)) (sz_head _ _ 1 (by omega)) (sz_head _ _ 2 (by omega)) (sz_head _ _ 3 (by omega)) (by have h := sz_dig dg ⟨#[103, 105, 98]⟩ 0 hd1; rw [Nat.add_zero] at h; rw [h]; exact hdd 0 hd1) (sz_key _ _) ?_
  exact fd_gib hK dg.size hd1 (by omega) (fun i hi => by rw [sz_dig _ _ _ hi]; exact hdd i hi) (sz_sfx dg ⟨#[103, 105, 98]⟩ 0 (by decide)) (sz_sfx dg ⟨#[103, 105, 98]⟩ 1 (by decide)) (sz_sfx dg ⟨#[103, 105, 98]⟩ 2 (by decide)) hl dg hx hdd hn (by omega) hd1 (fun L => sets_a L _)
theorem ra_gi (dg : ByteArray) (hdd : isDigits dg) (hd1 : 0 < dg.size) (hsz : dg.size ≤ 1000) (hn : ((numOf dg.data.toList : Nat) : Int) * 1024 * 1024 * 1024 ≤ 4611686018427387904) : ReadAs (szText dg ⟨#[103, 105]⟩) [(⟨#[97]⟩, .int (((numOf dg.data.toList : Nat) : Int) * 1024 * 1024 * 1024))] := by
  have hs := sz_size dg ⟨#[103, 105]⟩
  have hk : (⟨#[103, 105]⟩ : ByteArray).size = 2 := rfl
  rw [hk] at hs
  have hx := sz_ext dg ⟨#[103, 105]⟩
  have hl := sz_nl dg ⟨#[103, 105]⟩
  rw [hk] at hx hl
  refine readAs_of (by omega) (sz_asc _ _ hdd (fun j hj => ?_)) fun K hK => ?_
  · rw [hk] at hj
    match j, hj with
    | 0, _ => decide
    | 1, _ => decide
  refine fd_a hK (by simp) (by omega) (sz_head _ _ 0 (by omega)) (sz_head _ _ 1 (by omega)) (sz_head _ _ 2 (by omega)) (sz_head _ _ 3 (by omega)) (by have h := sz_dig dg ⟨#[103, 105]⟩ 0 hd1; rw [Nat.add_zero] at h; rw [h]; exact hdd 0 hd1) (sz_key _ _) ?_
  exact fd_gi hK dg.size hd1 (by omega) (fun i hi => by rw [sz_dig _ _ _ hi]; exact hdd i hi) (sz_sfx dg ⟨#[103, 105]⟩ 0 (by decide)) (sz_sfx dg ⟨#[103, 105]⟩ 1 (by decide)) hl dg hx hdd hn (by omega) hd1 (fun L => sets_a L _)
theorem ra_t (dg : ByteArray) (hdd : isDigits dg) (hd1 : 0 < dg.size) (hsz : dg.size ≤ 1000) (hn : ((numOf dg.data.toList : Nat) : Int) * 1000 * 1000 * 1000 * 1000 ≤ 4611686018427387904) : ReadAs (szText dg ⟨#[116]⟩) [(⟨#[97]⟩, .int (((numOf dg.data.toList : Nat) : Int) * 1000 * 1000 * 1000 * 1000))] := by
  have hs := sz_size dg ⟨#[116]⟩
  have hk : (⟨#[116]⟩ : ByteArray).size = 1 := rfl
  rw [hk] at hs
  have hx := sz_ext dg ⟨#[116]⟩
  have hl := sz_nl dg ⟨#[116]⟩
  rw [hk] at hx hl
  refine readAs_of (by omega) (sz_asc _ _ hdd (fun j hj => ?_)) fun K hK => ?_
  · rw [hk] at hj
    match j, hj with
    | 0, _ => decide
  refine fd_a hK (by simp) (by omega) (sz_head _ _ 0 (by omega)) (sz_head _ _ 1 (by omega)) (sz_head _ _ 2 (by omega)) (sz_head _ _ 3 (by omega)) (by have h := sz_dig dg ⟨#[116]⟩ 0 hd1; rw [Nat.add_zero] at h; rw [h]; exact hdd 0 hd1) (sz_key _ _) ?_
  exact fd_t hK dg.size hd1 (by omega) (fun i hi => by rw [sz_dig _ _ _ hi]; exact hdd i hi) (sz_sfx dg ⟨#[116]⟩ 0 (by decide)) hl dg hx hdd hn (by omega) hd1 (fun L => sets_a L _)
theorem ra_tb (dg : ByteArray) (hdd : isDigits dg) (hd1 : 0 < dg.size) (hsz : dg.size ≤ 1000) (hn : ((numOf dg.data.toList : Nat) : Int) * 1024 * 1024 * 1024 * 1024 ≤ 4611686018427387904) : ReadAs (szText dg ⟨#[116, 98]⟩) [(⟨#[97]⟩, .int (((numOf dg.data.toList : Nat) : Int) * 1024 * 1024 * 1024 * 1024))] := by
  have hs := sz_size dg ⟨#[116, 98]⟩
  have hk : (⟨#[116, 98]⟩ : ByteArray).size = 2 := rfl
  rw [hk] at hs
  have hx := sz_ext dg ⟨#[116, 98]⟩
  have hl := sz_nl dg ⟨#[116, 98]⟩
  rw [hk] at hx hl
  refine readAs_of (by omega) (sz_asc _ _ hdd (fun j hj => ?_)) fun K hK => ?_
  · rw [hk] at hj
    match j, hj with
    | 0, _ => decide
    | 1, _ => decide
  refine fd_a hK (by simp) (by omega) (sz_head _ _ 0 (by omega)) (sz_head _ _ 1 (by omega)) (sz_head _ _ 2 (by omega)) (sz_head _ _ 3 (by omega)) (by have h := sz_dig dg ⟨#[116, 98]⟩ 0 hd1; rw [Nat.add_zero] at h; rw [h]; exact hdd 0 hd1) (sz_key _ _) ?_
  exact fd_tb hK dg.size hd1 (by omega) (fun i hi => by rw [sz_dig _ _ _ hi]; exact hdd i hi) (sz_sfx dg ⟨#[116, 98]⟩ 0 (by decide)) (sz_sfx dg ⟨#[116, 98]⟩ 1 (by decide)) hl dg hx hdd hn (by omega) hd1 (fun L => sets_a L _)
theorem ra_tib (dg : ByteArray) (hdd : isDigits dg) (hd1 : 0 < dg.size) (hsz : dg.size ≤ 1000) (hn : ((numOf dg.data.toList : Nat) : Int) * 1024 * 1024 * 1024 * 1024 ≤ 4611686018427387904) : ReadAs (szText dg ⟨#[116, 105, 98]⟩) [(⟨#[97]⟩, .int (((numOf dg.data.toList : Nat) : Int) * 1024 * 1024 * 1024 * 1024))] := by
  have hs := sz_size dg ⟨#[116, 105, 98]⟩
  have hk : (⟨#[116, 105, 98]⟩ : ByteArray).size = 3 := rfl
  rw [hk] at hs
  have hx := sz_ext dg ⟨#[116, 105, 98]⟩
  have hl := sz_nl dg ⟨#[116, 105, 98]⟩
  rw [hk] at hx hl
  refine readAs_of (by omega) (sz_asc _ _ hdd (fun j hj => ?_)) fun K hK => ?_
  · rw [hk] at hj
    match j, hj with
    | 0, _ => decide
    | 1, _ => decide
    | 2, _ => decide
  refine fd_a hK (by simp) (by omega) (sz_head _ _ 0 (by omega)) (sz_head _ _ 1 (by omega)) (sz_head _ _ 2 (by omega)) (sz_head _ _ 3 (by omega)) (by have h := sz_dig dg ⟨#[116, 105, 98]⟩ 0 hd1; rw [Nat.add_zero] at h; rw [h]; exact hdd 0 hd1) (sz_key _ _) ?_
  exact fd_tib hK dg.size hd1 (by omega) (fun i hi => by rw [sz_dig _ _ _ hi]; exact hdd i hi) (sz_sfx dg ⟨#[116, 105, 98]⟩ 0 (by decide)) (sz_sfx dg ⟨#[116, 105, 98]⟩ 1 (by decide)) (sz_sfx dg ⟨#[116, 105, 98]⟩ 2 (by decide)) hl dg hx hdd hn (by omega) hd1 (fun L => sets_a L _)
theorem ra_ti (dg : ByteArray) (hdd : isDigits dg) (hd1 : 0 < dg.size) (hsz : dg.size ≤ 1000) (hn : ((numOf dg.data.toList : Nat) : Int) * 1024 * 1024 * 1024 * 1024 ≤ 4611686018427387904) : ReadAs (szText dg ⟨#[116, 105]⟩) [(⟨#[97]⟩, .int (((numOf dg.data.toList : Nat) : Int) * 1024 * 1024 * 1024 * 1024))] := by
  have hs := sz_size dg ⟨#[116, 105]⟩
  have hk : (⟨#[116, 105]⟩ : ByteArray).size = 2 := rfl
  rw [hk] at hs
  have hx := sz_ext dg ⟨#[116, 105]⟩
  have hl := sz_nl dg ⟨#[116, 105]⟩
  rw [hk] at hx hl
  refine readAs_of (by omega) (sz_asc _ _ hdd (fun j hj => ?_)) fun K hK => ?_
  · rw [hk] at hj
    match j, hj with
    | 0, _ => decide
    | 1, _ => decide
  refine fd_a hK (by simp) (by omega) (sz_head _ _ 0 (by omega)) (sz_head _ _ 1 (by omega)) (sz_head _ _ 2 (by omega)) (sz_head _ _ 3 (by omega)) (by have h := sz_dig dg ⟨#[116, 105]⟩ 0 hd1; rw [Nat.add_zero] at h; rw [h]; exact hdd 0 hd1) (sz_key _ _) ?_
  exact fd_ti hK dg.size hd1 (by omega) (fun i hi => by rw [sz_dig _ _ _ hi]; exact hdd i hi) (sz_sfx dg ⟨#[116, 105]⟩ 0 (by decide)) (sz_sfx dg ⟨#[116, 105]⟩ 1 (by decide)) hl dg hx hdd hn (by omega) hd1 (fun L => sets_a L _)
end Go.Cf
