/-
  Texts joined: Rt Cb Ru Rg R9 Bk Ap Rx Db.
-/
import Derived.Test.YtackodbeohaidaaGreatDoorRb2
import Derived.Test.YtackodbeohaidaaGreatDoorRb3
import Derived.Test.YtackodbeohaidaaGreatDoorRb7
import Derived.Test.YtackodbeohaidaaGreatDoorRb9
import Derived.Lib.QuoteBits
import Derived.BigRegion
import Derived.Defers
import Derived.Maps.OwnSet
import Derived.Maps.OwnOps
/-
  Texts that are no configuration: a key, and what is refused behind it.
-/
namespace Go.Cf
open Go.RowKit Go.Conc Go.Proofs
/-- A byte of a key without quotes. -/
def goodB (c : Nat) : Prop := c = 45 ∨ c = 46 ∨ c = 95 ∨ (48 ≤ c ∧ c ≤ 57) ∨ (65 ≤ c ∧ c ≤ 90) ∨ (97 ≤ c ∧ c ≤ 122)
structure GoodKey (k : ByteArray) : Prop where
  pos : 0 < k.size
  size : k.size ≤ 1000
  good : ∀ i, i < k.size → goodB (byteAt k i)
  kw : noKw k
theorem good_sp {c : Nat} (h : goodB c) : isSp c = false := by unfold goodB at h; simp [isSp]; omega
theorem good_sep {c : Nat} (h : goodB c) : isSep c = false := by unfold goodB at h; simp [isSep]; omega
section
variable {k sfx : ByteArray} {K : PK}
theorem ks_size : (k ++ sfx).size = k.size + sfx.size := ByteArray.size_append
theorem ks_at (j : Nat) : byteAt (k ++ sfx) (k.size + j) = byteAt sfx j := byteAt_app_right k sfx j
theorem kk_at {i : Nat} (h : i < k.size) : byteAt (k ++ sfx) i = byteAt k i := byteAt_app_left k sfx i h
theorem ks_ext : (k ++ sfx).extract 0 k.size = k := ByteArray.extract_append_eq_left rfl
theorem lead_key (g : GoodKey k) : Leads (k ++ sfx) 0 0 [] (plainT 60) k.size 0 [94] (plainT 139) := by
  have hp := g.pos
  have hs := ks_size (k := k) (sfx := sfx)
  have h0 := g.good 0 hp
  have b0 : goodB (byteAt (k ++ sfx) 0) := by rw [kk_at hp]; exact h0
  have l1 : Leads (k ++ sfx) 0 0 [] (plainT 60) 0 0 ([] ++ [94]) (plainT 95) := ld_top_key (by omega) (by simp) (good_sp b0) (by unfold goodB at b0; omega) (by unfold goodB at b0; omega) (by unfold goodB at b0; omega) (by unfold goodB at b0; omega)
  have l2 : Leads (k ++ sfx) 0 0 [94] (plainT 95) 1 0 [94] (plainT 139) := ld_ks_key (by omega) (good_sep b0) (good_sp b0) (by unfold goodB at b0; omega) (by unfold goodB at b0; omega)
  have l3 : ∀ m, 1 + m ≤ k.size → Leads (k ++ sfx) 1 0 [94] (plainT 139) (1 + m) 0 [94] (plainT 139) := by
    intro m
    induction m with
    | zero => intro _; exact Leads.refl
    | succ m ih =>
      intro hm
      have b1 : goodB (byteAt (k ++ sfx) (1 + m)) := by rw [kk_at (by omega)]; exact g.good _ (by omega)
      exact (ih (by omega)).trans (ld_key_more (by omega) (good_sp b1) (good_sep b1) (by unfold goodB at b1; omega))
  have := l3 (k.size - 1) (by omega)
  rw [show 1 + (k.size - 1) = k.size from by omega] at this
  exact (l1.trans l2).trans this
theorem emit_key (g : GoodKey k) (hs : 0 < sfx.size) (b0 : byteAt sfx 0 = 32) : Emits (k ++ sfx) 0 0 [] (plainT 60) 3 k (1 + (nlc (k ++ sfx) k.size : Nat)) k.size k.size [94] (plainT 163) := by
  have hz := ks_size (k := k) (sfx := sfx)
  have h := ld_key_sp (s := k ++ sfx) (p := k.size) (st := 0) (stk := [94]) (by omega) (by omega) (by have := ks_at (k := k) (sfx := sfx) 0; rw [Nat.add_zero] at this; rw [this, b0]; rfl) (by rw [ks_ext]; exact g.kw)
  rw [ks_ext] at h
  exact (lead_key g).emits h
/-- ' = ' behind the key. -/
theorem lead_eq (hs : 3 ≤ sfx.size) (b0 : byteAt sfx 0 = 32) (b1 : byteAt sfx 1 = 61) (b2 : byteAt sfx 2 = 32) : Leads (k ++ sfx) k.size k.size [94] (plainT 163) (k.size + 3) (k.size + 3) [94] (plainT 174) := by
  have hz := ks_size (k := k) (sfx := sfx)
  have c0 : byteAt (k ++ sfx) (k.size + 0) = 32 := (ks_at 0).trans b0
  have c1 : byteAt (k ++ sfx) (k.size + 1) = 61 := (ks_at 1).trans b1
  have c2 : byteAt (k ++ sfx) (k.size + 2) = 32 := (ks_at 2).trans b2
  have l1 : Leads (k ++ sfx) (k.size + 0) k.size [94] (plainT 163) (k.size + 1) k.size [94] (skipT 163) := ld_ke_sp (by omega) (by rw [c0]; rfl)
  have l2 : Leads (k ++ sfx) (k.size + 1) (k.size + 1) [94] (plainT 163) (k.size + 2) (k.size + 1) [94] (skipT 174) := ld_ke_sep (by omega) (by rw [c1]; rfl) (by rw [c1]; rfl)
  have l3 : Leads (k ++ sfx) (k.size + 2) (k.size + 2) [94] (plainT 174) (k.size + 3) (k.size + 2) [94] (skipT 174) := ld_val_ws (by omega) (by rw [c2]; rfl)
  exact (((l1.trans (ld_skip 163)).trans l2).trans (ld_skip 174)).trans (l3.trans (ld_skip 174))
theorem refused_of {s : ByteArray} (hs : s.size ≤ 1000000) (ha : ∀ i, i < s.size → byteAt s i < 128) (h : ∀ K : PK, BadAt K.p (fun L => SI K 0 [] ⟨L, [.map []], []⟩) s 0 0 [] (plainT 60)) : Refused s := by
  intro K c
  refine ⟨SI K 0 [] ⟨LX.new s c, [.map []], []⟩, stab_SI, fun lab w h1 _ h2 h3 => ⟨K.iv, h1, h2, h3⟩, h K _ _ ?_⟩
  exact ⟨⟨fresh_ok s c hs ha, rfl, rfl, rfl, rfl, rfl, rfl⟩, rfl⟩
theorem ks_asc (g : GoodKey k) (hx : ∀ j, j < sfx.size → byteAt sfx j < 128) (i : Nat) (h : i < (k ++ sfx).size) : byteAt (k ++ sfx) i < 128 := by
  rw [ks_size] at h
  rcases Nat.lt_or_ge i k.size with h1 | h1
  · rw [kk_at h1]
    have := g.good i h1
    unfold goodB at this
    omega
  · obtain ⟨j, rfl⟩ := Nat.exists_eq_add_of_le h1
    rw [ks_at]
    exact hx j (by omega)
/-- A key, then an error. -/
theorem refused_1 (g : GoodKey k) (hz : sfx.size ≤ 1000) (hx : ∀ j, j < sfx.size → byteAt sfx j < 128) (hs : 0 < sfx.size) (b0 : byteAt sfx 0 = 32) (E : ErrE (k ++ sfx) k.size k.size [94] (plainT 163)) : Refused (k ++ sfx) := by
  have := g.size
  refine refused_of (by rw [ks_size]; omega) (ks_asc g hx) (fun K => ?_)
  refine bad_step (stf_SI K 0 [] _ _) (emit_key g hs b0) (by decide) (fun x h1 h2 => ?_)
  obtain ⟨n, its, _, hi⟩ := itm_key_any (K := K) x h1
  exact ⟨_, hi, bad_err (stf_SI K n its _ _) E⟩
/-- A key, a number, then an error. -/
theorem refused_int (g : GoodKey k) (hz : sfx.size ≤ 1000) (hx : ∀ j, j < sfx.size → byteAt sfx j < 128) (hs : 0 < sfx.size) (b0 : byteAt sfx 0 = 32) {val : ByteArray} {line : Int} {p1 st1 : Nat} {stk1 : List Nat} {t1 : Tag}
    (E1 : Emits (k ++ sfx) k.size k.size [94] (plainT 163) 7 val line p1 st1 stk1 t1) (hd0 : 0 < val.size) (hsz : val.size ≤ 900000) (hdig : isDigits val) (hn : numOf val.data.toList < 9223372036854775808) (E : ErrE (k ++ sfx) p1 st1 stk1 t1) : Refused (k ++ sfx) := by
  have := g.size
  refine refused_of (by rw [ks_size]; omega) (ks_asc g hx) (fun K => ?_)
  refine bad_step (stf_SI K 0 [] _ _) (emit_key g hs b0) (by decide) (fun x h1 h2 => ?_)
  obtain ⟨n, its, hk, hi⟩ := itm_key_any (K := K) x h1
  refine ⟨_, hi, bad_step (stf_SI K n its _ _) E1 (by decide) (fun y h3 h4 => ⟨fun L => SW K L, fun L => ?_, bad_err (stf_SW K) E⟩)⟩
  exact itm_int_weak hk x.val (by rw [h2]; omega) y h3 (by rw [h4]; exact hd0) (by rw [h4]; exact hsz) (by rw [h4]; exact hdig) (by rw [h4]; exact hn) L
/-- A key, a string, then an error. -/
theorem refused_str (g : GoodKey k) (hz : sfx.size ≤ 1000) (hx : ∀ j, j < sfx.size → byteAt sfx j < 128) (hs : 0 < sfx.size) (b0 : byteAt sfx 0 = 32) {val : ByteArray} {line : Int} {p1 st1 : Nat} {stk1 : List Nat} {t1 : Tag}
    (E1 : Emits (k ++ sfx) k.size k.size [94] (plainT 163) 5 val line p1 st1 stk1 t1) (E : ErrE (k ++ sfx) p1 st1 stk1 t1) : Refused (k ++ sfx) := by
  have := g.size
  refine refused_of (by rw [ks_size]; omega) (ks_asc g hx) (fun K => ?_)
  refine bad_step (stf_SI K 0 [] _ _) (emit_key g hs b0) (by decide) (fun x h1 h2 => ?_)
  obtain ⟨n, its, hk, hi⟩ := itm_key_any (K := K) x h1
  refine ⟨_, hi, bad_step (stf_SI K n its _ _) E1 (by decide) (fun y h3 h4 => ⟨fun L => SW K L, fun L => ?_, bad_err (stf_SW K) E⟩)⟩
  exact itm_str_weak hk x.val (by rw [h2]; omega) y h3 L
/-- A key, a list's beginning, a number, then an error. -/
theorem refused_arr (g : GoodKey k) (hz : sfx.size ≤ 1000) (hx : ∀ j, j < sfx.size → byteAt sfx j < 128) (hs : 0 < sfx.size) (b0 : byteAt sfx 0 = 32) {val0 val : ByteArray} {line0 line : Int} {p0 st0 p1 st1 : Nat} {stk0 stk1 : List Nat} {t0 t1 : Tag}
    (E0 : Emits (k ++ sfx) k.size k.size [94] (plainT 163) 10 val0 line0 p0 st0 stk0 t0) (E1 : Emits (k ++ sfx) p0 st0 stk0 t0 7 val line p1 st1 stk1 t1) (hd0 : 0 < val.size) (hsz : val.size ≤ 900000) (hdig : isDigits val) (hn : numOf val.data.toList < 9223372036854775808)
    (E : ErrE (k ++ sfx) p1 st1 stk1 t1) : Refused (k ++ sfx) := by
  have := g.size
  refine refused_of (by rw [ks_size]; omega) (ks_asc g hx) (fun K => ?_)
  refine bad_step (stf_SI K 0 [] _ _) (emit_key g hs b0) (by decide) (fun x h1 h2 => ?_)
  obtain ⟨n, its, hk, hi⟩ := itm_key_any (K := K) x h1
  refine ⟨_, hi, bad_step (stf_SI K n its _ _) E0 (by decide) (fun z h5 h6 => ⟨fun L => SI K n its ⟨L, [.arr [], .map []], [x.val]⟩, fun L => itm_arr x.val z h5 L, ?_⟩)⟩
  refine bad_step (stf_SI K n its _ _) E1 (by decide) (fun y h3 h4 => ⟨fun L => SW K L, fun L => ?_, bad_err (stf_SW K) E⟩)
  exact itm_int_arr x.val y h3 (by rw [h4]; exact hd0) (by rw [h4]; exact hsz) (by rw [h4]; exact hdig) (by rw [h4]; exact hn) L
theorem ks_extr (a b : Nat) : (k ++ sfx).extract (k.size + a) (k.size + b) = sfx.extract a b := by
  rw [ByteArray.extract_append]
  have h1 : k.extract (k.size + a) (k.size + b) = ByteArray.empty := ByteArray.extract_eq_empty_iff.2 (by omega)
  rw [h1, ByteArray.empty_append, Nat.add_sub_cancel_left, Nat.add_sub_cancel_left]
theorem rf_1 (g : GoodKey k) : Refused (k ++ ⟨#[32, 61, 32, 49, 32, 107]⟩) := by
  have hz := ks_size (k := k) (sfx := ⟨#[32, 61, 32, 49, 32, 107]⟩)
  have hn : (⟨#[32, 61, 32, 49, 32, 107]⟩ : ByteArray).size = 6 := rfl
  rw [hn] at hz
  have c0 : byteAt (k ++ ⟨#[32, 61, 32, 49, 32, 107]⟩) (k.size + 0) = 32 := ks_at 0
  have c1 : byteAt (k ++ ⟨#[32, 61, 32, 49, 32, 107]⟩) (k.size + 1) = 61 := ks_at 1
  have c2 : byteAt (k ++ ⟨#[32, 61, 32, 49, 32, 107]⟩) (k.size + 2) = 32 := ks_at 2
  have c3 : byteAt (k ++ ⟨#[32, 61, 32, 49, 32, 107]⟩) (k.size + 3) = 49 := ks_at 3
  have c4 : byteAt (k ++ ⟨#[32, 61, 32, 49, 32, 107]⟩) (k.size + 4) = 32 := ks_at 4
  have c5 : byteAt (k ++ ⟨#[32, 61, 32, 49, 32, 107]⟩) (k.size + 5) = 107 := ks_at 5
  have le := lead_eq (k := k) (sfx := ⟨#[32, 61, 32, 49, 32, 107]⟩) (by decide) rfl rfl rfl
  obtain ⟨s, hs⟩ : ∃ s, s = k ++ ⟨#[32, 61, 32, 49, 32, 107]⟩ := ⟨_, rfl⟩
  rw [← hs] at hz le c0 c1 c2 c3 c4 c5
  have l1 : Leads s (k.size + 3) (k.size + 3) [94] (plainT 174) (k.size + 3) (k.size + 3) [94] (plainT 186) := ld_val_dig (by omega) (by rw [c3]; rfl) (by rw [c3]; rfl) (by rw [c3]; decide)
  have l2 : Leads s (k.size + 3) (k.size + 3) [94] (plainT 186) (k.size + 4) (k.size + 3) [94] (plainT 199) := ld_num_start (by omega) (by rw [c3]; rfl)
  have e1 := ld_num_ws (s := s) (p := k.size + 4) (st := k.size + 3) (stk := [94]) (by omega) (by omega) c4 [] 94 rfl (by simp)
  have E1 := (le.trans (l1.trans l2)).emits e1
  have hx1 : s.extract (k.size + 3) (k.size + 4) = ⟨#[49]⟩ := by rw [hs, ks_extr]; decide
  rw [hx1] at E1
  have l3 : Leads s (k.size + 4) (k.size + 4) [] (plainT 94) (k.size + 5) (k.size + 4) [] (plainT 94) := ld_tve_ws (by omega) (by rw [c4]; rfl) (by rw [c4]; decide) (by rw [c4]; decide)
  have E2 : ErrE s (k.size + 4) (k.size + 4) [] (plainT 94) := ErrE.lead l3 (er_tve (by omega) (by omega) (by rw [c5]; rfl) (by rw [c5]; rfl) (by rw [c5]; decide) (by rw [c5]; decide) (by rw [c5]; decide) (by rw [c5]; decide) (by rw [c5]; decide) (by rw [c5]; decide))
  rw [hs] at E1 E2
  exact refused_int g (by decide) (fun j hj => by
    change j < 6 at hj
    match j, hj with
    | 0, _ => decide
    | 1, _ => decide
    | 2, _ => decide
    | 3, _ => decide
    | 4, _ => decide
    | 5, _ => decide) (by decide) rfl E1 (by decide) (by decide) (by intro i hi; change i < 1 at hi; match i, hi with | 0, _ => decide) (by decide) E2
theorem rf_8 (g : GoodKey k) : Refused (k ++ ⟨#[32, 61, 32, 49, 32, 98, 32, 61, 32, 50]⟩) := by
  have hz := ks_size (k := k) (sfx := ⟨#[32, 61, 32, 49, 32, 98, 32, 61, 32, 50]⟩)
  have hn : (⟨#[32, 61, 32, 49, 32, 98, 32, 61, 32, 50]⟩ : ByteArray).size = 10 := rfl
  rw [hn] at hz
  have c0 : byteAt (k ++ ⟨#[32, 61, 32, 49, 32, 98, 32, 61, 32, 50]⟩) (k.size + 0) = 32 := ks_at 0
  have c1 : byteAt (k ++ ⟨#[32, 61, 32, 49, 32, 98, 32, 61, 32, 50]⟩) (k.size + 1) = 61 := ks_at 1
  have c2 : byteAt (k ++ ⟨#[32, 61, 32, 49, 32, 98, 32, 61, 32, 50]⟩) (k.size + 2) = 32 := ks_at 2
  have c3 : byteAt (k ++ ⟨#[32, 61, 32, 49, 32, 98, 32, 61, 32, 50]⟩) (k.size + 3) = 49 := ks_at 3
  have c4 : byteAt (k ++ ⟨#[32, 61, 32, 49, 32, 98, 32, 61, 32, 50]⟩) (k.size + 4) = 32 := ks_at 4
  have c5 : byteAt (k ++ ⟨#[32, 61, 32, 49, 32, 98, 32, 61, 32, 50]⟩) (k.size + 5) = 98 := ks_at 5
  have c6 : byteAt (k ++ ⟨#[32, 61, 32, 49, 32, 98, 32, 61, 32, 50]⟩) (k.size + 6) = 32 := ks_at 6
  have c7 : byteAt (k ++ ⟨#[32, 61, 32, 49, 32, 98, 32, 61, 32, 50]⟩) (k.size + 7) = 61 := ks_at 7
  have c8 : byteAt (k ++ ⟨#[32, 61, 32, 49, 32, 98, 32, 61, 32, 50]⟩) (k.size + 8) = 32 := ks_at 8
  have c9 : byteAt (k ++ ⟨#[32, 61, 32, 49, 32, 98, 32, 61, 32, 50]⟩) (k.size + 9) = 50 := ks_at 9
  have le := lead_eq (k := k) (sfx := ⟨#[32, 61, 32, 49, 32, 98, 32, 61, 32, 50]⟩) (by decide) rfl rfl rfl
  obtain ⟨s, hs⟩ : ∃ s, s = k ++ ⟨#[32, 61, 32, 49, 32, 98, 32, 61, 32, 50]⟩ := ⟨_, rfl⟩
  rw [← hs] at hz le c0 c1 c2 c3 c4 c5 c6 c7 c8 c9
  have l1 : Leads s (k.size + 3) (k.size + 3) [94] (plainT 174) (k.size + 3) (k.size + 3) [94] (plainT 186) := ld_val_dig (by omega) (by rw [c3]; rfl) (by rw [c3]; rfl) (by rw [c3]; decide)
  have l2 : Leads s (k.size + 3) (k.size + 3) [94] (plainT 186) (k.size + 4) (k.size + 3) [94] (plainT 199) := ld_num_start (by omega) (by rw [c3]; rfl)
  have e1 := ld_num_ws (s := s) (p := k.size + 4) (st := k.size + 3) (stk := [94]) (by omega) (by omega) c4 [] 94 rfl (by simp)
  have E1 := (le.trans (l1.trans l2)).emits e1
  have hx1 : s.extract (k.size + 3) (k.size + 4) = ⟨#[49]⟩ := by rw [hs, ks_extr]; decide
  rw [hx1] at E1
  have l3 : Leads s (k.size + 4) (k.size + 4) [] (plainT 94) (k.size + 5) (k.size + 4) [] (plainT 94) := ld_tve_ws (by omega) (by rw [c4]; rfl) (by rw [c4]; decide) (by rw [c4]; decide)
  have E2 : ErrE s (k.size + 4) (k.size + 4) [] (plainT 94) := ErrE.lead l3 (er_tve (by omega) (by omega) (by rw [c5]; rfl) (by rw [c5]; rfl) (by rw [c5]; decide) (by rw [c5]; decide) (by rw [c5]; decide) (by rw [c5]; decide) (by rw [c5]; decide) (by rw [c5]; decide))
  rw [hs] at E1 E2
  exact refused_int g (by decide) (fun j hj => by
    change j < 10 at hj
    match j, hj with
    | 0, _ => decide
    | 1, _ => decide
    | 2, _ => decide
    | 3, _ => decide
    | 4, _ => decide
    | 5, _ => decide
    | 6, _ => decide
    | 7, _ => decide
    | 8, _ => decide
    | 9, _ => decide) (by decide) rfl E1 (by decide) (by decide) (by intro i hi; change i < 1 at hi; match i, hi with | 0, _ => decide) (by decide) E2
theorem rf_10 (g : GoodKey k) : Refused (k ++ ⟨#[32, 61, 32, 46, 53]⟩) := by
  have hz := ks_size (k := k) (sfx := ⟨#[32, 61, 32, 46, 53]⟩)
  have hn : (⟨#[32, 61, 32, 46, 53]⟩ : ByteArray).size = 5 := rfl
  rw [hn] at hz
  have c0 : byteAt (k ++ ⟨#[32, 61, 32, 46, 53]⟩) (k.size + 0) = 32 := ks_at 0
  have c1 : byteAt (k ++ ⟨#[32, 61, 32, 46, 53]⟩) (k.size + 1) = 61 := ks_at 1
  have c2 : byteAt (k ++ ⟨#[32, 61, 32, 46, 53]⟩) (k.size + 2) = 32 := ks_at 2
  have c3 : byteAt (k ++ ⟨#[32, 61, 32, 46, 53]⟩) (k.size + 3) = 46 := ks_at 3
  have c4 : byteAt (k ++ ⟨#[32, 61, 32, 46, 53]⟩) (k.size + 4) = 53 := ks_at 4
  have le := lead_eq (k := k) (sfx := ⟨#[32, 61, 32, 46, 53]⟩) (by decide) rfl rfl rfl
  obtain ⟨s, hs⟩ : ∃ s, s = k ++ ⟨#[32, 61, 32, 46, 53]⟩ := ⟨_, rfl⟩
  rw [← hs] at hz le c0 c1 c2 c3 c4
  have E2 : ErrE s k.size k.size [94] (plainT 163) := ErrE.lead le (er_dot (by omega) (by omega) c3)
  rw [hs] at E2
  exact refused_1 g (by decide) (fun j hj => by
    change j < 5 at hj
    match j, hj with
    | 0, _ => decide
    | 1, _ => decide
    | 2, _ => decide
    | 3, _ => decide
    | 4, _ => decide) (by decide) rfl E2
theorem rf_11 (g : GoodKey k) : Refused (k ++ ⟨#[32, 61, 32, 45]⟩) := by
  have hz := ks_size (k := k) (sfx := ⟨#[32, 61, 32, 45]⟩)
  have hn : (⟨#[32, 61, 32, 45]⟩ : ByteArray).size = 4 := rfl
  rw [hn] at hz
  have c0 : byteAt (k ++ ⟨#[32, 61, 32, 45]⟩) (k.size + 0) = 32 := ks_at 0
  have c1 : byteAt (k ++ ⟨#[32, 61, 32, 45]⟩) (k.size + 1) = 61 := ks_at 1
  have c2 : byteAt (k ++ ⟨#[32, 61, 32, 45]⟩) (k.size + 2) = 32 := ks_at 2
  have c3 : byteAt (k ++ ⟨#[32, 61, 32, 45]⟩) (k.size + 3) = 45 := ks_at 3
  have le := lead_eq (k := k) (sfx := ⟨#[32, 61, 32, 45]⟩) (by decide) rfl rfl rfl
  obtain ⟨s, hs⟩ : ∃ s, s = k ++ ⟨#[32, 61, 32, 45]⟩ := ⟨_, rfl⟩
  rw [← hs] at hz le c0 c1 c2 c3
  have l1 : Leads s (k.size + 3) (k.size + 3) [94] (plainT 174) (k.size + 4) (k.size + 3) [94] (plainT 184) := ld_val_neg (by omega) c3
  have E2 : ErrE s k.size k.size [94] (plainT 163) := ErrE.lead (le.trans l1) (er_neg (by omega) (by omega))
  rw [hs] at E2
  exact refused_1 g (by decide) (fun j hj => by
    change j < 4 at hj
    match j, hj with
    | 0, _ => decide
    | 1, _ => decide
    | 2, _ => decide
    | 3, _ => decide) (by decide) rfl E2
theorem rf_4 (g : GoodKey k) : Refused (k ++ ⟨#[32, 61, 32, 34, 120]⟩) := by
  have hz := ks_size (k := k) (sfx := ⟨#[32, 61, 32, 34, 120]⟩)
  have hn : (⟨#[32, 61, 32, 34, 120]⟩ : ByteArray).size = 5 := rfl
  rw [hn] at hz
  have c0 : byteAt (k ++ ⟨#[32, 61, 32, 34, 120]⟩) (k.size + 0) = 32 := ks_at 0
  have c1 : byteAt (k ++ ⟨#[32, 61, 32, 34, 120]⟩) (k.size + 1) = 61 := ks_at 1
  have c2 : byteAt (k ++ ⟨#[32, 61, 32, 34, 120]⟩) (k.size + 2) = 32 := ks_at 2
  have c3 : byteAt (k ++ ⟨#[32, 61, 32, 34, 120]⟩) (k.size + 3) = 34 := ks_at 3
  have c4 : byteAt (k ++ ⟨#[32, 61, 32, 34, 120]⟩) (k.size + 4) = 120 := ks_at 4
  have le := lead_eq (k := k) (sfx := ⟨#[32, 61, 32, 34, 120]⟩) (by decide) rfl rfl rfl
  obtain ⟨s, hs⟩ : ∃ s, s = k ++ ⟨#[32, 61, 32, 34, 120]⟩ := ⟨_, rfl⟩
  rw [← hs] at hz le c0 c1 c2 c3 c4
  have l1 : Leads s (k.size + 3) (k.size + 3) [94] (plainT 174) (k.size + 4) (k.size + 4) [94] (plainT 183) := ld_val_dq (by omega) c3
  have l2 : Leads s (k.size + 4) (k.size + 4) [94] (plainT 183) (k.size + 5) (k.size + 4) [94] (plainT 183) := ld_dq_ch (by omega) (by rw [c4]; decide) (by rw [c4]; decide) (by rw [c4]; decide)
  have E2 : ErrE s k.size k.size [94] (plainT 163) := ErrE.lead (le.trans (l1.trans l2)) (er_dq (by omega) (by omega))
  rw [hs] at E2
  exact refused_1 g (by decide) (fun j hj => by
    change j < 5 at hj
    match j, hj with
    | 0, _ => decide
    | 1, _ => decide
    | 2, _ => decide
    | 3, _ => decide
    | 4, _ => decide) (by decide) rfl E2
theorem rf_3 (g : GoodKey k) : Refused (k ++ ⟨#[32, 61, 32, 102, 111, 111, 32, 98, 97, 114]⟩) := by
  have hz := ks_size (k := k) (sfx := ⟨#[32, 61, 32, 102, 111, 111, 32, 98, 97, 114]⟩)
  have hn : (⟨#[32, 61, 32, 102, 111, 111, 32, 98, 97, 114]⟩ : ByteArray).size = 10 := rfl
  rw [hn] at hz
  have c0 : byteAt (k ++ ⟨#[32, 61, 32, 102, 111, 111, 32, 98, 97, 114]⟩) (k.size + 0) = 32 := ks_at 0
  have c1 : byteAt (k ++ ⟨#[32, 61, 32, 102, 111, 111, 32, 98, 97, 114]⟩) (k.size + 1) = 61 := ks_at 1
  have c2 : byteAt (k ++ ⟨#[32, 61, 32, 102, 111, 111, 32, 98, 97, 114]⟩) (k.size + 2) = 32 := ks_at 2
  have c3 : byteAt (k ++ ⟨#[32, 61, 32, 102, 111, 111, 32, 98, 97, 114]⟩) (k.size + 3) = 102 := ks_at 3
  have c4 : byteAt (k ++ ⟨#[32, 61, 32, 102, 111, 111, 32, 98, 97, 114]⟩) (k.size + 4) = 111 := ks_at 4
  have c5 : byteAt (k ++ ⟨#[32, 61, 32, 102, 111, 111, 32, 98, 97, 114]⟩) (k.size + 5) = 111 := ks_at 5
  have c6 : byteAt (k ++ ⟨#[32, 61, 32, 102, 111, 111, 32, 98, 97, 114]⟩) (k.size + 6) = 32 := ks_at 6
  have c7 : byteAt (k ++ ⟨#[32, 61, 32, 102, 111, 111, 32, 98, 97, 114]⟩) (k.size + 7) = 98 := ks_at 7
  have c8 : byteAt (k ++ ⟨#[32, 61, 32, 102, 111, 111, 32, 98, 97, 114]⟩) (k.size + 8) = 97 := ks_at 8
  have c9 : byteAt (k ++ ⟨#[32, 61, 32, 102, 111, 111, 32, 98, 97, 114]⟩) (k.size + 9) = 114 := ks_at 9
  have le := lead_eq (k := k) (sfx := ⟨#[32, 61, 32, 102, 111, 111, 32, 98, 97, 114]⟩) (by decide) rfl rfl rfl
  obtain ⟨s, hs⟩ : ∃ s, s = k ++ ⟨#[32, 61, 32, 102, 111, 111, 32, 98, 97, 114]⟩ := ⟨_, rfl⟩
  rw [← hs] at hz le c0 c1 c2 c3 c4 c5 c6 c7 c8 c9
  have l1 : Leads s (k.size + 3) (k.size + 3) [94] (plainT 174) (k.size + 3) (k.size + 3) [94] (plainT 187) := ld_val_str (by omega) (by rw [c3]; rfl) (by rw [c3]; rfl) (by rw [c3]; rfl) (by rw [c3]; decide) (by rw [c3]; decide) (by rw [c3]; decide) (by rw [c3]; decide) (by rw [c3]; decide) (by rw [c3]; decide) (by rw [c3]; decide)
  have l2 : Leads s (k.size + 3) (k.size + 3) [94] (plainT 187) (k.size + 4) (k.size + 3) [94] (plainT 187) := ld_str_ch (by omega) (by rw [c3]; rfl) (by rw [c3]; rfl) (by rw [c3]; decide) (by rw [c3]; decide) (by rw [c3]; decide) (by rw [c3]; decide) (by rw [c3]; decide) (by rw [c3]; decide) (by rw [c3]; decide)
  have l3 : Leads s (k.size + 4) (k.size + 3) [94] (plainT 187) (k.size + 5) (k.size + 3) [94] (plainT 187) := ld_str_ch (by omega) (by rw [c4]; rfl) (by rw [c4]; rfl) (by rw [c4]; decide) (by rw [c4]; decide) (by rw [c4]; decide) (by rw [c4]; decide) (by rw [c4]; decide) (by rw [c4]; decide) (by rw [c4]; decide)
  have l4 : Leads s (k.size + 5) (k.size + 3) [94] (plainT 187) (k.size + 6) (k.size + 3) [94] (plainT 187) := ld_str_ch (by omega) (by rw [c5]; rfl) (by rw [c5]; rfl) (by rw [c5]; decide) (by rw [c5]; decide) (by rw [c5]; decide) (by rw [c5]; decide) (by rw [c5]; decide) (by rw [c5]; decide) (by rw [c5]; decide)
  have hx3 : s.extract (k.size + 3) (k.size + 6) = ⟨#[102, 111, 111]⟩ := by rw [hs, ks_extr]; decide
  have e1 := ld_str_ws (s := s) (p := k.size + 6) (st := k.size + 3) (stk := [94]) (by omega) (by omega) c6 (by rw [hx3]; decide) (fun _ => by rw [c3]; decide) [] 94 rfl (by simp)
  have E1 := (le.trans (((l1.trans l2).trans l3).trans l4)).emits e1
  have l5 : Leads s (k.size + 6) (k.size + 6) [] (plainT 94) (k.size + 7) (k.size + 6) [] (plainT 94) := ld_tve_ws (by omega) (by rw [c6]; rfl) (by rw [c6]; decide) (by rw [c6]; decide)
  have E2 : ErrE s (k.size + 6) (k.size + 6) [] (plainT 94) := ErrE.lead l5 (er_tve (by omega) (by omega) (by rw [c7]; rfl) (by rw [c7]; rfl) (by rw [c7]; decide) (by rw [c7]; decide) (by rw [c7]; decide) (by rw [c7]; decide) (by rw [c7]; decide) (by rw [c7]; decide))
  rw [hs] at E1 E2
  exact refused_str g (by decide) (fun j hj => by
    change j < 10 at hj
    match j, hj with
    | 0, _ => decide
    | 1, _ => decide
    | 2, _ => decide
    | 3, _ => decide
    | 4, _ => decide
    | 5, _ => decide
    | 6, _ => decide
    | 7, _ => decide
    | 8, _ => decide
    | 9, _ => decide) (by decide) rfl E1 E2
theorem rf_7 (g : GoodKey k) : Refused (k ++ ⟨#[32, 61, 32, 91, 49, 32, 50, 32, 51, 93]⟩) := by
  have hz := ks_size (k := k) (sfx := ⟨#[32, 61, 32, 91, 49, 32, 50, 32, 51, 93]⟩)
  have hn : (⟨#[32, 61, 32, 91, 49, 32, 50, 32, 51, 93]⟩ : ByteArray).size = 10 := rfl
  rw [hn] at hz
  have c0 : byteAt (k ++ ⟨#[32, 61, 32, 91, 49, 32, 50, 32, 51, 93]⟩) (k.size + 0) = 32 := ks_at 0
  have c1 : byteAt (k ++ ⟨#[32, 61, 32, 91, 49, 32, 50, 32, 51, 93]⟩) (k.size + 1) = 61 := ks_at 1
  have c2 : byteAt (k ++ ⟨#[32, 61, 32, 91, 49, 32, 50, 32, 51, 93]⟩) (k.size + 2) = 32 := ks_at 2
  have c3 : byteAt (k ++ ⟨#[32, 61, 32, 91, 49, 32, 50, 32, 51, 93]⟩) (k.size + 3) = 91 := ks_at 3
  have c4 : byteAt (k ++ ⟨#[32, 61, 32, 91, 49, 32, 50, 32, 51, 93]⟩) (k.size + 4) = 49 := ks_at 4
  have c5 : byteAt (k ++ ⟨#[32, 61, 32, 91, 49, 32, 50, 32, 51, 93]⟩) (k.size + 5) = 32 := ks_at 5
  have c6 : byteAt (k ++ ⟨#[32, 61, 32, 91, 49, 32, 50, 32, 51, 93]⟩) (k.size + 6) = 50 := ks_at 6
  have c7 : byteAt (k ++ ⟨#[32, 61, 32, 91, 49, 32, 50, 32, 51, 93]⟩) (k.size + 7) = 32 := ks_at 7
  have c8 : byteAt (k ++ ⟨#[32, 61, 32, 91, 49, 32, 50, 32, 51, 93]⟩) (k.size + 8) = 51 := ks_at 8
  have c9 : byteAt (k ++ ⟨#[32, 61, 32, 91, 49, 32, 50, 32, 51, 93]⟩) (k.size + 9) = 93 := ks_at 9
  have le := lead_eq (k := k) (sfx := ⟨#[32, 61, 32, 91, 49, 32, 50, 32, 51, 93]⟩) (by decide) rfl rfl rfl
  obtain ⟨s, hs⟩ : ∃ s, s = k ++ ⟨#[32, 61, 32, 91, 49, 32, 50, 32, 51, 93]⟩ := ⟨_, rfl⟩
  rw [← hs] at hz le c0 c1 c2 c3 c4 c5 c6 c7 c8 c9
  have e0 := ld_val_arr (s := s) (p := k.size + 3) (st := k.size + 3) (stk := [94]) (by omega) (by omega) c3
  have E0 := le.emits e0
  have l0 : Leads s (k.size + 4) (k.size + 4) [94] (plainT 180) (k.size + 4) (k.size + 4) ([94] ++ [190]) (plainT 174) := ld_arr_other (by omega) (by simp) (by rw [c4]; rfl) (by rw [c4]; decide) (by rw [c4]; decide) (by rw [c4]; decide) (by rw [c4]; decide)
  have l1 : Leads s (k.size + 4) (k.size + 4) [94, 190] (plainT 174) (k.size + 4) (k.size + 4) [94, 190] (plainT 186) := ld_val_dig (by omega) (by rw [c4]; rfl) (by rw [c4]; rfl) (by rw [c4]; decide)
  have l2 : Leads s (k.size + 4) (k.size + 4) [94, 190] (plainT 186) (k.size + 5) (k.size + 4) [94, 190] (plainT 199) := ld_num_start (by omega) (by rw [c4]; rfl)
  have e1 := ld_num_ws (s := s) (p := k.size + 5) (st := k.size + 4) (stk := [94, 190]) (by omega) (by omega) c5 [94] 190 rfl (by simp)
  have E1 := (l0.trans (l1.trans l2)).emits e1
  have hx1 : s.extract (k.size + 4) (k.size + 5) = ⟨#[49]⟩ := by rw [hs, ks_extr]; decide
  rw [hx1] at E1
  have l3 : Leads s (k.size + 5) (k.size + 5) [94] (plainT 190) (k.size + 6) (k.size + 5) [94] (skipT 190) := ld_arrend_ws (by omega) (by rw [c5]; rfl)
  have E2 : ErrE s (k.size + 5) (k.size + 5) [94] (plainT 190) := ErrE.lead (l3.trans (ld_skip 190)) (er_arrend (by omega) (by omega) (by rw [c6]; rfl) (by rw [c6]; rfl) (by rw [c6]; decide) (by rw [c6]; decide) (by rw [c6]; decide) (by rw [c6]; decide))
  rw [hs] at E0 E1 E2
  exact refused_arr g (by decide) (fun j hj => by
    change j < 10 at hj
    match j, hj with
    | 0, _ => decide
    | 1, _ => decide
    | 2, _ => decide
    | 3, _ => decide
    | 4, _ => decide
    | 5, _ => decide
    | 6, _ => decide
    | 7, _ => decide
    | 8, _ => decide
    | 9, _ => decide) (by decide) rfl E0 E1 (by decide) (by decide) (by intro i hi; change i < 1 at hi; match i, hi with | 0, _ => decide) (by decide) E2
end
end Go.Cf

/-
  The specification's keys without quotes.
-/
namespace Go.Cf
open Go.RowKit Go.Conc Go.Proofs
def letB (c : Nat) : Prop := (65 ≤ c ∧ c ≤ 90) ∨ (97 ≤ c ∧ c ≤ 122)
def bareB (s : ByteArray) (j : Nat) : Prop := letB (byteAt s j) ∨ (j ≠ 0 ∧ goodB (byteAt s j))
/-- The seven words. -/
def kwWords : List (List UInt8) := [[116, 114, 117, 101], [121, 101, 115], [111, 110], [102, 97, 108, 115, 101], [110, 111], [111, 102, 102], [105, 110, 99, 108, 117, 100, 101]]
structure Bare (s : ByteArray) : Prop where
  pos : 0 < s.size
  bytes : ∀ j, j < s.size → bareB s j
  kw : ∀ x ∈ kwWords, Lib.toLowerA s.data.toList ≠ x
theorem kwClass (b : UInt8) : (97 ≤ b.toNat ∧ b.toNat ≤ 122) ∨ (65 ≤ b.toNat ∧ b.toNat ≤ 90) ∨ (48 ≤ b.toNat ∧ b.toNat ≤ 57) ∨ (b.toNat = 46) ∨ (b.toNat = 45) ∨ (b.toNat = 95) ∨ (123 ≤ b.toNat) ∨ (91 ≤ b.toNat ∧ b.toNat ≤ 96 ∧ b.toNat ≠ 95) ∨ (58 ≤ b.toNat ∧ b.toNat ≤ 64) ∨ (b.toNat ≤ 47 ∧ b.toNat ≠ 46 ∧ b.toNat ≠ 45) := by omega
def wordsRow : Array Value := #[.string ⟨#[116, 114, 117, 101]⟩, .string ⟨#[121, 101, 115]⟩, .string ⟨#[111, 110]⟩, .string ⟨#[102, 97, 108, 115, 101]⟩, .string ⟨#[110, 111]⟩, .string ⟨#[111, 102, 102]⟩, .string ⟨#[105, 110, 99, 108, 117, 100, 101]⟩]
theorem word_at (m : Nat) (h : m < 7) : ∃ x : ByteArray, wordsRow[m]? = some (.string x) ∧ kwWords[m]? = some x.data.toList := by
  match m, h with
  | 0, _ => exact ⟨_, rfl, rfl⟩
  | 1, _ => exact ⟨_, rfl, rfl⟩
  | 2, _ => exact ⟨_, rfl, rfl⟩
  | 3, _ => exact ⟨_, rfl, rfl⟩
  | 4, _ => exact ⟨_, rfl, rfl⟩
  | 5, _ => exact ⟨_, rfl, rfl⟩
  | 6, _ => exact ⟨_, rfl, rfl⟩
set_option maxRecDepth 100000 in
set_option maxHeartbeats 8000000 in
theorem confBare_c (s : ByteArray) (hs : s.size ≤ 2147483647) (w : World) : Calls Tryz.prog 34 #[.string s] w fun e w' => (∃ ok : Bool, e = .returned (.bool ok) ∧ (ok = true → Bare s)) ∧ Below w.heap.size w w' := by
  go_enter Tryz.func34, Tryz.ntmps34
  go_wp2_with fail
  go_loopw [3] (fun i wr => ∃ k : Nat, k ≤ s.size ∧ i = .int .i64 k ∧ wr = w ∧ ∀ j, j < k → bareB s j) (fun i _ => s.size - (RowKit.intOf i).toNat)
  case atStart => exact ⟨0, Nat.zero_le _, rfl, rfl, fun j hj => absurd hj (Nat.not_lt_zero j)⟩
  case round =>
    obtain ⟨k, hk, rfl, hwr, hall⟩ := hrel
    have hwr' := hwr.symm
    clear hwr
    subst hwr'
    have HA := Lib.hid hall
    clear hall
    by_cases hlt : k < s.size
    · have h1 : (k : Int) < (s.size : Int) := by omega
      obtain ⟨b, hbb⟩ : ∃ b, b = s[k]'hlt := ⟨_, rfl⟩
      have hb1 : (s[k]'hlt) = b := hbb.symm
      have hB : byteAt s k = b.toNat := by rw [← byteAt_get s k hlt, hb1]
      have HB := Lib.hid hB
      clear hbb hB
      have step : ∀ (_ : bareB s k) j, j < k + 1 → bareB s j := fun hk2 j hj => (Nat.lt_or_eq_of_le (Nat.le_of_lt_succ hj)).elim (fun h => HA.out j h) (fun h => h ▸ hk2)
      have HS := Lib.hid step
      clear step
      rcases kwClass b with hc | hc | hc | hc | hc | hc | hc | hc | hc | hc
      · have e_ge97 : decide ((97 : Int) ≤ (b.toNat : Int)) = true := decide_eq_true (by omega)
        have e_le122 : decide ((b.toNat : Int) ≤ 122) = true := decide_eq_true (by omega)
        go_wp2
        go_roundw
        case rel => exact ⟨k + 1, by omega, by go_num, trivial, HS.out (by rw [bareB, HB.out]; exact .inl (by unfold letB; omega))⟩
        case measure => simp [RowKit.intOf]; omega
      · have e_ge97 : decide ((97 : Int) ≤ (b.toNat : Int)) = false := decide_eq_false (by omega)
        have e_ge65 : decide ((65 : Int) ≤ (b.toNat : Int)) = true := decide_eq_true (by omega)
        have e_le90 : decide ((b.toNat : Int) ≤ 90) = true := decide_eq_true (by omega)
        go_wp2
        go_roundw
        case rel => exact ⟨k + 1, by omega, by go_num, trivial, HS.out (by rw [bareB, HB.out]; exact .inl (by unfold letB; omega))⟩
        case measure => simp [RowKit.intOf]; omega
      · have e_ge97 : decide ((97 : Int) ≤ (b.toNat : Int)) = false := decide_eq_false (by omega)
        have e_ge65 : decide ((65 : Int) ≤ (b.toNat : Int)) = false := decide_eq_false (by omega)
        have e_ge48 : decide ((48 : Int) ≤ (b.toNat : Int)) = true := decide_eq_true (by omega)
        have e_le57 : decide ((b.toNat : Int) ≤ 57) = true := decide_eq_true (by omega)
        by_cases h0 : k = 0
        · subst h0
          go_wp2
          go_ret
          exact ⟨⟨false, rfl, fun h => by cases h⟩, Below.refl _ _⟩
        · have e0 : (((k : Nat) : Int) == 0) = false := beq_eq_false_iff_ne.2 (by omega)
          go_wp2
          go_roundw
          case rel => exact ⟨k + 1, by omega, by go_num, trivial, HS.out (by rw [bareB, HB.out]; exact .inr ⟨h0, by unfold goodB; omega⟩)⟩
          case measure => simp [RowKit.intOf]; omega
      · have e_ge97 : decide ((97 : Int) ≤ (b.toNat : Int)) = false := decide_eq_false (by omega)
        have e_ge65 : decide ((65 : Int) ≤ (b.toNat : Int)) = false := decide_eq_false (by omega)
        have e_ge48 : decide ((48 : Int) ≤ (b.toNat : Int)) = false := decide_eq_false (by omega)
        have e_eq46 : ((b.toNat : Int) == 46) = true := beq_iff_eq.2 (by omega)
        by_cases h0 : k = 0
        · subst h0
          go_wp2
          go_ret
          exact ⟨⟨false, rfl, fun h => by cases h⟩, Below.refl _ _⟩
        · have e0 : (((k : Nat) : Int) == 0) = false := beq_eq_false_iff_ne.2 (by omega)
          go_wp2
          go_roundw
          case rel => exact ⟨k + 1, by omega, by go_num, trivial, HS.out (by rw [bareB, HB.out]; exact .inr ⟨h0, by unfold goodB; omega⟩)⟩
          case measure => simp [RowKit.intOf]; omega
      · have e_ge97 : decide ((97 : Int) ≤ (b.toNat : Int)) = false := decide_eq_false (by omega)
        have e_ge65 : decide ((65 : Int) ≤ (b.toNat : Int)) = false := decide_eq_false (by omega)
        have e_ge48 : decide ((48 : Int) ≤ (b.toNat : Int)) = false := decide_eq_false (by omega)
        have e_eq46 : ((b.toNat : Int) == 46) = false := beq_eq_false_iff_ne.2 (by omega)
        have e_eq45 : ((b.toNat : Int) == 45) = true := beq_iff_eq.2 (by omega)
        by_cases h0 : k = 0
        · subst h0
          go_wp2
          go_ret
          exact ⟨⟨false, rfl, fun h => by cases h⟩, Below.refl _ _⟩
        · have e0 : (((k : Nat) : Int) == 0) = false := beq_eq_false_iff_ne.2 (by omega)
          go_wp2
          go_roundw
          case rel => exact ⟨k + 1, by omega, by go_num, trivial, HS.out (by rw [bareB, HB.out]; exact .inr ⟨h0, by unfold goodB; omega⟩)⟩
          case measure => simp [RowKit.intOf]; omega
      · have e_ge97 : decide ((97 : Int) ≤ (b.toNat : Int)) = false := decide_eq_false (by omega)
        have e_ge65 : decide ((65 : Int) ≤ (b.toNat : Int)) = true := decide_eq_true (by omega)
        have e_le90 : decide ((b.toNat : Int) ≤ 90) = false := decide_eq_false (by omega)
        have e_ge48 : decide ((48 : Int) ≤ (b.toNat : Int)) = true := decide_eq_true (by omega)
        have e_le57 : decide ((b.toNat : Int) ≤ 57) = false := decide_eq_false (by omega)
        have e_eq46 : ((b.toNat : Int) == 46) = false := beq_eq_false_iff_ne.2 (by omega)
        have e_eq45 : ((b.toNat : Int) == 45) = false := beq_eq_false_iff_ne.2 (by omega)
        have e_eq95 : ((b.toNat : Int) == 95) = true := beq_iff_eq.2 (by omega)
        by_cases h0 : k = 0
        · subst h0
          go_wp2
          go_ret
          exact ⟨⟨false, rfl, fun h => by cases h⟩, Below.refl _ _⟩
        · have e0 : (((k : Nat) : Int) == 0) = false := beq_eq_false_iff_ne.2 (by omega)
          go_wp2
          go_roundw
          case rel => exact ⟨k + 1, by omega, by go_num, trivial, HS.out (by rw [bareB, HB.out]; exact .inr ⟨h0, by unfold goodB; omega⟩)⟩
          case measure => simp [RowKit.intOf]; omega
      · have e_ge97 : decide ((97 : Int) ≤ (b.toNat : Int)) = true := decide_eq_true (by omega)
        have e_le122 : decide ((b.toNat : Int) ≤ 122) = false := decide_eq_false (by omega)
        have e_ge65 : decide ((65 : Int) ≤ (b.toNat : Int)) = true := decide_eq_true (by omega)
        have e_le90 : decide ((b.toNat : Int) ≤ 90) = false := decide_eq_false (by omega)
        have e_ge48 : decide ((48 : Int) ≤ (b.toNat : Int)) = true := decide_eq_true (by omega)
        have e_le57 : decide ((b.toNat : Int) ≤ 57) = false := decide_eq_false (by omega)
        have e_eq46 : ((b.toNat : Int) == 46) = false := beq_eq_false_iff_ne.2 (by omega)
        have e_eq45 : ((b.toNat : Int) == 45) = false := beq_eq_false_iff_ne.2 (by omega)
        have e_eq95 : ((b.toNat : Int) == 95) = false := beq_eq_false_iff_ne.2 (by omega)
        by_cases h0 : k = 0
        · subst h0
          go_wp2
          go_ret
          exact ⟨⟨false, rfl, fun h => by cases h⟩, Below.refl _ _⟩
        · have e0 : (((k : Nat) : Int) == 0) = false := beq_eq_false_iff_ne.2 (by omega)
          go_wp2
          go_ret
          exact ⟨⟨false, rfl, fun h => by cases h⟩, Below.refl _ _⟩
      · have e_ge97 : decide ((97 : Int) ≤ (b.toNat : Int)) = false := decide_eq_false (by omega)
        have e_ge65 : decide ((65 : Int) ≤ (b.toNat : Int)) = true := decide_eq_true (by omega)
        have e_le90 : decide ((b.toNat : Int) ≤ 90) = false := decide_eq_false (by omega)
        have e_ge48 : decide ((48 : Int) ≤ (b.toNat : Int)) = true := decide_eq_true (by omega)
        have e_le57 : decide ((b.toNat : Int) ≤ 57) = false := decide_eq_false (by omega)
        have e_eq46 : ((b.toNat : Int) == 46) = false := beq_eq_false_iff_ne.2 (by omega)
        have e_eq45 : ((b.toNat : Int) == 45) = false := beq_eq_false_iff_ne.2 (by omega)
        have e_eq95 : ((b.toNat : Int) == 95) = false := beq_eq_false_iff_ne.2 (by omega)
        by_cases h0 : k = 0
        · subst h0
          go_wp2
          go_ret
          exact ⟨⟨false, rfl, fun h => by cases h⟩, Below.refl _ _⟩
        · have e0 : (((k : Nat) : Int) == 0) = false := beq_eq_false_iff_ne.2 (by omega)
          go_wp2
          go_ret
          exact ⟨⟨false, rfl, fun h => by cases h⟩, Below.refl _ _⟩
      · have e_ge97 : decide ((97 : Int) ≤ (b.toNat : Int)) = false := decide_eq_false (by omega)
        have e_ge65 : decide ((65 : Int) ≤ (b.toNat : Int)) = false := decide_eq_false (by omega)
        have e_ge48 : decide ((48 : Int) ≤ (b.toNat : Int)) = true := decide_eq_true (by omega)
        have e_le57 : decide ((b.toNat : Int) ≤ 57) = false := decide_eq_false (by omega)
        have e_eq46 : ((b.toNat : Int) == 46) = false := beq_eq_false_iff_ne.2 (by omega)
        have e_eq45 : ((b.toNat : Int) == 45) = false := beq_eq_false_iff_ne.2 (by omega)
        have e_eq95 : ((b.toNat : Int) == 95) = false := beq_eq_false_iff_ne.2 (by omega)
        by_cases h0 : k = 0
        · subst h0
          go_wp2
          go_ret
          exact ⟨⟨false, rfl, fun h => by cases h⟩, Below.refl _ _⟩
        · have e0 : (((k : Nat) : Int) == 0) = false := beq_eq_false_iff_ne.2 (by omega)
          go_wp2
          go_ret
          exact ⟨⟨false, rfl, fun h => by cases h⟩, Below.refl _ _⟩
      · have e_ge97 : decide ((97 : Int) ≤ (b.toNat : Int)) = false := decide_eq_false (by omega)
        have e_ge65 : decide ((65 : Int) ≤ (b.toNat : Int)) = false := decide_eq_false (by omega)
        have e_ge48 : decide ((48 : Int) ≤ (b.toNat : Int)) = false := decide_eq_false (by omega)
        have e_eq46 : ((b.toNat : Int) == 46) = false := beq_eq_false_iff_ne.2 (by omega)
        have e_eq45 : ((b.toNat : Int) == 45) = false := beq_eq_false_iff_ne.2 (by omega)
        have e_eq95 : ((b.toNat : Int) == 95) = false := beq_eq_false_iff_ne.2 (by omega)
        by_cases h0 : k = 0
        · subst h0
          go_wp2
          go_ret
          exact ⟨⟨false, rfl, fun h => by cases h⟩, Below.refl _ _⟩
        · have e0 : (((k : Nat) : Int) == 0) = false := beq_eq_false_iff_ne.2 (by omega)
          go_wp2
          go_ret
          exact ⟨⟨false, rfl, fun h => by cases h⟩, Below.refl _ _⟩
    · have hke : k = s.size := by omega
      subst hke
      go_wp2_with fail
      have hr0 : (w.alloc (.cells wordsRow 9)).heap[w.heap.size]? = some (.cells wordsRow 9 (0, 0)) := heap_alloc_new w _
      have hb0 : Below w.heap.size w (w.alloc (.cells wordsRow 9)) := (Below.refl _ _).alloc (Nat.le_refl _) _
      obtain ⟨lo, hlo⟩ : ∃ lo : ByteArray, lo = ⟨(Lib.toLowerA s.data.toList).toArray⟩ := ⟨_, rfl⟩
      have hd : ∀ w, Calls Tryz.prog 41 #[.string s] w fun e w' => e = .returned (.string lo) ∧ Below w.heap.size w w' := fun w => by rw [hlo]; exact dnLower_c s hs w
      have hlo2 : lo.data.toList = Lib.toLowerA s.data.toList := by rw [hlo]
      have H0 := Lib.hid (And.intro hr0 hb0)
      clear hr0 hb0 hlo
      go_loopw [60] (fun i wq => ∃ m : Nat, m ≤ 7 ∧ i = .int .i64 m ∧ wq.heap[w.heap.size]? = some (.cells wordsRow 9 (0, 0)) ∧ Below w.heap.size w wq ∧ ∀ x ∈ kwWords.take m, lo.data.toList ≠ x) (fun i _ => 7 - (RowKit.intOf i).toNat)
      case atStart => exact ⟨0, by omega, rfl, H0.out.1, H0.out.2, fun x hx => by simp at hx⟩
      case round =>
        obtain ⟨m, hm, rfl, hrow, hb, hne⟩ := hrel
        have HN := Lib.hid hne
        clear hne
        by_cases hlt : m < 7
        · obtain ⟨x, hx1, hx2⟩ := word_at m hlt
          have q := (blk_cell hrow m).trans hx1
          have hg := lt_of_block hrow
          have hm2 : (m : Int) < 7 := by omega
          go_wp2_with fail
          refine (hd _).mono ?_
          rintro e w2 ⟨rfl, hb2⟩
          have hrow2 := (hb2.block _ hg).trans hrow
          have hb3 := hb.trans (hb2.mono hb.size)
          have hg3 : w.heap.size < w2.heap.size := Nat.lt_of_lt_of_le hg hb2.size
          have HX := Lib.hid hx2
          clear hb2 hb hrow q hx1 hd hx2
          by_cases hx : lo.toList = x.toList
          · have ex : (lo.toList == x.toList) = true := beq_iff_eq.2 hx
            clear hx
            go_wp2
            go_ret
            exact ⟨⟨false, rfl, fun h => by cases h⟩, hb3⟩
          · have ex : (lo.toList == x.toList) = false := beq_eq_false_iff_ne.2 hx
            have hnn : ∀ y ∈ kwWords.take (m + 1), lo.data.toList ≠ y := by
              intro y hy
              rw [List.take_add_one, HX.out] at hy
              rcases List.mem_append.1 hy with hy | hy
              · exact HN.out y hy
              · simp only [Option.toList_some, List.mem_singleton] at hy
                rw [hy]
                intro he
                exact hx (by rw [Lib.toList_data, Lib.toList_data]; exact he)
            have HNN := Lib.hid hnn
            clear hx hnn
            go_wp2
            go_roundw
            case rel => exact ⟨m + 1, by omega, by go_num, hrow2, hb3, HNN.out⟩
            case measure => simp [RowKit.intOf]; omega
        · have hm7 : m = 7 := by omega
          subst hm7
          have hall : ∀ x ∈ kwWords, Lib.toLowerA s.data.toList ≠ x := by
            rw [← hlo2]
            exact HN.out
          have HALL := Lib.hid hall
          clear hall hrow hd HN hlo2
          by_cases h0 : s.size = 0
          · have es : s.toList.isEmpty = true := by rw [Lib.toList_data, List.isEmpty_iff, ← List.length_eq_zero_iff, data_length]; exact h0
            clear h0
            go_wp2
            go_ret
            exact ⟨⟨false, rfl, fun h => by cases h⟩, hb⟩
          · have es : s.toList.isEmpty = false := toList_some (by omega)
            have hpos : 0 < s.size := by omega
            clear h0
            go_wp2
            go_ret
            exact ⟨⟨true, rfl, fun _ => ⟨hpos, HA.out, HALL.out⟩⟩, hb⟩
theorem Bare.good {s : ByteArray} (h : Bare s) (hs : s.size ≤ 1000) : GoodKey s where
  pos := h.pos
  size := hs
  good := fun i hi => by
    rcases h.bytes i hi with h | h
    · unfold letB at h
      unfold goodB
      omega
    · exact h.2
  kw := beq_eq_false_iff_ne.2 (h.kw _ (by decide))
end Go.Cf

/-
  Texts that are no configuration: a key alone.
-/
namespace Go.Cf
open Go.RowKit Go.Conc Go.Proofs
section
variable {k sfx : ByteArray} {K : PK}
theorem GoodKey.no125 (g : GoodKey k) : (k.toList == [125]) = false := by
  rw [Lib.toList_data, beq_eq_false_iff_ne]
  intro e
  have h := g.good 0 g.pos
  have : byteAt k 0 = 125 := by unfold byteAt; rw [e]; rfl
  rw [this] at h
  unfold goodB at h
  omega
theorem rf_0 (g : GoodKey k) : Refused (k ++ ⟨#[]⟩) := by
  have hz := ks_size (k := k) (sfx := ⟨#[]⟩)
  have hn : (⟨#[]⟩ : ByteArray).size = 0 := rfl
  rw [hn] at hz
  have hg := g.size
  have e1 := ld_key_eof (s := k ++ ⟨#[]⟩) (p := k.size) (st := 0) (stk := [94]) (by omega) (by omega)
  rw [ks_ext] at e1
  have E1 := (lead_key (sfx := ⟨#[]⟩) g).emits e1
  have E2 := ld_ke_eof (s := k ++ ⟨#[]⟩) (p := k.size) (st := k.size) (stk := [94]) (by omega) (by omega)
  refine refused_of (by omega) (ks_asc g (fun j hj => by rw [hn] at hj; omega)) (fun K => ?_)
  intro L prev hL
  obtain ⟨n, L', x, R, hq, h1, h2, h3, h4⟩ := E1 L hL
  obtain ⟨m, its, hk, hi⟩ := itm_key_any (K := K) x h1
  refine .step ((stf_SI K 0 [] [.map []] []).nx _ _ _ _ _ R hq) ((stf_SI K 0 [] [.map []] []).stab _) (by rw [h1]; decide) (hi _) ?_
  obtain ⟨n2, L2, y, R2, hq2, k1, k2, k3, k4⟩ := E2 _ h4
  exact .eof ((stf_SI K m its [.map []] [x.val]).nx _ _ _ _ _ R2 hq2) ((stf_SI K m its [.map []] [x.val]).stab _) k1 h1 (by rw [h2]; exact g.no125)
end
end Go.Cf

/-
  A whole number that is too great.
-/
namespace Go.Cf
open Go.RowKit Go.Conc Go.Proofs
def mRange : ByteArray := ⟨#[118, 97, 108, 117, 101, 32, 111, 117, 116, 32, 111, 102, 32, 114, 97, 110, 103, 101]⟩
set_option maxRecDepth 100000 in
set_option maxHeartbeats 1000000 in
theorem parseInt_over (s : ByteArray) (hs : 0 < s.size) (hd : isDigits s) (hlo : 9223372036854775808 ≤ numOf s.data.toList) (hn : numOf s.data.toList < 18446744073709551616) (hsm : s.size ≤ 1000000) (w : World) :
    Calls Tryz.prog 99 #[.string s, i64 10, i64 64] w fun e w' => (∃ v : Int, e = .returned (.tuple #[.int .i64 v, .iface 125 (.string mRange)])) ∧ Below w.heap.size w w' := by
  have HU := parseUint_c s hs hd (by omega) hsm w
  have h0 := hd 0 hs
  rw [← byteAt_get s 0 hs] at h0
  have h1 := h0.1
  have h2 := h0.2
  have e1 : (((s[0]'hs).toNat : Int) == 45) = false := beq_eq_false_iff_ne.2 (by omega)
  have e2 : (((s[0]'hs).toNat : Int) == 43) = false := beq_eq_false_iff_ne.2 (by omega)
  have hne := nonempty_list s hs
  obtain ⟨n, hnn⟩ : ∃ n, n = numOf s.data.toList := ⟨_, rfl⟩
  rw [← hnn] at hn hlo HU
  have HH := Lib.hid hd
  have b1 : ((n : Int) < 9223372036854775808) = False := eq_false (by omega)
  have b2 : (9223372036854775808 : Int) ≤ (n : Int) := by omega
  clear hd hnn hlo
  go_enter Tryz.func99, Tryz.ntmps99
  go_wp2_with fail
  refine HU.mono ?_
  rintro e w1 ⟨rfl, hb⟩
  clear HU
  go_wp2
  go_ret2
  exact ⟨⟨_, rfl⟩, hb⟩
set_option maxRecDepth 100000 in
theorem ParseInt_over (s : ByteArray) (hs : 0 < s.size) (hd : isDigits s) (hlo : 9223372036854775808 ≤ numOf s.data.toList) (hn : numOf s.data.toList < 18446744073709551616) (hsm : s.size ≤ 1000000) (w : World) :
    Calls Tryz.prog 68 #[.string s, i64 10, i64 64] w fun e w' => (∃ (v : Int) (g : Nat) (c0 c1 : Value), e = .returned (.tuple #[.int .i64 v, .iface 121 (.pointer (some ⟨g, 0, none⟩))]) ∧ w'.heap[g]? = some (.cells #[c0, c1, .iface 125 (.string mRange)] 124)) ∧ Below w.heap.size w w' := by
  have HU := parseInt_over s hs hd hlo hn hsm w
  clear hn hd hlo
  go_enter Tryz.func68, Tryz.ntmps68
  go_wp2_with fail
  refine HU.mono ?_
  rintro e w1 ⟨⟨v, rfl⟩, hb⟩
  clear HU
  have HB := Lib.hid hb
  clear hb
  go_wp2
  go_ret2
  exact ⟨⟨_, _, _, _, rfl, heap_alloc_new w1 _⟩, HB.out.alloc HB.out.size _⟩
theorem ta_121 (u : Value) (w : World) : (Instr.typeAssert (.iface 121 u) 63 121 true).run Tryz.prog w = .ok (.tuple #[u, .bool true]) w := by kernel_rfl
theorem eq_range (w : World) : (binOp .eql 63 (.iface 125 (.string mRange)) (.iface 125 (.string { data := #[118, 97, 108, 117, 101, 32, 111, 117, 116, 32, 111, 102, 32, 114, 97, 110, 103, 101] }))).run Tryz.prog w = .ok (.bool true) w := by kernel_rfl
attribute [local go_sem ↓] ta_121 eq_range
section
variable {K : PK} {X : PX} {lab : Lab} {w : World}
set_option maxRecDepth 100000 in
set_option maxHeartbeats 4000000 in
theorem item_int_over (h : PAt 0 lab w K X) (xv : ByteArray) (xl xp : Int) (hsz : xv.size ≤ 1000000) (hs0 : 0 < xv.size) (hdd : isDigits xv) (hlo : 9223372036854775808 ≤ numOf xv.data.toList) (hhi : numOf xv.data.toList < 18446744073709551616) :
    Calls Tryz.prog 57 #[.pointer (some ⟨K.p, 0, none⟩), .agg #[i64 7, .string xv, i64 xl, i64 xp], .string { data := #[] }] w fun e w' => (∃ t v, e = .returned (.iface t v)) ∧ ∃ lab', Mv PM6 w lab w' lab' := by
  have hpi := fun w => ParseInt_over xv hs0 hdd hlo hhi hsz w
  have hdig : ∀ i, i < xv.size → isDig (byteAt xv i) = true := fun i hi => dig_true (hdd i hi)
  have hasc : ∀ i, i < xv.size → byteAt xv i < 128 := fun i hi => by have := hdd i hi; omega
  clear hdd hlo hhi
  obtain ⟨lab1, hb, m1⟩ := h.boxed (Nat.zero_le _) 7 xv xl xp
  have HD := Lib.hid hdig
  have HA := Lib.hid hasc
  clear hdig hasc
  go_enter Tryz.func57, Tryz.ntmps57
  go_wp2_with fail
  have hWs : (Boxed w K 7 xv xl xp).heap.size = w.heap.size + 1 + 1 + 1 := by unfold Boxed; simp [World.size_alloc]
  have HW := Lib.hid hWs
  clear hWs
  go_loopw [9] (fun i wr => ∃ k : Nat, k ≤ xv.size ∧ i = .int .i64 k ∧ wr = (Boxed w K 7 xv xl xp).iter xv k) (fun i _ => xv.size - (RowKit.intOf i).toNat)
  case atStart => exact ⟨0, Nat.zero_le _, rfl, rfl⟩
  case round =>
    obtain ⟨k, hk, rfl, rfl⟩ := hrel
    by_cases hlt : k < xv.size
    · have hk2 := hlt
      have hnx : ∀ ty, (Instr.next (.pointer (some ⟨w.heap.size + 1 + 1 + 1, 0, none⟩)) true ty).run Tryz.prog ((Boxed w K 7 xv xl xp).iter xv k) = .ok (.tuple #[.bool true, .int .i64 k, .int .i32 (byteAt xv k : Nat)]) ((Boxed w K 7 xv xl xp).iter xv (k + 1)) := fun ty => by
        have := run_next_ascii (P := Tryz.prog) (Boxed w K 7 xv xl xp) xv k ty hk2 (by rw [byteAt_get]; exact HA.out k hk2)
        rwa [HW.out, byteAt_get] at this
      have hc := HA.out k hk2
      have e1 := HD.out k hlt
      go_wp2_with fail
      refine (isDig_c _ hc _).mono ?_
      rintro e w' ⟨rfl, rfl⟩
      go_wp2
      go_roundw
      case rel => exact ⟨k + 1, by omega, by go_num, rfl⟩
      case measure => simp [RowKit.intOf]; omega
    · have hks : k = xv.size := by omega
      have hnx : ∀ ty, (Instr.next (.pointer (some ⟨w.heap.size + 1 + 1 + 1, 0, none⟩)) true ty).run Tryz.prog ((Boxed w K 7 xv xl xp).iter xv k) = .ok (.tuple #[.bool false]) ((Boxed w K 7 xv xl xp).iter xv k) := fun ty => by
        have := run_next_end (P := Tryz.prog) (Boxed w K 7 xv xl xp) xv k ty hlt
        rwa [HW.out] at this
      have hfull : xv.extract 0 k = xv := by rw [hks]; exact ByteArray.extract_zero_size
      have hemp : xv.extract k xv.size = ⟨#[]⟩ := by rw [hks]; exact ByteArray.extract_eq_empty_iff.2 (by omega)
      have HKS := Lib.hid hks
      have HFU := Lib.hid hfull
      have HEM := Lib.hid hemp
      clear hks hfull hemp
      have m2 := (iter_mv (Boxed w K 7 xv xl xp) lab1 xv k)
      have hb2 := hb.mv (hb.pat.mv m2 (fun _ _ h => h)) (m2.mono (fun _ h => h.elim))
      have m2' := m1.trans m2 (fun _ h => h.elim)
      obtain ⟨W, hW⟩ : ∃ W, W = (Boxed w K 7 xv xl xp).iter xv k := ⟨_, rfl⟩
      rw [← hW] at hb2 m2 m2' hnx ⊢
      have d1 := hb2.b1.cell 1
      clear hW hb
      have hfl : xv.extract 0 k = xv := HFU.out
      go_wp2_with fail
      clear hfl
      refine (hpi W).mono ?_
      rintro e w3 ⟨⟨v, g, c0, c1, rfl, hg⟩, hbl⟩
      have m3 := Mv.below (M := fun _ => False) hbl (lab1.ext (Boxed w K 7 xv xl xp).heap.size 7) 7
      have m3' := m2'.trans m3 (fun _ h => h.elim)
      have q2 : w3.cell? ⟨g, 2, none⟩ = some (.iface 125 (.string mRange)) := blk_cell hg 2
      have HM := Lib.hid m3'
      clear hbl m3 hb2 hpi m2' m2 m1 m3'
      go_wp2_with fail
      refine (new_c _ _).mono ?_
      rintro e w5 ⟨⟨t, v, rfl⟩, hb5⟩
      have HB5 := Lib.hid hb5
      clear hb5
      go_wp2
      go_ret
      exact ⟨⟨_, _, rfl⟩, _, (HM.out.mono (M' := PM6) (fun x h => ⟨h.1, h.2.2⟩)).trans (Mv.below (M := fun _ => False) HB5.out _ 33) (fun _ (h : False) => h.elim)⟩
end
end Go.Cf

/-
  A key, and a number that is too great.
-/
namespace Go.Cf
open Go.RowKit Go.Conc Go.Proofs
section
variable {k : ByteArray}
def tx9 : ByteArray := ⟨#[32, 61, 32, 57, 50, 50, 51, 51, 55, 50, 48, 51, 54, 56, 53, 52, 55, 55, 53, 56, 48, 56]⟩
theorem rf_9 (g : GoodKey k) : Refused (k ++ ⟨#[32, 61, 32, 57, 50, 50, 51, 51, 55, 50, 48, 51, 54, 56, 53, 52, 55, 55, 53, 56, 48, 56]⟩) := by
  have hz := ks_size (k := k) (sfx := tx9)
  have hn : tx9.size = 22 := rfl
  rw [hn] at hz
  have hg := g.size
  have hdig : ∀ q, q < 19 → 48 ≤ byteAt (k ++ tx9) (k.size + 3 + q) ∧ byteAt (k ++ tx9) (k.size + 3 + q) ≤ 57 := by
    intro q hq
    rw [Nat.add_assoc, ks_at]
    exact (show ∀ q, q < 19 → 48 ≤ byteAt tx9 (3 + q) ∧ byteAt tx9 (3 + q) ≤ 57 by decide) q hq
  have le := lead_eq (k := k) (sfx := tx9) (by decide) rfl rfl rfl
  obtain ⟨s, hs⟩ : ∃ s, s = k ++ tx9 := ⟨_, rfl⟩
  rw [← hs] at hz le hdig
  have d0 := hdig 0 (by decide)
  rw [Nat.add_zero] at d0
  have l1 : Leads s (k.size + 3) (k.size + 3) [94] (plainT 174) (k.size + 3) (k.size + 3) [94] (plainT 186) := ld_val_dig (by omega) (by simp [isWS]; omega) (dig_true d0) d0
  have l2 : Leads s (k.size + 3) (k.size + 3) [94] (plainT 186) (k.size + 3 + 1) (k.size + 3) [94] (plainT 199) := ld_num_start (by omega) (dig_true d0)
  have l3 := leads_digits (s := s) (p := k.size + 3 + 1) (st := k.size + 3) (stk := [94]) 18 (by omega) (fun i hi => by have h := hdig (i + 1) (by omega); rw [show k.size + 3 + (i + 1) = k.size + 3 + 1 + i from by omega] at h; exact h)
  have e1 := ld_num_eof (s := s) (p := k.size + 3 + 1 + 18) (st := k.size + 3) (stk := [94]) (by omega) (by omega) [] 94 rfl (by simp)
  have E1 := (le.trans ((l1.trans l2).trans l3)).emits e1
  have hx1 : s.extract (k.size + 3) (k.size + 3 + 1 + 18) = ⟨#[57, 50, 50, 51, 51, 55, 50, 48, 51, 54, 56, 53, 52, 55, 55, 53, 56, 48, 56]⟩ := by
    rw [hs, show k.size + 3 + 1 + 18 = k.size + 22 from by omega, ks_extr]
    decide
  rw [hx1] at E1
  rw [hs] at E1
  have hasc : ∀ j, j < tx9.size → byteAt tx9 j < 128 := by
    exact (show ∀ j, j < 22 → byteAt tx9 j < 128 by decide)
  show Refused (k ++ tx9)
  refine refused_of (by rw [← hs]; omega) (ks_asc g hasc) (fun K => ?_)
  refine bad_step (stf_SI K 0 [] _ _) (emit_key g (by decide) rfl) (by decide) (fun x h1 h2 => ?_)
  obtain ⟨n, its, hk, hi⟩ := itm_key_any (K := K) x h1
  refine ⟨_, hi, bad_fail (stf_SI K n its _ _) E1 (by decide) (fun L y h3 h4 => ?_)⟩
  obtain ⟨yt, yv, yl, yp⟩ := y
  obtain rfl : yt = 7 := h3
  have h4' : yv = ⟨#[57, 50, 50, 51, 51, 55, 50, 48, 51, 54, 56, 53, 52, 55, 55, 53, 56, 48, 56]⟩ := h4
  rintro lab w ⟨iv, p1, p2, p3⟩
  refine item_int_over (K := { K with iv := iv }) p1 yv yl yp (by rw [h4']; decide) (by rw [h4']; decide) ?_ (by rw [h4']; decide) (by rw [h4']; decide)
  rw [h4']
  exact (show ∀ i, i < 19 → 48 ≤ byteAt ⟨#[57, 50, 50, 51, 51, 55, 50, 48, 51, 54, 56, 53, 52, 55, 55, 53, 56, 48, 56]⟩ i ∧ byteAt ⟨#[57, 50, 50, 51, 51, 55, 50, 48, 51, 54, 56, 53, 52, 55, 55, 53, 56, 48, 56]⟩ i ≤ 57 by decide)
end
end Go.Cf

/-
  The lexer in a text within round brackets: the closing bracket on the same line does not close it.
-/
namespace Go.Cf
open Go.RowKit Go.Conc Go.Proofs
section
variable {L : LX} {s k : ByteArray} {p st : Nat} {stk : List Nat}
theorem pk_w1 (hp : L.pos < L.inp.size) : L.pk.width = 1 := by
  unfold LX.pk
  rw [if_neg (by omega)]
  split <;> rfl
theorem blk_end (ok : L.Ok) (hc : L.chr = 41) (hp : L.pos < L.inp.size) (h1 : 1 ≤ L.pos) (hq : L.pk.back.chr ≠ 10) : Goes1 185 L L.pk.back.nxt.nxt (plainT 185) := by
  have e_41 : (((L.chr : Nat) : Int) == 41) = true := beq_iff_eq.2 (by omega)
  have hw := pk_w1 hp
  have hpp : L.pk.pos = L.pos := pk_pos L
  have ok3 : L.pk.back.Ok := ok.pk.back (.inl ⟨hw, by rw [hpp]; exact h1⟩)
  have e_10 : (((L.pk.back.chr : Nat) : Int) == 10) = false := beq_eq_false_iff_ne.2 (by omega)
  have hw2 : L.pk.width ≤ L.pk.pos := by rw [hw, hpp]; exact h1
  clear hc hq hw hpp
  intro base S0 w0 w b h0
  go_enter Tryz.func185, Tryz.ntmps185
  go_wp2_with fail
  refine (next_c h0 ok).mono ?_
  rintro e w1 ⟨rfl, h1⟩
  go_wp2_with fail
  refine (back_c h1 ok.nxt (nxt_width _)).mono ?_
  rintro e w2 ⟨rfl, h2⟩
  rw [nxt_back] at h2
  go_wp2_with fail
  refine (back_c h2 ok.pk hw2).mono ?_
  rintro e w3 ⟨rfl, h3⟩
  go_wp2_with fail
  refine (next_c h3 ok3).mono ?_
  rintro e w4 ⟨rfl, h4⟩
  go_wp2_with fail
  refine (next_c h4 ok3.nxt).mono ?_
  rintro e w5 ⟨rfl, h5⟩
  go_wp2_with fail
  go_ret
  exact ⟨_, rfl, h5.plain _⟩
theorem LX.Is0.pkBack (h : L.Is0 s p st stk) (hp : p < s.size) (h1 : 1 ≤ p) : L.pk.back.Is0 s (p - 1) st stk := by
  have hw : L.pk.width = 1 := pk_w1 (by rw [h.inp, h.pos]; exact hp)
  have k := h.pk
  refine ⟨h.ok.pk.back (.inl ⟨hw, by rw [k.pos]; exact h1⟩), k.inp, ?_, k.start, k.stack, k.parts, k.q⟩
  show L.pk.pos - L.pk.width = _
  rw [hw, k.pos]
theorem ld_blk_end (hp : p < s.size) (h1 : 1 ≤ p) (e : byteAt s p = 41) (e2 : byteAt s (p - 1) ≠ 10) : Leads s p st stk (plainT 185) (p + 1) st stk (plainT 185) := by
  rintro L ⟨h, hs⟩
  have hc := h.chr hp
  have hb := h.pkBack hp h1
  have hc2 := hb.chr (by omega)
  have k := ((hb.nxt (by omega)).nxt (by omega))
  rw [show p - 1 + 1 + 1 = p + 1 from by omega] at k
  exact ⟨1, _, run1 hs enters185 h.q (blk_end h.ok (by rw [hc]; exact e) (by rw [h.inp, h.pos]; exact hp) (by rw [h.pos]; exact h1) (by rw [hc2]; exact e2)), k.goes _⟩
def tx2 : ByteArray := ⟨#[32, 61, 32, 40, 111, 110, 101, 32, 108, 105, 110, 101, 41]⟩
theorem rf_2 (g : GoodKey k) : Refused (k ++ ⟨#[32, 61, 32, 40, 111, 110, 101, 32, 108, 105, 110, 101, 41]⟩) := by
  have hz := ks_size (k := k) (sfx := tx2)
  have hn : tx2.size = 13 := rfl
  rw [hn] at hz
  have hg := g.size
  have c3 : byteAt (k ++ tx2) (k.size + 3) = 40 := ks_at 3
  have c12 : byteAt (k ++ tx2) (k.size + 12) = 41 := ks_at 12
  have c11 : byteAt (k ++ tx2) (k.size + 12 - 1) ≠ 10 := by
    rw [show k.size + 12 - 1 = k.size + 11 from by omega, ks_at]
    decide
  have hch : ∀ q, q < 8 → byteAt (k ++ tx2) (k.size + 4 + q) ≠ 41 ∧ byteAt (k ++ tx2) (k.size + 4 + q) ≠ 0 := by
    intro q hq
    rw [Nat.add_assoc, ks_at]
    exact (show ∀ q, q < 8 → byteAt tx2 (4 + q) ≠ 41 ∧ byteAt tx2 (4 + q) ≠ 0 by decide) q hq
  have le := lead_eq (k := k) (sfx := tx2) (by decide) rfl rfl rfl
  have hasc : ∀ j, j < tx2.size → byteAt tx2 j < 128 := (show ∀ j, j < 13 → byteAt tx2 j < 128 by decide)
  obtain ⟨s, hs⟩ : ∃ s, s = k ++ tx2 := ⟨_, rfl⟩
  rw [← hs] at hz le c3 c12 c11 hch
  have l1 : Leads s (k.size + 3) (k.size + 3) [94] (plainT 174) (k.size + 4) (k.size + 4) [94] (plainT 185) := ld_val_blk (by omega) c3
  have l2 : ∀ m, m ≤ 8 → Leads s (k.size + 4) (k.size + 4) [94] (plainT 185) (k.size + 4 + m) (k.size + 4) [94] (plainT 185) := by
    intro m
    induction m with
    | zero => intro _; exact Leads.refl
    | succ m ih => intro hm; exact (ih (by omega)).trans (ld_blk_ch (by omega) (hch m (by omega)).1 (hch m (by omega)).2)
  have l3 := l2 8 (by decide)
  rw [show k.size + 4 + 8 = k.size + 12 from by omega] at l3
  have l4 : Leads s (k.size + 12) (k.size + 4) [94] (plainT 185) (k.size + 12 + 1) (k.size + 4) [94] (plainT 185) := ld_blk_end (by omega) (by omega) c12 c11
  have E2 : ErrE s k.size k.size [94] (plainT 163) := ErrE.lead (((le.trans l1).trans l3).trans l4) (er_blk (by omega) (by omega))
  rw [hs] at E2
  show Refused (k ++ tx2)
  exact refused_1 g (by decide) hasc (by decide) rfl E2
end
end Go.Cf

/-
  The lexer's part of a string before an escape: addCurrentStringPart.
-/
namespace Go.Cf
open Go.RowKit Go.Conc Go.Proofs
section
variable {base : Nat} {S0 : Nat → Prop} {w0 w : World} {b : Nat} {L : LX}
/-- 'append', shut: the walk takes its run from a hypothesis. -/
@[irreducible] def AppX (ts : Array TypeId) (ty : TypeId) (args : Array Value) : Sem Value := Builtin.append_ ts ty args
theorem appX_eq (ts : Array TypeId) (ty : TypeId) (args : Array Value) : Builtin.append_ ts ty args = AppX ts ty args := by unfold AppX; rfl
attribute [local go_sem ↓] appX_eq
theorem grown_ne8 {S : Nat → Prop} {tv sv pv : Value} {w1 : World} (h : LexAt base S w b L tv sv pv) (hg : w.grownBy w1 pv.ownBlock) : w1.heap[b]? = w.heap[b]? :=
  hg.block b (lt_of_block h.blk) (fun e => own_ne_blk h.parts h.blk (by decide) e.symm)
/-- The row of parts was appended to. -/
theorem LexAt.parted {S : Nat → Prop} {tv sv pv pv' : Value} {w1 : World} {x : ByteArray} (h : LexAt base S w b L tv sv pv) (hg : w.grownBy w1 pv.ownBlock) (hown : w1.ownsRow base 9 1 pv' (L.parts.length + 1) (L.parts.map Value.string ++ [.string x]))
    (hat : pv'.ownBlock = pv.ownBlock ∨ ∃ k, pv'.ownBlock = some k ∧ w.heap.size ≤ k) :
    LexAt base (fun k => S k ∨ (w.heap.size ≤ k ∧ k < w1.heap.size)) (w1.setCell ⟨b, 8, none⟩ pv') b { L with parts := L.parts ++ [x] } tv sv pv' where
  blk := by
    have h1 : w1.heap[b]? = some (.cells (L.cells tv sv pv) 109 (0, 0)) := (grown_ne8 h hg).trans h.blk
    rw [blk_setCell h1]; rfl
  chan := by
    rw [Below.heap_setCell _ _ _ _ h.ne_chan]
    refine (hg.block L.ch (lt_of_block h.chan) ?_).trans h.chan
    intro e
    obtain ⟨_, ⟨h0, _⟩ | ⟨g, cap, cur, hv, _, hblk, _⟩⟩ := h.parts
    · rw [h0] at e; cases e
    · rw [hv] at e
      simp only [Value.ownBlock, Option.some.injEq] at e
      subst e
      rw [h.chan] at hblk
      cases hblk
  parts := by
    have h1 : w1.heap[b]? = some (.cells (L.cells tv sv pv) 109 (0, 0)) := (grown_ne8 h hg).trans h.blk
    have h2 := ownsRow_setCell_other hown (a := ⟨b, 8, none⟩) (own_ne_blk hown h1 (by decide)) pv'
    simpa using h2
  stack := by
    have hne : ∀ k, sv.ownBlock = some k → some k ≠ pv.ownBlock := by
      intro k hk e
      obtain ⟨_, ⟨h0, _⟩ | ⟨g, cap, cur, hv, _, hblk, _⟩⟩ := h.parts
      · rw [h0] at e; cases e
      · rw [hv] at e
        simp only [Value.ownBlock, Option.some.injEq] at e
        subst e
        exact own_ne_blk h.stack hblk (by decide) hk
    have hp1 := ownsRow_kept h.stack hg hne
    have h1 : w1.heap[b]? = some (.cells (L.cells tv sv pv) 109 (0, 0)) := (grown_ne8 h hg).trans h.blk
    exact ownsRow_setCell_other hp1 (a := ⟨b, 8, none⟩) (own_ne_blk hp1 h1 (by decide)) pv'
  st := by
    have h1 : w1.heap[b]? = some (.cells (L.cells tv sv pv) 109 (0, 0)) := (grown_ne8 h hg).trans h.blk
    refine RepV.far ?_ h1 8 pv'
    match ht : L.state, h.st with
    | none, h => exact h
    | some (false, n), h => exact h
    | some (true, m), ⟨g, hv, hgb, hs⟩ =>
      refine ⟨g, hv, (hg.block g (lt_of_block hgb) ?_).trans hgb, .inl hs⟩
      intro e
      exact own_ne_blk h.parts hgb (by decide) e.symm
  hb := .inl h.hb
  hch := .inl h.hch
  hpv := by
    intro k hk
    rcases hat with h1 | ⟨k', h1, h2⟩
    · exact .inl (h.hpv k (by rw [← h1]; exact hk))
    · rw [hk] at h1; cases h1
      refine .inr ⟨h2, ?_⟩
      obtain ⟨_, ⟨h0, _⟩ | ⟨g, cap, cur, hv, _, hblk, _⟩⟩ := hown
      · rw [h0] at hk; cases hk
      · rw [hv] at hk; simp only [Value.ownBlock, Option.some.injEq] at hk; subst hk; exact lt_of_block hblk
  hsv := fun k hk => .inl (h.hsv k hk)
  base := h.base
  stv := h.stv
set_option maxRecDepth 100000 in
set_option maxHeartbeats 2000000 in
/-- addCurrentStringPart: the text from 'start' to the place before 'pos' is a part; 'start' is 'pos'. -/
theorem addPart_c (h : At base S0 w0 w b L) (ok : L.Ok) (hs : L.start + 1 ≤ L.pos) (hl : L.parts.length ≤ 1000000) :
    Calls Tryz.prog 195 #[.pointer (some ⟨b, 0, none⟩), i64 1] w fun e w' => e = .returned (.tuple #[]) ∧ At base S0 w0 w' b { L with parts := L.parts ++ [L.inp.extract L.start (L.pos - 1)], start := L.pos } := by
  obtain ⟨S, tv, sv, pv, h1, h2, h3⟩ := h.drew
  have hsm := ok.small
  have hpp := ok.pos
  have c8 : w.cell? ⟨b, 8, none⟩ = some pv := h1.c8
  have c0 : w.cell? ⟨b, 0, none⟩ = some (.string L.inp) := h1.c0
  have c1 : w.cell? ⟨b, 1, none⟩ = some (i64 L.start) := h1.c1
  have c2 : w.cell? ⟨b, 2, none⟩ = some (i64 L.pos) := h1.c2
  have f8 := h1.free 8
  have hbl : b < w.heap.size := lt_of_block h1.blk
  have hown := h1.parts
  have hbase := h1.base
  have hbs := own_ne_blk h1.parts h1.blk (by decide)
  have hb0 : base ≤ w.heap.size := by omega
  have hlen : (L.parts.length + 1) * 16 ≤ 140737488355328 := by omega
  have hmx : L.parts.length + 1 ≤ maxLen := by simp only [maxLen]; omega
  have hwr : IntKind.i64.wrap ((L.pos : Int) - 1) = ((L.pos - 1 : Nat) : Int) := by
    rw [show (L.pos : Int) - 1 = ((L.pos - 1 : Nat) : Int) from by omega]
    exact Lib.wrap_i64_small _ (by omega)
  have hq1 : L.start ≤ L.pos - 1 := by omega
  have hq2 : L.pos ≤ L.inp.size + 1 := by omega
  have hownd : w.drew.ownsRow base 9 1 pv L.parts.length (L.parts.map Value.string) := hown
  obtain ⟨i0, hi0, hz0, hz1, hz2⟩ := info_parts info9
  obtain ⟨gg, cap2, w2, hrun, hown2, hg2, hat2, hlt2⟩ := run_append_lies (P := Tryz.prog) (w.alloc (.cells #[.string (L.inp.extract L.start (L.pos - 1))] 9)).drew 23 23 base 9 i0 _ 1 16 Tryz.underlying23 hi0 hz0 hz1 hz2 rfl (by omega) pv L.parts.length (L.parts.map Value.string) (hownd.alloc _)
              ⟨w.heap.size, 0, none⟩ 1 1 [.string (L.inp.extract L.start (L.pos - 1))] (by rfl) (World.news_of_block (cs := #[.string (L.inp.extract L.start (L.pos - 1))]) (t := 9) (fr := (0, 0)) (heap_alloc_new w (.cells #[.string (L.inp.extract L.start (L.pos - 1))] 9))) (by simp; rfl)
              (by omega) hmx hlen (by show base ≤ (w.alloc _).heap.size; rw [World.size_alloc]; omega) (w.heap.size + 1) (by show (w.alloc _).heap.size = _; rw [World.size_alloc])
  rw [appX_eq] at hrun
  have hg3 := World.grownBy.trans (World.grownBy_alloc w.drew (.cells #[.string (L.inp.extract L.start (L.pos - 1))] 9) pv.ownBlock) hg2
  have hbk := (grown_ne8 h1 hg3).trans h1.blk
  have r8 : w2.cell? ⟨b, 8, none⟩ = some pv := blk_cell hbk 8
  have t8 := blk_free hbk 8
  have HS := Lib.hid (And.intro hown2 (And.intro hg3 hat2))
  have hat3 : (Value.slice (some ⟨gg, 0, none⟩) (L.parts.length + 1) cap2).ownBlock = pv.ownBlock ∨ ∃ k, (Value.slice (some ⟨gg, 0, none⟩) (L.parts.length + 1) cap2).ownBlock = some k ∧ w.drew.heap.size ≤ k := by
    rcases hat2 with e | e
    · exact .inl e.symm
    · exact .inr ⟨gg, rfl, by show w.heap.size ≤ _; omega⟩
  have K := h1.parted hg3 hown2 hat3
  have KF : Fr S0 w0 (w2.setCell ⟨b, 8, none⟩ (Value.slice (some ⟨gg, 0, none⟩) (L.parts.length + 1) cap2)) := by
    refine (h2.grown hg3 ?_).setCell ?_ _
    · intro k hk
      rcases h3 k (h1.hpv k hk) with h | h
      · exact .inl h
      · exact .inr h.1
    · rcases h3 b h1.hb with h | h
      · exact .inl h
      · exact .inr h.1
  have KS : ∀ k, (S k ∨ (w.drew.heap.size ≤ k ∧ k < w2.heap.size)) → S0 k ∨ (w0.heap.size ≤ k ∧ k < (w2.setCell ⟨b, 8, none⟩ (Value.slice (some ⟨gg, 0, none⟩) (L.parts.length + 1) cap2)).heap.size) := by
    intro k hk
    have := hg3.size
    have := h2.size
    rw [World.size_setCell]
    rcases hk with hk | hk
    · rcases h3 k hk with h | h
      · exact .inl h
      · exact .inr ⟨h.1, by omega⟩
    · exact .inr ⟨by omega, hk.2⟩
  have KK := At.grow K KF KS
  have HK := Lib.hid KK
  clear hbk hg3 hg2 hat2 hat3 hown2 hlt2 hownd hown hbs h1 h2 h3 hz0 hz1 hz2 hi0 h K KF KS KK
  go_enter Tryz.func195, Tryz.ntmps195
  go_wp2_with fail
  go_region
  have h4 := HK.out
  clear HK r8 t8 hrun c8 c0 c1 c2 f8
  generalize w2.setCell _ _ = w4 at *
  have c2 := h4.c2
  have c1 := h4.c1
  have f1 := h4.free 1
  have h5 := fun n => (h4.drewN n).set (L' := { L with parts := L.parts ++ [L.inp.extract L.start (L.pos - 1)], start := L.pos }) 1 (i64 L.pos) (fun _ _ _ => rfl) rfl rfl rfl rfl rfl rfl rfl
  go_wp2
  go_end0
  exact ⟨rfl, h5 0⟩
end
end Go.Cf

/-
  The lexer at an escape that there is not.
-/
namespace Go.Cf
open Go.RowKit Go.Conc Go.Proofs
def LX.part (L : LX) : LX := { L with parts := L.parts ++ [L.inp.extract L.start (L.pos - 1)], start := L.pos }
theorem LX.Ok.part {L : LX} (ok : L.Ok) : L.part.Ok := ⟨ok.small, ok.pos, ok.pos, ok.width, ok.lstart, ok.ilstart, ok.line, ok.asc⟩
section
variable {L : LX} {s k : ByteArray} {p st : Nat} {stk : List Nat}
theorem dq_esc (ok : L.Ok) (hc : L.chr = 92) (hs : L.nxt.start + 1 ≤ L.nxt.pos) (hl : L.nxt.parts.length ≤ 1000000) : Goes1 183 L L.nxt.part (plainT 196) := by
  have e_92 : (((L.chr : Nat) : Int) == 92) = true := beq_iff_eq.2 (by omega)
  have HS := Lib.hid hs
  clear hc hs
  intro base S0 w0 w b h0
  go_enter Tryz.func183, Tryz.ntmps183
  go_wp2_with fail
  refine (next_c h0 ok).mono ?_
  rintro e w1 ⟨rfl, h1⟩
  go_wp2_with fail
  refine (addPart_c h1 ok.nxt HS.out hl).mono ?_
  rintro e w2 ⟨rfl, h2⟩
  go_wp2_with fail
  go_ret
  exact ⟨_, rfl, At.plain (L := L.nxt.part) h2 _⟩
theorem enters196 : Enters 196 := fun args w => by kernel_rfl
theorem er_dq_esc (hp : p + 1 < s.size) (hst : st ≤ p) (e : byteAt s p = 92) (h1 : byteAt s (p + 1) ≠ 120) (h2 : byteAt s (p + 1) ≠ 116) (h3 : byteAt s (p + 1) ≠ 110) (h4 : byteAt s (p + 1) ≠ 114) (h5 : byteAt s (p + 1) ≠ 34) (h6 : byteAt s (p + 1) ≠ 92) : ErrE s p st stk (plainT 183) := by
  rintro L ⟨h, hs⟩
  have hc := h.chr (by omega)
  have hn := h.nxt (show p < s.size by omega)
  have hc2 : L.nxt.chr = byteAt s (p + 1) := hn.chr hp
  have hc3 : (L.nxt.part.goes (plainT 196)).chr = byteAt s (p + 1) := hc2
  have hq : (L.nxt.part.goes (plainT 196)).q = [] := hn.q
  have r1 := run1 hs enters183 h.q (dq_esc h.ok (by rw [hc]; exact e) (by rw [hn.start, hn.pos]; omega) (by rw [hn.parts]; exact Nat.zero_le _))
  have r2 := run1 (L := L.nxt.part.goes (plainT 196)) rfl enters196 hq (esc_err (hn.ok.part.goes _) (by rw [hq]; decide) (by rw [hc3]; exact h1) (by rw [hc3]; exact h2) (by rw [hc3]; exact h3) (by rw [hc3]; exact h4) (by rw [hc3]; exact h5) (by rw [hc3]; exact h6))
  have hq2 : ((L.nxt.part.goes (plainT 196)).nxt).q = [] := by rw [nxt_q, hq]
  exact ⟨_, _, _, [], r1.trans r2, (by show ((L.nxt.part.goes (plainT 196)).nxt).q ++ [_] = _; rw [hq2]; rfl), rfl⟩
def tx5 : ByteArray := ⟨#[32, 61, 32, 34, 120, 92, 113, 34]⟩
theorem rf_5 (g : GoodKey k) : Refused (k ++ ⟨#[32, 61, 32, 34, 120, 92, 113, 34]⟩) := by
  have hz := ks_size (k := k) (sfx := tx5)
  have hn : tx5.size = 8 := rfl
  rw [hn] at hz
  have c3 : byteAt (k ++ tx5) (k.size + 3) = 34 := ks_at 3
  have c4 : byteAt (k ++ tx5) (k.size + 4) = 120 := ks_at 4
  have c5 : byteAt (k ++ tx5) (k.size + 5) = 92 := ks_at 5
  have c6 : byteAt (k ++ tx5) (k.size + 5 + 1) = 113 := ks_at 6
  have le := lead_eq (k := k) (sfx := tx5) (by decide) rfl rfl rfl
  have hasc : ∀ j, j < tx5.size → byteAt tx5 j < 128 := (show ∀ j, j < 8 → byteAt tx5 j < 128 by decide)
  obtain ⟨s, hs⟩ : ∃ s, s = k ++ tx5 := ⟨_, rfl⟩
  rw [← hs] at hz le c3 c4 c5 c6
  have l1 : Leads s (k.size + 3) (k.size + 3) [94] (plainT 174) (k.size + 4) (k.size + 4) [94] (plainT 183) := ld_val_dq (by omega) c3
  have l2 : Leads s (k.size + 4) (k.size + 4) [94] (plainT 183) (k.size + 5) (k.size + 4) [94] (plainT 183) := ld_dq_ch (by omega) (by rw [c4]; decide) (by rw [c4]; decide) (by rw [c4]; decide)
  have E2 : ErrE s k.size k.size [94] (plainT 163) := ErrE.lead (le.trans (l1.trans l2)) (er_dq_esc (by omega) (by omega) c5 (by rw [c6]; decide) (by rw [c6]; decide) (by rw [c6]; decide) (by rw [c6]; decide) (by rw [c6]; decide) (by rw [c6]; decide))
  rw [hs] at E2
  show Refused (k ++ tx5)
  exact refused_1 g (by decide) hasc (by decide) rfl E2
end
end Go.Cf

/-
  A function that defers a builtin ('defer delete(m, k)'): it runs when the function returns.
-/
namespace Go.Cf
open Go.RowKit Go.Conc Go.Proofs
section
variable {P : Program}
theorem step_defer_b {fr : Frame} {cs : List Frame} {w w' : World} {d : Deferred} {ds : List Deferred} {b : Builtin} {ats : Array TypeId} {ty : TypeId} {kk : Array Bool} {v : Value} (hm : fr.mode = .returning) (hd : fr.defers = d :: ds)
    (ht : d.target = .builtin b ats ty kk) (hi : (invoke d.target d.args).run P w = .ok (.value v) w') : step P (lone fr cs w) = .next (lone { fr with defers := ds } cs w') := by
  obtain ⟨t, a⟩ := d
  simp only at ht hi
  subst ht
  refine step_lone_go ?_
  simp [stepG, unwind, callDeferred, hm, hd, hi]
/-- The deferred builtins run, then the results are read. -/
def LeavesB (P : Program) (fn : Func) (tmps : Array Value) (R : Ending → World → Prop) : List Deferred → World → Prop
  | [], w => ∃ v, (results fn tmps).run P w = .ok v w ∧ R (.returned v) w
  | d :: ds, w => ∃ b ats ty kk v w', d.target = .builtin b ats ty kk ∧ (invoke d.target d.args).run P w = .ok (.value v) w' ∧ LeavesB P fn tmps R ds w'
theorem leavesB_steps {fn : Func} {tmps : Array Value} {R : Ending → World → Prop} : ∀ (ds : List Deferred) (w : World) (fr : Frame) (cs : List Frame), fr.mode = .returning → fr.defers = ds → fr.tmps = tmps → P.funcs[fr.fn]? = some fn → fr.kind = .normal →
    LeavesB P fn tmps R ds w → ∃ e w' fr', R e w' ∧ Comes P (lone fr cs w) (lone fr' cs w') e ∧ fr'.fn = fr.fn ∧ fr'.leaving P w' e := by
  intro ds
  induction ds with
  | nil =>
    intro w fr cs hu hd ht hf hk h
    obtain ⟨v, hr, hR⟩ := h
    exact ⟨.returned v, w, fr, hR, Steps.refl P _, rfl, hu, hd, hk, fn, hf, ht ▸ hr⟩
  | cons d ds ih =>
    intro w fr cs hu hd ht hf hk h
    obtain ⟨b, ats, ty, kk, v, w1, htar, hinv, hrest⟩ := h
    have h1 := step_defer_b (cs := cs) hu hd htar hinv
    obtain ⟨e', w'', fr', hR', hs', hfn', hl'⟩ := ih w1 { fr with defers := ds } cs hu rfl ht hf hk hrest
    exact ⟨e', w'', fr', hR', Comes.of_steps (.one h1) hs', hfn', hl'⟩
def bodyPostB (P : Program) (fn : Func) (R : Ending → World → Prop) : Exit → Act → World → Prop
  | .normal, a, w | .ret, a, w => LeavesB P fn a.tmps R a.defers w
  | .outgrown, _, w => R .outgrown w
  | _, _, _ => False
theorem calls_of_wp_b {f : FuncId} {fn : Func} {c : Code} {args : Array Value} {w : World} {R : Ending → World → Prop} (hf : P.funcs[f]? = some fn) (hb : fn.body = some c)
    (h : c.wp P (bodyPostB P fn R) { tmps := args ++ Array.replicate (fn.ntmps - args.size) undef, defers := [] } w) : Calls P f args w R := by
  intro cs
  let b : Frame := { (default : Frame) with fn := f, kind := .normal }
  have henter : Frame.enter P f args .normal = b.at { tmps := args ++ Array.replicate (fn.ntmps - args.size) undef, defers := [] } [.code c] := by
    simp [Frame.enter, Frame.at, hf, hb, b]
  obtain ⟨e, a', w', hq, harr⟩ := h b [] cs
  rw [← henter] at harr
  cases e with
  | normal =>
    obtain ⟨e', w'', fr', hR, hs, hfn, hl⟩ := leavesB_steps a'.defers w' { b.at a' [] with mode := .returning } cs rfl rfl rfl hf rfl hq
    exact ⟨e', w'', fr', hR, Comes.of_steps (Steps.trans harr (.one step_end)) hs, hfn, hl⟩
  | ret =>
    obtain ⟨todo, hs₀⟩ := harr
    obtain ⟨e', w'', fr', hR, hs, hfn, hl⟩ := leavesB_steps a'.defers w' { b.at a' todo with mode := .returning } cs rfl rfl rfl hf rfl hq
    exact ⟨e', w'', fr', hR, Comes.of_steps hs₀ hs, hfn, hl⟩
  | panic chain => exact hq.elim
  | exit id => exact hq.elim
  | goto l => exact hq.elim
  | outgrown => exact ⟨.outgrown, w', b, hq, harr.resolve_left (by simp [b]), rfl, trivial⟩
/-- The door: one deferred 'delete' of a map that the call knows. -/
theorem bodyPostB_delete {fn : Func} {R : Ending → World → Prop} {t : Array Value} {tt : TypeId} {ty : TypeId} {kk : Array Bool} {m key v : Value} {w w' : World} (hrun : (Builtin.delete_ #[tt, 9] ty #[m, key]).run P w = .ok (.tuple #[]) w')
    (hres : (results fn t).run P w' = .ok v w') (hR : R (.returned v) w') : bodyPostB P fn R .ret { tmps := t, defers := [{ target := .builtin .delete #[tt, 9] ty kk, args := #[m, key] }] } w := by
  refine ⟨_, _, _, _, .tuple #[], w', rfl, ?_, v, hres, hR⟩
  simp only [invoke, builtin, Sem.run_bind, hrun, Result.andThen_ok, Sem.run_pure]
end
end Go.Cf
