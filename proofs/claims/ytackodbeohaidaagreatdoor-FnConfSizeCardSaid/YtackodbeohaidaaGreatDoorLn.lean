/-
  'a = <number>' newline: what it feeds.
-/
import Derived.Test.YtackodbeohaidaaGreatDoorWk
namespace Go.Cf
open Go.RowKit Go.Conc Go.Proofs
section
variable {s : ByteArray} {p st : Nat} {stk : List Nat}
/-- Digits, one after another. -/
theorem leads_digits (n : Nat) (hn : p + n ≤ s.size) (hd : ∀ i, i < n → 48 ≤ byteAt s (p + i) ∧ byteAt s (p + i) ≤ 57) : Leads s p st stk (plainT 199) (p + n) st stk (plainT 199) := by
  induction n with
  | zero => exact Leads.refl
  | succ n ih =>
    have h := hd n (by omega)
    have h1 := ih (by omega) (fun i hi => hd i (by omega))
    exact h1.trans (by have h2 := ld_num_dig (s := s) (p := p + n) (st := st) (stk := stk) (by omega) (dig_true h) (by omega); exact h2)
/-- The text 'a = ' and the digits dg, behind them tl, behind that a newline. -/
def eqText (dg tl : ByteArray) : ByteArray := (⟨#[97, 32, 61, 32]⟩ : ByteArray) ++ dg ++ tl ++ ⟨#[10]⟩
theorem Feeds.pre {K : PK} {n : Nat} {L L1 : LX} {cx : List CJ} {ks : List ByteArray} {prev : It} {X' : PX} (r : Run n L L1) (h : Feeds K ⟨L1, cx, ks⟩ prev X') : Feeds K ⟨L, cx, ks⟩ prev X' := by
  cases h with
  | eof R hx ht hp => exact .eof (X := ⟨L, cx, ks⟩) (r.trans R) hx ht hp
  | step R hx ht hw h => exact .step (X := ⟨L, cx, ks⟩) (r.trans R) hx ht hw h
theorem Fd.lead {K : PK} {p1 st1 : Nat} {stk1 : List Nat} {t t1 : Tag} {cx fin : List CJ} {ks : List ByteArray} {pt : Nat} (h : Leads s p st stk t p1 st1 stk1 t1) (k : Fd K s p1 st1 stk1 t1 cx ks pt fin) : Fd K s p st stk t cx ks pt fin := by
  intro L prev hL hp
  obtain ⟨n, L1, r, h1⟩ := h L hL
  obtain ⟨X', hF, hc⟩ := k L1 prev h1 hp
  exact ⟨X', hF.pre r, hc⟩
/-- 'a = ' up to the value's first digit. -/
theorem fd_a {K : PK} {cx fin : List CJ} {ks : List ByteArray} {pt : Nat} (hK : K.ped = false) (hl : ks.length ≤ 1000000) (hs : 4 < s.size) (b0 : byteAt s 0 = 97) (b1 : byteAt s 1 = 32) (b2 : byteAt s 2 = 61) (b3 : byteAt s 3 = 32) (b4 : 48 ≤ byteAt s 4 ∧ byteAt s 4 ≤ 57) (hk : s.extract 0 1 = ⟨#[97]⟩)
    (rest : Fd K s 5 4 [94] (plainT 199) cx (ks ++ [⟨#[97]⟩]) 3 fin) : Fd K s 0 0 [] (plainT 60) cx ks pt fin := by
  have l1 : Leads s 0 0 [] (plainT 60) 0 0 [94] (plainT 95) := ld_top_key (by omega) (by simp) (by rw [b0]; rfl) (by omega) (by omega) (by omega) (by omega)
  have l2 : Leads s 0 0 [94] (plainT 95) 1 0 [94] (plainT 139) := ld_ks_key (by omega) (by rw [b0]; rfl) (by rw [b0]; rfl) (by omega) (by omega)
  have e1 : Emits s 1 0 [94] (plainT 139) 3 (s.extract 0 1) (1 + (nlc s 1 : Nat)) 1 1 [94] (plainT 163) := ld_key_sp (by omega) (by omega) (by rw [b1]; rfl) (by rw [hk]; rfl)
  have l3 : Leads s 1 1 [94] (plainT 163) 2 1 [94] (skipT 163) := ld_ke_sp (by omega) (by rw [b1]; rfl)
  have l4 : Leads s 2 2 [94] (plainT 163) 3 2 [94] (skipT 174) := ld_ke_sep (by omega) (by rw [b2]; rfl) (by rw [b2]; rfl)
  have l5 : Leads s 3 3 [94] (plainT 174) 4 3 [94] (skipT 174) := ld_val_ws (by omega) (by rw [b3]; rfl)
  have l6 : Leads s 4 4 [94] (plainT 174) 4 4 [94] (plainT 186) := ld_val_dig hs (by simp [isWS]; omega) (dig_true b4) b4
  have l7 : Leads s 4 4 [94] (plainT 186) 5 4 [94] (plainT 199) := ld_num_start hs (dig_true b4)
  refine Fd.lead (l1.trans l2) (Fd.step (cx1 := cx) (ks1 := ks ++ [⟨#[97]⟩]) e1 (by decide) (fun L x h1 h2 _ => ?_) (Fd.lead ((((((l3.trans (ld_skip 163)).trans l4).trans (ld_skip 174)).trans l5).trans (ld_skip 174)).trans (l6.trans l7)) rest))
  have := works_key (cx := cx) (ks := ks) hK L x h1 hl
  rwa [h2, hk] at this
/-- Behind the value: a newline, and the end. -/
theorem fd_end {K : PK} {cx : List CJ} {ks : List ByteArray} {pt : Nat} (hs : p + 1 = s.size) (b : byteAt s p = 10) (hpt : pt ≠ 3) : Fd K s p p [] (plainT 94) cx ks pt cx :=
  Fd.lead (ld_tve_nl (by omega) b) (Fd.eof (ld_top_eof (by omega) rfl) hpt)
/-- A whole number without a size, to the end. -/
theorem fd_plain {K : PK} {cx cx1 : List CJ} {ks ks1 : List ByteArray} (hK : K.ped = false) (d : Nat) (hd0 : 0 < d) (hs : 4 + d + 1 = s.size) (hdig : ∀ i, i < d → 48 ≤ byteAt s (4 + i) ∧ byteAt s (4 + i) ≤ 57) (bl : byteAt s (4 + d) = 10)
    (dg : ByteArray) (hdg : s.extract 4 (4 + d) = dg) (hdd : isDigits dg) (hn : numOf dg.data.toList < 9223372036854775808) (hsz : dg.size ≤ 900000) (hd1 : 0 < dg.size)
    (hw : ∀ L, (⟨L, cx, ks⟩ : PX).Sets (.int (numOf dg.data.toList : Nat)) ⟨L, cx1, ks1⟩) : Fd K s 5 4 [94] (plainT 199) cx ks 3 cx1 := by
  have l1 : Leads s 5 4 [94] (plainT 199) (4 + d) 4 [94] (plainT 199) := by
    have := leads_digits (s := s) (p := 5) (st := 4) (stk := [94]) (d - 1) (by omega) (fun i hi => by have h := hdig (i + 1) (by omega); rw [show 4 + (i + 1) = 5 + i from by omega] at h; exact h)
    rwa [show 5 + (d - 1) = 4 + d from by omega] at this
  have e1 := ld_num_nl (s := s) (p := 4 + d) (st := 4) (stk := [94]) (by omega) (by omega) bl [] 94 rfl (by simp)
  refine Fd.lead l1 (Fd.step (cx1 := cx1) (ks1 := ks1) e1 (by decide) (fun L x h1 h2 _ => ?_) (fd_end (by omega) bl (by decide)))
  rw [hdg] at h2
  subst h2
  exact works_int hK L x h1 hd1 hdd hn hsz (hw L)
/-- A whole number with a size, to the end. -/
theorem fd_k {K : PK} {cx cx1 : List CJ} {ks ks1 : List ByteArray} (hK : K.ped = false) (d : Nat) (hd0 : 0 < d) (hs : 4 + d + 1 + 1 = s.size) (hdig : ∀ i, i < d → 48 ≤ byteAt s (4 + i) ∧ byteAt s (4 + i) ≤ 57) (q0 : byteAt s (4 + d + 0) = 107) (bl : byteAt s (4 + d + 1) = 10)
    (dg : ByteArray) (hdg : s.extract 4 (4 + d + 1) = dg ++ ⟨#[107]⟩) (hdd : isDigits dg) (hn : ((numOf dg.data.toList : Nat) : Int) * 1000 ≤ 4611686018427387904) (hsz : dg.size ≤ 900000) (hd1 : 0 < dg.size)
    (hw : ∀ L, (⟨L, cx, ks⟩ : PX).Sets (.int (((numOf dg.data.toList : Nat) : Int) * 1000)) ⟨L, cx1, ks1⟩) : Fd K s 5 4 [94] (plainT 199) cx ks 3 cx1 := by
  have l1 : Leads s 5 4 [94] (plainT 199) (4 + d) 4 [94] (plainT 199) := by
    have := leads_digits (s := s) (p := 5) (st := 4) (stk := [94]) (d - 1) (by omega) (fun i hi => by have h := hdig (i + 1) (by omega); rw [show 4 + (i + 1) = 5 + i from by omega] at h; exact h)
    rwa [show 5 + (d - 1) = 4 + d from by omega] at this
  have m0 : Leads s (4 + d + 0) 4 [94] (plainT 199) (4 + d + 0 + 1) 4 [94] (plainT 212) := ld_num_suf (by omega) (by rw [q0]; rfl) (by rw [q0]; rfl) (by omega) (by omega)
  have e1 := ld_suf_nl (s := s) (p := 4 + d + 1) (st := 4) (stk := [94]) (by omega) (by omega) bl [] 94 rfl (by simp)
  refine Fd.lead (l1.trans (m0)) (Fd.step (cx1 := cx1) (ks1 := ks1) e1 (by decide) (fun L x h1 h2 _ => ?_) (fd_end (by omega) bl (by decide)))
  exact works_k dg hK L x h1 (h2.trans hdg) hd1 hdd hn hsz (hw L)
theorem fd_kb {K : PK} {cx cx1 : List CJ} {ks ks1 : List ByteArray} (hK : K.ped = false) (d : Nat) (hd0 : 0 < d) (hs : 4 + d + 2 + 1 = s.size) (hdig : ∀ i, i < d → 48 ≤ byteAt s (4 + i) ∧ byteAt s (4 + i) ≤ 57) (q0 : byteAt s (4 + d + 0) = 107) (q1 : byteAt s (4 + d + 1) = 98) (bl : byteAt s (4 + d + 2) = 10)
    (dg : ByteArray) (hdg : s.extract 4 (4 + d + 2) = dg ++ ⟨#[107, 98]⟩) (hdd : isDigits dg) (hn : ((numOf dg.data.toList : Nat) : Int) * 1024 ≤ 4611686018427387904) (hsz : dg.size ≤ 900000) (hd1 : 0 < dg.size)
    (hw : ∀ L, (⟨L, cx, ks⟩ : PX).Sets (.int (((numOf dg.data.toList : Nat) : Int) * 1024)) ⟨L, cx1, ks1⟩) : Fd K s 5 4 [94] (plainT 199) cx ks 3 cx1 := by
  have l1 : Leads s 5 4 [94] (plainT 199) (4 + d) 4 [94] (plainT 199) := by
    have := leads_digits (s := s) (p := 5) (st := 4) (stk := [94]) (d - 1) (by omega) (fun i hi => by have h := hdig (i + 1) (by omega); rw [show 4 + (i + 1) = 5 + i from by omega] at h; exact h)
    rwa [show 5 + (d - 1) = 4 + d from by omega] at this
  have m0 : Leads s (4 + d + 0) 4 [94] (plainT 199) (4 + d + 0 + 1) 4 [94] (plainT 212) := ld_num_suf (by omega) (by rw [q0]; rfl) (by rw [q0]; rfl) (by omega) (by omega)
  have m1 : Leads s (4 + d + 1) 4 [94] (plainT 212) (4 + d + 1 + 1) 4 [94] (plainT 212) := ld_suf_b (by omega) q1
  have e1 := ld_suf_nl (s := s) (p := 4 + d + 2) (st := 4) (stk := [94]) (by omega) (by omega) bl [] 94 rfl (by simp)
  refine Fd.lead (l1.trans ((m0).trans m1)) (Fd.step (cx1 := cx1) (ks1 := ks1) e1 (by decide) (fun L x h1 h2 _ => ?_) (fd_end (by omega) bl (by decide)))
  exact works_kb dg hK L x h1 (h2.trans hdg) hd1 hdd hn hsz (hw L)
theorem fd_kib {K : PK} {cx cx1 : List CJ} {ks ks1 : List ByteArray} (hK : K.ped = false) (d : Nat) (hd0 : 0 < d) (hs : 4 + d + 3 + 1 = s.size) (hdig : ∀ i, i < d → 48 ≤ byteAt s (4 + i) ∧ byteAt s (4 + i) ≤ 57) (q0 : byteAt s (4 + d + 0) = 107) (q1 : byteAt s (4 + d + 1) = 105) (q2 : byteAt s (4 + d + 2) = 98) (bl : byteAt s (4 + d + 3) = 10)
    (dg : ByteArray) (hdg : s.extract 4 (4 + d + 3) = dg ++ ⟨#[107, 105, 98]⟩) (hdd : isDigits dg) (hn : ((numOf dg.data.toList : Nat) : Int) * 1024 ≤ 4611686018427387904) (hsz : dg.size ≤ 900000) (hd1 : 0 < dg.size)
    (hw : ∀ L, (⟨L, cx, ks⟩ : PX).Sets (.int (((numOf dg.data.toList : Nat) : Int) * 1024)) ⟨L, cx1, ks1⟩) : Fd K s 5 4 [94] (plainT 199) cx ks 3 cx1 := by
  have l1 : Leads s 5 4 [94] (plainT 199) (4 + d) 4 [94] (plainT 199) := by
    have := leads_digits (s := s) (p := 5) (st := 4) (stk := [94]) (d - 1) (by omega) (fun i hi => by have h := hdig (i + 1) (by omega); rw [show 4 + (i + 1) = 5 + i from by omega] at h; exact h)
    rwa [show 5 + (d - 1) = 4 + d from by omega] at this
  have m0 : Leads s (4 + d + 0) 4 [94] (plainT 199) (4 + d + 0 + 1) 4 [94] (plainT 212) := ld_num_suf (by omega) (by rw [q0]; rfl) (by rw [q0]; rfl) (by omega) (by omega)
  have m1 : Leads s (4 + d + 1) 4 [94] (plainT 212) (4 + d + 1 + 1) 4 [94] (plainT 212) := ld_suf_i (by omega) q1
  have m2 : Leads s (4 + d + 2) 4 [94] (plainT 212) (4 + d + 2 + 1) 4 [94] (plainT 212) := ld_suf_b (by omega) q2
  have e1 := ld_suf_nl (s := s) (p := 4 + d + 3) (st := 4) (stk := [94]) (by omega) (by omega) bl [] 94 rfl (by simp)
  refine Fd.lead (l1.trans (((m0).trans m1).trans m2)) (Fd.step (cx1 := cx1) (ks1 := ks1) e1 (by decide) (fun L x h1 h2 _ => ?_) (fd_end (by omega) bl (by decide)))
  exact works_kib dg hK L x h1 (h2.trans hdg) hd1 hdd hn hsz (hw L)
theorem fd_ki {K : PK} {cx cx1 : List CJ} {ks ks1 : List ByteArray} (hK : K.ped = false) (d : Nat) (hd0 : 0 < d) (hs : 4 + d + 2 + 1 = s.size) (hdig : ∀ i, i < d → 48 ≤ byteAt s (4 + i) ∧ byteAt s (4 + i) ≤ 57) (q0 : byteAt s (4 + d + 0) = 107) (q1 : byteAt s (4 + d + 1) = 105) (bl : byteAt s (4 + d + 2) = 10)
    (dg : ByteArray) (hdg : s.extract 4 (4 + d + 2) = dg ++ ⟨#[107, 105]⟩) (hdd : isDigits dg) (hn : ((numOf dg.data.toList : Nat) : Int) * 1024 ≤ 4611686018427387904) (hsz : dg.size ≤ 900000) (hd1 : 0 < dg.size)
    (hw : ∀ L, (⟨L, cx, ks⟩ : PX).Sets (.int (((numOf dg.data.toList : Nat) : Int) * 1024)) ⟨L, cx1, ks1⟩) : Fd K s 5 4 [94] (plainT 199) cx ks 3 cx1 := by
  have l1 : Leads s 5 4 [94] (plainT 199) (4 + d) 4 [94] (plainT 199) := by
    have := leads_digits (s := s) (p := 5) (st := 4) (stk := [94]) (d - 1) (by omega) (fun i hi => by have h := hdig (i + 1) (by omega); rw [show 4 + (i + 1) = 5 + i from by omega] at h; exact h)
    rwa [show 5 + (d - 1) = 4 + d from by omega] at this
  have m0 : Leads s (4 + d + 0) 4 [94] (plainT 199) (4 + d + 0 + 1) 4 [94] (plainT 212) := ld_num_suf (by omega) (by rw [q0]; rfl) (by rw [q0]; rfl) (by omega) (by omega)
  have m1 : Leads s (4 + d + 1) 4 [94] (plainT 212) (4 + d + 1 + 1) 4 [94] (plainT 212) := ld_suf_i (by omega) q1
  have e1 := ld_suf_nl (s := s) (p := 4 + d + 2) (st := 4) (stk := [94]) (by omega) (by omega) bl [] 94 rfl (by simp)
  refine Fd.lead (l1.trans ((m0).trans m1)) (Fd.step (cx1 := cx1) (ks1 := ks1) e1 (by decide) (fun L x h1 h2 _ => ?_) (fd_end (by omega) bl (by decide)))
  exact works_ki dg hK L x h1 (h2.trans hdg) hd1 hdd hn hsz (hw L)
theorem fd_m {K : PK} {cx cx1 : List CJ} {ks ks1 : List ByteArray} (hK : K.ped = false) (d : Nat) (hd0 : 0 < d) (hs : 4 + d + 1 + 1 = s.size) (hdig : ∀ i, i < d → 48 ≤ byteAt s (4 + i) ∧ byteAt s (4 + i) ≤ 57) (q0 : byteAt s (4 + d + 0) = 109) (bl : byteAt s (4 + d + 1) = 10)
    (dg : ByteArray) (hdg : s.extract 4 (4 + d + 1) = dg ++ ⟨#[109]⟩) (hdd : isDigits dg) (hn : ((numOf dg.data.toList : Nat) : Int) * 1000 * 1000 ≤ 4611686018427387904) (hsz : dg.size ≤ 900000) (hd1 : 0 < dg.size)
    (hw : ∀ L, (⟨L, cx, ks⟩ : PX).Sets (.int (((numOf dg.data.toList : Nat) : Int) * 1000 * 1000)) ⟨L, cx1, ks1⟩) : Fd K s 5 4 [94] (plainT 199) cx ks 3 cx1 := by
  have l1 : Leads s 5 4 [94] (plainT 199) (4 + d) 4 [94] (plainT 199) := by
    have := leads_digits (s := s) (p := 5) (st := 4) (stk := [94]) (d - 1) (by omega) (fun i hi => by have h := hdig (i + 1) (by omega); rw [show 4 + (i + 1) = 5 + i from by omega] at h; exact h)
    rwa [show 5 + (d - 1) = 4 + d from by omega] at this
  have m0 : Leads s (4 + d + 0) 4 [94] (plainT 199) (4 + d + 0 + 1) 4 [94] (plainT 212) := ld_num_suf (by omega) (by rw [q0]; rfl) (by rw [q0]; rfl) (by omega) (by omega)
  have e1 := ld_suf_nl (s := s) (p := 4 + d + 1) (st := 4) (stk := [94]) (by omega) (by omega) bl [] 94 rfl (by simp)
  refine Fd.lead (l1.trans (m0)) (Fd.step (cx1 := cx1) (ks1 := ks1) e1 (by decide) (fun L x h1 h2 _ => ?_) (fd_end (by omega) bl (by decide)))
  exact works_m dg hK L x h1 (h2.trans hdg) hd1 hdd hn hsz (hw L)
theorem fd_mb {K : PK} {cx cx1 : List CJ} {ks ks1 : List ByteArray} (hK : K.ped = false) (d : Nat) (hd0 : 0 < d) (hs : 4 + d + 2 + 1 = s.size) (hdig : ∀ i, i < d → 48 ≤ byteAt s (4 + i) ∧ byteAt s (4 + i) ≤ 57) (q0 : byteAt s (4 + d + 0) = 109) (q1 : byteAt s (4 + d + 1) = 98) (bl : byteAt s (4 + d + 2) = 10)
    (dg : ByteArray) (hdg : s.extract 4 (4 + d + 2) = dg ++ ⟨#[109, 98]⟩) (hdd : isDigits dg) (hn : ((numOf dg.data.toList : Nat) : Int) * 1024 * 1024 ≤ 4611686018427387904) (hsz : dg.size ≤ 900000) (hd1 : 0 < dg.size)
    (hw : ∀ L, (⟨L, cx, ks⟩ : PX).Sets (.int (((numOf dg.data.toList : Nat) : Int) * 1024 * 1024)) ⟨L, cx1, ks1⟩) : Fd K s 5 4 [94] (plainT 199) cx ks 3 cx1 := by
  have l1 : Leads s 5 4 [94] (plainT 199) (4 + d) 4 [94] (plainT 199) := by
    have := leads_digits (s := s) (p := 5) (st := 4) (stk := [94]) (d - 1) (by omega) (fun i hi => by have h := hdig (i + 1) (by omega); rw [show 4 + (i + 1) = 5 + i from by omega] at h; exact h)
    rwa [show 5 + (d - 1) = 4 + d from by omega] at this
  have m0 : Leads s (4 + d + 0) 4 [94] (plainT 199) (4 + d + 0 + 1) 4 [94] (plainT 212) := ld_num_suf (by omega) (by rw [q0]; rfl) (by rw [q0]; rfl) (by omega) (by omega)
  have m1 : Leads s (4 + d + 1) 4 [94] (plainT 212) (4 + d + 1 + 1) 4 [94] (plainT 212) := ld_suf_b (by omega) q1
  have e1 := ld_suf_nl (s := s) (p := 4 + d + 2) (st := 4) (stk := [94]) (by omega) (by omega) bl [] 94 rfl (by simp)
  refine Fd.lead (l1.trans ((m0).trans m1)) (Fd.step (cx1 := cx1) (ks1 := ks1) e1 (by decide) (fun L x h1 h2 _ => ?_) (fd_end (by omega) bl (by decide)))
  exact works_mb dg hK L x h1 (h2.trans hdg) hd1 hdd hn hsz (hw L)
theorem fd_mib {K : PK} {cx cx1 : List CJ} {ks ks1 : List ByteArray} (hK : K.ped = false) (d : Nat) (hd0 : 0 < d) (hs : 4 + d + 3 + 1 = s.size) (hdig : ∀ i, i < d → 48 ≤ byteAt s (4 + i) ∧ byteAt s (4 + i) ≤ 57) (q0 : byteAt s (4 + d + 0) = 109) (q1 : byteAt s (4 + d + 1) = 105) (q2 : byteAt s (4 + d + 2) = 98) (bl : byteAt s (4 + d + 3) = 10)
    (dg : ByteArray) (hdg : s.extract 4 (4 + d + 3) = dg ++ ⟨#[109, 105, 98]⟩) (hdd : isDigits dg) (hn : ((numOf dg.data.toList : Nat) : Int) * 1024 * 1024 ≤ 4611686018427387904) (hsz : dg.size ≤ 900000) (hd1 : 0 < dg.size)
    (hw : ∀ L, (⟨L, cx, ks⟩ : PX).Sets (.int (((numOf dg.data.toList : Nat) : Int) * 1024 * 1024)) ⟨L, cx1, ks1⟩) : Fd K s 5 4 [94] (plainT 199) cx ks 3 cx1 := by
  have l1 : Leads s 5 4 [94] (plainT 199) (4 + d) 4 [94] (plainT 199) := by
    have := leads_digits (s := s) (p := 5) (st := 4) (stk := [94]) (d - 1) (by omega) (fun i hi => by have h := hdig (i + 1) (by omega); rw [show 4 + (i + 1) = 5 + i from by omega] at h; exact h)
    rwa [show 5 + (d - 1) = 4 + d from by omega] at this
  have m0 : Leads s (4 + d + 0) 4 [94] (plainT 199) (4 + d + 0 + 1) 4 [94] (plainT 212) := ld_num_suf (by omega) (by rw [q0]; rfl) (by rw [q0]; rfl) (by omega) (by omega)
  have m1 : Leads s (4 + d + 1) 4 [94] (plainT 212) (4 + d + 1 + 1) 4 [94] (plainT 212) := ld_suf_i (by omega) q1
  have m2 : Leads s (4 + d + 2) 4 [94] (plainT 212) (4 + d + 2 + 1) 4 [94] (plainT 212) := ld_suf_b (by omega) q2
  have e1 := ld_suf_nl (s := s) (p := 4 + d + 3) (st := 4) (stk := [94]) (by omega) (by omega) bl [] 94 rfl (by simp)
  refine Fd.lead (l1.trans (((m0).trans m1).trans m2)) (Fd.step (cx1 := cx1) (ks1 := ks1) e1 (by decide) (fun L x h1 h2 _ => ?_) (fd_end (by omega) bl (by decide)))
  exact works_mib dg hK L x h1 (h2.trans hdg) hd1 hdd hn hsz (hw L)
theorem fd_mi {K : PK} {cx cx1 : List CJ} {ks ks1 : List ByteArray} (hK : K.ped = false) (d : Nat) (hd0 : 0 < d) (hs : 4 + d + 2 + 1 = s.size) (hdig : ∀ i, i < d → 48 ≤ byteAt s (4 + i) ∧ byteAt s (4 + i) ≤ 57) (q0 : byteAt s (4 + d + 0) = 109) (q1 : byteAt s (4 + d + 1) = 105) (bl : byteAt s (4 + d + 2) = 10)
    (dg : ByteArray) (hdg : s.extract 4 (4 + d + 2) = dg ++ ⟨#[109, 105]⟩) (hdd : isDigits dg) (hn : ((numOf dg.data.toList : Nat) : Int) * 1024 * 1024 ≤ 4611686018427387904) (hsz : dg.size ≤ 900000) (hd1 : 0 < dg.size)
    (hw : ∀ L, (⟨L, cx, ks⟩ : PX).Sets (.int (((numOf dg.data.toList : Nat) : Int) * 1024 * 1024)) ⟨L, cx1, ks1⟩) : Fd K s 5 4 [94] (plainT 199) cx ks 3 cx1 := by
  have l1 : Leads s 5 4 [94] (plainT 199) (4 + d) 4 [94] (plainT 199) := by
    have := leads_digits (s := s) (p := 5) (st := 4) (stk := [94]) (d - 1) (by omega) (fun i hi => by have h := hdig (i + 1) (by omega); rw [show 4 + (i + 1) = 5 + i from by omega] at h; exact h)
    rwa [show 5 + (d - 1) = 4 + d from by omega] at this
  have m0 : Leads s (4 + d + 0) 4 [94] (plainT 199) (4 + d + 0 + 1) 4 [94] (plainT 212) := ld_num_suf (by omega) (by rw [q0]; rfl) (by rw [q0]; rfl) (by omega) (by omega)
  have m1 : Leads s (4 + d + 1) 4 [94] (plainT 212) (4 + d + 1 + 1) 4 [94] (plainT 212) := ld_suf_i (by omega) q1
  have e1 := ld_suf_nl (s := s) (p := 4 + d + 2) (st := 4) (stk := [94]) (by omega) (by omega) bl [] 94 rfl (by simp)
  refine Fd.lead (l1.trans ((m0).trans m1)) (Fd.step (cx1 := cx1) (ks1 := ks1) e1 (by decide) (fun L x h1 h2 _ => ?_) (fd_end (by omega) bl (by decide)))
  exact works_mi dg hK L x h1 (h2.trans hdg) hd1 hdd hn hsz (hw L)
theorem fd_g {K : PK} {cx cx1 : List CJ} {ks ks1 : List ByteArray} (hK : K.ped = false) (d : Nat) (hd0 : 0 < d) (hs : 4 + d + 1 + 1 = s.size) (hdig : ∀ i, i < d → 48 ≤ byteAt s (4 + i) ∧ byteAt s (4 + i) ≤ 57) (q0 : byteAt s (4 + d + 0) = 103) (bl : byteAt s (4 + d + 1) = 10)
    (dg : ByteArray) (hdg : s.extract 4 (4 + d + 1) = dg ++ ⟨#[103]⟩) (hdd : isDigits dg) (hn : ((numOf dg.data.toList : Nat) : Int) * 1000 * 1000 * 1000 ≤ 4611686018427387904) (hsz : dg.size ≤ 900000) (hd1 : 0 < dg.size)
    (hw : ∀ L, (⟨L, cx, ks⟩ : PX).Sets (.int (((numOf dg.data.toList : Nat) : Int) * 1000 * 1000 * 1000)) ⟨L, cx1, ks1⟩) : Fd K s 5 4 [94] (plainT 199) cx ks 3 cx1 := by
  have l1 : Leads s 5 4 [94] (plainT 199) (4 + d) 4 [94] (plainT 199) := by
    have := leads_digits (s := s) (p := 5) (st := 4) (stk := [94]) (d - 1) (by omega) (fun i hi => by have h := hdig (i + 1) (by omega); rw [show 4 + (i + 1) = 5 + i from by omega] at h; exact h)
    rwa [show 5 + (d - 1) = 4 + d from by omega] at this
  have m0 : Leads s (4 + d + 0) 4 [94] (plainT 199) (4 + d + 0 + 1) 4 [94] (plainT 212) := ld_num_suf (by omega) (by rw [q0]; rfl) (by rw [q0]; rfl) (by omega) (by omega)
  have e1 := ld_suf_nl (s := s) (p := 4 + d + 1) (st := 4) (stk := [94]) (by omega) (by omega) bl [] 94 rfl (by simp)
  refine Fd.lead (l1.trans (m0)) (Fd.step (cx1 := cx1) (ks1 := ks1) e1 (by decide) (fun L x h1 h2 _ => ?_) (fd_end (by omega) bl (by decide)))
  exact works_g dg hK L x h1 (h2.trans hdg) hd1 hdd hn hsz (hw L)
theorem fd_gb {K : PK} {cx cx1 : List CJ} {ks ks1 : List ByteArray} (hK : K.ped = false) (d : Nat) (hd0 : 0 < d) (hs : 4 + d + 2 + 1 = s.size) (hdig : ∀ i, i < d → 48 ≤ byteAt s (4 + i) ∧ byteAt s (4 + i) ≤ 57) (q0 : byteAt s (4 + d + 0) = 103) (q1 : byteAt s (4 + d + 1) = 98) (bl : byteAt s (4 + d + 2) = 10)
    (dg : ByteArray) (hdg : s.extract 4 (4 + d + 2) = dg ++ ⟨#[103, 98]⟩) (hdd : isDigits dg) (hn : ((numOf dg.data.toList : Nat) : Int) * 1024 * 1024 * 1024 ≤ 4611686018427387904) (hsz : dg.size ≤ 900000) (hd1 : 0 < dg.size)
    (hw : ∀ L, (⟨L, cx, ks⟩ : PX).Sets (.int (((numOf dg.data.toList : Nat) : Int) * 1024 * 1024 * 1024)) ⟨L, cx1, ks1⟩) : Fd K s 5 4 [94] (plainT 199) cx ks 3 cx1 := by
  have l1 : Leads s 5 4 [94] (plainT 199) (4 + d) 4 [94] (plainT 199) := by
    have := leads_digits (s := s) (p := 5) (st := 4) (stk := [94]) (d - 1) (by omega) (fun i hi => by have h := hdig (i + 1) (by omega); rw [show 4 + (i + 1) = 5 + i from by omega] at h; exact h)
    rwa [show 5 + (d - 1) = 4 + d from by omega] at this
  have m0 : Leads s (4 + d + 0) 4 [94] (plainT 199) (4 + d + 0 + 1) 4 [94] (plainT 212) := ld_num_suf (by omega) (by rw [q0]; rfl) (by rw [q0]; rfl) (by omega) (by omega)
  have m1 : Leads s (4 + d + 1) 4 [94] (plainT 212) (4 + d + 1 + 1) 4 [94] (plainT 212) := ld_suf_b (by omega) q1
  have e1 := ld_suf_nl (s := s) (p := 4 + d + 2) (st := 4) (stk := [94]) (by omega) (by omega) bl [] 94 rfl (by simp)
  refine Fd.lead (l1.trans ((m0).trans m1)) (Fd.step (cx1 := cx1) (ks1 := ks1) e1 (by decide) (fun L x h1 h2 _ => ?_) (fd_end (by omega) bl (by decide)))
  exact works_gb dg hK L x h1 (h2.trans hdg) hd1 hdd hn hsz (hw L)
theorem fd_gib {K : PK} {cx cx1 : List CJ} {ks ks1 : List ByteArray} (hK : K.ped = false) (d : Nat) (hd0 : 0 < d) (hs : 4 + d + 3 + 1 = s.size) (hdig : ∀ i, i < d → 48 ≤ byteAt s (4 + i) ∧ byteAt s (4 + i) ≤ 57) (q0 : byteAt s (4 + d + 0) = 103) (q1 : byteAt s (4 + d + 1) = 105) (q2 : byteAt s (4 + d + 2) = 98) (bl : byteAt s (4 + d + 3) = 10)
    (dg : ByteArray) (hdg : s.extract 4 (4 + d + 3) = dg ++ ⟨#[103, 105, 98]⟩) (hdd : isDigits dg) (hn : ((numOf dg.data.toList : Nat) : Int) * 1024 * 1024 * 1024 ≤ 4611686018427387904) (hsz : dg.size ≤ 900000) (hd1 : 0 < dg.size)
    (hw : ∀ L, (⟨L, cx, ks⟩ : PX).Sets (.int (((numOf dg.data.toList : Nat) : Int) * 1024 * 1024 * 1024)) ⟨L, cx1, ks1⟩) : Fd K s 5 4 [94] (plainT 199) cx ks 3 cx1 := by
  have l1 : Leads s 5 4 [94] (plainT 199) (4 + d) 4 [94] (plainT 199) := by
    have := leads_digits (s := s) (p := 5) (st := 4) (stk := [94]) (d - 1) (by omega) (fun i hi => by have h := hdig (i + 1) (by omega); rw [show 4 + (i + 1) = 5 + i from by omega] at h; exact h)
    rwa [show 5 + (d - 1) = 4 + d from by omega] at this
  have m0 : Leads s (4 + d + 0) 4 [94] (plainT 199) (4 + d + 0 + 1) 4 [94] (plainT 212) := ld_num_suf (by omega) (by rw [q0]; rfl) (by rw [q0]; rfl) (by omega) (by omega)
  have m1 : Leads s (4 + d + 1) 4 [94] (plainT 212) (4 + d + 1 + 1) 4 [94] (plainT 212) := ld_suf_i (by omega) q1
  have m2 : Leads s (4 + d + 2) 4 [94] (plainT 212) (4 + d + 2 + 1) 4 [94] (plainT 212) := ld_suf_b (by omega) q2
  have e1 := ld_suf_nl (s := s) (p := 4 + d + 3) (st := 4) (stk := [94]) (by omega) (by omega) bl [] 94 rfl (by simp)
  refine Fd.lead (l1.trans (((m0).trans m1).trans m2)) (Fd.step (cx1 := cx1) (ks1 := ks1) e1 (by decide) (fun L x h1 h2 _ => ?_) (fd_end (by omega) bl (by decide)))
  exact works_gib dg hK L x h1 (h2.trans hdg) hd1 hdd hn hsz (hw L)
theorem fd_gi {K : PK} {cx cx1 : List CJ} {ks ks1 : List ByteArray} (hK : K.ped = false) (d : Nat) (hd0 : 0 < d) (hs : 4 + d + 2 + 1 = s.size) (hdig : ∀ i, i < d → 48 ≤ byteAt s (4 + i) ∧ byteAt s (4 + i) ≤ 57) (q0 : byteAt s (4 + d + 0) = 103) (q1 : byteAt s (4 + d + 1) = 105) (bl : byteAt s (4 + d + 2) = 10)
    (dg : ByteArray) (hdg : s.extract 4 (4 + d + 2) = dg ++ ⟨#[103, 105]⟩) (hdd : isDigits dg) (hn : ((numOf dg.data.toList : Nat) : Int) * 1024 * 1024 * 1024 ≤ 4611686018427387904) (hsz : dg.size ≤ 900000) (hd1 : 0 < dg.size)
    (hw : ∀ L, (⟨L, cx, ks⟩ : PX).Sets (.int (((numOf dg.data.toList : Nat) : Int) * 1024 * 1024 * 1024)) ⟨L, cx1, ks1⟩) : Fd K s 5 4 [94] (plainT 199) cx ks 3 cx1 := by
  have l1 : Leads s 5 4 [94] (plainT 199) (4 + d) 4 [94] (plainT 199) := by
    have := leads_digits (s := s) (p := 5) (st := 4) (stk := [94]) (d - 1) (by omega) (fun i hi => by have h := hdig (i + 1) (by omega); rw [show 4 + (i + 1) = 5 + i from by omega] at h; exact h)
    rwa [show 5 + (d - 1) = 4 + d from by omega] at this
  have m0 : Leads s (4 + d + 0) 4 [94] (plainT 199) (4 + d + 0 + 1) 4 [94] (plainT 212) := ld_num_suf (by omega) (by rw [q0]; rfl) (by rw [q0]; rfl) (by omega) (by omega)
  have m1 : Leads s (4 + d + 1) 4 [94] (plainT 212) (4 + d + 1 + 1) 4 [94] (plainT 212) := ld_suf_i (by omega) q1
  have e1 := ld_suf_nl (s := s) (p := 4 + d + 2) (st := 4) (stk := [94]) (by omega) (by omega) bl [] 94 rfl (by simp)
  refine Fd.lead (l1.trans ((m0).trans m1)) (Fd.step (cx1 := cx1) (ks1 := ks1) e1 (by decide) (fun L x h1 h2 _ => ?_) (fd_end (by omega) bl (by decide)))
  exact works_gi dg hK L x h1 (h2.trans hdg) hd1 hdd hn hsz (hw L)
theorem fd_t {K : PK} {cx cx1 : List CJ} {ks ks1 : List ByteArray} (hK : K.ped = false) (d : Nat) (hd0 : 0 < d) (hs : 4 + d + 1 + 1 = s.size) (hdig : ∀ i, i < d → 48 ≤ byteAt s (4 + i) ∧ byteAt s (4 + i) ≤ 57) (q0 : byteAt s (4 + d + 0) = 116) (bl : byteAt s (4 + d + 1) = 10)
    (dg : ByteArray) (hdg : s.extract 4 (4 + d + 1) = dg ++ ⟨#[116]⟩) (hdd : isDigits dg) (hn : ((numOf dg.data.toList : Nat) : Int) * 1000 * 1000 * 1000 * 1000 ≤ 4611686018427387904) (hsz : dg.size ≤ 900000) (hd1 : 0 < dg.size)
    (hw : ∀ L, (⟨L, cx, ks⟩ : PX).Sets (.int (((numOf dg.data.toList : Nat) : Int) * 1000 * 1000 * 1000 * 1000)) ⟨L, cx1, ks1⟩) : Fd K s 5 4 [94] (plainT 199) cx ks 3 cx1 := by
  have l1 : Leads s 5 4 [94] (plainT 199) (4 + d) 4 [94] (plainT 199) := by
    have := leads_digits (s := s) (p := 5) (st := 4) (stk := [94]) (d - 1) (by omega) (fun i hi => by have h := hdig (i + 1) (by omega); rw [show 4 + (i + 1) = 5 + i from by omega] at h; exact h)
    rwa [show 5 + (d - 1) = 4 + d from by omega] at this
  have m0 : Leads s (4 + d + 0) 4 [94] (plainT 199) (4 + d + 0 + 1) 4 [94] (plainT 212) := ld_num_suf (by omega) (by rw [q0]; rfl) (by rw [q0]; rfl) (by omega) (by omega)
  have e1 := ld_suf_nl (s := s) (p := 4 + d + 1) (st := 4) (stk := [94]) (by omega) (by omega) bl [] 94 rfl (by simp)
  refine Fd.lead (l1.trans (m0)) (Fd.step (cx1 := cx1) (ks1 := ks1) e1 (by decide) (fun L x h1 h2 _ => ?_) (fd_end (by omega) bl (by decide)))
  exact works_t dg hK L x h1 (h2.trans hdg) hd1 hdd hn hsz (hw L)
theorem fd_tb {K : PK} {cx cx1 : List CJ} {ks ks1 : List ByteArray} (hK : K.ped = false) (d : Nat) (hd0 : 0 < d) (hs : 4 + d + 2 + 1 = s.size) (hdig : ∀ i, i < d → 48 ≤ byteAt s (4 + i) ∧ byteAt s (4 + i) ≤ 57) (q0 : byteAt s (4 + d + 0) = 116) (q1 : byteAt s (4 + d + 1) = 98) (bl : byteAt s (4 + d + 2) = 10)
    (dg : ByteArray) (hdg : s.extract 4 (4 + d + 2) = dg ++ ⟨#[116, 98]⟩) (hdd : isDigits dg) (hn : ((numOf dg.data.toList : Nat) : Int) * 1024 * 1024 * 1024 * 1024 ≤ 4611686018427387904) (hsz : dg.size ≤ 900000) (hd1 : 0 < dg.size)
    (hw : ∀ L, (⟨L, cx, ks⟩ : PX).Sets (.int (((numOf dg.data.toList : Nat) : Int) * 1024 * 1024 * 1024 * 1024)) ⟨L, cx1, ks1⟩) : Fd K s 5 4 [94] (plainT 199) cx ks 3 cx1 := by
  have l1 : Leads s 5 4 [94] (plainT 199) (4 + d) 4 [94] (plainT 199) := by
    have := leads_digits (s := s) (p := 5) (st := 4) (stk := [94]) (d - 1) (by omega) (fun i hi => by have h := hdig (i + 1) (by omega); rw [show 4 + (i + 1) = 5 + i from by omega] at h; exact h)
    rwa [show 5 + (d - 1) = 4 + d from by omega] at this
  have m0 : Leads s (4 + d + 0) 4 [94] (plainT 199) (4 + d + 0 + 1) 4 [94] (plainT 212) := ld_num_suf (by omega) (by rw [q0]; rfl) (by rw [q0]; rfl) (by omega) (by omega)
  have m1 : Leads s (4 + d + 1) 4 [94] (plainT 212) (4 + d + 1 + 1) 4 [94] (plainT 212) := ld_suf_b (by omega) q1
  have e1 := ld_suf_nl (s := s) (p := 4 + d + 2) (st := 4) (stk := [94]) (by omega) (by omega) bl [] 94 rfl (by simp)
  refine Fd.lead (l1.trans ((m0).trans m1)) (Fd.step (cx1 := cx1) (ks1 := ks1) e1 (by decide) (fun L x h1 h2 _ => ?_) (fd_end (by omega) bl (by decide)))
  exact works_tb dg hK L x h1 (h2.trans hdg) hd1 hdd hn hsz (hw L)
theorem fd_tib {K : PK} {cx cx1 : List CJ} {ks ks1 : List ByteArray} (hK : K.ped = false) (d : Nat) (hd0 : 0 < d) (hs : 4 + d + 3 + 1 = s.size) (hdig : ∀ i, i < d → 48 ≤ byteAt s (4 + i) ∧ byteAt s (4 + i) ≤ 57) (q0 : byteAt s (4 + d + 0) = 116) (q1 : byteAt s (4 + d + 1) = 105) (q2 : byteAt s (4 + d + 2) = 98) (bl : byteAt s (4 + d + 3) = 10)
    (dg : ByteArray) (hdg : s.extract 4 (4 + d + 3) = dg ++ ⟨#[116, 105, 98]⟩) (hdd : isDigits dg) (hn : ((numOf dg.data.toList : Nat) : Int) * 1024 * 1024 * 1024 * 1024 ≤ 4611686018427387904) (hsz : dg.size ≤ 900000) (hd1 : 0 < dg.size)
    (hw : ∀ L, (⟨L, cx, ks⟩ : PX).Sets (.int (((numOf dg.data.toList : Nat) : Int) * 1024 * 1024 * 1024 * 1024)) ⟨L, cx1, ks1⟩) : Fd K s 5 4 [94] (plainT 199) cx ks 3 cx1 := by
  have l1 : Leads s 5 4 [94] (plainT 199) (4 + d) 4 [94] (plainT 199) := by
    have := leads_digits (s := s) (p := 5) (st := 4) (stk := [94]) (d - 1) (by omega) (fun i hi => by have h := hdig (i + 1) (by omega); rw [show 4 + (i + 1) = 5 + i from by omega] at h; exact h)
    rwa [show 5 + (d - 1) = 4 + d from by omega] at this
  have m0 : Leads s (4 + d + 0) 4 [94] (plainT 199) (4 + d + 0 + 1) 4 [94] (plainT 212) := ld_num_suf (by omega) (by rw [q0]; rfl) (by rw [q0]; rfl) (by omega) (by omega)
  have m1 : Leads s (4 + d + 1) 4 [94] (plainT 212) (4 + d + 1 + 1) 4 [94] (plainT 212) := ld_suf_i (by omega) q1
  have m2 : Leads s (4 + d + 2) 4 [94] (plainT 212) (4 + d + 2 + 1) 4 [94] (plainT 212) := ld_suf_b (by omega) q2
  have e1 := ld_suf_nl (s := s) (p := 4 + d + 3) (st := 4) (stk := [94]) (by omega) (by omega) bl [] 94 rfl (by simp)
  refine Fd.lead (l1.trans (((m0).trans m1).trans m2)) (Fd.step (cx1 := cx1) (ks1 := ks1) e1 (by decide) (fun L x h1 h2 _ => ?_) (fd_end (by omega) bl (by decide)))
  exact works_tib dg hK L x h1 (h2.trans hdg) hd1 hdd hn hsz (hw L)
theorem fd_ti {K : PK} {cx cx1 : List CJ} {ks ks1 : List ByteArray} (hK : K.ped = false) (d : Nat) (hd0 : 0 < d) (hs : 4 + d + 2 + 1 = s.size) (hdig : ∀ i, i < d → 48 ≤ byteAt s (4 + i) ∧ byteAt s (4 + i) ≤ 57) (q0 : byteAt s (4 + d + 0) = 116) (q1 : byteAt s (4 + d + 1) = 105) (bl : byteAt s (4 + d + 2) = 10)
    (dg : ByteArray) (hdg : s.extract 4 (4 + d + 2) = dg ++ ⟨#[116, 105]⟩) (hdd : isDigits dg) (hn : ((numOf dg.data.toList : Nat) : Int) * 1024 * 1024 * 1024 * 1024 ≤ 4611686018427387904) (hsz : dg.size ≤ 900000) (hd1 : 0 < dg.size)
    (hw : ∀ L, (⟨L, cx, ks⟩ : PX).Sets (.int (((numOf dg.data.toList : Nat) : Int) * 1024 * 1024 * 1024 * 1024)) ⟨L, cx1, ks1⟩) : Fd K s 5 4 [94] (plainT 199) cx ks 3 cx1 := by
  have l1 : Leads s 5 4 [94] (plainT 199) (4 + d) 4 [94] (plainT 199) := by
    have := leads_digits (s := s) (p := 5) (st := 4) (stk := [94]) (d - 1) (by omega) (fun i hi => by have h := hdig (i + 1) (by omega); rw [show 4 + (i + 1) = 5 + i from by omega] at h; exact h)
    rwa [show 5 + (d - 1) = 4 + d from by omega] at this
  have m0 : Leads s (4 + d + 0) 4 [94] (plainT 199) (4 + d + 0 + 1) 4 [94] (plainT 212) := ld_num_suf (by omega) (by rw [q0]; rfl) (by rw [q0]; rfl) (by omega) (by omega)
  have m1 : Leads s (4 + d + 1) 4 [94] (plainT 212) (4 + d + 1 + 1) 4 [94] (plainT 212) := ld_suf_i (by omega) q1
  have e1 := ld_suf_nl (s := s) (p := 4 + d + 2) (st := 4) (stk := [94]) (by omega) (by omega) bl [] 94 rfl (by simp)
  refine Fd.lead (l1.trans ((m0).trans m1)) (Fd.step (cx1 := cx1) (ks1 := ks1) e1 (by decide) (fun L x h1 h2 _ => ?_) (fd_end (by omega) bl (by decide)))
  exact works_ti dg hK L x h1 (h2.trans hdg) hd1 hdd hn hsz (hw L)
end
end Go.Cf
