/-
  Texts joined: Ln De Dc Cn Aw Wa Wb Dn Bd Bi Bp Bt Bv Bw Br Er We St Ws Le Rt.
-/
import Derived.Test.YtackodbeohaidaaGreatDoorVz2
import Derived.Test.YtackodbeohaidaaGreatDoorVz3
import Derived.Test.YtackodbeohaidaaGreatDoorVz4
import Derived.KernelRfl
import Derived.Laws.IdiomStrings
import Derived.Deep.RegionLaw
/-
  'a = <number>' newline: what it feeds.
-/
namespace Go.Cf
open Go.RowKit Go.Conc Go.Proofs
section
variable {s : ByteArray} {p st : Nat} {stk : List Nat}
/-- Digits, one after another. -/
theorem leads_digits (n : Nat) (hn : p + n ≤ s.size) (hd : ∀ i, i < n → 48 ≤ byteAt s (p + i) ∧ byteAt s (p + i) ≤ 57) : Leads s p st stk (plainT 199) (p + n) st stk (plainT 199) := by
  induction n with
  | zero => exact Leads.refl
  | succ n ih =>
    have h := hd n (by omega)
    have h1 := ih (by omega) (fun i hi => hd i (by omega))
    exact h1.trans (by have h2 := ld_num_dig (s := s) (p := p + n) (st := st) (stk := stk) (by omega) (dig_true h) (by omega); exact h2)
theorem Feeds.pre {K : PK} {n : Nat} {L L1 : LX} {cx : List CJ} {ks : List ByteArray} {prev : It} {X' : PX} (r : Run n L L1) (h : Feeds K ⟨L1, cx, ks⟩ prev X') : Feeds K ⟨L, cx, ks⟩ prev X' := by
  cases h with
  | eof R hx ht hp => exact .eof (X := ⟨L, cx, ks⟩) (r.trans R) hx ht hp
  | step R hx ht hw h => exact .step (X := ⟨L, cx, ks⟩) (r.trans R) hx ht hw h
theorem Fd.lead {K : PK} {p1 st1 : Nat} {stk1 : List Nat} {t t1 : Tag} {cx fin : List CJ} {ks : List ByteArray} {pt : Nat} (h : Leads s p st stk t p1 st1 stk1 t1) (k : Fd K s p1 st1 stk1 t1 cx ks pt fin) : Fd K s p st stk t cx ks pt fin := by
  intro L prev hL hp
  obtain ⟨n, L1, r, h1⟩ := h L hL
  obtain ⟨X', hF, hc⟩ := k L1 prev h1 hp
  exact ⟨X', hF.pre r, hc⟩
/-- 'a = ' up to the value's first digit. -/
theorem fd_a {K : PK} {cx fin : List CJ} {ks : List ByteArray} {pt : Nat} (hK : K.ped = false) (hl : ks.length ≤ 1000000) (hs : 4 < s.size) (b0 : byteAt s 0 = 97) (b1 : byteAt s 1 = 32) (b2 : byteAt s 2 = 61) (b3 : byteAt s 3 = 32) (b4 : 48 ≤ byteAt s 4 ∧ byteAt s 4 ≤ 57) (hk : s.extract 0 1 = ⟨#[97]⟩)
    (rest : Fd K s 5 4 [94] (plainT 199) cx (ks ++ [⟨#[97]⟩]) 3 fin) : Fd K s 0 0 [] (plainT 60) cx ks pt fin := by
  have l1 : Leads s 0 0 [] (plainT 60) 0 0 [94] (plainT 95) := ld_top_key (by omega) (by simp) (by rw [b0]; rfl) (by omega) (by omega) (by omega) (by omega)
  have l2 : Leads s 0 0 [94] (plainT 95) 1 0 [94] (plainT 139) := ld_ks_key (by omega) (by rw [b0]; rfl) (by rw [b0]; rfl) (by omega) (by omega)
  have e1 : Emits s 1 0 [94] (plainT 139) 3 (s.extract 0 1) (1 + (nlc s 1 : Nat)) 1 1 [94] (plainT 163) := ld_key_sp (by omega) (by omega) (by rw [b1]; rfl) (by rw [hk]; rfl)
  have l3 : Leads s 1 1 [94] (plainT 163) 2 1 [94] (skipT 163) := ld_ke_sp (by omega) (by rw [b1]; rfl)
  have l4 : Leads s 2 2 [94] (plainT 163) 3 2 [94] (skipT 174) := ld_ke_sep (by omega) (by rw [b2]; rfl) (by rw [b2]; rfl)
  have l5 : Leads s 3 3 [94] (plainT 174) 4 3 [94] (skipT 174) := ld_val_ws (by omega) (by rw [b3]; rfl)
  have l6 : Leads s 4 4 [94] (plainT 174) 4 4 [94] (plainT 186) := ld_val_dig hs (by simp [isWS]; omega) (dig_true b4) b4
  have l7 : Leads s 4 4 [94] (plainT 186) 5 4 [94] (plainT 199) := ld_num_start hs (dig_true b4)
  refine Fd.lead (l1.trans l2) (Fd.step (cx1 := cx) (ks1 := ks ++ [⟨#[97]⟩]) e1 (by decide) (fun L x h1 h2 _ => ?_) (Fd.lead ((((((l3.trans (ld_skip 163)).trans l4).trans (ld_skip 174)).trans l5).trans (ld_skip 174)).trans (l6.trans l7)) rest))
  have := works_key (cx := cx) (ks := ks) hK L x h1 hl
  rwa [h2, hk] at this
/-- Behind the value: a newline, and the end. -/
theorem fd_end {K : PK} {cx : List CJ} {ks : List ByteArray} {pt : Nat} (hs : p + 1 = s.size) (b : byteAt s p = 10) (hpt : pt ≠ 3) : Fd K s p p [] (plainT 94) cx ks pt cx :=
  Fd.lead (ld_tve_nl (by omega) b) (Fd.eof (ld_top_eof (by omega) rfl) hpt)
/-- A whole number without a size, to the end. -/
theorem fd_plain {K : PK} {cx cx1 : List CJ} {ks ks1 : List ByteArray} (hK : K.ped = false) (d : Nat) (hd0 : 0 < d) (hs : 4 + d + 1 = s.size) (hdig : ∀ i, i < d → 48 ≤ byteAt s (4 + i) ∧ byteAt s (4 + i) ≤ 57) (bl : byteAt s (4 + d) = 10)
    (dg : ByteArray) (hdg : s.extract 4 (4 + d) = dg) (hdd : isDigits dg) (hn : numOf dg.data.toList < 9223372036854775808) (hsz : dg.size ≤ 900000) (hd1 : 0 < dg.size)
    (hw : ∀ L, (⟨L, cx, ks⟩ : PX).Sets (.int (numOf dg.data.toList : Nat)) ⟨L, cx1, ks1⟩) : Fd K s 5 4 [94] (plainT 199) cx ks 3 cx1 := by
  have l1 : Leads s 5 4 [94] (plainT 199) (4 + d) 4 [94] (plainT 199) := by
    have := leads_digits (s := s) (p := 5) (st := 4) (stk := [94]) (d - 1) (by omega) (fun i hi => by have h := hdig (i + 1) (by omega); rw [show 4 + (i + 1) = 5 + i from by omega] at h; exact h)
    rwa [show 5 + (d - 1) = 4 + d from by omega] at this
  have e1 := ld_num_nl (s := s) (p := 4 + d) (st := 4) (stk := [94]) (by omega) (by omega) bl [] 94 rfl (by simp)
  refine Fd.lead l1 (Fd.step (cx1 := cx1) (ks1 := ks1) e1 (by decide) (fun L x h1 h2 _ => ?_) (fd_end (by omega) bl (by decide)))
  rw [hdg] at h2
  subst h2
  exact works_int hK L x h1 hd1 hdd hn hsz (hw L)
end
end Go.Cf

/-
  The digits of a number, and what makes them.
-/
namespace Go.Cf
open Go.RowKit Go.Conc Go.Proofs
/-- The digits of a number. -/
def decS (n : Nat) : List UInt8 := if n ≤ 9 then [UInt8.ofNat (48 + n)] else decS (n / 10) ++ [UInt8.ofNat (48 + n % 10)]
termination_by n
decreasing_by omega
theorem byte48 (k : Nat) (h : k ≤ 9) : (UInt8.ofNat (48 + k)).toNat = 48 + k := by rw [UInt8.toNat_ofNat']; omega
theorem decS_num (n : Nat) : numOf (decS n) = n := by
  induction n using Nat.strongRecOn with
  | _ n ih =>
    rw [decS]
    split
    · next h => simp [numOf]; omega
    · next h => rw [numOf_snoc, ih _ (by omega), byte48 _ (by omega)]; omega
theorem decS_dig (n : Nat) : ∀ c ∈ decS n, 48 ≤ c.toNat ∧ c.toNat ≤ 57 := by
  induction n using Nat.strongRecOn with
  | _ n ih =>
    rw [decS]
    split
    · next h => intro c hc; rw [List.mem_singleton.1 hc, byte48 n h]; omega
    · next h =>
      intro c hc
      rcases List.mem_append.1 hc with hc | hc
      · exact ih _ (by omega) c hc
      · rw [List.mem_singleton.1 hc, byte48 _ (by omega)]; omega
theorem decS_len (n k : Nat) (hn : n < 10 ^ (k + 1)) : 0 < (decS n).length ∧ (decS n).length ≤ k + 1 := by
  induction k generalizing n with
  | zero => rw [decS, if_pos (by simp at hn; omega)]; simp
  | succ k ih =>
    rw [decS]
    split
    · simp
    · have := ih (n / 10) (by rw [Nat.pow_succ] at hn; omega)
      simp; omega
/-- The digits of a number, as a string. -/
def decB (n : Nat) : ByteArray := ⟨(decS n).toArray⟩
theorem decB_num (n : Nat) : numOf (decB n).data.toList = n := decS_num n
theorem decB_dig (n : Nat) : isDigits (decB n) := by
  intro i hi
  have hl : i < (decS n).length := by simpa [decB, ByteArray.size] using hi
  have h := decS_dig n (decS n)[i] (List.getElem_mem hl)
  have e : byteAt (decB n) i = ((decS n)[i]).toNat := by
    show ((decS n).toArray.toList.getD i 0).toNat = _
    rw [List.getD_eq_getElem?_getD, List.getElem?_eq_getElem (by simpa using hl)]
    rfl
  rw [e]
  exact h
theorem conv_digit (W : World) (k : Nat) (hk : k ≤ 9) : (convert 27 9 (.slice (some ⟨W.heap.size, 0, none⟩) 1 1)).run Tryz.prog (W.alloc (.cells #[.int .u8 (48 + (k : Int))] 5)) = .ok (.string ⟨#[UInt8.ofNat (48 + k)]⟩) (W.alloc (.cells #[.int .u8 (48 + (k : Int))] 5)) := by
  refine run_convert_bytes_back _ 27 9 5 ⟨W.heap.size, 0, none⟩ 1 [UInt8.ofNat (48 + k)] Tryz.underlying27 Tryz.underlying5 Tryz.underlying9 (fun j hj => ?_)
  obtain rfl : j = 0 := by simpa using hj
  have := blk_cell (heap_alloc_new W (.cells #[.int .u8 (48 + (k : Int))] 5)) 0
  simp only [List.getElem_cons_zero, byte48 k hk]
  exact this
end Go.Cf

/-
  The texts 'a = <number><size>' newline, by their bytes, and what they are read as.
-/
namespace Go.Cf
open Go.RowKit Go.Conc Go.Proofs
theorem ext_mid (P M S : ByteArray) : (P ++ M ++ S).extract P.size (P.size + M.size) = M := by
  rw [ByteArray.extract_append, ByteArray.extract_append_eq_right rfl rfl]
  have h : S.extract (P.size - (P ++ M).size) (P.size + M.size - (P ++ M).size) = ByteArray.empty := by
    rw [ByteArray.extract_eq_empty_iff]; simp [ByteArray.size_append]
  rw [h, ByteArray.append_empty]
/-- The text. -/
def szText (dg sfx : ByteArray) : ByteArray := (⟨#[97, 32, 61, 32]⟩ : ByteArray) ++ (dg ++ sfx) ++ ⟨#[10]⟩
section
variable (dg sfx : ByteArray)
theorem sz_size : (szText dg sfx).size = 4 + dg.size + sfx.size + 1 := by
  simp only [szText, ByteArray.size_append]
  show 4 + (dg.size + sfx.size) + 1 = _
  omega
theorem sz_head (i : Nat) (h : i < 4) : byteAt (szText dg sfx) i = byteAt ⟨#[97, 32, 61, 32]⟩ i := by
  unfold szText
  rw [byteAt_app_left _ _ _ (by rw [ByteArray.size_append]; show i < 4 + _; omega), byteAt_app_left _ _ _ h]
theorem sz_mid (i : Nat) (h : i < (dg ++ sfx).size) : byteAt (szText dg sfx) (4 + i) = byteAt (dg ++ sfx) i := by
  unfold szText
  rw [byteAt_app_left _ _ _ (by rw [ByteArray.size_append]; show 4 + i < 4 + _; omega)]
  exact byteAt_app_right ⟨#[97, 32, 61, 32]⟩ _ i
theorem sz_dig (i : Nat) (h : i < dg.size) : byteAt (szText dg sfx) (4 + i) = byteAt dg i := by
  rw [sz_mid _ _ _ (by rw [ByteArray.size_append]; omega), byteAt_app_left _ _ _ h]
theorem sz_sfx (j : Nat) (h : j < sfx.size) : byteAt (szText dg sfx) (4 + dg.size + j) = byteAt sfx j := by
  rw [Nat.add_assoc, sz_mid _ _ _ (by rw [ByteArray.size_append]; omega), byteAt_app_right]
theorem sz_nl : byteAt (szText dg sfx) (4 + dg.size + sfx.size) = 10 := by
  have h := byteAt_app_right ((⟨#[97, 32, 61, 32]⟩ : ByteArray) ++ (dg ++ sfx)) ⟨#[10]⟩ 0
  rw [Nat.add_zero, ByteArray.size_append, ByteArray.size_append, ← Nat.add_assoc] at h
  exact h
theorem sz_ext : (szText dg sfx).extract 4 (4 + dg.size + sfx.size) = dg ++ sfx := by
  have h := ext_mid ⟨#[97, 32, 61, 32]⟩ (dg ++ sfx) ⟨#[10]⟩
  rw [ByteArray.size_append, ← Nat.add_assoc] at h
  exact h
theorem sz_key : (szText dg sfx).extract 0 1 = ⟨#[97]⟩ := by
  have h : szText dg sfx = (⟨#[97]⟩ : ByteArray) ++ (⟨#[32, 61, 32]⟩ ++ (dg ++ sfx) ++ ⟨#[10]⟩) := by
    have e : (⟨#[97, 32, 61, 32]⟩ : ByteArray) = ⟨#[97]⟩ ++ ⟨#[32, 61, 32]⟩ := by decide
    simp only [szText, e, ByteArray.append_assoc]
  rw [h]
  exact ByteArray.extract_append_eq_left rfl
theorem sz_asc (hd : isDigits dg) (hx : ∀ j, j < sfx.size → byteAt sfx j < 128) (i : Nat) (h : i < (szText dg sfx).size) : byteAt (szText dg sfx) i < 128 := by
  rw [sz_size] at h
  rcases Nat.lt_or_ge i 4 with h4 | h4
  · rw [sz_head _ _ _ h4]
    match i, h4 with
    | 0, _ => decide
    | 1, _ => decide
    | 2, _ => decide
    | 3, _ => decide
  · rcases Nat.lt_or_ge i (4 + dg.size) with h5 | h5
    · obtain ⟨j, rfl⟩ := Nat.exists_eq_add_of_le h4
      rw [sz_dig _ _ _ (by omega)]
      have := hd j (by omega)
      omega
    · rcases Nat.lt_or_ge i (4 + dg.size + sfx.size) with h6 | h6
      · obtain ⟨j, rfl⟩ := Nat.exists_eq_add_of_le h5
        rw [sz_sfx _ _ _ (by omega)]
        exact hx j (by omega)
      · rw [show i = 4 + dg.size + sfx.size from by omega, sz_nl]
        decide
end
theorem sets_a (L : LX) (j : JV) : (⟨L, [.map []], [] ++ [⟨#[97]⟩]⟩ : PX).Sets j ⟨L, [.map [(⟨#[97]⟩, j)]], []⟩ :=
  .map [] [] [] ⟨#[97]⟩ rfl rfl (by simp) (by simp) (by decide)
theorem ra_plain (dg : ByteArray) (hdd : isDigits dg) (hd1 : 0 < dg.size) (hsz : dg.size ≤ 1000) (hn : ((numOf dg.data.toList : Nat) : Int) ≤ 4611686018427387904) : ReadAs (szText dg ⟨#[]⟩) [(⟨#[97]⟩, .int (((numOf dg.data.toList : Nat) : Int)))] := by
  have hs := sz_size dg ⟨#[]⟩
  have hk : (⟨#[]⟩ : ByteArray).size = 0 := rfl
  rw [hk] at hs
  have hx := sz_ext dg ⟨#[]⟩
  have hl := sz_nl dg ⟨#[]⟩
  rw [hk] at hx hl
  refine readAs_of (by omega) (sz_asc _ _ hdd (fun j hj => ?_)) fun K hK => ?_
  · rw [hk] at hj
    omega
  refine fd_a hK (by simp) (by omega) (sz_head _ _ 0 (by omega)) (sz_head _ _ 1 (by omega)) (sz_head _ _ 2 (by omega)) (sz_head _ _ 3 (by omega)) (by have h := sz_dig dg ⟨#[]⟩ 0 hd1; rw [Nat.add_zero] at h; rw [h]; exact hdd 0 hd1) (sz_key _ _) ?_
  exact fd_plain hK dg.size hd1 (by omega) (fun i hi => by rw [sz_dig _ _ _ hi]; exact hdd i hi) hl dg (hx.trans ByteArray.append_empty) hdd (by omega) (by omega) hd1 (fun L => sets_a L _)
end Go.Cf

/-
  A configuration's text is read and told as a Node.
-/
namespace Go.Cf
open Go.RowKit Go.Conc Go.Proofs
attribute [local go_sem] run_store_flt
section
variable {B : Nat} {lab lab1 : Lab} {w w1 : World}
/-- The outermost map, when it is finished. -/
theorem CAt.root {m : List (ByteArray × JV)} {v : Value} (h : CAt B 10 lab w (.map m) v) : ∃ b, v = .iface 61 (.map (some b)) ∧ lab b = 10 ∧ isJ B (fun k => if k = b then 6 else lab k) w (.map (m.map (·.1)) (m.map (·.2))) v ∧
    Mv (fun x => x = 10) w lab w (fun k => if k = b then 6 else lab k) := by
  obtain ⟨b, t, rfl, hm, rfl, hj⟩ := h
  have mv : Mv (fun x => x = 10) w lab w (fun k => if k = b then 6 else lab k) :=
    ⟨rfl, rfl, rfl, Nat.le_refl _, fun _ _ _ => rfl, fun k _ hn => if_neg (fun e => hn (by rw [e]; exact hm.2))⟩
  refine ⟨b, rfl, hm.2, ?_, mv⟩
  simp only [isJ]
  refine ⟨b, t, rfl, ⟨hm.1, if_pos rfl⟩, by simp [List.map_map], by simp [List.map_map], ?_⟩
  have e : List.map (fun x => x.snd) (List.map (fun x => (x.fst, x.snd.fst)) t) = t.map (·.2.1) := by rw [List.map_map]; rfl
  rw [e]
  exact isJs.mv mv (by decide) _ _ hj
theorem results_cell2 {P : Program} {fn : Func} {t u : Tmp} {ty e : TypeId} {tmps : Array Value} {W : World} {g : Nat} {cs : Array Value} {fr : Nat × Nat} {d : TypeDesc} (h : fn.results = #[.cell t ty, .tmp u]) (hp : tmps.getD t undef = .pointer (some ⟨g, 0, none⟩)) (hg : W.heap[g]? = some (.cells cs e fr))
    (hu : P.underlying ty = some d) (hd : (match d with | .struct _ | .array _ _ => true | _ => false) = true) (hi : (P.info? ty).map (·.size) = some cs.size) : (results fn tmps).run P W = .ok (.tuple #[.agg cs, tmps.getD u undef]) W := by
  have := run_loadVar_row W g e ty cs fr d hg hu hd hi
  rw [results_cell_tmp h, hp]
  simp [asAddr, this, Result.andThen]
theorem Mv.grown_new {M : Nat → Prop} {w2 : World} {r : Nat} (h : Mv M w lab w1 lab1) (hg : w1.grownBy w2 (some r)) (hr : w.heap.size ≤ r) (ℓ : Nat) : Mv M w lab w2 (lab1.ext w1.heap.size ℓ) :=
  ⟨hg.os.trans h.os, hg.tape.trans h.tape, hg.output.trans h.output, Nat.le_trans h.size hg.size,
    fun x hx hn => (hg.block x (Nat.lt_of_lt_of_le hx h.size) (fun e => by cases e; omega)).trans (h.block x hx hn),
    fun x hx hn => by rw [Lab.ext_lt (Nat.lt_of_lt_of_le hx h.size)]; exact h.lab x hx hn⟩
/-- Conf on a text that is read. -/
def isC (B : Nat) (lab : Lab) (w : World) (m : List (ByteArray × JV)) (c : Array Value) : Prop := isN B lab w (.map (m.map (·.1)) (m.map (·.2))) c
set_option maxRecDepth 100000 in
set_option maxHeartbeats 1000000 in
theorem Conf_c (s : ByteArray) (m : List (ByteArray × JV)) (hB : B ≤ w.heap.size) (htb : Tb lab w) (hr : ReadAs s m) (hf : (JV.map (m.map (·.1)) (m.map (·.2))).fits) :
    Calls Tryz.prog 15 #[.string s] w fun e w' => ∃ c lab', e = .returned (.tuple #[.agg c, .int .i64 0]) ∧ isC B lab' w' m c ∧ Mv PM w lab w' lab' := by
  have bl : w.heap.size < (w.alloc z26).heap.size := by rw [World.size_alloc]; omega
  have hr1 : (w.alloc z26).heap[w.heap.size]? = some z26 := heap_alloc_new w _
  have hB1 : B ≤ (w.alloc z26).heap.size := Nat.le_trans hB (Nat.le_of_lt bl)
  have hres : Cl 7 ((lab.ext w.heap.size 7)) (w.alloc z26) w.heap.size (ndC 0 0 0 false { data := #[] } nilS nilS) 26 := ⟨hr1, Lab.ext_ge (Nat.le_refl _)⟩
  have hal7 : Mv (fun _ => False) w lab (w.alloc z26) (lab.ext w.heap.size 7) := Mv.alloc w lab _ 7
  have htb1 := htb.mv hal7 (fun h => h)
  have HA := Lib.hid hal7
  have HR := Lib.hid hres
  have HT := Lib.hid htb1
  clear hr1 hres hal7 htb1
  go_enter Tryz.func15, Tryz.ntmps15
  go_wp2_with fail
  refine (Parse_c s m hB1 HT.out hr).mono ?_
  rintro e w1 ⟨mp, lab1, rfl, hc, m1⟩
  obtain ⟨b, hb1, hb2, hj, m2⟩ := hc.root
  cases hb1
  have hB2 := Nat.le_trans hB1 m1.size
  have hres1 := HR.out.mv m1 (by decide)
  have hres2 := hres1.mv m2 (by decide)
  have M12 := (HA.out.mono (M' := PM) (fun _ h => h.elim)).trans (m1.trans m2 (fun x h => by subst h; decide)) (fun _ h => h)
  clear hc hb2 hres1 m1 m2
  go_wp2_with fail
  refine (node_c _ B w1 _ _ hB2 hf hj).mono ?_
  rintro e w2 ⟨c, lab2, rfl, hn, m3⟩
  have hres := hres2.mv m3 (fun h => h)
  have M123 := M12.trans m3 (fun _ h => h.elim)
  clear hres2 M12 m3 hj
  have hn' := hn
  simp only [isN] at hn'
  obtain ⟨kv, lv, cs, rfl, hk, hl, _⟩ := hn'
  obtain ⟨ka, kcap, rfl⟩ := own_slice hk.1
  obtain ⟨la, lcap, rfl⟩ := own_slice hl.1
  have z0 := blk_cell hres.1 0
  have z1 := blk_cell hres.1 1
  have z2 := blk_cell hres.1 2
  have z3 := blk_cell hres.1 3
  have z4 := blk_cell hres.1 4
  have z5 := blk_cell hres.1 5
  have z6 := blk_cell hres.1 6
  have f0 := blk_free hres.1 0
  have f1 := blk_free hres.1 1
  have f2 := blk_free hres.1 2
  have f3 := blk_free hres.1 3
  have f4 := blk_free hres.1 4
  have f5 := blk_free hres.1 5
  have f6 := blk_free hres.1 6
  have S7 := Lib.hid (set7 (.int .i64 6) (.int .i64 0) (.float .f64 0) (.bool false) (.string { data := #[] }) (.slice ka m.length kcap) (.slice la m.length lcap) hres.1)
  have HN := Lib.hid hn
  have HM := Lib.hid M123
  have h7 := Lib.hid hres.2
  clear hn hres M123 hk hl
  go_wp2
  refine bodyPost_ret (results_cell2 rfl rfl S7.out.1 Tryz.underlying26 rfl info26) rfl ?_
  have mm : Mv (· = 7) w2 lab2 _ (lab2.ext w2.heap.size 7) := Mv.grown S7.out.2 lab2 7 (fun x hx => by cases hx; exact h7.out)
  refine ⟨_, _, rfl, ?_, HM.out.grown_new S7.out.2 (Nat.le_refl _) 7⟩
  have := isN.mv mm (by decide) _ _ HN.out
  simp only [List.length_map] at this
  exact this
end
end Go.Cf

/-
  awakeConf answers true.
-/
namespace Go.Cf
open Go.RowKit Go.Conc Go.Proofs
attribute [local go_sem] run_store_flt
section
variable {B : Nat} {lab lab1 : Lab} {w w1 : World}
/-- A map of one whole number, as a Node. -/
theorem isC.one {k : ByteArray} {n : Int} {c : Array Value} (h : isC B lab w [(k, .int n)] c) : ∃ gk ck gl cl, c = ndC 6 0 0 false { data := #[] } (.slice (some ⟨gk, 0, none⟩) 1 ck) (.slice (some ⟨gl, 0, none⟩) 1 cl) ∧
    w.cell? ⟨gk, 0, none⟩ = some (.string k) ∧ w.cell? ⟨gl, 0, none⟩ = some (.int .i64 1) ∧ w.cell? ⟨gl, 1, none⟩ = some (.int .i64 n) ∧ gk < w.heap.size ∧ gl < w.heap.size := by
  simp only [isC, isN, List.map_cons, List.map_nil, List.length_cons, List.length_nil] at h
  obtain ⟨kv, lv, cs, rfl, hk, hl, hn⟩ := h
  obtain ⟨gk, ck, rfl, _, hgk⟩ := hk.1.form (by decide)
  obtain ⟨gl, cl, rfl, _, hgl⟩ := hl.1.form (by decide)
  match cs, hn with
  | [c0], hn =>
    simp only [isNs, isN, and_true] at hn
    subst hn
    refine ⟨gk, ck, gl, cl, rfl, ?_, ?_, ?_, hgk, hgl⟩
    · rw [hk.1.cellAt 0 (by decide)]; rfl
    · rw [hl.1.cellAt 0 (by decide)]; rfl
    · rw [hl.1.cellAt 1 (by decide)]; rfl
  | [], hn => simp [isNs] at hn
  | _ :: _ :: _, hn => simp [isNs] at hn
theorem read_awake : ReadAs ⟨#[97, 32, 61, 32, 53, 10]⟩ [(⟨#[97]⟩, .int 5)] := by
  have h := ra_plain ⟨#[53]⟩ (by intro i hi; match i, hi with | 0, _ => decide) (by decide) (by decide) (by decide)
  have e : szText ⟨#[53]⟩ ⟨#[]⟩ = ⟨#[97, 32, 61, 32, 53, 10]⟩ := by decide
  rw [e] at h
  exact h
set_option maxRecDepth 100000 in
set_option maxHeartbeats 1000000 in
theorem awake_c (htb : Tb lab w) : Calls Tryz.prog 13 #[] w fun e w' => e = .returned (.bool true) ∧ ∃ lab', Mv PM w lab w' lab' := by
  go_enter Tryz.func13, Tryz.ntmps13
  go_wp2_with fail
  refine (Conf_c (B := 0) _ _ (Nat.zero_le _) htb read_awake (by simp [JV.fits, fitsL])).mono ?_
  rintro e w1 ⟨c, lab1, rfl, hc, m⟩
  obtain ⟨gk, ck, gl, cl, rfl, h1, h2, h3, hk, hl⟩ := hc.one
  have q1 : ∀ o, (w1.alloc o).cell? ⟨gk, 0, none⟩ = some (.string ⟨#[97]⟩) := fun o => (World.cell?_alloc_lt _ _ _ hk).trans h1
  have q2 : ∀ o, (w1.alloc o).cell? ⟨gl, 0, none⟩ = some (.int .i64 1) := fun o => (World.cell?_alloc_lt _ _ _ hl).trans h2
  have q3 : ∀ o, (w1.alloc o).cell? ⟨gl, 1, none⟩ = some (.int .i64 5) := fun o => (World.cell?_alloc_lt _ _ _ hl).trans h3
  have HM := Lib.hid m
  clear m hc h1 h2 h3
  go_wp2
  go_ret
  exact ⟨rfl, _, HM.out.trans (Mv.alloc (M := fun _ => False) _ _ _ 33) (fun _ (h : False) => h.elim)⟩
end
end Go.Cf

/-
  The specification's writer in memory; its choices.
-/
namespace Go.Cf
open Go.RowKit Go.Conc Go.Proofs
/-- The writer, as data. -/
structure CW where
  text : ByteArray
  line : Nat
  style : List UInt8
  bad : Bool
  known : List ByteArray
  nv : Nat
  vals : List Value
  used : List ByteArray
  inner : List ByteArray
/-- v is a slice of bytes that the caller holds. -/
def Sty (lab : Lab) (w : World) (v : Value) (l : List UInt8) : Prop :=
  ∃ (a : Option Addr) (c : Nat), v = .slice a l.length c ∧ l.length ≤ c ∧ c ≤ maxLen ∧ (l ≠ [] → ∃ ad : Addr, a = some ad ∧ lab ad.block = 0 ∧ ∀ i x, l[i]? = some x → w.cell? (ad.add i) = some (.int .u8 (x.toNat : Int)))
def CW.cells (W : CW) (sv kn va us inn : Value) : Array Value := #[.string W.text, i64 W.line, sv, .bool W.bad, kn, va, us, inn]
structure WAtX (lab : Lab) (w : World) (b : Nat) (W : CW) (sv kn va us inn : Value) : Prop where
  cl : Cl 40 lab w b (W.cells sv kn va us inn) 53
  sty : Sty lab w sv W.style
  kn : Rw 0 41 lab w 9 1 kn W.known.length (W.known.map Value.string)
  va : Rw 0 42 lab w 26 7 va W.nv W.vals
  us : Rw 0 43 lab w 9 1 us W.used.length (W.used.map Value.string)
  inn : Rw 0 44 lab w 9 1 inn W.inner.length (W.inner.map Value.string)
def WAt (lab : Lab) (w : World) (b : Nat) (W : CW) : Prop := ∃ sv kn va us inn, WAtX lab w b W sv kn va us inn
section
variable {lab lab1 : Lab} {w w1 : World} {b : Nat} {W : CW} {sv kn va us inn v : Value} {l : List UInt8} {M : Nat → Prop}
theorem Sty.mv (h : Sty lab w v l) (m : Mv M w lab w1 lab1) (h0 : ¬ M 0) : Sty lab1 w1 v l := by
  obtain ⟨a, c, h1, h2, h3, h4⟩ := h
  refine ⟨a, c, h1, h2, h3, fun hl => ?_⟩
  obtain ⟨ad, rfl, h5, h6⟩ := h4 hl
  have hadd : ∀ i, (ad.add i).block = ad.block := fun i => by unfold Addr.add; split <;> rfl
  obtain ⟨x, r, rfl⟩ : ∃ x r, l = x :: r := by cases l with | nil => exact absurd rfl hl | cons x r => exact ⟨x, r, rfl⟩
  have hlt : ad.block < w.heap.size := by
    have := World.block_lt_of_cell? w _ (h6 0 x rfl)
    rw [hadd] at this
    exact this
  have hb := m.block ad.block hlt (by rw [h5]; exact h0)
  refine ⟨ad, rfl, (m.lab ad.block hlt (by rw [h5]; exact h0)).trans h5, fun i y hy => ?_⟩
  rw [← h6 i y hy]
  unfold World.cell?
  rw [hadd, hb]
theorem WAtX.mv (h : WAtX lab w b W sv kn va us inn) (m : Mv M w lab w1 lab1) (hM : ∀ x, x = 0 ∨ (40 ≤ x ∧ x ≤ 44) → ¬ M x) : WAtX lab1 w1 b W sv kn va us inn :=
  ⟨h.cl.mv m (hM _ (by omega)), h.sty.mv m (hM _ (by omega)), h.kn.mv m (hM _ (by omega)), h.va.mv m (hM _ (by omega)), h.us.mv m (hM _ (by omega)), h.inn.mv m (hM _ (by omega))⟩
theorem WAt.mv (h : WAt lab w b W) (m : Mv M w lab w1 lab1) (hM : ∀ x, x = 0 ∨ (40 ≤ x ∧ x ≤ 44) → ¬ M x) : WAt lab1 w1 b W := by
  obtain ⟨sv, kn, va, us, inn, h⟩ := h
  exact ⟨sv, kn, va, us, inn, h.mv m hM⟩
/-- A field of the struct itself is set. -/
theorem WAtX.set {W' : CW} {sv' : Value} (h : WAtX lab w b W sv kn va us inn) (i : Nat) (u : Value) (hc : (W.cells sv kn va us inn).setIfInBounds i u = W'.cells sv' kn va us inn) (hs : Sty lab w sv' W'.style)
    (h1 : W'.known = W.known) (h2 : W'.nv = W.nv) (h3 : W'.vals = W.vals) (h4 : W'.used = W.used) (h5 : W'.inner = W.inner) : WAtX lab (w.setCell ⟨b, i, none⟩ u) b W' sv' kn va us inn := by
  have m : Mv (· = 40) w lab (w.setCell ⟨b, i, none⟩ u) lab := Mv.setCell _ _ _ _ h.cl.2
  have hcl := h.cl.set i u
  rw [hc] at hcl
  exact ⟨hcl, hs.mv m (by decide), by rw [h1]; exact h.kn.mv m (by decide), by rw [h2, h3]; exact h.va.mv m (by decide), by rw [h4]; exact h.us.mv m (by decide), by rw [h5]; exact h.inn.mv m (by decide)⟩
def CW.pick (W : CW) (n : Nat) : Nat × CW := match W.style with
  | [] => (0, W)
  | c :: r => (c.toNat % n, { W with style := r })
theorem add_add (a : Addr) (i : Nat) : (a.add 1).add i = a.add (i + 1) := by
  unfold Addr.add
  by_cases h : i = 0
  · subst h; rfl
  · simp [h]; omega
set_option maxRecDepth 100000 in
theorem pick_c (h : WAt lab w b W) (n : Nat) (hn : 0 < n) (hn2 : n ≤ 1000) : Calls Tryz.prog 27 #[.pointer (some ⟨b, 0, none⟩), i64 n] w fun e w' => e = .returned (i64 (W.pick n).1) ∧ WAt lab w' b (W.pick n).2 ∧ Mv (· = 40) w lab w' lab := by
  obtain ⟨sv, kn, va, us, inn, h⟩ := h
  have c2 : w.cell? ⟨b, 2, none⟩ = some sv := h.cl.cell 2
  have f2 := h.cl.free 2
  obtain ⟨a, c, rfl, hlc, hcm, hx⟩ := h.sty
  unfold maxLen at hcm
  cases hs : W.style with
  | nil =>
    have hp : W.pick n = (0, W) := by unfold CW.pick; rw [hs]
    rw [hs] at c2
    rw [hp]
    have HH := Lib.hid h
    clear h hx
    go_enter Tryz.func27, Tryz.ntmps27
    go_wp2
    go_ret
    exact ⟨rfl, ⟨_, _, _, _, _, HH.out⟩, Mv.refl _ _ _⟩
  | cons x r =>
    obtain ⟨m, hm, hmn⟩ : ∃ m : Nat, x.toNat % n = m ∧ m < n := ⟨_, rfl, Nat.mod_lt _ hn⟩
    have hp : W.pick n = (m, { W with style := r }) := by unfold CW.pick; rw [hs]; simp only [hm]
    rw [hp]
    obtain ⟨ad, rfl, h0, hcell⟩ := hx (by rw [hs]; exact fun e => by cases e)
    have q := hcell 0 x (by rw [hs]; rfl)
    rw [show ad.add 0 = ad from rfl] at q
    rw [hs, List.length_cons] at c2 hlc
    have ht : Int.tmod (x.toNat : Int) (n : Int) = (m : Int) := by rw [← hm]; rfl
    have hx255 := x.toNat_lt
    have hsty : Sty lab w (.slice (some (ad.add 1)) r.length (c - 1)) r := by
      refine ⟨_, _, rfl, by omega, by unfold maxLen; omega, fun _ => ⟨_, rfl, ?_, fun i y hy => ?_⟩⟩
      · rw [← h0]; unfold Addr.add; rfl
      · rw [add_add]; exact hcell (i + 1) y (by rw [hs]; exact hy)
    have hset : ∀ v, Sty lab w v r → WAtX lab (w.setCell ⟨b, 2, none⟩ v) b { W with style := r } v kn va us inn := fun v hv => h.set (W' := { W with style := r }) (sv' := v) 2 v rfl hv rfl rfl rfl rfl rfl
    have hmv : ∀ v, Mv (· = 40) w lab (w.setCell ⟨b, 2, none⟩ v) lab := fun v => Mv.setCell _ _ _ _ h.cl.2
    have HS := Lib.hid hset
    have HT := Lib.hid hsty
    have HL := Lib.hid hmv
    clear hset h hcell hx hsty hmv hm h0 hp hs
    by_cases hc1 : c = 1
    · subst hc1
      have hr : r = [] := List.eq_nil_of_length_eq_zero (by omega)
      subst hr
      go_enter Tryz.func27, Tryz.ntmps27
      go_wp2
      go_ret
      exact ⟨rfl, ⟨_, _, _, _, _, HS.out _ ⟨_, 0, rfl, Nat.le_refl _, Nat.zero_le _, fun e => absurd rfl e⟩⟩, HL.out _⟩
    · go_enter Tryz.func27, Tryz.ntmps27
      go_wp2
      go_ret
      exact ⟨rfl, ⟨_, _, _, _, _, HS.out _ HT.out⟩, HL.out _⟩
def CW.put (W : CW) (s : ByteArray) : CW := { W with text := W.text ++ s, line := W.line + nlc s s.size, bad := W.bad || decide (20000 < (W.text ++ s).size) }
set_option maxRecDepth 100000 in
set_option maxHeartbeats 2000000 in
theorem put_c (h : WAt lab w b W) (s : ByteArray) (hs : s.size ≤ 1000000) (ht : W.text.size ≤ 1000000000) (hl : W.line ≤ 1000000000) : Calls Tryz.prog 28 #[.pointer (some ⟨b, 0, none⟩), .string s] w fun e w' => e = .returned (.tuple #[]) ∧ WAt lab w' b (W.put s) ∧ Mv (· = 40) w lab w' lab := by
  obtain ⟨sv, kn, va, us, inn, h⟩ := h
  have HH := Lib.hid h
  clear h
  go_enter Tryz.func28, Tryz.ntmps28
  go_wp2_with fail
  go_loopw [4] (fun i wr => ∃ k : Nat, k ≤ s.size ∧ i = .int .i64 k ∧ WAtX lab wr b { W with line := W.line + nlc s k } sv kn va us inn ∧ Mv (· = 40) w lab wr lab) (fun i _ => s.size - (RowKit.intOf i).toNat)
  case atStart => exact ⟨0, Nat.zero_le _, rfl, by have := HH.out; simpa [nlc] using this, Mv.refl _ _ _⟩
  case round =>
    obtain ⟨k, hk, rfl, hw, m⟩ := hrel
    have c0 : wr.cell? ⟨b, 0, none⟩ = some (.string W.text) := hw.cl.cell 0
    have c1 : wr.cell? ⟨b, 1, none⟩ = some (i64 ((W.line + nlc s k : Nat) : Int)) := hw.cl.cell 1
    have c3 : wr.cell? ⟨b, 3, none⟩ = some (.bool W.bad) := hw.cl.cell 3
    have f0 := hw.cl.free 0
    have f1 := hw.cl.free 1
    have f3 := hw.cl.free 3
    have hn := nlc_le s k
    have hl40 := hw.cl.2
    by_cases hlt : k < s.size
    · have h1 : (k : Int) < (s.size : Int) := by omega
      have hsucc := nlc_succ s k hlt
      by_cases hc : byteAt s k = 10
      · have hb : (((s[k]'hlt).toNat : Int) == 10) = true := by rw [byteAt_get, hc]; rfl
        rw [if_pos hc] at hsucc
        have hset := hw.set (W' := { W with line := W.line + nlc s (k + 1) }) (sv' := sv) 1 (i64 (((W.line + nlc s k : Nat) : Int) + 1)) (by rw [hsucc]; rfl) hw.sty rfl rfl rfl rfl rfl
        have m2 := m.trans (Mv.setCell wr lab ⟨b, 1, none⟩ (i64 (((W.line + nlc s k : Nat) : Int) + 1)) (show (fun x => x = 40) (lab b) from hl40)) (fun _ h => h)
        have hx : (((W.line + nlc s k : Nat) : Int) + 1) ≤ 9223372036854775807 := by omega
        have hx0 : (0 : Int) ≤ ((W.line + nlc s k : Nat) : Int) := Int.natCast_nonneg _
        have HS := Lib.hid hset
        have HM := Lib.hid m2
        clear hset m2 hw m hsucc hc
        obtain ⟨z, hz⟩ : ∃ z : Int, z = ((W.line + nlc s k : Nat) : Int) := ⟨_, rfl⟩
        rw [← hz] at c1 hx hx0
        have HZ := Lib.hid hz
        clear hz
        go_wp2
        go_roundw
        case rel => exact ⟨k + 1, by omega, by go_num, by rw [HZ.out]; exact HS.out, by rw [HZ.out]; exact HM.out⟩
        case measure => simp [RowKit.intOf]; omega
      · have hb : (((s[k]'hlt).toNat : Int) == 10) = false := by rw [byteAt_get]; exact beq_eq_false_iff_ne.2 (by omega)
        rw [if_neg hc] at hsucc
        have hsucc : nlc s (k + 1) = nlc s k := hsucc
        rw [← hsucc] at hw
        have HS := Lib.hid hw
        have HM := Lib.hid m
        clear hw m hsucc hc
        go_wp2
        go_roundw
        case rel => exact ⟨k + 1, by omega, by go_num, HS.out, HM.out⟩
        case measure => simp [RowKit.intOf]; omega
    · have hke : k = s.size := by omega
      subst hke
      have hsz : ¬ 9223372036854775807 < W.text.size + s.size := by omega
      have hset := hw.set (W' := { W with text := W.text ++ s, line := W.line + nlc s s.size }) (sv' := sv) 0 (.string (W.text ++ s)) rfl hw.sty rfl rfl rfl rfl rfl
      have m2 := m.trans (Mv.setCell wr lab ⟨b, 0, none⟩ (.string (W.text ++ s)) (show (fun x => x = 40) (lab b) from hl40)) (fun _ h => h)
      have hset2 := hset.set (W' := W.put s) (sv' := sv) 3 (.bool (W.bad || decide (20000 < (W.text ++ s).size))) rfl hset.sty rfl rfl rfl rfl rfl
      have m3 := m2.trans (Mv.setCell _ lab ⟨b, 3, none⟩ (.bool (W.bad || decide (20000 < (W.text ++ s).size))) (show (fun x => x = 40) (lab b) from hl40)) (fun _ h => h)
      have HS := Lib.hid hset2
      have HM := Lib.hid m3
      clear hset m2 hw m c1 f1 hset2 m3
      cases hbad : W.bad with
      | true =>
        rw [hbad] at c3 HS HM
        go_wp2
        go_end0
        exact ⟨rfl, ⟨_, _, _, _, _, HS.out⟩, HM.out⟩
      | false =>
        rw [hbad] at c3 HS HM
        have hsz2 : (W.text ++ s).size = W.text.size + s.size := ByteArray.size_append
        by_cases hbig : 20000 < W.text.size + s.size
        · have hd : decide (20000 < (W.text ++ s).size) = true := decide_eq_true (by omega)
          rw [hd] at HS HM
          have e1 : decide ((20000 : Int) < ((W.text.size : Int) + (s.size : Int))) = true := decide_eq_true (by omega)
          clear hsz2 hd
          go_wp2
          go_end0
          exact ⟨rfl, ⟨_, _, _, _, _, HS.out⟩, HM.out⟩
        · have hd : decide (20000 < (W.text ++ s).size) = false := decide_eq_false (by omega)
          rw [hd] at HS HM
          have e1 : decide ((20000 : Int) < ((W.text.size : Int) + (s.size : Int))) = false := decide_eq_false (by omega)
          clear hsz2 hd
          go_wp2
          go_end0
          exact ⟨rfl, ⟨_, _, _, _, _, HS.out⟩, HM.out⟩
end
end Go.Cf

/-
  The specification's plain texts.
-/
namespace Go.Cf
open Go.RowKit Go.Conc Go.Proofs
/-- Bytes from 32 to 126, nn of some others. -/
def Plain (s nn : ByteArray) : Prop := ∀ i, i < s.size → 32 ≤ byteAt s i ∧ byteAt s i ≤ 126 ∧ ∀ j, j < nn.size → byteAt s i ≠ byteAt nn j
theorem drewN_add (w : World) (n m : Nat) : (w.drewN n).drewN m = w.drewN (n + m) := by simp [World.drewN, Nat.add_assoc]
section
variable {lab : Lab} {w : World}
set_option maxRecDepth 100000 in
set_option maxHeartbeats 4000000 in
theorem confPlain_c (s nn : ByteArray) (hs : s.size ≤ 1000000) (hn : nn.size ≤ 1000) : Calls Tryz.prog 38 #[.string s, .string nn] w fun e w' => (∃ ok : Bool, e = .returned (.bool ok) ∧ (ok = true → Plain s nn)) ∧ ∃ n, w' = w.drewN n := by
  go_enter Tryz.func38, Tryz.ntmps38
  go_wp2_with fail
  go_loopw [5] (fun i wr => ∃ k : Nat, k ≤ s.size ∧ i = .int .i64 k ∧ (∃ n, wr = w.drewN n) ∧ ∀ i, i < k → 32 ≤ byteAt s i ∧ byteAt s i ≤ 126 ∧ ∀ j, j < nn.size → byteAt s i ≠ byteAt nn j) (fun i _ => s.size - (RowKit.intOf i).toNat)
  case atStart => exact ⟨0, Nat.zero_le _, rfl, ⟨0, rfl⟩, fun j hj => absurd hj (Nat.not_lt_zero j)⟩
  case round =>
    obtain ⟨k, hk, rfl, hw, hall⟩ := hrel
    have HA := Lib.hid hall
    have HW := Lib.hid hw
    clear hall hw
    by_cases hlt : k < s.size
    · have h1 : (k : Int) < (s.size : Int) := by omega
      obtain ⟨b, hbb⟩ : ∃ b, b = s[k]'hlt := ⟨_, rfl⟩
      have hb1 : (s[k]'hlt) = b := hbb.symm
      have HB : Hid (byteAt s k = b.toNat) := Lib.hid (by rw [← byteAt_get s k hlt, hb1])
      clear hbb
      by_cases h32 : b.toNat < 32
      · have e1 : decide ((b.toNat : Int) < 32) = true := decide_eq_true (by omega)
        go_wp2
        go_ret
        exact ⟨⟨false, rfl, fun h => by cases h⟩, HW.out⟩
      by_cases h126 : 126 < b.toNat
      · have e1 : decide ((b.toNat : Int) < 32) = false := decide_eq_false (by omega)
        have e2 : decide ((126 : Int) < (b.toNat : Int)) = true := decide_eq_true (by omega)
        go_wp2
        go_ret
        exact ⟨⟨false, rfl, fun h => by cases h⟩, HW.out⟩
      have e1 : decide ((b.toNat : Int) < 32) = false := decide_eq_false (by omega)
      have e2 : decide ((126 : Int) < (b.toNat : Int)) = false := decide_eq_false (by omega)
      go_wp2_with fail
      go_loopw [6] (fun i wr => ∃ m : Nat, m ≤ nn.size ∧ i = .int .i64 m ∧ (∃ n, wr = w.drewN n) ∧ ∀ j, j < m → b.toNat ≠ byteAt nn j) (fun i _ => nn.size - (RowKit.intOf i).toNat)
      case atStart => exact ⟨0, Nat.zero_le _, rfl, HW.out, fun j hj => absurd hj (Nat.not_lt_zero j)⟩
      case round =>
        obtain ⟨m, hm, rfl, hw, hall⟩ := hrel
        have HM := Lib.hid hall
        have HW := Lib.hid hw
        clear hall hw
        by_cases hmt : m < nn.size
        · have h2 : (m : Int) < (nn.size : Int) := by omega
          obtain ⟨c, hcc⟩ : ∃ c, c = nn[m]'hmt := ⟨_, rfl⟩
          have hc1 : (nn[m]'hmt) = c := hcc.symm
          have HC : Hid (byteAt nn m = c.toNat) := Lib.hid (by rw [← byteAt_get nn m hmt, hc1])
          clear hcc
          go_wp2_with fail
          go_quiet (fail)
          by_cases heq : b.toNat = c.toNat
          · have e3 : ((b.toNat : Int) == (c.toNat : Int)) = true := beq_iff_eq.2 (by omega)
            clear heq
            go_wp2
            go_ret
            obtain ⟨n0, rfl⟩ := HW.out
            exact ⟨⟨false, rfl, fun h => by cases h⟩, n0 + nq, drewN_add _ _ _⟩
          · have e3 : ((b.toNat : Int) == (c.toNat : Int)) = false := beq_eq_false_iff_ne.2 (by omega)
            have hnx : ∀ j, j < m + 1 → b.toNat ≠ byteAt nn j := fun j hj => by
              rcases Nat.lt_or_eq_of_le (Nat.le_of_lt_succ hj) with h | h
              · exact HM.out j h
              · rw [h, HC.out]; exact heq
            have HX := Lib.hid hnx
            have hw2 : ∃ n, wr.drewN nq = w.drewN n := by
              obtain ⟨n0, rfl⟩ := HW.out
              exact ⟨n0 + nq, drewN_add _ _ _⟩
            have HY := Lib.hid hw2
            clear heq hnx hw2
            go_wp2
            go_roundw
            case rel => exact ⟨m + 1, by omega, by go_num, HY.out, HX.out⟩
            case measure => simp [RowKit.intOf]; omega
        · have hme : m = nn.size := by omega
          subst hme
          have hnx : ∀ i, i < k + 1 → 32 ≤ byteAt s i ∧ byteAt s i ≤ 126 ∧ ∀ j, j < nn.size → byteAt s i ≠ byteAt nn j := fun i hi => by
            rcases Nat.lt_or_eq_of_le (Nat.le_of_lt_succ hi) with h | h
            · exact HA.out i h
            · rw [h, HB.out]; exact ⟨by omega, by omega, HM.out⟩
          have HX := Lib.hid hnx
          clear hnx
          go_wp2
          go_roundw
          case rel => exact ⟨k + 1, by omega, by go_num, HW.out, HX.out⟩
          case measure => simp [RowKit.intOf]; omega
    · have hke : k = s.size := by omega
      subst hke
      go_wp2
      go_ret
      exact ⟨⟨true, rfl, fun _ => HA.out⟩, HW.out⟩
/-- A text that may stand in brackets. -/
structure Blk (s : ByteArray) : Prop where
  size : 2 ≤ s.size
  first : byteAt s 0 = 10
  last : byteAt s (s.size - 1) = 10
  mid : ∀ i, 1 ≤ i → i < s.size → ¬ (byteAt s (i - 1) = 10 ∧ byteAt s i = 41) ∧ (byteAt s i = 10 ∨ (32 ≤ byteAt s i ∧ byteAt s i ≤ 126))
set_option maxRecDepth 100000 in
set_option maxHeartbeats 4000000 in
theorem confBlock_c (s : ByteArray) (hs : s.size ≤ 1000000) : Calls Tryz.prog 52 #[.string s] w fun e w' => (∃ ok : Bool, e = .returned (.bool ok) ∧ (ok = true → Blk s)) ∧ w' = w := by
  by_cases h2 : s.size < 2
  · have e1 : decide ((s.size : Int) < 2) = true := decide_eq_true (by omega)
    go_enter Tryz.func52, Tryz.ntmps52
    go_wp2
    go_ret
    exact ⟨⟨false, rfl, fun h => by cases h⟩, rfl⟩
  have e1 : decide ((s.size : Int) < 2) = false := decide_eq_false (by omega)
  have hp0 : 0 < s.size := by omega
  obtain ⟨b0, hb0⟩ : ∃ b, (s[0]'hp0) = b := ⟨_, rfl⟩
  have HB0 : Hid (byteAt s 0 = b0.toNat) := Lib.hid (by rw [← byteAt_get s 0 hp0, hb0])
  by_cases h0 : b0.toNat ≠ 10
  · have e2 : ((b0.toNat : Int) == 10) = false := beq_eq_false_iff_ne.2 (by omega)
    go_enter Tryz.func52, Tryz.ntmps52
    go_wp2
    go_ret
    exact ⟨⟨false, rfl, fun h => by cases h⟩, rfl⟩
  have e2 : ((b0.toNat : Int) == 10) = true := beq_iff_eq.2 (by omega)
  have hpl : s.size - 1 < s.size := by omega
  obtain ⟨bl, hbl⟩ : ∃ b, (s[s.size - 1]'hpl) = b := ⟨_, rfl⟩
  have HBL : Hid (byteAt s (s.size - 1) = bl.toNat) := Lib.hid (by rw [← byteAt_get s _ hpl, hbl])
  by_cases hl : bl.toNat ≠ 10
  · have e3 : ((bl.toNat : Int) == 10) = false := beq_eq_false_iff_ne.2 (by omega)
    go_enter Tryz.func52, Tryz.ntmps52
    go_wp2
    go_ret
    exact ⟨⟨false, rfl, fun h => by cases h⟩, rfl⟩
  have e3 : ((bl.toNat : Int) == 10) = true := beq_iff_eq.2 (by omega)
  go_enter Tryz.func52, Tryz.ntmps52
  go_wp2_with fail
  go_loopw [3] (fun i wr => ∃ k : Nat, 1 ≤ k ∧ k ≤ s.size ∧ i = .int .i64 k ∧ wr = w ∧ ∀ i, 1 ≤ i → i < k → ¬ (byteAt s (i - 1) = 10 ∧ byteAt s i = 41) ∧ (byteAt s i = 10 ∨ (32 ≤ byteAt s i ∧ byteAt s i ≤ 126))) (fun i _ => s.size - (RowKit.intOf i).toNat)
  case atStart => exact ⟨1, Nat.le_refl _, by omega, rfl, rfl, fun i h1 h2 => absurd h1 (by omega)⟩
  case round =>
    obtain ⟨k, hk1, hk, rfl, hwr, hall⟩ := hrel
    have hwr' := hwr.symm
    clear hwr
    subst hwr'
    have HA := Lib.hid hall
    clear hall
    by_cases hlt : k < s.size
    · have h1 : (k : Int) < (s.size : Int) := by omega
      have hkm : k - 1 < s.size := by omega
      obtain ⟨p, hp⟩ : ∃ b, (s[k - 1]'hkm) = b := ⟨_, rfl⟩
      obtain ⟨c, hc⟩ : ∃ b, (s[k]'hlt) = b := ⟨_, rfl⟩
      have HP : Hid (byteAt s (k - 1) = p.toNat) := Lib.hid (by rw [← byteAt_get s _ hkm, hp])
      have HC : Hid (byteAt s k = c.toNat) := Lib.hid (by rw [← byteAt_get s k hlt, hc])
      have step : (¬ (p.toNat = 10 ∧ c.toNat = 41) ∧ (c.toNat = 10 ∨ (32 ≤ c.toNat ∧ c.toNat ≤ 126))) → ∀ i, 1 ≤ i → i < k + 1 → ¬ (byteAt s (i - 1) = 10 ∧ byteAt s i = 41) ∧ (byteAt s i = 10 ∨ (32 ≤ byteAt s i ∧ byteAt s i ≤ 126)) := fun hx i hi1 hi => by
        rcases Nat.lt_or_eq_of_le (Nat.le_of_lt_succ hi) with h | h
        · exact HA.out i hi1 h
        · rw [h, HP.out, HC.out]; exact hx
      have HS := Lib.hid step
      clear step
      have HKP := Lib.hid (And.intro hk1 hk)
      by_cases hp10 : p.toNat = 10
      · have e4 : ((p.toNat : Int) == 10) = true := beq_iff_eq.2 (by omega)
        by_cases hc0 : c.toNat = 41
        · have e_41 : ((c.toNat : Int) == 41) = true := beq_iff_eq.2 (by omega)
          clear hp10 hc0
          go_wp2
          go_ret
          exact ⟨⟨false, rfl, fun h => by cases h⟩, rfl⟩
        by_cases hc1 : c.toNat = 10
        · have e_41 : ((c.toNat : Int) == 41) = false := beq_eq_false_iff_ne.2 (by omega)
          have e_10 : ((c.toNat : Int) == 10) = true := beq_iff_eq.2 (by omega)
          have n_10 : ((c.toNat : Int) != 10) = false := by rw [bne, e_10]; rfl
          have HX := Lib.hid (HS.out (by omega))
          clear hp10 hc0 hc1
          go_wp2
          go_roundw
          case rel => exact ⟨k + 1, by omega, by omega, by go_num, trivial, HX.out⟩
          case measure => simp [RowKit.intOf]; omega
        by_cases hc2 : c.toNat < 32
        · have e_41 : ((c.toNat : Int) == 41) = false := beq_eq_false_iff_ne.2 (by omega)
          have e_10 : ((c.toNat : Int) == 10) = false := beq_eq_false_iff_ne.2 (by omega)
          have n_10 : ((c.toNat : Int) != 10) = true := by rw [bne, e_10]; rfl
          have l_32 : decide ((c.toNat : Int) < 32) = true := decide_eq_true (by omega)
          clear hp10 hc0 hc1 hc2
          go_wp2
          go_ret
          exact ⟨⟨false, rfl, fun h => by cases h⟩, rfl⟩
        by_cases hc3 : 126 < c.toNat
        · have e_41 : ((c.toNat : Int) == 41) = false := beq_eq_false_iff_ne.2 (by omega)
          have e_10 : ((c.toNat : Int) == 10) = false := beq_eq_false_iff_ne.2 (by omega)
          have n_10 : ((c.toNat : Int) != 10) = true := by rw [bne, e_10]; rfl
          have l_32 : decide ((c.toNat : Int) < 32) = false := decide_eq_false (by omega)
          have g_126 : decide ((126 : Int) < (c.toNat : Int)) = true := decide_eq_true (by omega)
          clear hp10 hc0 hc1 hc2 hc3
          go_wp2
          go_ret
          exact ⟨⟨false, rfl, fun h => by cases h⟩, rfl⟩
        have e_41 : ((c.toNat : Int) == 41) = false := beq_eq_false_iff_ne.2 (by omega)
        have e_10 : ((c.toNat : Int) == 10) = false := beq_eq_false_iff_ne.2 (by omega)
        have n_10 : ((c.toNat : Int) != 10) = true := by rw [bne, e_10]; rfl
        have l_32 : decide ((c.toNat : Int) < 32) = false := decide_eq_false (by omega)
        have g_126 : decide ((126 : Int) < (c.toNat : Int)) = false := decide_eq_false (by omega)
        have HX := Lib.hid (HS.out (by omega))
        clear hp10 hc0 hc1 hc2 hc3
        go_wp2
        go_roundw
        case rel => exact ⟨k + 1, by omega, by omega, by go_num, trivial, HX.out⟩
        case measure => simp [RowKit.intOf]; omega
      · have e4 : ((p.toNat : Int) == 10) = false := beq_eq_false_iff_ne.2 (by omega)
        by_cases hc0 : c.toNat = 10
        · have e_10 : ((c.toNat : Int) == 10) = true := beq_iff_eq.2 (by omega)
          have n_10 : ((c.toNat : Int) != 10) = false := by rw [bne, e_10]; rfl
          have HX := Lib.hid (HS.out (by omega))
          clear hp10 hc0
          go_wp2
          go_roundw
          case rel => exact ⟨k + 1, by omega, by omega, by go_num, trivial, HX.out⟩
          case measure => simp [RowKit.intOf]; omega
        by_cases hc1 : c.toNat < 32
        · have e_10 : ((c.toNat : Int) == 10) = false := beq_eq_false_iff_ne.2 (by omega)
          have n_10 : ((c.toNat : Int) != 10) = true := by rw [bne, e_10]; rfl
          have l_32 : decide ((c.toNat : Int) < 32) = true := decide_eq_true (by omega)
          clear hp10 hc0 hc1
          go_wp2
          go_ret
          exact ⟨⟨false, rfl, fun h => by cases h⟩, rfl⟩
        by_cases hc2 : 126 < c.toNat
        · have e_10 : ((c.toNat : Int) == 10) = false := beq_eq_false_iff_ne.2 (by omega)
          have n_10 : ((c.toNat : Int) != 10) = true := by rw [bne, e_10]; rfl
          have l_32 : decide ((c.toNat : Int) < 32) = false := decide_eq_false (by omega)
          have g_126 : decide ((126 : Int) < (c.toNat : Int)) = true := decide_eq_true (by omega)
          clear hp10 hc0 hc1 hc2
          go_wp2
          go_ret
          exact ⟨⟨false, rfl, fun h => by cases h⟩, rfl⟩
        have e_10 : ((c.toNat : Int) == 10) = false := beq_eq_false_iff_ne.2 (by omega)
        have n_10 : ((c.toNat : Int) != 10) = true := by rw [bne, e_10]; rfl
        have l_32 : decide ((c.toNat : Int) < 32) = false := decide_eq_false (by omega)
        have g_126 : decide ((126 : Int) < (c.toNat : Int)) = false := decide_eq_false (by omega)
        have HX := Lib.hid (HS.out (by omega))
        clear hp10 hc0 hc1 hc2
        go_wp2
        go_roundw
        case rel => exact ⟨k + 1, by omega, by omega, by go_num, trivial, HX.out⟩
        case measure => simp [RowKit.intOf]; omega
    · have hke : k = s.size := by omega
      subst hke
      have hblk : Blk s := ⟨by omega, by rw [HB0.out]; omega, by rw [HBL.out]; omega, HA.out⟩
      have HK := Lib.hid hblk
      clear hblk
      go_wp2
      go_ret
      exact ⟨⟨true, rfl, fun _ => HK.out⟩, rfl⟩
end
end Go.Cf

/-
  The specification's small letters.
-/
namespace Go.Cf
open Go.RowKit Go.Conc Go.Proofs
theorem conv_byte (W : World) (c : UInt8) : (convert 27 9 (.slice (some ⟨W.heap.size, 0, none⟩) 1 1)).run Tryz.prog (W.alloc (.cells #[.int .u8 (c.toNat : Int)] 5)) = .ok (.string ⟨#[c]⟩) (W.alloc (.cells #[.int .u8 (c.toNat : Int)] 5)) := by
  refine run_convert_bytes_back _ 27 9 5 ⟨W.heap.size, 0, none⟩ 1 [c] Tryz.underlying27 Tryz.underlying5 Tryz.underlying9 (fun j hj => ?_)
  obtain rfl : j = 0 := by simpa using hj
  exact blk_cell (heap_alloc_new W (.cells #[.int .u8 (c.toNat : Int)] 5)) 0
/-- The small letters of the first bytes. -/
def lowPre (s : ByteArray) (k : Nat) : ByteArray := ⟨((Lib.toLowerA s.data.toList).take k).toArray⟩
theorem lowPre_size (s : ByteArray) (k : Nat) : (lowPre s k).size ≤ k := by
  show (((Lib.toLowerA s.data.toList).take k).toArray).size ≤ k
  simp
  omega
theorem lowPre_succ (s : ByteArray) (k : Nat) (hk : k < s.size) (c : UInt8) (hc : c = Lib.lowerB (s[k]'hk)) : lowPre s (k + 1) = lowPre s k ++ ⟨#[c]⟩ := by
  have hl : k < (Lib.toLowerA s.data.toList).length := by
    unfold Lib.toLowerA
    rw [List.length_map, data_length]
    exact hk
  unfold lowPre
  rw [List.take_succ_eq_append_getElem hl]
  have e : (Lib.toLowerA s.data.toList)[k] = c := by
    rw [hc]
    exact List.getElem_map Lib.lowerB
  rw [e]
  apply ByteArray.ext
  rw [ByteArray.data_append]
  simp
set_option maxRecDepth 100000 in
set_option maxHeartbeats 2000000 in
theorem dnLower_c (s : ByteArray) (hs : s.size ≤ 2147483647) (w : World) : Calls Tryz.prog 41 #[.string s] w fun e w' => e = .returned (.string ⟨(Lib.toLowerA s.data.toList).toArray⟩) ∧ Below w.heap.size w w' := by
  go_enter Tryz.func41, Tryz.ntmps41
  go_wp2_with fail
  go_loopw [3, 4] (fun o i wr => ∃ k : Nat, k ≤ s.size ∧ o = .string (lowPre s k) ∧ i = .int .i64 k ∧ Below w.heap.size w wr) (fun _ i _ => s.size - (RowKit.intOf i).toNat)
  case atStart => exact ⟨0, Nat.zero_le _, by unfold lowPre; simp, rfl, Below.refl _ _⟩
  case round =>
    obtain ⟨k, hk, rfl, rfl, hb⟩ := hrel
    by_cases hlt : k < s.size
    · have h1 : (k : Int) < (s.size : Int) := by omega
      have hz := lowPre_size s k
      have ht : ¬ 9223372036854775807 < (lowPre s k).size + 1 := by omega
      obtain ⟨b, hbb⟩ : ∃ b, b = s[k]'hlt := ⟨_, rfl⟩
      have hb1 : (s[k]'hlt) = b := hbb.symm
      by_cases hu : 65 ≤ b.toNat ∧ b.toNat ≤ 90
      · have e1 : decide ((65 : Int) ≤ (b.toNat : Int)) = true := decide_eq_true (by omega)
        have e2 : decide ((b.toNat : Int) ≤ 90) = true := decide_eq_true (by omega)
        have hcv := conv_byte wr (b + 32)
        have e3 : ((b + 32).toNat : Int) = (b.toNat : Int) + 32 := by rw [UInt8.toNat_add]; show (((b.toNat + 32) % 256 : Nat) : Int) = _; omega
        rw [e3] at hcv
        have hp := lowPre_succ s k hlt (b + 32) (by
          have : Lib.isUpperB b = true := by unfold Lib.isUpperB; simp only [Bool.and_eq_true, decide_eq_true_eq, UInt8.le_iff_toNat_le]; exact hu
          rw [hb1, Lib.lowerB, if_pos this])
        have HP := Lib.hid hp
        clear hp e3 hbb
        go_wp2
        go_roundw
        case rel => exact ⟨k + 1, by omega, by rw [HP.out], by go_num, hb.alloc hb.size _⟩
        case measure => simp [RowKit.intOf]; omega
      · have hlow : Lib.lowerB b = b := by
          have : Lib.isUpperB b = false := by
            unfold Lib.isUpperB
            rw [← Bool.not_eq_true]
            simp only [Bool.and_eq_true, decide_eq_true_eq, UInt8.le_iff_toNat_le]
            exact hu
          rw [Lib.lowerB, if_neg (by rw [this]; decide)]
        have hp := lowPre_succ s k hlt b (by rw [hb1, hlow])
        have hcv := conv_byte wr b
        have HP := Lib.hid hp
        clear hp hbb hlow
        by_cases h6 : 65 ≤ b.toNat
        · have e1 : decide ((65 : Int) ≤ (b.toNat : Int)) = true := decide_eq_true (by omega)
          have e2 : decide ((b.toNat : Int) ≤ 90) = false := decide_eq_false (by omega)
          go_wp2
          go_roundw
          case rel => exact ⟨k + 1, by omega, by rw [HP.out], by go_num, hb.alloc hb.size _⟩
          case measure => simp [RowKit.intOf]; omega
        · have e1 : decide ((65 : Int) ≤ (b.toNat : Int)) = false := decide_eq_false (by omega)
          go_wp2
          go_roundw
          case rel => exact ⟨k + 1, by omega, by rw [HP.out], by go_num, hb.alloc hb.size _⟩
          case measure => simp [RowKit.intOf]; omega
    · have hke : k = s.size := by omega
      subst hke
      have hfull : lowPre s s.size = ⟨(Lib.toLowerA s.data.toList).toArray⟩ := by
        unfold lowPre
        rw [List.take_of_length_le (by unfold Lib.toLowerA; rw [List.length_map, data_length]; exact Nat.le_refl _)]
      have HF := Lib.hid hfull
      clear hfull
      go_wp2
      go_ret
      exact ⟨by rw [← HF.out]; rfl, hb⟩
end Go.Cf

/-
  A text that is no configuration: the parser's loop ends in an error.
-/
namespace Go.Cf
open Go.RowKit Go.Conc Go.Proofs
attribute [local go_sem] run_store_flt
abbrev LW := Lab → World → Prop
section
variable {lab lab1 lab00 : Lab} {w w1 w00 : World} {p r : Nat}
end
end Go.Cf

/-
  Items while a text is refused: errors, keys, in either way of reading.
-/
namespace Go.Cf
open Go.RowKit Go.Conc Go.Proofs
section
variable {K : PK} {X : PX} {L L' : LX} {lab lab1 : Lab} {w w1 : World} {n : Nat} {its : List Value}
end
end Go.Cf

/-
  Keys with their items: the reading that keeps places.
-/
namespace Go.Cf
open Go.RowKit Go.Conc Go.Proofs
section
variable {K : PK} {X : PX} {L L' : LX} {lab lab1 : Lab} {w w1 : World} {n : Nat} {top cv kv : Value}
end
end Go.Cf

/-
  A value with its place is laid into a map, into a list.
-/
namespace Go.Cf
open Go.RowKit Go.Conc Go.Proofs
attribute [local go_sem ↓] ta_61_75 ta_75_75 ta_61_61 ta_75_61
section
variable {K : PK} {X : PX} {L L' : LX} {lab lab1 : Lab} {w w1 : World} {n : Nat} {top cv kv : Value} {vs : List Value}
end
end Go.Cf

/-
  Values while a text is refused: whole numbers, strings.
-/
namespace Go.Cf
open Go.RowKit Go.Conc Go.Proofs
section
variable {K : PK} {X X' : PX} {L L' : LX} {lab lab1 : Lab} {w w1 : World} {n : Nat} {top cv kv : Value} {vs : List Value}
end
end Go.Cf

/-
  Strings, lists, variables while a text is refused.
-/
namespace Go.Cf
open Go.RowKit Go.Conc Go.Proofs
theorem mk75z (w : World) : (Instr.makeSlice 75 (.int .i64 0) (.int .i64 0)).run Tryz.prog w = .ok (.slice (some ⟨w.heap.size, 0, none⟩) 0 0) (w.alloc (.cells #[] 20)) := by kernel_rfl
attribute [local go_sem ↓] mk75z
section
variable {K : PK} {X X' : PX} {L L' : LX} {lab lab1 : Lab} {w w1 : World} {n : Nat} {top cv kv : Value} {vs : List Value}
end
end Go.Cf

/-
  A text is refused: by plain data of the lexer.
-/
namespace Go.Cf
open Go.RowKit Go.Conc Go.Proofs
section
variable {K : PK} {X X' : PX} {L L' : LX} {lab lab1 : Lab} {w w1 : World} {n p q st q1 st1 ty : Nat} {top cv kv : Value} {vs its : List Value} {S : LX → LW} {s val : ByteArray} {stk stk1 : List Nat} {t t1 : Tag} {line : Int}
end
end Go.Cf

/-
  errorf: an error is sent, and no state follows.
-/
namespace Go.Cf
open Go.RowKit Go.Conc Go.Proofs
section
variable {base : Nat} {S0 : Nat → Prop} {w0 w w1 : World} {b : Nat} {L L' : LX}
end
end Go.Cf

/-
  The lexer's states, path by path: errors, and more of values.
-/
namespace Go.Cf
open Go.RowKit Go.Conc Go.Proofs
section
variable {L : LX}
theorem val_neg (ok : L.Ok) (hc : L.chr = 45) : Goes1 174 L L.nxt (plainT 184) := by
  have e_91_86 : (((L.chr : Nat) : Int) == 91) = false := beq_eq_false_iff_ne.2 (by omega)
  have e_123_86 : (((L.chr : Nat) : Int) == 123) = false := beq_eq_false_iff_ne.2 (by omega)
  have e_39_86 : (((L.chr : Nat) : Int) == 39) = false := beq_eq_false_iff_ne.2 (by omega)
  have e_34_86 : (((L.chr : Nat) : Int) == 34) = false := beq_eq_false_iff_ne.2 (by omega)
  have e_45_86 : (((L.chr : Nat) : Int) == 45) = true := beq_iff_eq.2 (by omega)
  have e1 : isWS L.chr = false := by rw [hc]; rfl
  clear hc
  intro base S0 w0 w b h0
  go_enter Tryz.func174, Tryz.ntmps174
  go_wp2_with fail
  refine (next_c h0 ok).mono ?_
  rintro e w1 ⟨rfl, h1⟩
  go_wp2_with fail
  refine (isWS_c _ (chr_lt ok) _).mono ?_
  rintro e w' ⟨rfl, rfl⟩
  go_wp2_with fail
  go_ret
  exact ⟨_, rfl, h1.plain _⟩
theorem val_blk (ok : L.Ok) (hc : L.chr = 40) : Goes1 174 L L.nxt.ign (plainT 185) := by
  have e_91_86 : (((L.chr : Nat) : Int) == 91) = false := beq_eq_false_iff_ne.2 (by omega)
  have e_123_86 : (((L.chr : Nat) : Int) == 123) = false := beq_eq_false_iff_ne.2 (by omega)
  have e_39_86 : (((L.chr : Nat) : Int) == 39) = false := beq_eq_false_iff_ne.2 (by omega)
  have e_34_86 : (((L.chr : Nat) : Int) == 34) = false := beq_eq_false_iff_ne.2 (by omega)
  have e_45_86 : (((L.chr : Nat) : Int) == 45) = false := beq_eq_false_iff_ne.2 (by omega)
  have e_40_86 : (((L.chr : Nat) : Int) == 40) = true := beq_iff_eq.2 (by omega)
  have e1 : isWS L.chr = false := by rw [hc]; rfl
  clear hc
  intro base S0 w0 w b h0
  go_enter Tryz.func174, Tryz.ntmps174
  go_wp2_with fail
  refine (next_c h0 ok).mono ?_
  rintro e w1 ⟨rfl, h1⟩
  go_wp2_with fail
  refine (isWS_c _ (chr_lt ok) _).mono ?_
  rintro e w' ⟨rfl, rfl⟩
  go_wp2_with fail
  refine (ign_c h1).mono ?_
  rintro e w2 ⟨rfl, h2⟩
  go_wp2_with fail
  go_ret
  exact ⟨_, rfl, h2.plain _⟩
theorem val_arr (ok : L.Ok) (rdy : L.Rdy) (hc : L.chr = 91) : Goes1 174 L (L.nxt.ign.emit 10 L.nxt.ign.txt) (plainT 180) := by
  have e_91_86 : (((L.chr : Nat) : Int) == 91) = true := beq_iff_eq.2 (by omega)
  have e1 : isWS L.chr = false := by rw [hc]; rfl
  clear hc
  intro base S0 w0 w b h0
  go_enter Tryz.func174, Tryz.ntmps174
  go_wp2_with fail
  refine (next_c h0 ok).mono ?_
  rintro e w1 ⟨rfl, h1⟩
  go_wp2_with fail
  refine (isWS_c _ (chr_lt ok) _).mono ?_
  rintro e w' ⟨rfl, rfl⟩
  go_wp2_with fail
  refine (ign_c h1).mono ?_
  rintro e w2 ⟨rfl, h2⟩
  go_wp2_with fail
  refine (emit_c 10 h2 ok.nxt.ign (by show L.nxt.parts = []; simpa [nxt_parts] using rdy.parts) (Nat.le_refl _) (by show L.nxt.q.length < 10; simpa [nxt_q] using rdy.q)).mono ?_
  rintro e w3 ⟨rfl, h3⟩
  go_wp2_with fail
  go_ret
  exact ⟨_, rfl, h3.plain _⟩
theorem blk_ch (ok : L.Ok) (h1 : L.chr ≠ 41) (h2 : L.chr ≠ 0) : Goes1 185 L L.nxt (plainT 185) := by
  have e_41_86 : (((L.chr : Nat) : Int) == 41) = false := beq_eq_false_iff_ne.2 (by omega)
  have e_0_86 : (((L.chr : Nat) : Int) == 0) = false := beq_eq_false_iff_ne.2 (by omega)
  clear h1 h2
  intro base S0 w0 w b h0
  go_enter Tryz.func185, Tryz.ntmps185
  go_wp2_with fail
  refine (next_c h0 ok).mono ?_
  rintro e w1 ⟨rfl, h1⟩
  go_wp2_with fail
  go_ret
  exact ⟨_, rfl, h1.plain _⟩
theorem num_ws (ok : L.Ok) (rdy : L.Rdy) (st : List Nat) (n : Nat) (hst : L.stack = st ++ [n]) (hl : st.length ≤ 1000000) (hc : L.chr = 32) : Goes1 199 L ((L.pk.emit 7 L.pk.txt).stk st) (plainT n) := by
  have e_45_86 : (((L.chr : Nat) : Int) == 45) = false := beq_eq_false_iff_ne.2 (by omega)
  have e_46_86 : (((L.chr : Nat) : Int) == 46) = false := beq_eq_false_iff_ne.2 (by omega)
  have e_0_86 : (((L.chr : Nat) : Int) == 0) = false := beq_eq_false_iff_ne.2 (by omega)
  have e_125_86 : (((L.chr : Nat) : Int) == 125) = false := beq_eq_false_iff_ne.2 (by omega)
  have e_59_86 : (((L.chr : Nat) : Int) == 59) = false := beq_eq_false_iff_ne.2 (by omega)
  have e_44_86 : (((L.chr : Nat) : Int) == 44) = false := beq_eq_false_iff_ne.2 (by omega)
  have e1 : isDig L.chr = false := by rw [hc]; rfl
  have e2 : isSuf L.chr = false := by rw [hc]; rfl
  have e3 : isNLb L.chr = false := by rw [hc]; rfl
  have e4 : isWS L.chr = true := by rw [hc]; rfl
  clear hc
  intro base S0 w0 w b h0
  go_enter Tryz.func199, Tryz.ntmps199
  go_wp2_with fail
  refine (next_c h0 ok).mono ?_
  rintro e w1 ⟨rfl, h1⟩
  go_wp2_with fail
  refine (isDig_c _ (chr_lt ok) _).mono ?_
  rintro e w' ⟨rfl, rfl⟩
  go_wp2_with fail
  refine (isSuf_c _ (chr_lt ok) _).mono ?_
  rintro e w' ⟨rfl, rfl⟩
  go_wp2_with fail
  refine (isNLb_c _ (chr_lt ok) _).mono ?_
  rintro e w' ⟨rfl, rfl⟩
  go_wp2_with fail
  refine (isWS_c _ (chr_lt ok) _).mono ?_
  rintro e w' ⟨rfl, rfl⟩
  go_wp2_with fail
  refine (back_c h1 ok.nxt (nxt_width _)).mono ?_
  rintro e w2 ⟨rfl, h2⟩
  rw [nxt_back] at h2
  go_wp2_with fail
  refine (emit_c 7 h2 ok.pk (by simpa [nxt_parts, pk_parts] using rdy.parts) (by have := rdy.start; simp only [pk_start, pk_pos]; omega) (by simpa [nxt_q, pk_q] using rdy.q)).mono ?_
  rintro e w3 ⟨rfl, h3⟩
  go_wp2_with fail
  refine (pop_c st n h3 (by show L.pk.stack = _; rw [pk_stack]; exact hst) hl).mono ?_
  rintro e w4 ⟨rfl, h4⟩
  go_wp2_with fail
  go_ret
  exact ⟨_, rfl, h4.plain _⟩
theorem arr_other (ok : L.Ok) (hst : L.stack.length ≤ 1000000) (e1 : isSp L.chr = false) (h1 : L.chr ≠ 35) (h2 : L.chr ≠ 47) (h3 : L.chr ≠ 44) (h4 : L.chr ≠ 93) : Goes1 180 L (L.pk.psh 190) (plainT 174) := by
  have e_35_86 : (((L.chr : Nat) : Int) == 35) = false := beq_eq_false_iff_ne.2 (by omega)
  have e_47_86 : (((L.chr : Nat) : Int) == 47) = false := beq_eq_false_iff_ne.2 (by omega)
  have e_44_86 : (((L.chr : Nat) : Int) == 44) = false := beq_eq_false_iff_ne.2 (by omega)
  have e_93_86 : (((L.chr : Nat) : Int) == 93) = false := beq_eq_false_iff_ne.2 (by omega)
  clear h1 h2 h3 h4
  intro base S0 w0 w b h0
  go_enter Tryz.func180, Tryz.ntmps180
  go_wp2_with fail
  refine (next_c h0 ok).mono ?_
  rintro e w1 ⟨rfl, h1⟩
  go_wp2_with fail
  refine (isSp_c _ (chr_lt ok) _).mono ?_
  rintro e w' ⟨rfl, rfl⟩
  go_wp2_with fail
  refine (back_c h1 ok.nxt (nxt_width _)).mono ?_
  rintro e w2 ⟨rfl, h2⟩
  rw [nxt_back] at h2
  go_wp2_with fail
  refine (push_c h2 190 (by rw [pk_stack]; exact hst)).mono ?_
  rintro e w3 ⟨rfl, h3⟩
  go_wp2_with fail
  go_ret
  exact ⟨_, rfl, h3.plain _⟩
theorem arrend_ws (ok : L.Ok) (e1 : isWS L.chr = true) : Goes1 190 L L.nxt (skipT 190) := by
  intro base S0 w0 w b h0
  go_enter Tryz.func190, Tryz.ntmps190
  go_wp2_with fail
  refine (next_c h0 ok).mono ?_
  rintro e w1 ⟨rfl, h1⟩
  go_wp2_with fail
  refine (isWS_c _ (chr_lt ok) _).mono ?_
  rintro e w' ⟨rfl, rfl⟩
  go_wp2_with fail
  refine (skipV_c h1 190).mono ?_
  rintro e w2 ⟨rfl, hv⟩
  go_wp2_with fail
  go_ret
  exact ⟨_, rfl, hv⟩
end
end Go.Cf

/-
  Strings without quotes: whether they are truths, variables; an item of a string.
-/
namespace Go.Cf
open Go.RowKit Go.Conc Go.Proofs
/-- A word for a truth. -/
def boolWord (s : ByteArray) : Bool :=
  (Lib.toLowerA s.data.toList == [116, 114, 117, 101]) || (Lib.toLowerA s.data.toList == [102, 97, 108, 115, 101]) || (Lib.toLowerA s.data.toList == [111, 110]) || (Lib.toLowerA s.data.toList == [111, 102, 102]) ||
    (Lib.toLowerA s.data.toList == [121, 101, 115]) || (Lib.toLowerA s.data.toList == [110, 111])
section
variable {base : Nat} {S0 : Nat → Prop} {w0 w w1 : World} {b : Nat} {L L' : LX}
set_option maxRecDepth 100000 in
theorem hasEsc_c (h : At base S0 w0 w b L) (hp : L.parts = []) : Calls Tryz.prog 200 #[.pointer (some ⟨b, 0, none⟩)] w fun e w' => e = .returned (.bool false) ∧ At base S0 w0 w' b L := by
  obtain ⟨A8, c8n, c8⟩ := h.pv hp
  go_enter Tryz.func200, Tryz.ntmps200
  go_wp2
  go_ret
  exact ⟨rfl, h⟩
set_option maxRecDepth 100000 in
theorem isBool_c (h : At base S0 w0 w b L) (ok : L.Ok) (rdy : L.Rdy) (hk : boolWord L.txt = false) :
    Calls Tryz.prog 201 #[.pointer (some ⟨b, 0, none⟩)] w fun e w' => e = .returned (.bool false) ∧ At base S0 w0 w' b L := by
  have c0 := h.c0
  have c1 := h.c1
  have c2 := h.c2
  have hsm := ok.small
  have hpp := ok.pos
  have hst := rdy.start
  have ha := toList_txt L ok
  simp only [boolWord, Bool.or_eq_false_iff] at hk
  obtain ⟨⟨⟨⟨⟨k1, k2⟩, k3⟩, k4⟩, k5⟩, k6⟩ := hk
  have hsz : L.txt.size ≤ 140737488355328 := by unfold LX.txt; simp; omega
  obtain ⟨t, ht⟩ : ∃ t, t = L.txt := ⟨_, rfl⟩
  have ht2 : L.inp.extract L.start L.pos = t := ht.symm
  rw [← ht] at ha k1 k2 k3 k4 k5 k6 hsz
  have HA := Lib.hid ha
  clear ha ht
  go_enter Tryz.func201, Tryz.ntmps201
  go_wp2
  refine wp_still_tail 13 mixed (by kernel_rfl) ?_
  simp only [List.take_succ_cons, List.take_zero, List.drop_succ_cons, List.drop_zero]
  repeat still_step
  refine wpStill_nil ?_
  go_wp2_with fail
  refine (Tryz.strings_ToLower_ascii t _ hsz HA.out).mono ?_
  rintro e w1 ⟨rfl, hb⟩
  have h1 := At.below (h.drewN 1) hb
  clear c0 c1 c2 hb
  go_wp2
  go_ret
  exact ⟨rfl, h1⟩
set_option maxRecDepth 100000 in
theorem isVar_no (h : At base S0 w0 w b L) (ok : L.Ok) (hk : L.start < L.inp.size → byteAt L.inp L.start ≠ 36) :
    Calls Tryz.prog 202 #[.pointer (some ⟨b, 0, none⟩)] w fun e w' => e = .returned (.bool false) ∧ At base S0 w0 w' b L := by
  have c0 := h.c0
  have c1 := h.c1
  have hsm := ok.small
  by_cases hs : L.start < L.inp.size
  · have h1 : (L.start : Int) < (L.inp.size : Int) := by omega
    have hne := hk hs
    rw [← byteAt_get _ _ hs] at hne
    have e1 : (((L.inp[L.start]'hs).toNat : Int) == 36) = false := beq_eq_false_iff_ne.2 (by omega)
    have e2 : decide ((L.inp.size : Int) ≤ (L.start : Int)) = false := decide_eq_false (by omega)
    go_enter Tryz.func202, Tryz.ntmps202
    go_wp2_with fail
    go_quiet (fail)
    go_wp2_with fail
    go_quiet (fail)
    go_wp2
    go_ret
    exact ⟨rfl, (h.drewN _).drewN _⟩
  · have e2 : decide ((L.inp.size : Int) ≤ (L.start : Int)) = true := decide_eq_true (by omega)
    go_enter Tryz.func202, Tryz.ntmps202
    go_wp2_with fail
    go_quiet (fail)
    go_wp2
    go_ret
    exact ⟨rfl, h.drewN _⟩
set_option maxRecDepth 100000 in
set_option maxHeartbeats 800000 in
theorem emitString_c (h : At base S0 w0 w b L) (ok : L.Ok) (hp : L.parts = []) (hs : L.start ≤ L.pos) (hq : L.q.length < 10) :
    Calls Tryz.prog 197 #[.pointer (some ⟨b, 0, none⟩)] w fun e w' => e = .returned (.tuple #[]) ∧ At base S0 w0 w' b (L.emit 5 L.txt) := by
  obtain ⟨A8, c8n, c8⟩ := h.pv hp
  have c0 := h.c0
  have c1 := h.c1
  have c2 := h.c2
  have c4 := h.c4
  have c6 := h.c6
  have c10 := h.c10
  have c11 := h.c11
  have f1 := h.free 1
  have f11 := h.free 11
  have hsm := ok.small
  have hpp := ok.pos
  have hil := ok.ilstart
  have hl0 := ok.line0
  have hl1 := ok.line1
  have hxs : (L.inp.extract L.start L.pos).size ≤ 1000000 := by simp; omega
  have HQ := Lib.hid hq
  have HP := Lib.hid hp
  clear hq hp
  refine calls_of_wpN Tryz.func197 rfl ?_
  simp only [Tryz.ntmps197, List.size_toArray, List.length_cons, List.length_nil, Nat.reduceAdd, Nat.reduceSub, Array.replicate_succ, Array.replicate_zero, List.push_toArray, List.append_toArray, List.nil_append, List.cons_append]
  refine wpN_seq_k (fun K hK => ?_)
  go_wp2
  refine wpN_seq_k (fun K hK => ?_)
  go_wp2
  go_quiet (fail)
  go_wp2
  refine wpN_seq_k (fun K hK => ?_)
  go_quiet (fail)
  go_wp2
  refine wpN_seq (wpN_send 11 mixed (by kernel_rfl) ?_)
  simp only [unsent, List.modify_succ_cons, List.modify_zero_cons]
  repeat still_step
  refine wpStill_nil ?_
  refine Lst.send (c := L.ch) (cap := 10) (buf := (L.q.map It.v).toArray) (s := L.cs) (r := L.cr) (tm := false) (z := .tuple #[]) (v := .agg #[i64 5, .string (L.inp.extract L.start L.pos), i64 L.line, i64 ((L.pos : Int) - L.ilstart - ((L.pos - L.start : Nat) : Int))]) rfl rfl rfl h.heapCh (by simpa using HQ.out) ?_
  refine Lst.nil ?_
  have hsz : (L.txt.size : Int) = ((L.pos - L.start : Nat) : Int) := by unfold LX.txt; simp; omega
  have hv : It.v ⟨5, L.txt, L.line, (L.pos : Int) - L.ilstart - L.txt.size⟩ = .agg #[i64 5, .string (L.inp.extract L.start L.pos), i64 L.line, i64 ((L.pos : Int) - L.ilstart - ((L.pos - L.start : Nat) : Int))] := by rw [hsz]; rfl
  have hC := h.chan (L.q ++ [⟨5, L.txt, L.line, (L.pos : Int) - L.ilstart - L.txt.size⟩]) (L.cs + 1) L.cr
  rw [List.map_append, List.map_singleton, hv, ← List.push_toArray] at hC
  simp only [Exit.then]
  refine wpN_of_wp (via (At.any hC rfl rfl rfl rfl) (fun W h2 => ?_))
  clear c0 c1 c2 c4 c6 c8 c10 c11 f1 f11 hC hv hsz hxs
  have c1 := h2.c1
  have c2 := h2.c2
  have c10 := h2.c10
  have c11 := h2.c11
  have f1 := h2.free 1
  have f11 := h2.free 11
  go_wp2
  go_end0
  exact ⟨rfl, At.any ((h2.set (L' := { L with q := L.q ++ [⟨5, L.txt, L.line, (L.pos : Int) - L.ilstart - L.txt.size⟩], cs := L.cs + 1, start := L.pos }) 1 (i64 L.pos) (fun _ _ _ => rfl) rfl rfl rfl rfl rfl rfl rfl).set (L' := L.emit 5 L.txt) 11 (i64 L.lstart) (fun _ _ _ => rfl) rfl rfl rfl rfl rfl rfl rfl) rfl rfl rfl rfl⟩
end
end Go.Cf

/-
  The lexer's states, path by path: strings.
-/
namespace Go.Cf
open Go.RowKit Go.Conc Go.Proofs
/-- The state that follows a string's escape. -/
def LX.ssfd (L : LX) (n : Nat) : LX := { L with ssf := some n }
theorem At.ssfd {base : Nat} {S0 : Nat → Prop} {w0 w : World} {b : Nat} {L : LX} (h : At base S0 w0 w b L) (n : Nat) : At base S0 w0 (w.setCell ⟨b, 9, none⟩ (fnV n)) b (L.ssfd n) :=
  h.set (L' := L.ssfd n) 9 (fnV n) (fun _ _ _ => rfl) rfl rfl rfl rfl rfl rfl rfl
theorem LX.Ok.ssfd {L : LX} (ok : L.Ok) (n : Nat) : (L.ssfd n).Ok := ⟨ok.small, ok.pos, ok.start, ok.width, ok.lstart, ok.ilstart, ok.line, ok.asc⟩
attribute [local go_sem] run_store_fn
section
variable {L : LX}
theorem val_str (ok : L.Ok) (e1 : isWS L.chr = false) (e2 : isDig L.chr = false) (e3 : isNLb L.chr = false) (h1 : L.chr ≠ 91) (h2 : L.chr ≠ 123) (h3 : L.chr ≠ 39) (h4 : L.chr ≠ 34) (h5 : L.chr ≠ 45) (h6 : L.chr ≠ 40) (h7 : L.chr ≠ 46) : Goes1 174 L (L.pk.ssfd 187) (plainT 187) := by
  have e_91_693 : (((L.chr : Nat) : Int) == 91) = false := beq_eq_false_iff_ne.2 (by omega)
  have e_123_693 : (((L.chr : Nat) : Int) == 123) = false := beq_eq_false_iff_ne.2 (by omega)
  have e_39_693 : (((L.chr : Nat) : Int) == 39) = false := beq_eq_false_iff_ne.2 (by omega)
  have e_34_693 : (((L.chr : Nat) : Int) == 34) = false := beq_eq_false_iff_ne.2 (by omega)
  have e_45_693 : (((L.chr : Nat) : Int) == 45) = false := beq_eq_false_iff_ne.2 (by omega)
  have e_40_693 : (((L.chr : Nat) : Int) == 40) = false := beq_eq_false_iff_ne.2 (by omega)
  have e_46_693 : (((L.chr : Nat) : Int) == 46) = false := beq_eq_false_iff_ne.2 (by omega)
  clear h1 h2 h3 h4 h5 h6 h7
  intro base S0 w0 w b h0
  go_enter Tryz.func174, Tryz.ntmps174
  go_wp2_with fail
  refine (next_c h0 ok).mono ?_
  rintro e w1 ⟨rfl, h1⟩
  go_wp2_with fail
  refine (isWS_c _ (chr_lt ok) _).mono ?_
  rintro e w' ⟨rfl, rfl⟩
  go_wp2_with fail
  refine (isDig_c _ (chr_lt ok) _).mono ?_
  rintro e w' ⟨rfl, rfl⟩
  go_wp2_with fail
  refine (isNLb_c _ (chr_lt ok) _).mono ?_
  rintro e w' ⟨rfl, rfl⟩
  go_wp2_with fail
  refine (back_c h1 ok.nxt (nxt_width _)).mono ?_
  rintro e w2 ⟨rfl, h2⟩
  rw [nxt_back] at h2
  have c9 := h2.c9
  have f9 := h2.free 9
  go_wp2
  go_ret
  exact ⟨_, rfl, (h2.ssfd 187).plain _⟩
theorem val_dq (ok : L.Ok) (hc : L.chr = 34) : Goes1 174 L (L.nxt.ign.ssfd 183) (plainT 183) := by
  have e_91_693 : (((L.chr : Nat) : Int) == 91) = false := beq_eq_false_iff_ne.2 (by omega)
  have e_123_693 : (((L.chr : Nat) : Int) == 123) = false := beq_eq_false_iff_ne.2 (by omega)
  have e_39_693 : (((L.chr : Nat) : Int) == 39) = false := beq_eq_false_iff_ne.2 (by omega)
  have e_34_693 : (((L.chr : Nat) : Int) == 34) = true := beq_iff_eq.2 (by omega)
  have e1 : isWS L.chr = false := by rw [hc]; rfl
  clear hc
  intro base S0 w0 w b h0
  go_enter Tryz.func174, Tryz.ntmps174
  go_wp2_with fail
  refine (next_c h0 ok).mono ?_
  rintro e w1 ⟨rfl, h1⟩
  go_wp2_with fail
  refine (isWS_c _ (chr_lt ok) _).mono ?_
  rintro e w' ⟨rfl, rfl⟩
  go_wp2_with fail
  refine (ign_c h1).mono ?_
  rintro e w2 ⟨rfl, h2⟩
  have c9 := h2.c9
  have f9 := h2.free 9
  go_wp2
  go_ret
  exact ⟨_, rfl, (h2.ssfd 183).plain _⟩
theorem str_ch (ok : L.Ok) (e1 : isNLb L.chr = false) (e2 : isWS L.chr = false) (h1 : L.chr ≠ 92) (h2 : L.chr ≠ 0) (h3 : L.chr ≠ 59) (h4 : L.chr ≠ 44) (h5 : L.chr ≠ 93) (h6 : L.chr ≠ 125) (h7 : L.chr ≠ 39) : Goes1 187 L L.nxt (plainT 187) := by
  have e_92_693 : (((L.chr : Nat) : Int) == 92) = false := beq_eq_false_iff_ne.2 (by omega)
  have e_0_693 : (((L.chr : Nat) : Int) == 0) = false := beq_eq_false_iff_ne.2 (by omega)
  have e_59_693 : (((L.chr : Nat) : Int) == 59) = false := beq_eq_false_iff_ne.2 (by omega)
  have e_44_693 : (((L.chr : Nat) : Int) == 44) = false := beq_eq_false_iff_ne.2 (by omega)
  have e_93_693 : (((L.chr : Nat) : Int) == 93) = false := beq_eq_false_iff_ne.2 (by omega)
  have e_125_693 : (((L.chr : Nat) : Int) == 125) = false := beq_eq_false_iff_ne.2 (by omega)
  have e_39_693 : (((L.chr : Nat) : Int) == 39) = false := beq_eq_false_iff_ne.2 (by omega)
  clear h1 h2 h3 h4 h5 h6 h7
  intro base S0 w0 w b h0
  go_enter Tryz.func187, Tryz.ntmps187
  go_wp2_with fail
  refine (next_c h0 ok).mono ?_
  rintro e w1 ⟨rfl, h1⟩
  go_wp2_with fail
  refine (isNLb_c _ (chr_lt ok) _).mono ?_
  rintro e w' ⟨rfl, rfl⟩
  go_wp2_with fail
  refine (isWS_c _ (chr_lt ok) _).mono ?_
  rintro e w' ⟨rfl, rfl⟩
  go_wp2_with fail
  go_ret
  exact ⟨_, rfl, h1.plain _⟩
theorem str_ws (ok : L.Ok) (rdy : L.Rdy) (st : List Nat) (n : Nat) (hst : L.stack = st ++ [n]) (hl : st.length ≤ 1000000) (hb : boolWord L.pk.txt = false) (hv : L.pk.start < L.pk.inp.size → byteAt L.pk.inp L.pk.start ≠ 36) (hc : L.chr = 32) : Goes1 187 L ((L.pk.emit 5 L.pk.txt).stk st) (plainT n) := by
  have e_92_693 : (((L.chr : Nat) : Int) == 92) = false := beq_eq_false_iff_ne.2 (by omega)
  have e_0_693 : (((L.chr : Nat) : Int) == 0) = false := beq_eq_false_iff_ne.2 (by omega)
  have e_59_693 : (((L.chr : Nat) : Int) == 59) = false := beq_eq_false_iff_ne.2 (by omega)
  have e_44_693 : (((L.chr : Nat) : Int) == 44) = false := beq_eq_false_iff_ne.2 (by omega)
  have e_93_693 : (((L.chr : Nat) : Int) == 93) = false := beq_eq_false_iff_ne.2 (by omega)
  have e_125_693 : (((L.chr : Nat) : Int) == 125) = false := beq_eq_false_iff_ne.2 (by omega)
  have e1 : isNLb L.chr = false := by rw [hc]; rfl
  have e2 : isWS L.chr = true := by rw [hc]; rfl
  have HB := Lib.hid hb
  have HV := Lib.hid hv
  clear hc hb hv
  intro base S0 w0 w b h0
  go_enter Tryz.func187, Tryz.ntmps187
  go_wp2_with fail
  refine (next_c h0 ok).mono ?_
  rintro e w1 ⟨rfl, h1⟩
  go_wp2_with fail
  refine (isNLb_c _ (chr_lt ok) _).mono ?_
  rintro e w' ⟨rfl, rfl⟩
  go_wp2_with fail
  refine (isWS_c _ (chr_lt ok) _).mono ?_
  rintro e w' ⟨rfl, rfl⟩
  go_wp2_with fail
  refine (back_c h1 ok.nxt (nxt_width _)).mono ?_
  rintro e w2 ⟨rfl, h2⟩
  rw [nxt_back] at h2
  go_wp2_with fail
  refine (hasEsc_c h2 (by simpa [pk_parts] using rdy.parts)).mono ?_
  rintro e w3 ⟨rfl, h3⟩
  go_wp2_with fail
  refine (isBool_c h3 ok.pk ⟨(by simpa [pk_parts] using rdy.parts), (by have := rdy.start; simp only [pk_start, pk_pos]; omega), (by simpa [pk_q] using rdy.q)⟩ HB.out).mono ?_
  rintro e w4 ⟨rfl, h4⟩
  go_wp2_with fail
  refine (isVar_no h4 ok.pk HV.out).mono ?_
  rintro e w5 ⟨rfl, h5⟩
  go_wp2_with fail
  refine (emitString_c h5 ok.pk (by simpa [pk_parts] using rdy.parts) (by have := rdy.start; simp only [pk_start, pk_pos]; omega) (by simpa [pk_q] using rdy.q)).mono ?_
  rintro e w6 ⟨rfl, h6⟩
  go_wp2_with fail
  refine (pop_c st n h6 (by show L.pk.stack = _; rw [pk_stack]; exact hst) hl).mono ?_
  rintro e w7 ⟨rfl, h7⟩
  go_wp2_with fail
  go_ret
  exact ⟨_, rfl, h7.plain _⟩
theorem dq_ch (ok : L.Ok) (h1 : L.chr ≠ 92) (h2 : L.chr ≠ 34) (h3 : L.chr ≠ 0) : Goes1 183 L L.nxt (plainT 183) := by
  have e_92_693 : (((L.chr : Nat) : Int) == 92) = false := beq_eq_false_iff_ne.2 (by omega)
  have e_34_693 : (((L.chr : Nat) : Int) == 34) = false := beq_eq_false_iff_ne.2 (by omega)
  have e_0_693 : (((L.chr : Nat) : Int) == 0) = false := beq_eq_false_iff_ne.2 (by omega)
  clear h1 h2 h3
  intro base S0 w0 w b h0
  go_enter Tryz.func183, Tryz.ntmps183
  go_wp2_with fail
  refine (next_c h0 ok).mono ?_
  rintro e w1 ⟨rfl, h1⟩
  go_wp2_with fail
  go_ret
  exact ⟨_, rfl, h1.plain _⟩
end
end Go.Cf

/-
  The lexer's steps to an error, and through strings and lists, by plain data.
-/
namespace Go.Cf
open Go.RowKit Go.Conc Go.Proofs
section
variable {s : ByteArray} {p st : Nat} {stk : List Nat} {L : LX}
theorem LX.Is0.ssfd (h : L.Is0 s p st stk) (n : Nat) : (L.ssfd n).Is0 s p st stk := ⟨h.ok.ssfd n, h.inp, h.pos, h.start, h.stack, h.parts, h.q⟩
theorem enters184 : Enters 184 := fun args w => by kernel_rfl
theorem enters185 : Enters 185 := fun args w => by kernel_rfl
theorem enters190 : Enters 190 := fun args w => by kernel_rfl
theorem enters183 : Enters 183 := fun args w => by kernel_rfl
theorem ld_val_neg (hp : p < s.size) (e : byteAt s p = 45) : Leads s p st stk (plainT 174) (p + 1) st stk (plainT 184) := by
  rintro L ⟨h, hs⟩
  have hc := h.chr hp
  exact ⟨1, _, run1 hs enters174 h.q (val_neg h.ok (by rw [hc]; exact e)), (h.nxt hp).goes _⟩
theorem ld_val_blk (hp : p < s.size) (e : byteAt s p = 40) : Leads s p st stk (plainT 174) (p + 1) (p + 1) stk (plainT 185) := by
  rintro L ⟨h, hs⟩
  have hc := h.chr hp
  exact ⟨1, _, run1 hs enters174 h.q (val_blk h.ok (by rw [hc]; exact e)), ((h.nxt hp).ign).goes _⟩
theorem ld_blk_ch (hp : p < s.size) (h1 : byteAt s p ≠ 41) (h2 : byteAt s p ≠ 0) : Leads s p st stk (plainT 185) (p + 1) st stk (plainT 185) := by
  rintro L ⟨h, hs⟩
  have hc := h.chr hp
  exact ⟨1, _, run1 hs enters185 h.q (blk_ch h.ok (by rw [hc]; exact h1) (by rw [hc]; exact h2)), (h.nxt hp).goes _⟩
theorem ld_val_str (hp : p < s.size) (e1 : isWS (byteAt s p) = false) (e2 : isDig (byteAt s p) = false) (e3 : isNLb (byteAt s p) = false) (h1 : byteAt s p ≠ 91) (h2 : byteAt s p ≠ 123) (h3 : byteAt s p ≠ 39) (h4 : byteAt s p ≠ 34) (h5 : byteAt s p ≠ 45) (h6 : byteAt s p ≠ 40) (h7 : byteAt s p ≠ 46) : Leads s p st stk (plainT 174) p st stk (plainT 187) := by
  rintro L ⟨h, hs⟩
  have hc := h.chr hp
  exact ⟨1, _, run1 hs enters174 h.q (val_str h.ok (by rw [hc]; exact e1) (by rw [hc]; exact e2) (by rw [hc]; exact e3) (by rw [hc]; exact h1) (by rw [hc]; exact h2) (by rw [hc]; exact h3) (by rw [hc]; exact h4) (by rw [hc]; exact h5) (by rw [hc]; exact h6) (by rw [hc]; exact h7)), (h.pk.ssfd 187).goes _⟩
theorem enters187 : Enters 187 := fun args w => by kernel_rfl
theorem ld_str_ch (hp : p < s.size) (e1 : isNLb (byteAt s p) = false) (e2 : isWS (byteAt s p) = false) (h1 : byteAt s p ≠ 92) (h2 : byteAt s p ≠ 0) (h3 : byteAt s p ≠ 59) (h4 : byteAt s p ≠ 44) (h5 : byteAt s p ≠ 93) (h6 : byteAt s p ≠ 125) (h7 : byteAt s p ≠ 39) : Leads s p st stk (plainT 187) (p + 1) st stk (plainT 187) := by
  rintro L ⟨h, hs⟩
  have hc := h.chr hp
  exact ⟨1, _, run1 hs enters187 h.q (str_ch h.ok (by rw [hc]; exact e1) (by rw [hc]; exact e2) (by rw [hc]; exact h1) (by rw [hc]; exact h2) (by rw [hc]; exact h3) (by rw [hc]; exact h4) (by rw [hc]; exact h5) (by rw [hc]; exact h6) (by rw [hc]; exact h7)), (h.nxt hp).goes _⟩
theorem enters180 : Enters 180 := fun args w => by kernel_rfl
theorem ld_arr_other (hp : p < s.size) (hl : stk.length ≤ 1000000) (e1 : isSp (byteAt s p) = false) (h1 : byteAt s p ≠ 35) (h2 : byteAt s p ≠ 47) (h3 : byteAt s p ≠ 44) (h4 : byteAt s p ≠ 93) : Leads s p st stk (plainT 180) p st (stk ++ [190]) (plainT 174) := by
  rintro L ⟨h, hs⟩
  have hc := h.chr hp
  exact ⟨1, _, run1 hs enters180 h.q (arr_other h.ok (by rw [h.stack]; exact hl) (by rw [hc]; exact e1) (by rw [hc]; exact h1) (by rw [hc]; exact h2) (by rw [hc]; exact h3) (by rw [hc]; exact h4)), (h.pk.psh 190).goes _⟩
theorem ld_arrend_ws (hp : p < s.size) (e1 : isWS (byteAt s p) = true) : Leads s p st stk (plainT 190) (p + 1) st stk (skipT 190) := by
  rintro L ⟨h, hs⟩
  have hc := h.chr hp
  exact ⟨1, _, run1 hs enters190 h.q (arrend_ws h.ok (by rw [hc]; exact e1)), (h.nxt hp).goes _⟩
theorem ld_num_ws (hp : p < s.size) (hst : st ≤ p) (e : byteAt s p = 32) (sk : List Nat) (n : Nat) (hk : stk = sk ++ [n]) (hl : sk.length ≤ 1000000) : Emits s p st stk (plainT 199) 7 (s.extract st p) (1 + (nlc s p : Nat)) p p sk (plainT n) := by
  rintro L ⟨h, hs⟩
  have hc := h.chr hp
  have hst' := h.stack.trans hk
  obtain ⟨h1, h2⟩ := (h.pk).emitted 7 sk (plainT n)
  exact ⟨1, _, _, run1 hs enters199 h.q (num_ws h.ok (h.rdy hst) sk n hst' hl (by rw [hc]; exact e)), h2, rfl, rfl, rfl, h1⟩
theorem ld_str_ws (hp : p < s.size) (hst : st ≤ p) (e : byteAt s p = 32) (hb : boolWord (s.extract st p) = false) (hv : st < s.size → byteAt s st ≠ 36) (sk : List Nat) (n : Nat) (hk : stk = sk ++ [n]) (hl : sk.length ≤ 1000000) : Emits s p st stk (plainT 187) 5 (s.extract st p) (1 + (nlc s p : Nat)) p p sk (plainT n) := by
  rintro L ⟨h, hs⟩
  have hc := h.chr hp
  have hst' := h.stack.trans hk
  obtain ⟨h1, h2⟩ := (h.pk).emitted 5 sk (plainT n)
  exact ⟨1, _, _, run1 hs enters187 h.q (str_ws h.ok (h.rdy hst) sk n hst' hl (by rw [h.pk.txt]; exact hb) (by rw [h.pk.inp, h.pk.start]; exact hv) (by rw [hc]; exact e)), h2, rfl, rfl, rfl, h1⟩
theorem ld_val_arr (hp : p < s.size) (hst : st ≤ p) (e : byteAt s p = 91) : Emits s p st stk (plainT 174) 10 (s.extract (p + 1) (p + 1)) (1 + (nlc s (p + 1) : Nat)) (p + 1) (p + 1) stk (plainT 180) := by
  rintro L ⟨h, hs⟩
  have hc := h.chr hp
  obtain ⟨h1, h2⟩ := ((h.nxt hp).ign).emitted0 10 (plainT 180)
  exact ⟨1, _, _, run1 hs enters174 h.q (val_arr h.ok (h.rdy hst) (by rw [hc]; exact e)), h2, rfl, rfl, rfl, h1⟩
end
end Go.Cf

/-
  Texts that are no configuration: a key, and what is refused behind it.
-/
namespace Go.Cf
open Go.RowKit Go.Conc Go.Proofs
/-- A byte of a key without quotes. -/
def goodB (c : Nat) : Prop := c = 45 ∨ c = 46 ∨ c = 95 ∨ (48 ≤ c ∧ c ≤ 57) ∨ (65 ≤ c ∧ c ≤ 90) ∨ (97 ≤ c ∧ c ≤ 122)
section
variable {k sfx : ByteArray} {K : PK}
end
end Go.Cf
