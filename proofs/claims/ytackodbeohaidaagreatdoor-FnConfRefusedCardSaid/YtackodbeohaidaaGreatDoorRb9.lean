/-
  Texts joined: Bv Bw Br Er We St Ws Le.
-/
import Derived.Test.YtackodbeohaidaaGreatDoorRb2
import Derived.Test.YtackodbeohaidaaGreatDoorRb3
import Derived.Test.YtackodbeohaidaaGreatDoorRb6
import Derived.Test.YtackodbeohaidaaGreatDoorRb7
import Derived.Test.YtackodbeohaidaaGreatDoorRb8
/-
  Values while a text is refused: whole numbers, strings.
-/
namespace Go.Cf
open Go.RowKit Go.Conc Go.Proofs
section
variable {K : PK} {X X' : PX} {L L' : LX} {lab lab1 : Lab} {w w1 : World} {n : Nat} {top cv kv : Value} {vs : List Value}
set_option maxRecDepth 100000 in
set_option maxHeartbeats 1000000 in
/-- The closure of processItem, in the reading that keeps places. -/
theorem lay_ped (c7 : w.cell? ⟨K.p, 7, none⟩ = some (.bool true)) (xt : Int) (xv : ByteArray) (xl xp : Int) (t : TypeId) (u : Value) (gp gf : Nat) (hgp : Cl 7 lab w gp #[.pointer (some ⟨K.p, 0, none⟩)] 71) (hgf : Cl 7 lab w gf #[.string { data := #[] }] 9) (Post : LW)
    (H63 : ∀ lab2 w2 g, Mv (fun _ => False) w lab w2 lab2 → Cl 33 lab2 w2 g (tokC xt xv xl xp (.iface t u)) 115 →
      Calls Tryz.prog 63 #[.pointer (some ⟨K.p, 0, none⟩), .iface 113 (.pointer (some ⟨g, 0, none⟩))] w2 fun e w' => e = .returned (.tuple #[]) ∧ ∃ lab', Post lab' w' ∧ Mv PM6 w2 lab2 w' lab') :
    Calls Tryz.prog 62 #[.agg #[i64 xt, .string xv, i64 xl, i64 xp], .iface t u, .pointer (some ⟨gp, 0, none⟩), .pointer (some ⟨gf, 0, none⟩)] w fun e w' => e = .returned (.tuple #[]) ∧ ∃ lab', Post lab' w' ∧ Mv PM6 w lab w' lab' := by
  have d0 : w.cell? ⟨gp, 0, none⟩ = some (.pointer (some ⟨K.p, 0, none⟩)) := hgp.cell 0
  have d1 : w.cell? ⟨gf, 0, none⟩ = some (.string { data := #[] }) := hgf.cell 0
  have e0 : ∀ o, (w.alloc o).cell? ⟨gp, 0, none⟩ = some (.pointer (some ⟨K.p, 0, none⟩)) := fun o => (World.cell?_alloc_lt w o _ (World.block_lt_of_cell? w _ d0)).trans d0
  have e1 : ∀ o, (w.alloc o).cell? ⟨gf, 0, none⟩ = some (.string { data := #[] }) := fun o => (World.cell?_alloc_lt w o _ (World.block_lt_of_cell? w _ d1)).trans d1
  have e7 : ∀ o, (w.alloc o).cell? ⟨K.p, 7, none⟩ = some (.bool true) := fun o => (World.cell?_alloc_lt w o _ (World.block_lt_of_cell? w _ c7)).trans c7
  have HM : ∀ o o', Mv (fun _ => False) w lab ((w.alloc o).alloc o') ((lab.ext w.heap.size 33).ext (w.heap.size + 1) 33) := fun o o' => by
    have := (Mv.alloc (M := fun _ => False) w lab o 33).trans (Mv.alloc (M := fun _ => False) (w.alloc o) (lab.ext w.heap.size 33) o' 33) (fun _ h => h)
    rwa [World.size_alloc] at this
  have HB : ∀ o, Cl 33 ((lab.ext w.heap.size 33).ext (w.heap.size + 1) 33) ((w.alloc o).alloc (.cells (tokC xt xv xl xp (.iface t u)) 115)) (w.heap.size + 1) (tokC xt xv xl xp (.iface t u)) 115 := fun o =>
    ⟨by rw [← World.size_alloc w o]; exact heap_alloc_new _ _, Lab.ext_ge (Nat.le_refl _)⟩
  have H1 := Lib.hid HM
  have H2 := Lib.hid HB
  have H3 := Lib.hid H63
  clear HM HB H63
  go_enter Tryz.func62, Tryz.ntmps62
  go_wp2_with fail
  refine (H3.out _ _ _ (H1.out _ _) (H2.out _)).mono ?_
  rintro e w6 ⟨rfl, lab6, h6, m6⟩
  have HF := Lib.hid (((H1.out _ _).mono (M' := PM6) (fun _ h => h.elim)).trans m6 (fun _ h => h))
  clear m6
  go_wp2
  go_end0
  exact ⟨rfl, lab6, h6, HF.out⟩
set_option maxRecDepth 100000 in
set_option maxHeartbeats 4000000 in
theorem item_int_gen (h : PAt 0 lab w K X) (xv : ByteArray) (xl xp : Int) (hsz : xv.size ≤ 1000000) (hdig : ∀ i, i < xv.size → isDig (byteAt xv i) = true) (hasc : ∀ i, i < xv.size → byteAt xv i < 128)
    (n : Int) (hpi : ∀ w, Calls Tryz.prog 68 #[.string xv, i64 10, i64 64] w fun e w' => e = .returned (.tuple #[.int .i64 n, .nilIface]) ∧ Below w.heap.size w w')
    (htb : Tb lab w) (Post : LW) (HL : ∀ lab2 w2 gp gf, PAt 0 lab2 w2 K X → Mv PM w lab w2 lab2 → Cl 7 lab2 w2 gp #[.pointer (some ⟨K.p, 0, none⟩)] 71 → Cl 7 lab2 w2 gf #[.string { data := #[] }] 9 →
      Calls Tryz.prog 62 #[.agg #[i64 (7 : Nat), .string xv, i64 xl, i64 xp], .iface 2 (.int .i64 n), .pointer (some ⟨gp, 0, none⟩), .pointer (some ⟨gf, 0, none⟩)] w2 fun e w' => e = .returned (.tuple #[]) ∧ ∃ lab', Post lab' w' ∧ Mv PM6 w2 lab2 w' lab') :
    Calls Tryz.prog 57 #[.pointer (some ⟨K.p, 0, none⟩), .agg #[i64 7, .string xv, i64 xl, i64 xp], .string { data := #[] }] w fun e w' => e = .returned .nilIface ∧ ∃ lab', Post lab' w' ∧ Mv PM6 w lab w' lab' := by
  obtain ⟨lab1, hb, m1⟩ := h.boxed (Nat.zero_le _) 7 xv xl xp
  have HD := Lib.hid hdig
  have HA := Lib.hid hasc
  clear hdig hasc
  go_enter Tryz.func57, Tryz.ntmps57
  go_wp2_with fail
  have hWs : (Boxed w K 7 xv xl xp).heap.size = w.heap.size + 1 + 1 + 1 := by unfold Boxed; simp [World.size_alloc]
  have HW := Lib.hid hWs
  clear hWs
  go_loopw [9] (fun i wr => ∃ k : Nat, k ≤ xv.size ∧ i = .int .i64 k ∧ wr = (Boxed w K 7 xv xl xp).iter xv k) (fun i _ => xv.size - (RowKit.intOf i).toNat)
  case atStart => exact ⟨0, Nat.zero_le _, rfl, rfl⟩
  case round =>
    obtain ⟨k, hk, rfl, rfl⟩ := hrel
    by_cases hlt : k < xv.size
    · have hk2 := hlt
      have hnx : ∀ ty, (Instr.next (.pointer (some ⟨w.heap.size + 1 + 1 + 1, 0, none⟩)) true ty).run Tryz.prog ((Boxed w K 7 xv xl xp).iter xv k) = .ok (.tuple #[.bool true, .int .i64 k, .int .i32 (byteAt xv k : Nat)]) ((Boxed w K 7 xv xl xp).iter xv (k + 1)) := fun ty => by
        have := run_next_ascii (P := Tryz.prog) (Boxed w K 7 xv xl xp) xv k ty hk2 (by rw [byteAt_get]; exact HA.out k hk2)
        rwa [HW.out, byteAt_get] at this
      have hc := HA.out k hk2
      have e1 := HD.out k hlt
      go_wp2_with fail
      refine (isDig_c _ hc _).mono ?_
      rintro e w' ⟨rfl, rfl⟩
      go_wp2
      go_roundw
      case rel => exact ⟨k + 1, by omega, by go_num, rfl⟩
      case measure => simp [RowKit.intOf]; omega
    · have hks : k = xv.size := by omega
      have hnx : ∀ ty, (Instr.next (.pointer (some ⟨w.heap.size + 1 + 1 + 1, 0, none⟩)) true ty).run Tryz.prog ((Boxed w K 7 xv xl xp).iter xv k) = .ok (.tuple #[.bool false]) ((Boxed w K 7 xv xl xp).iter xv k) := fun ty => by
        have := run_next_end (P := Tryz.prog) (Boxed w K 7 xv xl xp) xv k ty hlt
        rwa [HW.out] at this
      have hfull : xv.extract 0 k = xv := by rw [hks]; exact ByteArray.extract_zero_size
      have hemp : xv.extract k xv.size = ⟨#[]⟩ := by rw [hks]; exact ByteArray.extract_eq_empty_iff.2 (by omega)
      have HKS := Lib.hid hks
      have HFU := Lib.hid hfull
      have HEM := Lib.hid hemp
      clear hks hfull hemp
      have m2 := (iter_mv (Boxed w K 7 xv xl xp) lab1 xv k)
      have hb2 := hb.mv (hb.pat.mv m2 (fun _ _ h => h)) (m2.mono (fun _ h => h.elim))
      have m2' := m1.trans m2 (fun _ h => h.elim)
      obtain ⟨W, hW⟩ : ∃ W, W = (Boxed w K 7 xv xl xp).iter xv k := ⟨_, rfl⟩
      rw [← hW] at hb2 m2 m2' hnx ⊢
      have d1 := hb2.b1.cell 1
      clear hW hb
      have hfl : xv.extract 0 k = xv := HFU.out
      go_wp2_with fail
      clear hfl
      refine (hpi W).mono ?_
      rintro e w3 ⟨rfl, hbl⟩
      have m3 := Mv.below (M := fun _ => False) hbl (lab1.ext (Boxed w K 7 xv xl xp).heap.size 7) 7
      have hb3 := hb2.mv (hb2.pat.mv m3 (fun _ _ h => h)) (m3.mono (fun _ h => h.elim))
      have m3' := m2'.trans m3 (fun _ h => h.elim)
      have htb3 := htb.mv m3' (by simp [PM])
      have d1 := hb3.b1.cell 1
      have hsl : xv.extract k xv.size = ⟨#[]⟩ := HEM.out
      clear hbl m3 hb2 hpi
      go_wp2_with fail
      refine (Tryz.strings_TrimSpace ⟨#[]⟩ w3 (by decide) (fun j b h => by simp at h) htb3.1).mono ?_
      rintro e w4 ⟨rfl, hw4⟩
      have hbl4 : Below w3.heap.size w3 w4 := by rw [hw4]; exact ⟨rfl, rfl, rfl, by rw [Go.Lib.bytesWorld_size]; omega, fun k hk => Go.Lib.bytesWorld_at_old w3 5 ⟨#[]⟩ k hk⟩
      have m4 := Mv.below (M := fun _ => False) hbl4 ((lab1.ext (Boxed w K 7 xv xl xp).heap.size 7).ext W.heap.size 7) 7
      have hb4 := hb3.mv (hb3.pat.mv m4 (fun _ _ h => h)) (m4.mono (fun _ h => h.elim))
      have m4' := m3'.trans m4 (fun _ h => h.elim)
      rw [show (⟨(Lib.trimSpace (⟨#[]⟩ : ByteArray).data.toList).toArray⟩ : ByteArray) = ⟨#[]⟩ from rfl]
      clear hw4 hbl4 m4 hb3 hsl
      go_wp2_with fail
      refine (Tryz.strings_ToLower_ascii ⟨#[]⟩ w4 (by decide) (fun j b h => by simp at h)).mono ?_
      rintro e w5 ⟨rfl, hbl5⟩
      have m5 := Mv.below (M := fun _ => False) hbl5 (((lab1.ext (Boxed w K 7 xv xl xp).heap.size 7).ext W.heap.size 7).ext w3.heap.size 7) 7
      have hb5 := hb4.mv (hb4.pat.mv m5 (fun _ _ h => h)) (m5.mono (fun _ h => h.elim))
      have m5' := m4'.trans m5 (fun _ h => h.elim)
      have e0 : (⟨(Lib.toLowerA (⟨#[]⟩ : ByteArray).data.toList).toArray⟩ : ByteArray) = ⟨#[]⟩ := rfl
      have d0 := hb5.b0.cell 0
      have d1 := hb5.b1.cell 0
      have d2 := hb5.b1.cell 1
      have d3 := hb5.b1.cell 2
      have d4 := hb5.b1.cell 3
      simp at d0 d1 d2 d3 d4
      simp only [e0]
      clear hbl5 m5 hb4 e0
      go_wp2_with fail
      refine (HL _ _ _ _ hb5.pat m5' hb5.b0 hb5.b2).mono ?_
      rintro e w6 ⟨rfl, lab6, h6, m6⟩
      go_wp2
      go_ret
      exact ⟨rfl, lab6, h6, (m5'.mono (fun x h => ⟨h.1, h.2.2⟩)).trans m6 (fun _ h => h)⟩
end
end Go.Cf

/-
  Strings, lists, variables while a text is refused.
-/
namespace Go.Cf
open Go.RowKit Go.Conc Go.Proofs
theorem mk75z (w : World) : (Instr.makeSlice 75 (.int .i64 0) (.int .i64 0)).run Tryz.prog w = .ok (.slice (some ⟨w.heap.size, 0, none⟩) 0 0) (w.alloc (.cells #[] 20)) := by kernel_rfl
attribute [local go_sem ↓] mk75z
section
variable {K : PK} {X X' : PX} {L L' : LX} {lab lab1 : Lab} {w w1 : World} {n : Nat} {top cv kv : Value} {vs : List Value}
set_option maxRecDepth 100000 in
set_option maxHeartbeats 600000 in
theorem item_str_gen (h : PAt 0 lab w K X) (xv : ByteArray) (xl xp : Int) (Post : LW) (HL : ∀ lab2 w2 gp gf, PAt 0 lab2 w2 K X → Mv PM w lab w2 lab2 → Cl 7 lab2 w2 gp #[.pointer (some ⟨K.p, 0, none⟩)] 71 → Cl 7 lab2 w2 gf #[.string { data := #[] }] 9 →
      Calls Tryz.prog 62 #[.agg #[i64 (5 : Nat), .string xv, i64 xl, i64 xp], .iface 9 (.string xv), .pointer (some ⟨gp, 0, none⟩), .pointer (some ⟨gf, 0, none⟩)] w2 fun e w' => e = .returned (.tuple #[]) ∧ ∃ lab', Post lab' w' ∧ Mv PM6 w2 lab2 w' lab') :
    Calls Tryz.prog 57 #[.pointer (some ⟨K.p, 0, none⟩), .agg #[i64 (5 : Nat), .string xv, i64 xl, i64 xp], .string { data := #[] }] w fun e w' => e = .returned .nilIface ∧ ∃ lab', Post lab' w' ∧ Mv PM6 w lab w' lab' := by
  obtain ⟨lab1, hb, m1⟩ := h.boxed (Nat.zero_le _) 5 xv xl xp
  have HC := HL _ _ _ _ hb.pat m1 hb.b0 hb.b2
  go_enter Tryz.func57, Tryz.ntmps57
  go_wp2_with fail
  refine HC.mono ?_
  rintro e w6 ⟨rfl, lab6, h6, m6⟩
  go_wp2
  go_ret
  exact ⟨rfl, lab6, h6, (m1.mono (fun x h => ⟨h.1, h.2.2⟩)).trans m6 (fun _ h => h)⟩
set_option maxRecDepth 100000 in
set_option maxHeartbeats 600000 in
theorem item_arr (cx : List CJ) (ks : List ByteArray) (h : PAt 0 lab w K ⟨L, cx, ks⟩) (hl : cx.length ≤ 1000000) (hne : cx ≠ []) (xv : ByteArray) (xl xp : Int) :
    Calls Tryz.prog 57 #[.pointer (some ⟨K.p, 0, none⟩), .agg #[i64 (10 : Nat), .string xv, i64 xl, i64 xp], .string { data := #[] }] w fun e w' => e = .returned .nilIface ∧ ∃ lab', PAt 0 lab' w' K ⟨L, .arr [] :: cx, ks⟩ ∧ Mv PM w lab w' lab' := by
  obtain ⟨lab1, hb, m1⟩ := h.boxed (Nat.zero_le _) 10 xv xl xp
  have m2 : Mv (fun _ => False) (Boxed w K 10 xv xl xp) lab1 ((Boxed w K 10 xv xl xp).alloc (.cells #[] 20)) (lab1.ext (Boxed w K 10 xv xl xp).heap.size (10 + cx.length)) := Mv.alloc _ _ _ _
  have hrw := row_new (B := 0) (Boxed w K 10 xv xl xp) lab1 (10 + cx.length) 20 1 0 #[] (Nat.zero_le _) (by unfold maxLen; omega) rfl
  have hp2 := hb.pat.mv m2 (fun _ _ h => h)
  have HC := pushContext_c hp2 (Nat.zero_le _) hl (.arr []) 75 _ ⟨_, [], rfl, hrw, trivial⟩ (fun e => absurd e hne)
  have m12 := m1.trans m2 (fun _ h => h.elim)
  have hWs : (Boxed w K 10 xv xl xp).heap.size = w.heap.size + 1 + 1 + 1 := by unfold Boxed; simp [World.size_alloc]
  rw [hWs] at HC m12
  have HCH := Lib.hid HC
  have HB := Lib.hid hb
  clear m2 hrw hp2 m1 HC hb hWs
  go_enter Tryz.func57, Tryz.ntmps57
  go_wp2_with fail
  refine HCH.out.mono ?_
  rintro e w6 ⟨rfl, lab6, h6, m6⟩
  go_wp2
  go_ret
  exact ⟨rfl, lab6, h6, m12.trans m6 (fun _ h => h)⟩
end
end Go.Cf

/-
  A text is refused: by plain data of the lexer.
-/
namespace Go.Cf
open Go.RowKit Go.Conc Go.Proofs
/-- From where it stands, an error. -/
def ErrE (s : ByteArray) (p st : Nat) (stk : List Nat) (t : Tag) : Prop := ∀ L : LX, L.Is s p st stk t → ∃ n L' x q, Run n L L' ∧ L'.q = x :: q ∧ x.typ = 0
structure StF (p : Nat) (S : LX → LW) : Prop where
  stab : ∀ L, Stab (S L)
  nx : ∀ (m : Nat) (L L' : LX) (x : It) (q : List It), Run m L L' → L'.q = x :: q → Nx p (S L) x (S (L'.took q))
def BadAt (p : Nat) (S : LX → LW) (s : ByteArray) (q st : Nat) (stk : List Nat) (t : Tag) : Prop := ∀ (L : LX) (prev : It), L.Is s q st stk t → Rd p (S L) prev
section
variable {K : PK} {X X' : PX} {L L' : LX} {lab lab1 : Lab} {w w1 : World} {n p q st q1 st1 ty : Nat} {top cv kv : Value} {vs its : List Value} {S : LX → LW} {s val : ByteArray} {stk stk1 : List Nat} {t t1 : Tag} {line : Int}
theorem ErrE.lead (h : Leads s q st stk t q1 st1 stk1 t1) (k : ErrE s q1 st1 stk1 t1) : ErrE s q st stk t := by
  intro L hL
  obtain ⟨n, L1, r, h1⟩ := h L hL
  obtain ⟨m, L2, x, qq, r2, h2, h3⟩ := k L1 h1
  exact ⟨_, L2, x, qq, r.trans r2, h2, h3⟩
theorem stf_SI (K : PK) (n : Nat) (its : List Value) (cx : List CJ) (ks : List ByteArray) : StF K.p (fun L => SI K n its ⟨L, cx, ks⟩) :=
  ⟨fun _ => stab_SI, fun _ L _ _ _ R hx => nx_SI (X := ⟨L, cx, ks⟩) R hx⟩
theorem stf_SW (K : PK) : StF K.p (fun L => SW K L) := ⟨fun _ => stab_SW, fun _ _ _ _ _ R hx => nx_SW R hx⟩
theorem bad_err (hS : StF p S) (E : ErrE s q st stk t) : BadAt p S s q st stk t := by
  intro L prev hL
  obtain ⟨n, L', x, qq, R, hq, hx⟩ := E L hL
  exact .err (hS.nx _ _ _ _ _ R hq) (hS.stab _) (by rw [hx]; decide) (fl_err hx)
theorem bad_fail (hS : StF p S) (E : Emits s q st stk t ty val line q1 st1 stk1 t1) (hty : ty ≠ 2) (hf : ∀ L x, x.typ = ty → x.val = val → Fl p (S L) x) : BadAt p S s q st stk t := by
  intro L prev hL
  obtain ⟨n, L', x, R, hq, h1, h2, h3, h4⟩ := E L hL
  exact .err (hS.nx _ _ _ _ _ R hq) (hS.stab _) (by rw [h1]; exact hty) (hf _ x h1 h2)
theorem bad_step (hS : StF p S) (E : Emits s q st stk t ty val line q1 st1 stk1 t1) (hty : ty ≠ 2) (hit : ∀ x : It, x.typ = ty → x.val = val → ∃ S2 : LX → LW, (∀ L, Itm p (S L) x (S2 L)) ∧ BadAt p S2 s q1 st1 stk1 t1) : BadAt p S s q st stk t := by
  intro L prev hL
  obtain ⟨n, L', x, R, hq, h1, h2, h3, h4⟩ := E L hL
  obtain ⟨S2, hi, hb⟩ := hit x h1 h2
  exact .step (hS.nx _ _ _ _ _ R hq) (hS.stab _) (by rw [h1]; exact hty) (hi _) (hb _ x h4)
/-- The items that stand, in the reading that keeps places. -/
def KeyIts (K : PK) (n : Nat) (its : List Value) : Prop := K.ped = true → n = 1 ∧ ∃ (a c d : Int) (s3 : ByteArray), its = [i64 a, .string s3, i64 c, i64 d]
theorem itm_key_any (x : It) (hx : x.typ = 3) : ∃ n its, KeyIts K n its ∧ ∀ L, Itm K.p (SI K 0 [] ⟨L, [.map []], []⟩) x (SI K n its ⟨L, [.map []], [x.val]⟩) := by
  obtain ⟨xt, xv, xl, xp⟩ := x
  obtain rfl : xt = 3 := hx
  cases hK : K.ped with
  | false => exact ⟨0, [], (fun h => absurd (hK.symm.trans h) (by decide) : KeyIts K 0 []), fun L => itm_key (X := ⟨L, [.map []], []⟩) hK (by simp) xv xl xp⟩
  | true => exact ⟨1, _, fun _ => ⟨rfl, _, _, _, _, rfl⟩, fun L => itm_key_ped hK xv xl xp⟩
theorem itm_int_weak (hk : KeyIts K n its) (v : ByteArray) (hv : v.size ≤ 1000000) (x : It) (hx : x.typ = 7) (hd0 : 0 < x.val.size) (hsz : x.val.size ≤ 900000) (hdig : isDigits x.val) (hn : numOf x.val.data.toList < 9223372036854775808) (L : LX) :
    Itm K.p (SI K n its ⟨L, [.map []], [v]⟩) x (SW K L) := by
  obtain ⟨xt, xv, xl, xp⟩ := x
  obtain rfl : xt = 7 := hx
  change 0 < xv.size at hd0
  change xv.size ≤ 900000 at hsz
  change isDigits xv at hdig
  change numOf xv.data.toList < 9223372036854775808 at hn
  have hsz1 : xv.size ≤ 1000000 := by omega
  have hasc : ∀ i, i < xv.size → byteAt xv i < 128 := fun i hi => by have := hdig i hi; omega
  rintro lab w ⟨iv, h1, h2, h3⟩
  cases hK : K.ped with
  | false =>
    refine (item_int_plain (K := { K with iv := iv }) h1 (Nat.zero_le _) hK xv xl xp hsz1 (fun i hi => dig_true (hdig i hi)) hasc _ (fun w => ParseInt_pos xv hd0 hdig hn hsz1 w) h3 (.map [] [] [] v rfl rfl (by simp) (by simp) hv)).mono ?_
    rintro e w' ⟨rfl, lab', hp, m⟩
    exact ⟨rfl, lab', hp.weak, m.mono (fun x h => ⟨h.1, h.2.2⟩)⟩
  | true =>
    obtain ⟨rfl, a, c, d, s3, rfl⟩ := hk hK
    refine item_int_gen (K := { K with iv := iv }) h1 xv xl xp hsz1 (fun i hi => dig_true (hdig i hi)) hasc _ (fun w => ParseInt_pos xv hd0 hdig hn hsz1 w) h3 (SW K L) (fun lab2 w2 gp gf hp m hgp hgf => ?_)
    have hrow2 := h2.mv m (by decide)
    refine lay_ped (K := { K with iv := iv }) (hp.ped hK) (7 : Nat) xv xl xp 2 _ gp gf hgp hgf (SW K L) (fun lab3 w3 g m3 htk => ?_)
    obtain ⟨top, cv, kv, vs, hx⟩ := hp.mv m3 (fun _ _ h => h)
    exact setv_map_ped (K := { K with iv := iv }) v s3 a c d hx hK (hrow2.mv m3 (fun h => h)) hv g _ _ _ _ _ htk
theorem itm_int_arr (v : ByteArray) (x : It) (hx : x.typ = 7) (hd0 : 0 < x.val.size) (hsz : x.val.size ≤ 900000) (hdig : isDigits x.val) (hn : numOf x.val.data.toList < 9223372036854775808) (L : LX) :
    Itm K.p (SI K n its ⟨L, [.arr [], .map []], [v]⟩) x (SW K L) := by
  obtain ⟨xt, xv, xl, xp⟩ := x
  obtain rfl : xt = 7 := hx
  change 0 < xv.size at hd0
  change xv.size ≤ 900000 at hsz
  change isDigits xv at hdig
  change numOf xv.data.toList < 9223372036854775808 at hn
  have hsz1 : xv.size ≤ 1000000 := by omega
  have hasc : ∀ i, i < xv.size → byteAt xv i < 128 := fun i hi => by have := hdig i hi; omega
  rintro lab w ⟨iv, h1, h2, h3⟩
  cases hK : K.ped with
  | false =>
    refine (item_int_plain (K := { K with iv := iv }) h1 (Nat.zero_le _) hK xv xl xp hsz1 (fun i hi => dig_true (hdig i hi)) hasc _ (fun w => ParseInt_pos xv hd0 hdig hn hsz1 w) h3 (.arr [] [.map []] rfl (by simp) (by simp))).mono ?_
    rintro e w' ⟨rfl, lab', hp, m⟩
    exact ⟨rfl, lab', hp.weak, m.mono (fun x h => ⟨h.1, h.2.2⟩)⟩
  | true =>
    refine item_int_gen (K := { K with iv := iv }) h1 xv xl xp hsz1 (fun i hi => dig_true (hdig i hi)) hasc _ (fun w => ParseInt_pos xv hd0 hdig hn hsz1 w) h3 (SW K L) (fun lab2 w2 gp gf hp m hgp hgf => ?_)
    refine lay_ped (K := { K with iv := iv }) (hp.ped hK) (7 : Nat) xv xl xp 2 _ gp gf hgp hgf (SW K L) (fun lab3 w3 g m3 htk => ?_)
    obtain ⟨top, cv, kv, vs, hx⟩ := hp.mv m3 (fun _ _ h => h)
    exact setv_arr_ped (K := { K with iv := iv }) [v] hx g
theorem itm_str_weak (hk : KeyIts K n its) (v : ByteArray) (hv : v.size ≤ 1000000) (x : It) (hx : x.typ = 5) (L : LX) : Itm K.p (SI K n its ⟨L, [.map []], [v]⟩) x (SW K L) := by
  obtain ⟨xt, xv, xl, xp⟩ := x
  obtain rfl : xt = 5 := hx
  rintro lab w ⟨iv, h1, h2, h3⟩
  refine item_str_gen (K := { K with iv := iv }) h1 xv xl xp (SW K L) (fun lab2 w2 gp gf hp m hgp hgf => ?_)
  cases hK : K.ped with
  | false =>
    refine (lay_c (K := { K with iv := iv }) (j := .txt xv) hp (Nat.zero_le _) hK (.map [] [] [] v rfl rfl (by simp) (by simp) hv) 9 _ rfl gp gf hgp 5 xv xl xp).mono ?_
    rintro e w' ⟨rfl, lab', hp, m⟩
    exact ⟨rfl, lab', hp.weak, m.mono (fun x h => ⟨h.1, h.2.2⟩)⟩
  | true =>
    obtain ⟨rfl, a, c, d, s3, rfl⟩ := hk hK
    have hrow2 := h2.mv m (by decide)
    refine lay_ped (K := { K with iv := iv }) (hp.ped hK) (5 : Nat) xv xl xp 9 _ gp gf hgp hgf (SW K L) (fun lab3 w3 g m3 htk => ?_)
    obtain ⟨top, cv, kv, vs, hx⟩ := hp.mv m3 (fun _ _ h => h)
    exact setv_map_ped (K := { K with iv := iv }) v s3 a c d hx hK (hrow2.mv m3 (fun h => h)) hv g _ _ _ _ _ htk
theorem itm_arr (v : ByteArray) (x : It) (hx : x.typ = 10) (L : LX) : Itm K.p (SI K n its ⟨L, [.map []], [v]⟩) x (SI K n its ⟨L, [.arr [], .map []], [v]⟩) := by
  obtain ⟨xt, xv, xl, xp⟩ := x
  obtain rfl : xt = 10 := hx
  rintro lab w ⟨iv, h1, h2, h3⟩
  refine (item_arr (K := { K with iv := iv }) [.map []] [v] h1 (by simp) (by simp) xv xl xp).mono ?_
  rintro e w' ⟨rfl, lab', hp, m⟩
  exact ⟨rfl, lab', ⟨iv, hp, h2.mv m (by decide), h3.mv m (by decide)⟩, m.mono (fun x h => ⟨h.1, h.2.2⟩)⟩
end
end Go.Cf

/-
  errorf: an error is sent, and no state follows.
-/
namespace Go.Cf
open Go.RowKit Go.Conc Go.Proofs
/-- An error is sent. -/
def LX.err (L : LX) (m : ByteArray) : LX := { L with q := L.q ++ [⟨0, m, L.line, (L.pos : Int) - L.lstart⟩], cs := L.cs + 1 }
section
variable {base : Nat} {S0 : Nat → Prop} {w0 w w1 : World} {b : Nat} {L L' : LX}
theorem esc_c (r : Int) (h0 : 0 ≤ r) (h1 : r < 128) (w : World) : Calls Tryz.prog 131 #[.int .i32 r] w fun e w' => (∃ s, e = .returned (.string s)) ∧ w' = w := by
  by_cases h : r = 10
  · subst h
    go_enter Tryz.func131, Tryz.ntmps131
    go_wp2
    go_ret
    exact ⟨⟨_, rfl⟩, rfl⟩
  · have e1 : (r == 10) = false := beq_eq_false_iff_ne.2 h
    go_enter Tryz.func131, Tryz.ntmps131
    go_wp2
    go_ret
    exact ⟨⟨_, rfl⟩, rfl⟩
theorem er_21 (r : Int) (w : World) : (Instr.typeAssert (.iface 21 (.int .i32 r)) 20 21 true).run Tryz.prog w = .ok (.tuple #[.int .i32 r, .bool true]) w := by kernel_rfl
attribute [local go_sem ↓] er_21
theorem LexAt.bounded {S : Nat → Prop} {tv sv pv : Value} (h : LexAt base S w b L tv sv pv) : LexAt base (fun k => S k ∧ k < w.heap.size) w b L tv sv pv where
  blk := h.blk
  chan := h.chan
  stack := h.stack
  parts := h.parts
  st := h.st.bound
  hb := ⟨h.hb, lt_of_block h.blk⟩
  hch := ⟨h.hch, lt_of_block h.chan⟩
  hsv := fun k hk => ⟨h.hsv k hk, own_lt h.stack k hk⟩
  hpv := fun k hk => ⟨h.hpv k hk, own_lt h.parts k hk⟩
  base := h.base
  stv := h.stv
/-- The values of an error, k of them written as text already. -/
def EAt (base : Nat) (S0 : Nat → Prop) (w0 : World) (b : Nat) (L : LX) (g : Nat) (rs : List Int) (k : Nat) (wr : World) : Prop :=
  ∃ (S : Nat → Prop) (tv sv pv : Value), LexAt base S wr b L tv sv pv ∧ Fr S0 w0 wr ∧ (∀ k, S k → S0 k ∨ (w0.heap.size ≤ k ∧ k < wr.heap.size)) ∧
    (rs ≠ [] → ¬ S g ∧ w0.heap.size ≤ g ∧ ∃ cs : Array Value, wr.heap[g]? = some (.cells cs 20) ∧ cs.size = rs.length ∧ ∀ (j : Nat) (r : Int), k ≤ j → rs[j]? = some r → cs[j]? = some (.iface 21 (.int .i32 r)))
theorem EAt.at {g : Nat} {rs : List Int} {k : Nat} (h : EAt base S0 w0 b L g rs k w) : At base S0 w0 w b L := by
  obtain ⟨S, tv, sv, pv, h1, h2, h3, _⟩ := h
  exact ⟨S, tv, sv, pv, h1, h2, h3⟩
theorem EAt.cell {g : Nat} {rs : List Int} {k : Nat} (h : EAt base S0 w0 b L g rs k w) {r : Int} (hr : rs[k]? = some r) : w.cell? ⟨g, k, none⟩ = some (.iface 21 (.int .i32 r)) ∧ w.frozen? ⟨g, k, none⟩ = false := by
  obtain ⟨S, tv, sv, pv, h1, h2, h3, h4⟩ := h
  obtain ⟨_, _, cs, hb, hs, hc⟩ := h4 (by rintro rfl; simp at hr)
  exact ⟨(blk_cell hb k).trans (hc k r (Nat.le_refl _) hr), blk_free hb k⟩
theorem EAt.put {g : Nat} {rs : List Int} {k : Nat} (h : EAt base S0 w0 b L g rs k w) (hk : k < rs.length) (u : Value) : EAt base S0 w0 b L g rs (k + 1) (w.setCell ⟨g, k, none⟩ u) := by
  obtain ⟨S, tv, sv, pv, h1, h2, h3, h4⟩ := h
  obtain ⟨hS, hg, cs, hb, hs, hc⟩ := h4 (by rintro rfl; simp at hk)
  refine ⟨S, tv, sv, pv, h1.agree (fun j hj => Below.heap_setCell _ _ _ _ (fun e => hS (by have e2 : j = g := e; rw [← e2]; exact hj))), h2.setCell (.inr hg) u, fun j hj => ?_, fun _ => ⟨hS, hg, _, blk_setCell hb k u, by simpa using hs, fun j r hj hr => ?_⟩⟩
  · rcases h3 j hj with h | h
    · exact .inl h
    · exact .inr ⟨h.1, by simpa using h.2⟩
  · rw [Array.getElem?_setIfInBounds_ne (by omega)]
    exact hc j r (by omega) hr
/-- The row of an error's values. -/
def runesRow (rs : List Int) : Array Value := (rs.map fun r => Value.iface 21 (.int .i32 r)).toArray
theorem At.runes (h : At base S0 w0 w b L) (rs : List Int) : EAt base S0 w0 b L w.heap.size rs 0 (w.alloc (.cells (runesRow rs) 20)) := by
  obtain ⟨S, tv, sv, pv, h1, h2, h3⟩ := h
  have hbl : Below w.heap.size w (w.alloc (.cells (runesRow rs) 20)) := (Below.refl _ _).alloc (Nat.le_refl _) _
  refine ⟨fun k => S k ∧ k < w.heap.size, tv, sv, pv, h1.bounded.below hbl, h2.alloc _, fun k hk => ?_, ?_⟩
  · rcases h3 k hk.1 with h | h
    · exact .inl h
    · exact .inr ⟨h.1, by rw [World.size_alloc]; omega⟩
  · intro hne
    refine ⟨fun h => by have := h.2; omega, h2.size, _, heap_alloc_new w _, by simp [runesRow], fun j r _ hr => ?_⟩
    simp [runesRow, hr]
set_option maxRecDepth 100000 in
set_option maxHeartbeats 1000000 in
theorem errorf_c (m : ByteArray) (g : Nat) (rs : List Int) (hrs : ∀ r ∈ rs, 0 ≤ r ∧ r < 128) (hn : rs.length ≤ 10) (h : EAt base S0 w0 b L g rs 0 w) (ok : L.Ok) (hq : L.q.length < 10) (a : Option Addr) (ha : rs ≠ [] → a = some ⟨g, 0, none⟩) :
    Calls Tryz.prog 92 #[.pointer (some ⟨b, 0, none⟩), .string m, .slice a rs.length rs.length] w fun e w' => e = .returned .nilFunc ∧ At base S0 w0 w' b (L.err m) := by
  have HQ := Lib.hid hq
  have HR := Lib.hid hrs
  clear hq hrs
  refine calls_of_wpN Tryz.func92 rfl ?_
  simp only [Tryz.ntmps92, List.size_toArray, List.length_cons, List.length_nil, Nat.reduceAdd, Nat.reduceSub, Array.replicate_succ, Array.replicate_zero, List.push_toArray, List.append_toArray, List.nil_append, List.cons_append]
  refine wpN_seq_k (fun K hK => ?_)
  go_wp2
  refine wpN_seq_k (fun K hK => ?_)
  go_wp2
  go_loopw [14] (fun i wr => ∃ k : Nat, k ≤ rs.length ∧ i = .int .i64 k ∧ EAt base S0 w0 b L g rs k wr) (fun i _ => rs.length - (RowKit.intOf i).toNat)
  case atStart => exact ⟨0, Nat.zero_le _, rfl, h⟩
  case round =>
    obtain ⟨k, hk, rfl, hE⟩ := hrel
    have hk0 : (0 : Int) ≤ (k : Int) := Int.natCast_nonneg _
    by_cases hlt : k < rs.length
    · have hk1 : (k : Int) < (rs.length : Int) := by omega
      obtain ⟨r, hr⟩ : ∃ r, rs[k]? = some r := ⟨_, List.getElem?_eq_getElem hlt⟩
      have hne : rs ≠ [] := by rintro rfl; simp at hlt
      obtain rfl := ha hne
      obtain ⟨q1, q2⟩ := hE.cell hr
      have hr2 := HR.out r (List.mem_of_getElem? hr)
      go_wp2_with fail
      refine (esc_c r hr2.1 hr2.2 _).mono ?_
      rintro e w' ⟨⟨t, rfl⟩, rfl⟩
      go_wp2
      go_roundw
      case rel => exact ⟨k + 1, by omega, by go_num, hE.put hlt _⟩
      case measure => simp [RowKit.intOf]; omega
    · obtain rfl : k = rs.length := by omega
      have hA := hE.at
      clear h hE
      go_wp2
      have c2 := hA.c2
      have c4 := hA.c4
      have c6 := hA.c6
      have c10 := hA.c10
      have hsm := ok.small
      have hpp := ok.pos
      have hls := ok.lstart
      have hl0 := ok.line0
      have hl1 := ok.line1
      refine wpN_seq_k (fun K hK => ?_)
      go_quiet (fail)
      go_wp2
      refine wpN_seq (wpN_send 11 mixed (by kernel_rfl) ?_)
      simp only [unsent, List.modify_succ_cons, List.modify_zero_cons]
      repeat still_step
      refine wpStill_nil ?_
      refine Lst.send (c := L.ch) (cap := 10) (buf := (L.q.map It.v).toArray) (s := L.cs) (r := L.cr) (tm := false) (z := .tuple #[]) (v := .agg #[i64 0, .string m, i64 L.line, i64 ((L.pos : Int) - L.lstart)]) rfl rfl rfl hA.heapCh (by simpa using HQ.out) ?_
      refine Lst.nil ?_
      have hv : It.v ⟨0, m, L.line, (L.pos : Int) - L.lstart⟩ = .agg #[i64 0, .string m, i64 L.line, i64 ((L.pos : Int) - L.lstart)] := rfl
      have hC := hA.chan (L.q ++ [⟨0, m, L.line, (L.pos : Int) - L.lstart⟩]) (L.cs + 1) L.cr
      rw [List.map_append, List.map_singleton, hv, ← List.push_toArray] at hC
      simp only [Exit.then]
      refine wpN_of_wp (via (At.any hC rfl rfl rfl rfl) (fun W h2 => ?_))
      clear c2 c4 c6 c10 hC hv
      go_wp2
      go_ret
      exact ⟨rfl, h2⟩
end
end Go.Cf

/-
  The lexer's states, path by path: errors, and more of values.
-/
namespace Go.Cf
open Go.RowKit Go.Conc Go.Proofs
theorem At.noRunes {base : Nat} {S0 : Nat → Prop} {w0 w : World} {b : Nat} {L : LX} (h : At base S0 w0 w b L) (g : Nat) : EAt base S0 w0 b L g [] 0 w := by
  obtain ⟨S, tv, sv, pv, h1, h2, h3⟩ := h
  exact ⟨S, tv, sv, pv, h1, h2, h3, fun h => absurd rfl h⟩
section
variable {L : LX}
def m94 : ByteArray := ⟨#[69, 120, 112, 101, 99, 116, 101, 100, 32, 97, 32, 116, 111, 112, 45, 108, 101, 118, 101, 108, 32, 118, 97, 108, 117, 101, 32, 116, 111, 32, 101, 110, 100, 32, 119, 105, 116, 104, 32, 97, 32, 110, 101, 119, 32, 108, 105, 110, 101, 44, 32, 99, 111, 109, 109, 101, 110, 116, 32, 111, 114, 32, 69, 79, 70, 44, 32, 98, 117, 116, 32, 103, 111, 116, 32, 39, 37, 118, 39, 32, 105, 110, 115, 116, 101, 97, 100, 46]⟩
def m174 : ByteArray := ⟨#[70, 108, 111, 97, 116, 115, 32, 109, 117, 115, 116, 32, 115, 116, 97, 114, 116, 32, 119, 105, 116, 104, 32, 97, 32, 100, 105, 103, 105, 116]⟩
def m184 : ByteArray := ⟨#[69, 120, 112, 101, 99, 116, 101, 100, 32, 97, 32, 100, 105, 103, 105, 116, 32, 98, 117, 116, 32, 103, 111, 116, 32, 39, 37, 118, 39, 46]⟩
def m185 : ByteArray := ⟨#[85, 110, 101, 120, 112, 101, 99, 116, 101, 100, 32, 69, 79, 70, 32, 112, 114, 111, 99, 101, 115, 115, 105, 110, 103, 32, 98, 108, 111, 99, 107, 46]⟩
def m190 : ByteArray := ⟨#[69, 120, 112, 101, 99, 116, 101, 100, 32, 97, 110, 32, 97, 114, 114, 97, 121, 32, 118, 97, 108, 117, 101, 32, 116, 101, 114, 109, 105, 110, 97, 116, 111, 114, 32, 37, 113, 32, 111, 114, 32, 97, 110, 32, 97, 114, 114, 97, 121, 32, 116, 101, 114, 109, 105, 110, 97, 116, 111, 114, 32, 37, 113, 44, 32, 98, 117, 116, 32, 103, 111, 116, 32, 39, 37, 118, 39, 32, 105, 110, 115, 116, 101, 97, 100, 46]⟩
theorem tve_err (ok : L.Ok) (rdy : L.Rdy) (e1 : isWS L.chr = false) (e2 : isNLb L.chr = false) (h1 : L.chr ≠ 35) (h2 : L.chr ≠ 47) (h3 : L.chr ≠ 0) (h4 : L.chr ≠ 59) (h5 : L.chr ≠ 44) (h6 : L.chr ≠ 125) : Goes1 94 L (L.nxt.err m94) none := by
  have e_35_86 : (((L.chr : Nat) : Int) == 35) = false := beq_eq_false_iff_ne.2 (by omega)
  have e_47_86 : (((L.chr : Nat) : Int) == 47) = false := beq_eq_false_iff_ne.2 (by omega)
  have e_0_86 : (((L.chr : Nat) : Int) == 0) = false := beq_eq_false_iff_ne.2 (by omega)
  have e_59_86 : (((L.chr : Nat) : Int) == 59) = false := beq_eq_false_iff_ne.2 (by omega)
  have e_44_86 : (((L.chr : Nat) : Int) == 44) = false := beq_eq_false_iff_ne.2 (by omega)
  have e_125_86 : (((L.chr : Nat) : Int) == 125) = false := beq_eq_false_iff_ne.2 (by omega)
  clear h1 h2 h3 h4 h5 h6
  intro base S0 w0 w b h0
  go_enter Tryz.func94, Tryz.ntmps94
  go_wp2_with fail
  refine (next_c h0 ok).mono ?_
  rintro e w1 ⟨rfl, h1⟩
  go_wp2_with fail
  refine (isWS_c _ (chr_lt ok) _).mono ?_
  rintro e w' ⟨rfl, rfl⟩
  go_wp2_with fail
  refine (isNLb_c _ (chr_lt ok) _).mono ?_
  rintro e w' ⟨rfl, rfl⟩
  have hE := h1.runes [(L.chr : Int)]
  go_wp2_with fail
  refine (errorf_c m94 _ [(L.chr : Int)] (fun r hr => by have := chr_lt ok; simp at hr; omega) (by simp) hE ok.nxt (by simpa [nxt_q, pk_q] using rdy.q) _ (fun _ => rfl)).mono ?_
  rintro e w2 ⟨rfl, h2⟩
  go_wp2_with fail
  go_ret
  exact ⟨_, rfl, h2.nil⟩
theorem val_dot (ok : L.Ok) (rdy : L.Rdy) (hc : L.chr = 46) : Goes1 174 L (L.nxt.err m174) none := by
  have e_91_86 : (((L.chr : Nat) : Int) == 91) = false := beq_eq_false_iff_ne.2 (by omega)
  have e_123_86 : (((L.chr : Nat) : Int) == 123) = false := beq_eq_false_iff_ne.2 (by omega)
  have e_39_86 : (((L.chr : Nat) : Int) == 39) = false := beq_eq_false_iff_ne.2 (by omega)
  have e_34_86 : (((L.chr : Nat) : Int) == 34) = false := beq_eq_false_iff_ne.2 (by omega)
  have e_45_86 : (((L.chr : Nat) : Int) == 45) = false := beq_eq_false_iff_ne.2 (by omega)
  have e_40_86 : (((L.chr : Nat) : Int) == 40) = false := beq_eq_false_iff_ne.2 (by omega)
  have e_46_86 : (((L.chr : Nat) : Int) == 46) = true := beq_iff_eq.2 (by omega)
  have e1 : isWS L.chr = false := by rw [hc]; rfl
  have e2 : isDig L.chr = false := by rw [hc]; rfl
  clear hc
  intro base S0 w0 w b h0
  go_enter Tryz.func174, Tryz.ntmps174
  go_wp2_with fail
  refine (next_c h0 ok).mono ?_
  rintro e w1 ⟨rfl, h1⟩
  go_wp2_with fail
  refine (isWS_c _ (chr_lt ok) _).mono ?_
  rintro e w' ⟨rfl, rfl⟩
  go_wp2_with fail
  refine (isDig_c _ (chr_lt ok) _).mono ?_
  rintro e w' ⟨rfl, rfl⟩
  go_wp2_with fail
  refine (errorf_c m174 0 [] (by simp) (by simp) (h1.noRunes 0) ok.nxt (by simpa [nxt_q, pk_q] using rdy.q) none (by simp)).mono ?_
  rintro e w2 ⟨rfl, h2⟩
  go_wp2_with fail
  go_ret
  exact ⟨_, rfl, h2.nil⟩
theorem val_neg (ok : L.Ok) (hc : L.chr = 45) : Goes1 174 L L.nxt (plainT 184) := by
  have e_91_86 : (((L.chr : Nat) : Int) == 91) = false := beq_eq_false_iff_ne.2 (by omega)
  have e_123_86 : (((L.chr : Nat) : Int) == 123) = false := beq_eq_false_iff_ne.2 (by omega)
  have e_39_86 : (((L.chr : Nat) : Int) == 39) = false := beq_eq_false_iff_ne.2 (by omega)
  have e_34_86 : (((L.chr : Nat) : Int) == 34) = false := beq_eq_false_iff_ne.2 (by omega)
  have e_45_86 : (((L.chr : Nat) : Int) == 45) = true := beq_iff_eq.2 (by omega)
  have e1 : isWS L.chr = false := by rw [hc]; rfl
  clear hc
  intro base S0 w0 w b h0
  go_enter Tryz.func174, Tryz.ntmps174
  go_wp2_with fail
  refine (next_c h0 ok).mono ?_
  rintro e w1 ⟨rfl, h1⟩
  go_wp2_with fail
  refine (isWS_c _ (chr_lt ok) _).mono ?_
  rintro e w' ⟨rfl, rfl⟩
  go_wp2_with fail
  go_ret
  exact ⟨_, rfl, h1.plain _⟩
theorem val_blk (ok : L.Ok) (hc : L.chr = 40) : Goes1 174 L L.nxt.ign (plainT 185) := by
  have e_91_86 : (((L.chr : Nat) : Int) == 91) = false := beq_eq_false_iff_ne.2 (by omega)
  have e_123_86 : (((L.chr : Nat) : Int) == 123) = false := beq_eq_false_iff_ne.2 (by omega)
  have e_39_86 : (((L.chr : Nat) : Int) == 39) = false := beq_eq_false_iff_ne.2 (by omega)
  have e_34_86 : (((L.chr : Nat) : Int) == 34) = false := beq_eq_false_iff_ne.2 (by omega)
  have e_45_86 : (((L.chr : Nat) : Int) == 45) = false := beq_eq_false_iff_ne.2 (by omega)
  have e_40_86 : (((L.chr : Nat) : Int) == 40) = true := beq_iff_eq.2 (by omega)
  have e1 : isWS L.chr = false := by rw [hc]; rfl
  clear hc
  intro base S0 w0 w b h0
  go_enter Tryz.func174, Tryz.ntmps174
  go_wp2_with fail
  refine (next_c h0 ok).mono ?_
  rintro e w1 ⟨rfl, h1⟩
  go_wp2_with fail
  refine (isWS_c _ (chr_lt ok) _).mono ?_
  rintro e w' ⟨rfl, rfl⟩
  go_wp2_with fail
  refine (ign_c h1).mono ?_
  rintro e w2 ⟨rfl, h2⟩
  go_wp2_with fail
  go_ret
  exact ⟨_, rfl, h2.plain _⟩
theorem val_arr (ok : L.Ok) (rdy : L.Rdy) (hc : L.chr = 91) : Goes1 174 L (L.nxt.ign.emit 10 L.nxt.ign.txt) (plainT 180) := by
  have e_91_86 : (((L.chr : Nat) : Int) == 91) = true := beq_iff_eq.2 (by omega)
  have e1 : isWS L.chr = false := by rw [hc]; rfl
  clear hc
  intro base S0 w0 w b h0
  go_enter Tryz.func174, Tryz.ntmps174
  go_wp2_with fail
  refine (next_c h0 ok).mono ?_
  rintro e w1 ⟨rfl, h1⟩
  go_wp2_with fail
  refine (isWS_c _ (chr_lt ok) _).mono ?_
  rintro e w' ⟨rfl, rfl⟩
  go_wp2_with fail
  refine (ign_c h1).mono ?_
  rintro e w2 ⟨rfl, h2⟩
  go_wp2_with fail
  refine (emit_c 10 h2 ok.nxt.ign (by show L.nxt.parts = []; simpa [nxt_parts] using rdy.parts) (Nat.le_refl _) (by show L.nxt.q.length < 10; simpa [nxt_q] using rdy.q)).mono ?_
  rintro e w3 ⟨rfl, h3⟩
  go_wp2_with fail
  go_ret
  exact ⟨_, rfl, h3.plain _⟩
theorem neg_eof (ok : L.Ok) (rdy : L.Rdy) (hc : L.chr = 0) : Goes1 184 L (L.nxt.err m184) none := by
  have e_46_86 : (((L.chr : Nat) : Int) == 46) = false := beq_eq_false_iff_ne.2 (by omega)
  have e2 : isDig L.chr = false := by rw [hc]; rfl
  clear hc
  intro base S0 w0 w b h0
  go_enter Tryz.func184, Tryz.ntmps184
  go_wp2_with fail
  refine (next_c h0 ok).mono ?_
  rintro e w1 ⟨rfl, h1⟩
  go_wp2_with fail
  refine (isDig_c _ (chr_lt ok) _).mono ?_
  rintro e w' ⟨rfl, rfl⟩
  have hE := h1.runes [(L.chr : Int)]
  go_wp2_with fail
  refine (errorf_c m184 _ [(L.chr : Int)] (fun r hr => by have := chr_lt ok; simp at hr; omega) (by simp) hE ok.nxt (by simpa [nxt_q, pk_q] using rdy.q) _ (fun _ => rfl)).mono ?_
  rintro e w2 ⟨rfl, h2⟩
  go_wp2_with fail
  go_ret
  exact ⟨_, rfl, h2.nil⟩
theorem blk_ch (ok : L.Ok) (h1 : L.chr ≠ 41) (h2 : L.chr ≠ 0) : Goes1 185 L L.nxt (plainT 185) := by
  have e_41_86 : (((L.chr : Nat) : Int) == 41) = false := beq_eq_false_iff_ne.2 (by omega)
  have e_0_86 : (((L.chr : Nat) : Int) == 0) = false := beq_eq_false_iff_ne.2 (by omega)
  clear h1 h2
  intro base S0 w0 w b h0
  go_enter Tryz.func185, Tryz.ntmps185
  go_wp2_with fail
  refine (next_c h0 ok).mono ?_
  rintro e w1 ⟨rfl, h1⟩
  go_wp2_with fail
  go_ret
  exact ⟨_, rfl, h1.plain _⟩
theorem blk_eof (ok : L.Ok) (rdy : L.Rdy) (hc : L.chr = 0) : Goes1 185 L (L.nxt.err m185) none := by
  have e_41_86 : (((L.chr : Nat) : Int) == 41) = false := beq_eq_false_iff_ne.2 (by omega)
  have e_0_86 : (((L.chr : Nat) : Int) == 0) = true := beq_iff_eq.2 (by omega)
  clear hc
  intro base S0 w0 w b h0
  go_enter Tryz.func185, Tryz.ntmps185
  go_wp2_with fail
  refine (next_c h0 ok).mono ?_
  rintro e w1 ⟨rfl, h1⟩
  go_wp2_with fail
  refine (errorf_c m185 0 [] (by simp) (by simp) (h1.noRunes 0) ok.nxt (by simpa [nxt_q, pk_q] using rdy.q) none (by simp)).mono ?_
  rintro e w2 ⟨rfl, h2⟩
  go_wp2_with fail
  go_ret
  exact ⟨_, rfl, h2.nil⟩
theorem num_ws (ok : L.Ok) (rdy : L.Rdy) (st : List Nat) (n : Nat) (hst : L.stack = st ++ [n]) (hl : st.length ≤ 1000000) (hc : L.chr = 32) : Goes1 199 L ((L.pk.emit 7 L.pk.txt).stk st) (plainT n) := by
  have e_45_86 : (((L.chr : Nat) : Int) == 45) = false := beq_eq_false_iff_ne.2 (by omega)
  have e_46_86 : (((L.chr : Nat) : Int) == 46) = false := beq_eq_false_iff_ne.2 (by omega)
  have e_0_86 : (((L.chr : Nat) : Int) == 0) = false := beq_eq_false_iff_ne.2 (by omega)
  have e_125_86 : (((L.chr : Nat) : Int) == 125) = false := beq_eq_false_iff_ne.2 (by omega)
  have e_59_86 : (((L.chr : Nat) : Int) == 59) = false := beq_eq_false_iff_ne.2 (by omega)
  have e_44_86 : (((L.chr : Nat) : Int) == 44) = false := beq_eq_false_iff_ne.2 (by omega)
  have e1 : isDig L.chr = false := by rw [hc]; rfl
  have e2 : isSuf L.chr = false := by rw [hc]; rfl
  have e3 : isNLb L.chr = false := by rw [hc]; rfl
  have e4 : isWS L.chr = true := by rw [hc]; rfl
  clear hc
  intro base S0 w0 w b h0
  go_enter Tryz.func199, Tryz.ntmps199
  go_wp2_with fail
  refine (next_c h0 ok).mono ?_
  rintro e w1 ⟨rfl, h1⟩
  go_wp2_with fail
  refine (isDig_c _ (chr_lt ok) _).mono ?_
  rintro e w' ⟨rfl, rfl⟩
  go_wp2_with fail
  refine (isSuf_c _ (chr_lt ok) _).mono ?_
  rintro e w' ⟨rfl, rfl⟩
  go_wp2_with fail
  refine (isNLb_c _ (chr_lt ok) _).mono ?_
  rintro e w' ⟨rfl, rfl⟩
  go_wp2_with fail
  refine (isWS_c _ (chr_lt ok) _).mono ?_
  rintro e w' ⟨rfl, rfl⟩
  go_wp2_with fail
  refine (back_c h1 ok.nxt (nxt_width _)).mono ?_
  rintro e w2 ⟨rfl, h2⟩
  rw [nxt_back] at h2
  go_wp2_with fail
  refine (emit_c 7 h2 ok.pk (by simpa [nxt_parts, pk_parts] using rdy.parts) (by have := rdy.start; simp only [pk_start, pk_pos]; omega) (by simpa [nxt_q, pk_q] using rdy.q)).mono ?_
  rintro e w3 ⟨rfl, h3⟩
  go_wp2_with fail
  refine (pop_c st n h3 (by show L.pk.stack = _; rw [pk_stack]; exact hst) hl).mono ?_
  rintro e w4 ⟨rfl, h4⟩
  go_wp2_with fail
  go_ret
  exact ⟨_, rfl, h4.plain _⟩
theorem num_eof (ok : L.Ok) (rdy : L.Rdy) (st : List Nat) (n : Nat) (hst : L.stack = st ++ [n]) (hl : st.length ≤ 1000000) (hc : L.chr = 0) : Goes1 199 L ((L.pk.emit 7 L.pk.txt).stk st) (plainT n) := by
  have e_45_86 : (((L.chr : Nat) : Int) == 45) = false := beq_eq_false_iff_ne.2 (by omega)
  have e_46_86 : (((L.chr : Nat) : Int) == 46) = false := beq_eq_false_iff_ne.2 (by omega)
  have e_0_86 : (((L.chr : Nat) : Int) == 0) = true := beq_iff_eq.2 (by omega)
  have e1 : isDig L.chr = false := by rw [hc]; rfl
  have e2 : isSuf L.chr = false := by rw [hc]; rfl
  have e3 : isNLb L.chr = false := by rw [hc]; rfl
  clear hc
  intro base S0 w0 w b h0
  go_enter Tryz.func199, Tryz.ntmps199
  go_wp2_with fail
  refine (next_c h0 ok).mono ?_
  rintro e w1 ⟨rfl, h1⟩
  go_wp2_with fail
  refine (isDig_c _ (chr_lt ok) _).mono ?_
  rintro e w' ⟨rfl, rfl⟩
  go_wp2_with fail
  refine (isSuf_c _ (chr_lt ok) _).mono ?_
  rintro e w' ⟨rfl, rfl⟩
  go_wp2_with fail
  refine (isNLb_c _ (chr_lt ok) _).mono ?_
  rintro e w' ⟨rfl, rfl⟩
  go_wp2_with fail
  refine (back_c h1 ok.nxt (nxt_width _)).mono ?_
  rintro e w2 ⟨rfl, h2⟩
  rw [nxt_back] at h2
  go_wp2_with fail
  refine (emit_c 7 h2 ok.pk (by simpa [nxt_parts, pk_parts] using rdy.parts) (by have := rdy.start; simp only [pk_start, pk_pos]; omega) (by simpa [nxt_q, pk_q] using rdy.q)).mono ?_
  rintro e w3 ⟨rfl, h3⟩
  go_wp2_with fail
  refine (pop_c st n h3 (by show L.pk.stack = _; rw [pk_stack]; exact hst) hl).mono ?_
  rintro e w4 ⟨rfl, h4⟩
  go_wp2_with fail
  go_ret
  exact ⟨_, rfl, h4.plain _⟩
theorem arr_other (ok : L.Ok) (hst : L.stack.length ≤ 1000000) (e1 : isSp L.chr = false) (h1 : L.chr ≠ 35) (h2 : L.chr ≠ 47) (h3 : L.chr ≠ 44) (h4 : L.chr ≠ 93) : Goes1 180 L (L.pk.psh 190) (plainT 174) := by
  have e_35_86 : (((L.chr : Nat) : Int) == 35) = false := beq_eq_false_iff_ne.2 (by omega)
  have e_47_86 : (((L.chr : Nat) : Int) == 47) = false := beq_eq_false_iff_ne.2 (by omega)
  have e_44_86 : (((L.chr : Nat) : Int) == 44) = false := beq_eq_false_iff_ne.2 (by omega)
  have e_93_86 : (((L.chr : Nat) : Int) == 93) = false := beq_eq_false_iff_ne.2 (by omega)
  clear h1 h2 h3 h4
  intro base S0 w0 w b h0
  go_enter Tryz.func180, Tryz.ntmps180
  go_wp2_with fail
  refine (next_c h0 ok).mono ?_
  rintro e w1 ⟨rfl, h1⟩
  go_wp2_with fail
  refine (isSp_c _ (chr_lt ok) _).mono ?_
  rintro e w' ⟨rfl, rfl⟩
  go_wp2_with fail
  refine (back_c h1 ok.nxt (nxt_width _)).mono ?_
  rintro e w2 ⟨rfl, h2⟩
  rw [nxt_back] at h2
  go_wp2_with fail
  refine (push_c h2 190 (by rw [pk_stack]; exact hst)).mono ?_
  rintro e w3 ⟨rfl, h3⟩
  go_wp2_with fail
  go_ret
  exact ⟨_, rfl, h3.plain _⟩
theorem arrend_ws (ok : L.Ok) (e1 : isWS L.chr = true) : Goes1 190 L L.nxt (skipT 190) := by
  intro base S0 w0 w b h0
  go_enter Tryz.func190, Tryz.ntmps190
  go_wp2_with fail
  refine (next_c h0 ok).mono ?_
  rintro e w1 ⟨rfl, h1⟩
  go_wp2_with fail
  refine (isWS_c _ (chr_lt ok) _).mono ?_
  rintro e w' ⟨rfl, rfl⟩
  go_wp2_with fail
  refine (skipV_c h1 190).mono ?_
  rintro e w2 ⟨rfl, hv⟩
  go_wp2_with fail
  go_ret
  exact ⟨_, rfl, hv⟩
theorem arrend_err (ok : L.Ok) (rdy : L.Rdy) (e1 : isWS L.chr = false) (e2 : isNLb L.chr = false) (h1 : L.chr ≠ 35) (h2 : L.chr ≠ 47) (h3 : L.chr ≠ 44) (h4 : L.chr ≠ 93) : Goes1 190 L (L.nxt.err m190) none := by
  have e_35_86 : (((L.chr : Nat) : Int) == 35) = false := beq_eq_false_iff_ne.2 (by omega)
  have e_47_86 : (((L.chr : Nat) : Int) == 47) = false := beq_eq_false_iff_ne.2 (by omega)
  have e_44_86 : (((L.chr : Nat) : Int) == 44) = false := beq_eq_false_iff_ne.2 (by omega)
  have e_93_86 : (((L.chr : Nat) : Int) == 93) = false := beq_eq_false_iff_ne.2 (by omega)
  clear h1 h2 h3 h4
  intro base S0 w0 w b h0
  go_enter Tryz.func190, Tryz.ntmps190
  go_wp2_with fail
  refine (next_c h0 ok).mono ?_
  rintro e w1 ⟨rfl, h1⟩
  go_wp2_with fail
  refine (isWS_c _ (chr_lt ok) _).mono ?_
  rintro e w' ⟨rfl, rfl⟩
  go_wp2_with fail
  refine (isNLb_c _ (chr_lt ok) _).mono ?_
  rintro e w' ⟨rfl, rfl⟩
  have hE := h1.runes [44, 93, (L.chr : Int)]
  go_wp2_with fail
  refine (errorf_c m190 _ [44, 93, (L.chr : Int)] (fun r hr => by have := chr_lt ok; simp at hr; omega) (by simp) hE ok.nxt (by simpa [nxt_q, pk_q] using rdy.q) _ (fun _ => rfl)).mono ?_
  rintro e w2 ⟨rfl, h2⟩
  go_wp2_with fail
  go_ret
  exact ⟨_, rfl, h2.nil⟩
end
end Go.Cf

/-
  Strings without quotes: whether they are truths, variables; an item of a string.
-/
namespace Go.Cf
open Go.RowKit Go.Conc Go.Proofs
/-- A word for a truth. -/
def boolWord (s : ByteArray) : Bool :=
  (Lib.toLowerA s.data.toList == [116, 114, 117, 101]) || (Lib.toLowerA s.data.toList == [102, 97, 108, 115, 101]) || (Lib.toLowerA s.data.toList == [111, 110]) || (Lib.toLowerA s.data.toList == [111, 102, 102]) ||
    (Lib.toLowerA s.data.toList == [121, 101, 115]) || (Lib.toLowerA s.data.toList == [110, 111])
section
variable {base : Nat} {S0 : Nat → Prop} {w0 w w1 : World} {b : Nat} {L L' : LX}
set_option maxRecDepth 100000 in
theorem hasEsc_c (h : At base S0 w0 w b L) (hp : L.parts = []) : Calls Tryz.prog 200 #[.pointer (some ⟨b, 0, none⟩)] w fun e w' => e = .returned (.bool false) ∧ At base S0 w0 w' b L := by
  obtain ⟨A8, c8n, c8⟩ := h.pv hp
  go_enter Tryz.func200, Tryz.ntmps200
  go_wp2
  go_ret
  exact ⟨rfl, h⟩
set_option maxRecDepth 100000 in
theorem isBool_c (h : At base S0 w0 w b L) (ok : L.Ok) (rdy : L.Rdy) (hk : boolWord L.txt = false) :
    Calls Tryz.prog 201 #[.pointer (some ⟨b, 0, none⟩)] w fun e w' => e = .returned (.bool false) ∧ At base S0 w0 w' b L := by
  have c0 := h.c0
  have c1 := h.c1
  have c2 := h.c2
  have hsm := ok.small
  have hpp := ok.pos
  have hst := rdy.start
  have ha := toList_txt L ok
  simp only [boolWord, Bool.or_eq_false_iff] at hk
  obtain ⟨⟨⟨⟨⟨k1, k2⟩, k3⟩, k4⟩, k5⟩, k6⟩ := hk
  have hsz : L.txt.size ≤ 140737488355328 := by unfold LX.txt; simp; omega
  obtain ⟨t, ht⟩ : ∃ t, t = L.txt := ⟨_, rfl⟩
  have ht2 : L.inp.extract L.start L.pos = t := ht.symm
  rw [← ht] at ha k1 k2 k3 k4 k5 k6 hsz
  have HA := Lib.hid ha
  clear ha ht
  go_enter Tryz.func201, Tryz.ntmps201
  go_wp2
  refine wp_still_tail 13 mixed (by kernel_rfl) ?_
  simp only [List.take_succ_cons, List.take_zero, List.drop_succ_cons, List.drop_zero]
  repeat still_step
  refine wpStill_nil ?_
  go_wp2_with fail
  refine (Tryz.strings_ToLower_ascii t _ hsz HA.out).mono ?_
  rintro e w1 ⟨rfl, hb⟩
  have h1 := At.below (h.drewN 1) hb
  clear c0 c1 c2 hb
  go_wp2
  go_ret
  exact ⟨rfl, h1⟩
set_option maxRecDepth 100000 in
theorem isVar_no (h : At base S0 w0 w b L) (ok : L.Ok) (hk : L.start < L.inp.size → byteAt L.inp L.start ≠ 36) :
    Calls Tryz.prog 202 #[.pointer (some ⟨b, 0, none⟩)] w fun e w' => e = .returned (.bool false) ∧ At base S0 w0 w' b L := by
  have c0 := h.c0
  have c1 := h.c1
  have hsm := ok.small
  by_cases hs : L.start < L.inp.size
  · have h1 : (L.start : Int) < (L.inp.size : Int) := by omega
    have hne := hk hs
    rw [← byteAt_get _ _ hs] at hne
    have e1 : (((L.inp[L.start]'hs).toNat : Int) == 36) = false := beq_eq_false_iff_ne.2 (by omega)
    have e2 : decide ((L.inp.size : Int) ≤ (L.start : Int)) = false := decide_eq_false (by omega)
    go_enter Tryz.func202, Tryz.ntmps202
    go_wp2_with fail
    go_quiet (fail)
    go_wp2_with fail
    go_quiet (fail)
    go_wp2
    go_ret
    exact ⟨rfl, (h.drewN _).drewN _⟩
  · have e2 : decide ((L.inp.size : Int) ≤ (L.start : Int)) = true := decide_eq_true (by omega)
    go_enter Tryz.func202, Tryz.ntmps202
    go_wp2_with fail
    go_quiet (fail)
    go_wp2
    go_ret
    exact ⟨rfl, h.drewN _⟩
set_option maxRecDepth 100000 in
set_option maxHeartbeats 800000 in
theorem emitString_c (h : At base S0 w0 w b L) (ok : L.Ok) (hp : L.parts = []) (hs : L.start ≤ L.pos) (hq : L.q.length < 10) :
    Calls Tryz.prog 197 #[.pointer (some ⟨b, 0, none⟩)] w fun e w' => e = .returned (.tuple #[]) ∧ At base S0 w0 w' b (L.emit 5 L.txt) := by
  obtain ⟨A8, c8n, c8⟩ := h.pv hp
  have c0 := h.c0
  have c1 := h.c1
  have c2 := h.c2
  have c4 := h.c4
  have c6 := h.c6
  have c10 := h.c10
  have c11 := h.c11
  have f1 := h.free 1
  have f11 := h.free 11
  have hsm := ok.small
  have hpp := ok.pos
  have hil := ok.ilstart
  have hl0 := ok.line0
  have hl1 := ok.line1
  have hxs : (L.inp.extract L.start L.pos).size ≤ 1000000 := by simp; omega
  have HQ := Lib.hid hq
  have HP := Lib.hid hp
  clear hq hp
  refine calls_of_wpN Tryz.func197 rfl ?_
  simp only [Tryz.ntmps197, List.size_toArray, List.length_cons, List.length_nil, Nat.reduceAdd, Nat.reduceSub, Array.replicate_succ, Array.replicate_zero, List.push_toArray, List.append_toArray, List.nil_append, List.cons_append]
  refine wpN_seq_k (fun K hK => ?_)
  go_wp2
  refine wpN_seq_k (fun K hK => ?_)
  go_wp2
  go_quiet (fail)
  go_wp2
  refine wpN_seq_k (fun K hK => ?_)
  go_quiet (fail)
  go_wp2
  refine wpN_seq (wpN_send 11 mixed (by kernel_rfl) ?_)
  simp only [unsent, List.modify_succ_cons, List.modify_zero_cons]
  repeat still_step
  refine wpStill_nil ?_
  refine Lst.send (c := L.ch) (cap := 10) (buf := (L.q.map It.v).toArray) (s := L.cs) (r := L.cr) (tm := false) (z := .tuple #[]) (v := .agg #[i64 5, .string (L.inp.extract L.start L.pos), i64 L.line, i64 ((L.pos : Int) - L.ilstart - ((L.pos - L.start : Nat) : Int))]) rfl rfl rfl h.heapCh (by simpa using HQ.out) ?_
  refine Lst.nil ?_
  have hsz : (L.txt.size : Int) = ((L.pos - L.start : Nat) : Int) := by unfold LX.txt; simp; omega
  have hv : It.v ⟨5, L.txt, L.line, (L.pos : Int) - L.ilstart - L.txt.size⟩ = .agg #[i64 5, .string (L.inp.extract L.start L.pos), i64 L.line, i64 ((L.pos : Int) - L.ilstart - ((L.pos - L.start : Nat) : Int))] := by rw [hsz]; rfl
  have hC := h.chan (L.q ++ [⟨5, L.txt, L.line, (L.pos : Int) - L.ilstart - L.txt.size⟩]) (L.cs + 1) L.cr
  rw [List.map_append, List.map_singleton, hv, ← List.push_toArray] at hC
  simp only [Exit.then]
  refine wpN_of_wp (via (At.any hC rfl rfl rfl rfl) (fun W h2 => ?_))
  clear c0 c1 c2 c4 c6 c8 c10 c11 f1 f11 hC hv hsz hxs
  have c1 := h2.c1
  have c2 := h2.c2
  have c10 := h2.c10
  have c11 := h2.c11
  have f1 := h2.free 1
  have f11 := h2.free 11
  go_wp2
  go_end0
  exact ⟨rfl, At.any ((h2.set (L' := { L with q := L.q ++ [⟨5, L.txt, L.line, (L.pos : Int) - L.ilstart - L.txt.size⟩], cs := L.cs + 1, start := L.pos }) 1 (i64 L.pos) (fun _ _ _ => rfl) rfl rfl rfl rfl rfl rfl rfl).set (L' := L.emit 5 L.txt) 11 (i64 L.lstart) (fun _ _ _ => rfl) rfl rfl rfl rfl rfl rfl rfl) rfl rfl rfl rfl⟩
end
end Go.Cf

/-
  The lexer's states, path by path: strings.
-/
namespace Go.Cf
open Go.RowKit Go.Conc Go.Proofs
/-- The state that follows a string's escape. -/
def LX.ssfd (L : LX) (n : Nat) : LX := { L with ssf := some n }
theorem At.ssfd {base : Nat} {S0 : Nat → Prop} {w0 w : World} {b : Nat} {L : LX} (h : At base S0 w0 w b L) (n : Nat) : At base S0 w0 (w.setCell ⟨b, 9, none⟩ (fnV n)) b (L.ssfd n) :=
  h.set (L' := L.ssfd n) 9 (fnV n) (fun _ _ _ => rfl) rfl rfl rfl rfl rfl rfl rfl
theorem LX.Ok.ssfd {L : LX} (ok : L.Ok) (n : Nat) : (L.ssfd n).Ok := ⟨ok.small, ok.pos, ok.start, ok.width, ok.lstart, ok.ilstart, ok.line, ok.asc⟩
attribute [local go_sem] run_store_fn
section
variable {L : LX}
def m183 : ByteArray := ⟨#[85, 110, 101, 120, 112, 101, 99, 116, 101, 100, 32, 69, 79, 70, 46]⟩
def m196 : ByteArray := ⟨#[73, 110, 118, 97, 108, 105, 100, 32, 101, 115, 99, 97, 112, 101, 32, 99, 104, 97, 114, 97, 99, 116, 101, 114, 32, 39, 37, 118, 39, 46, 32, 79, 110, 108, 121, 32, 116, 104, 101, 32, 102, 111, 108, 108, 111, 119, 105, 110, 103, 32, 101, 115, 99, 97, 112, 101, 32, 99, 104, 97, 114, 97, 99, 116, 101, 114, 115, 32, 97, 114, 101, 32, 97, 108, 108, 111, 119, 101, 100, 58, 32, 92, 120, 88, 88, 44, 32, 92, 116, 44, 32, 92, 110, 44, 32, 92, 114, 44, 32, 92, 34, 44, 32, 92, 92, 46]⟩
theorem val_str (ok : L.Ok) (e1 : isWS L.chr = false) (e2 : isDig L.chr = false) (e3 : isNLb L.chr = false) (h1 : L.chr ≠ 91) (h2 : L.chr ≠ 123) (h3 : L.chr ≠ 39) (h4 : L.chr ≠ 34) (h5 : L.chr ≠ 45) (h6 : L.chr ≠ 40) (h7 : L.chr ≠ 46) : Goes1 174 L (L.pk.ssfd 187) (plainT 187) := by
  have e_91_693 : (((L.chr : Nat) : Int) == 91) = false := beq_eq_false_iff_ne.2 (by omega)
  have e_123_693 : (((L.chr : Nat) : Int) == 123) = false := beq_eq_false_iff_ne.2 (by omega)
  have e_39_693 : (((L.chr : Nat) : Int) == 39) = false := beq_eq_false_iff_ne.2 (by omega)
  have e_34_693 : (((L.chr : Nat) : Int) == 34) = false := beq_eq_false_iff_ne.2 (by omega)
  have e_45_693 : (((L.chr : Nat) : Int) == 45) = false := beq_eq_false_iff_ne.2 (by omega)
  have e_40_693 : (((L.chr : Nat) : Int) == 40) = false := beq_eq_false_iff_ne.2 (by omega)
  have e_46_693 : (((L.chr : Nat) : Int) == 46) = false := beq_eq_false_iff_ne.2 (by omega)
  clear h1 h2 h3 h4 h5 h6 h7
  intro base S0 w0 w b h0
  go_enter Tryz.func174, Tryz.ntmps174
  go_wp2_with fail
  refine (next_c h0 ok).mono ?_
  rintro e w1 ⟨rfl, h1⟩
  go_wp2_with fail
  refine (isWS_c _ (chr_lt ok) _).mono ?_
  rintro e w' ⟨rfl, rfl⟩
  go_wp2_with fail
  refine (isDig_c _ (chr_lt ok) _).mono ?_
  rintro e w' ⟨rfl, rfl⟩
  go_wp2_with fail
  refine (isNLb_c _ (chr_lt ok) _).mono ?_
  rintro e w' ⟨rfl, rfl⟩
  go_wp2_with fail
  refine (back_c h1 ok.nxt (nxt_width _)).mono ?_
  rintro e w2 ⟨rfl, h2⟩
  rw [nxt_back] at h2
  have c9 := h2.c9
  have f9 := h2.free 9
  go_wp2
  go_ret
  exact ⟨_, rfl, (h2.ssfd 187).plain _⟩
theorem val_dq (ok : L.Ok) (hc : L.chr = 34) : Goes1 174 L (L.nxt.ign.ssfd 183) (plainT 183) := by
  have e_91_693 : (((L.chr : Nat) : Int) == 91) = false := beq_eq_false_iff_ne.2 (by omega)
  have e_123_693 : (((L.chr : Nat) : Int) == 123) = false := beq_eq_false_iff_ne.2 (by omega)
  have e_39_693 : (((L.chr : Nat) : Int) == 39) = false := beq_eq_false_iff_ne.2 (by omega)
  have e_34_693 : (((L.chr : Nat) : Int) == 34) = true := beq_iff_eq.2 (by omega)
  have e1 : isWS L.chr = false := by rw [hc]; rfl
  clear hc
  intro base S0 w0 w b h0
  go_enter Tryz.func174, Tryz.ntmps174
  go_wp2_with fail
  refine (next_c h0 ok).mono ?_
  rintro e w1 ⟨rfl, h1⟩
  go_wp2_with fail
  refine (isWS_c _ (chr_lt ok) _).mono ?_
  rintro e w' ⟨rfl, rfl⟩
  go_wp2_with fail
  refine (ign_c h1).mono ?_
  rintro e w2 ⟨rfl, h2⟩
  have c9 := h2.c9
  have f9 := h2.free 9
  go_wp2
  go_ret
  exact ⟨_, rfl, (h2.ssfd 183).plain _⟩
theorem str_ch (ok : L.Ok) (e1 : isNLb L.chr = false) (e2 : isWS L.chr = false) (h1 : L.chr ≠ 92) (h2 : L.chr ≠ 0) (h3 : L.chr ≠ 59) (h4 : L.chr ≠ 44) (h5 : L.chr ≠ 93) (h6 : L.chr ≠ 125) (h7 : L.chr ≠ 39) : Goes1 187 L L.nxt (plainT 187) := by
  have e_92_693 : (((L.chr : Nat) : Int) == 92) = false := beq_eq_false_iff_ne.2 (by omega)
  have e_0_693 : (((L.chr : Nat) : Int) == 0) = false := beq_eq_false_iff_ne.2 (by omega)
  have e_59_693 : (((L.chr : Nat) : Int) == 59) = false := beq_eq_false_iff_ne.2 (by omega)
  have e_44_693 : (((L.chr : Nat) : Int) == 44) = false := beq_eq_false_iff_ne.2 (by omega)
  have e_93_693 : (((L.chr : Nat) : Int) == 93) = false := beq_eq_false_iff_ne.2 (by omega)
  have e_125_693 : (((L.chr : Nat) : Int) == 125) = false := beq_eq_false_iff_ne.2 (by omega)
  have e_39_693 : (((L.chr : Nat) : Int) == 39) = false := beq_eq_false_iff_ne.2 (by omega)
  clear h1 h2 h3 h4 h5 h6 h7
  intro base S0 w0 w b h0
  go_enter Tryz.func187, Tryz.ntmps187
  go_wp2_with fail
  refine (next_c h0 ok).mono ?_
  rintro e w1 ⟨rfl, h1⟩
  go_wp2_with fail
  refine (isNLb_c _ (chr_lt ok) _).mono ?_
  rintro e w' ⟨rfl, rfl⟩
  go_wp2_with fail
  refine (isWS_c _ (chr_lt ok) _).mono ?_
  rintro e w' ⟨rfl, rfl⟩
  go_wp2_with fail
  go_ret
  exact ⟨_, rfl, h1.plain _⟩
theorem str_ws (ok : L.Ok) (rdy : L.Rdy) (st : List Nat) (n : Nat) (hst : L.stack = st ++ [n]) (hl : st.length ≤ 1000000) (hb : boolWord L.pk.txt = false) (hv : L.pk.start < L.pk.inp.size → byteAt L.pk.inp L.pk.start ≠ 36) (hc : L.chr = 32) : Goes1 187 L ((L.pk.emit 5 L.pk.txt).stk st) (plainT n) := by
  have e_92_693 : (((L.chr : Nat) : Int) == 92) = false := beq_eq_false_iff_ne.2 (by omega)
  have e_0_693 : (((L.chr : Nat) : Int) == 0) = false := beq_eq_false_iff_ne.2 (by omega)
  have e_59_693 : (((L.chr : Nat) : Int) == 59) = false := beq_eq_false_iff_ne.2 (by omega)
  have e_44_693 : (((L.chr : Nat) : Int) == 44) = false := beq_eq_false_iff_ne.2 (by omega)
  have e_93_693 : (((L.chr : Nat) : Int) == 93) = false := beq_eq_false_iff_ne.2 (by omega)
  have e_125_693 : (((L.chr : Nat) : Int) == 125) = false := beq_eq_false_iff_ne.2 (by omega)
  have e1 : isNLb L.chr = false := by rw [hc]; rfl
  have e2 : isWS L.chr = true := by rw [hc]; rfl
  have HB := Lib.hid hb
  have HV := Lib.hid hv
  clear hc hb hv
  intro base S0 w0 w b h0
  go_enter Tryz.func187, Tryz.ntmps187
  go_wp2_with fail
  refine (next_c h0 ok).mono ?_
  rintro e w1 ⟨rfl, h1⟩
  go_wp2_with fail
  refine (isNLb_c _ (chr_lt ok) _).mono ?_
  rintro e w' ⟨rfl, rfl⟩
  go_wp2_with fail
  refine (isWS_c _ (chr_lt ok) _).mono ?_
  rintro e w' ⟨rfl, rfl⟩
  go_wp2_with fail
  refine (back_c h1 ok.nxt (nxt_width _)).mono ?_
  rintro e w2 ⟨rfl, h2⟩
  rw [nxt_back] at h2
  go_wp2_with fail
  refine (hasEsc_c h2 (by simpa [pk_parts] using rdy.parts)).mono ?_
  rintro e w3 ⟨rfl, h3⟩
  go_wp2_with fail
  refine (isBool_c h3 ok.pk ⟨(by simpa [pk_parts] using rdy.parts), (by have := rdy.start; simp only [pk_start, pk_pos]; omega), (by simpa [pk_q] using rdy.q)⟩ HB.out).mono ?_
  rintro e w4 ⟨rfl, h4⟩
  go_wp2_with fail
  refine (isVar_no h4 ok.pk HV.out).mono ?_
  rintro e w5 ⟨rfl, h5⟩
  go_wp2_with fail
  refine (emitString_c h5 ok.pk (by simpa [pk_parts] using rdy.parts) (by have := rdy.start; simp only [pk_start, pk_pos]; omega) (by simpa [pk_q] using rdy.q)).mono ?_
  rintro e w6 ⟨rfl, h6⟩
  go_wp2_with fail
  refine (pop_c st n h6 (by show L.pk.stack = _; rw [pk_stack]; exact hst) hl).mono ?_
  rintro e w7 ⟨rfl, h7⟩
  go_wp2_with fail
  go_ret
  exact ⟨_, rfl, h7.plain _⟩
theorem dq_ch (ok : L.Ok) (h1 : L.chr ≠ 92) (h2 : L.chr ≠ 34) (h3 : L.chr ≠ 0) : Goes1 183 L L.nxt (plainT 183) := by
  have e_92_693 : (((L.chr : Nat) : Int) == 92) = false := beq_eq_false_iff_ne.2 (by omega)
  have e_34_693 : (((L.chr : Nat) : Int) == 34) = false := beq_eq_false_iff_ne.2 (by omega)
  have e_0_693 : (((L.chr : Nat) : Int) == 0) = false := beq_eq_false_iff_ne.2 (by omega)
  clear h1 h2 h3
  intro base S0 w0 w b h0
  go_enter Tryz.func183, Tryz.ntmps183
  go_wp2_with fail
  refine (next_c h0 ok).mono ?_
  rintro e w1 ⟨rfl, h1⟩
  go_wp2_with fail
  go_ret
  exact ⟨_, rfl, h1.plain _⟩
theorem dq_eof (ok : L.Ok) (rdy : L.Rdy) (hc : L.chr = 0) (hl : L.nxt.start < L.nxt.pos) : Goes1 183 L (L.nxt.err m183) none := by
  have e_92_693 : (((L.chr : Nat) : Int) == 92) = false := beq_eq_false_iff_ne.2 (by omega)
  have e_34_693 : (((L.chr : Nat) : Int) == 34) = false := beq_eq_false_iff_ne.2 (by omega)
  have e_0_693 : (((L.chr : Nat) : Int) == 0) = true := beq_iff_eq.2 (by omega)
  have HLT : Hid (((L.nxt.start : Nat) : Int) < ((L.nxt.pos : Nat) : Int)) := Lib.hid (by omega)
  clear hc hl
  intro base S0 w0 w b h0
  go_enter Tryz.func183, Tryz.ntmps183
  go_wp2_with fail
  refine (next_c h0 ok).mono ?_
  rintro e w1 ⟨rfl, h1⟩
  have c1 := h1.c1
  have c2 := h1.c2
  have hlt : ((L.nxt.start : Nat) : Int) < ((L.nxt.pos : Nat) : Int) := HLT.out
  go_wp2_with fail
  go_quiet (fail)
  have h1 := h1.drewN nq
  clear c1 c2
  go_wp2_with fail
  refine (errorf_c m183 0 [] (by simp) (by simp) (h1.noRunes 0) ok.nxt (by simpa [nxt_q, pk_q] using rdy.q) none (by simp)).mono ?_
  rintro e w2 ⟨rfl, h2⟩
  go_wp2_with fail
  go_ret
  exact ⟨_, rfl, h2.nil⟩
theorem esc_err (ok : L.Ok) (hq : L.q.length < 10) (h1 : L.chr ≠ 120) (h2 : L.chr ≠ 116) (h3 : L.chr ≠ 110) (h4 : L.chr ≠ 114) (h5 : L.chr ≠ 34) (h6 : L.chr ≠ 92) : Goes1 196 L (L.nxt.err m196) none := by
  have e_120_693 : (((L.chr : Nat) : Int) == 120) = false := beq_eq_false_iff_ne.2 (by omega)
  have e_116_693 : (((L.chr : Nat) : Int) == 116) = false := beq_eq_false_iff_ne.2 (by omega)
  have e_110_693 : (((L.chr : Nat) : Int) == 110) = false := beq_eq_false_iff_ne.2 (by omega)
  have e_114_693 : (((L.chr : Nat) : Int) == 114) = false := beq_eq_false_iff_ne.2 (by omega)
  have e_34_693 : (((L.chr : Nat) : Int) == 34) = false := beq_eq_false_iff_ne.2 (by omega)
  have e_92_693 : (((L.chr : Nat) : Int) == 92) = false := beq_eq_false_iff_ne.2 (by omega)
  clear h1 h2 h3 h4 h5 h6
  intro base S0 w0 w b h0
  go_enter Tryz.func196, Tryz.ntmps196
  go_wp2_with fail
  refine (next_c h0 ok).mono ?_
  rintro e w1 ⟨rfl, h1⟩
  have hE := h1.runes [(L.chr : Int)]
  go_wp2_with fail
  refine (errorf_c m196 _ [(L.chr : Int)] (fun r hr => by have := chr_lt ok; simp at hr; omega) (by simp) hE ok.nxt (by simpa [nxt_q] using hq) _ (fun _ => rfl)).mono ?_
  rintro e w2 ⟨rfl, h2⟩
  go_wp2_with fail
  go_ret
  exact ⟨_, rfl, h2.nil⟩
end
end Go.Cf

/-
  The lexer's steps to an error, and through strings and lists, by plain data.
-/
namespace Go.Cf
open Go.RowKit Go.Conc Go.Proofs
section
variable {s : ByteArray} {p st : Nat} {stk : List Nat} {L : LX}
theorem LX.Is0.ssfd (h : L.Is0 s p st stk) (n : Nat) : (L.ssfd n).Is0 s p st stk := ⟨h.ok.ssfd n, h.inp, h.pos, h.start, h.stack, h.parts, h.q⟩
theorem er_tve (hp : p < s.size) (hst : st ≤ p) (e1 : isWS (byteAt s p) = false) (e2 : isNLb (byteAt s p) = false) (h1 : byteAt s p ≠ 35) (h2 : byteAt s p ≠ 47) (h3 : byteAt s p ≠ 0) (h4 : byteAt s p ≠ 59) (h5 : byteAt s p ≠ 44) (h6 : byteAt s p ≠ 125) : ErrE s p st stk (plainT 94) := by
  rintro L ⟨h, hs⟩
  have hc := h.chr hp
  exact ⟨1, _, _, [], run1 hs enters94 h.q (tve_err h.ok (h.rdy hst) (by rw [hc]; exact e1) (by rw [hc]; exact e2) (by rw [hc]; exact h1) (by rw [hc]; exact h2) (by rw [hc]; exact h3) (by rw [hc]; exact h4) (by rw [hc]; exact h5) (by rw [hc]; exact h6)), (by show L.nxt.q ++ [_] = _; rw [(h.nxt hp).q]; rfl), rfl⟩
theorem er_dot (hp : p < s.size) (hst : st ≤ p) (e : byteAt s p = 46) : ErrE s p st stk (plainT 174) := by
  rintro L ⟨h, hs⟩
  have hc := h.chr hp
  exact ⟨1, _, _, [], run1 hs enters174 h.q (val_dot h.ok (h.rdy hst) (by rw [hc]; exact e)), (by show L.nxt.q ++ [_] = _; rw [(h.nxt hp).q]; rfl), rfl⟩
theorem enters184 : Enters 184 := fun args w => by kernel_rfl
theorem er_neg (hp : s.size ≤ p) (hst : st ≤ p) : ErrE s p st stk (plainT 184) := by
  rintro L ⟨h, hs⟩
  have hc := h.chrEnd hp
  exact ⟨1, _, _, [], run1 hs enters184 h.q (neg_eof h.ok (h.rdy hst) hc), (by show L.nxt.q ++ [_] = _; rw [(h.nxtEnd hp).q]; rfl), rfl⟩
theorem enters185 : Enters 185 := fun args w => by kernel_rfl
theorem er_blk (hp : s.size ≤ p) (hst : st ≤ p) : ErrE s p st stk (plainT 185) := by
  rintro L ⟨h, hs⟩
  have hc := h.chrEnd hp
  exact ⟨1, _, _, [], run1 hs enters185 h.q (blk_eof h.ok (h.rdy hst) hc), (by show L.nxt.q ++ [_] = _; rw [(h.nxtEnd hp).q]; rfl), rfl⟩
theorem enters190 : Enters 190 := fun args w => by kernel_rfl
theorem er_arrend (hp : p < s.size) (hst : st ≤ p) (e1 : isWS (byteAt s p) = false) (e2 : isNLb (byteAt s p) = false) (h1 : byteAt s p ≠ 35) (h2 : byteAt s p ≠ 47) (h3 : byteAt s p ≠ 44) (h4 : byteAt s p ≠ 93) : ErrE s p st stk (plainT 190) := by
  rintro L ⟨h, hs⟩
  have hc := h.chr hp
  exact ⟨1, _, _, [], run1 hs enters190 h.q (arrend_err h.ok (h.rdy hst) (by rw [hc]; exact e1) (by rw [hc]; exact e2) (by rw [hc]; exact h1) (by rw [hc]; exact h2) (by rw [hc]; exact h3) (by rw [hc]; exact h4)), (by show L.nxt.q ++ [_] = _; rw [(h.nxt hp).q]; rfl), rfl⟩
theorem enters183 : Enters 183 := fun args w => by kernel_rfl
theorem er_dq (hp : s.size ≤ p) (hst : st < p) : ErrE s p st stk (plainT 183) := by
  rintro L ⟨h, hs⟩
  have hc := h.chrEnd hp
  exact ⟨1, _, _, [], run1 hs enters183 h.q (dq_eof h.ok (h.rdy (Nat.le_of_lt hst)) hc (by rw [(h.nxtEnd hp).start, (h.nxtEnd hp).pos]; exact hst)), (by show L.nxt.q ++ [_] = _; rw [(h.nxtEnd hp).q]; rfl), rfl⟩
theorem ld_val_neg (hp : p < s.size) (e : byteAt s p = 45) : Leads s p st stk (plainT 174) (p + 1) st stk (plainT 184) := by
  rintro L ⟨h, hs⟩
  have hc := h.chr hp
  exact ⟨1, _, run1 hs enters174 h.q (val_neg h.ok (by rw [hc]; exact e)), (h.nxt hp).goes _⟩
theorem ld_val_blk (hp : p < s.size) (e : byteAt s p = 40) : Leads s p st stk (plainT 174) (p + 1) (p + 1) stk (plainT 185) := by
  rintro L ⟨h, hs⟩
  have hc := h.chr hp
  exact ⟨1, _, run1 hs enters174 h.q (val_blk h.ok (by rw [hc]; exact e)), ((h.nxt hp).ign).goes _⟩
theorem ld_blk_ch (hp : p < s.size) (h1 : byteAt s p ≠ 41) (h2 : byteAt s p ≠ 0) : Leads s p st stk (plainT 185) (p + 1) st stk (plainT 185) := by
  rintro L ⟨h, hs⟩
  have hc := h.chr hp
  exact ⟨1, _, run1 hs enters185 h.q (blk_ch h.ok (by rw [hc]; exact h1) (by rw [hc]; exact h2)), (h.nxt hp).goes _⟩
theorem ld_val_str (hp : p < s.size) (e1 : isWS (byteAt s p) = false) (e2 : isDig (byteAt s p) = false) (e3 : isNLb (byteAt s p) = false) (h1 : byteAt s p ≠ 91) (h2 : byteAt s p ≠ 123) (h3 : byteAt s p ≠ 39) (h4 : byteAt s p ≠ 34) (h5 : byteAt s p ≠ 45) (h6 : byteAt s p ≠ 40) (h7 : byteAt s p ≠ 46) : Leads s p st stk (plainT 174) p st stk (plainT 187) := by
  rintro L ⟨h, hs⟩
  have hc := h.chr hp
  exact ⟨1, _, run1 hs enters174 h.q (val_str h.ok (by rw [hc]; exact e1) (by rw [hc]; exact e2) (by rw [hc]; exact e3) (by rw [hc]; exact h1) (by rw [hc]; exact h2) (by rw [hc]; exact h3) (by rw [hc]; exact h4) (by rw [hc]; exact h5) (by rw [hc]; exact h6) (by rw [hc]; exact h7)), (h.pk.ssfd 187).goes _⟩
theorem ld_val_dq (hp : p < s.size) (e : byteAt s p = 34) : Leads s p st stk (plainT 174) (p + 1) (p + 1) stk (plainT 183) := by
  rintro L ⟨h, hs⟩
  have hc := h.chr hp
  exact ⟨1, _, run1 hs enters174 h.q (val_dq h.ok (by rw [hc]; exact e)), (((h.nxt hp).ign).ssfd 183).goes _⟩
theorem enters187 : Enters 187 := fun args w => by kernel_rfl
theorem ld_str_ch (hp : p < s.size) (e1 : isNLb (byteAt s p) = false) (e2 : isWS (byteAt s p) = false) (h1 : byteAt s p ≠ 92) (h2 : byteAt s p ≠ 0) (h3 : byteAt s p ≠ 59) (h4 : byteAt s p ≠ 44) (h5 : byteAt s p ≠ 93) (h6 : byteAt s p ≠ 125) (h7 : byteAt s p ≠ 39) : Leads s p st stk (plainT 187) (p + 1) st stk (plainT 187) := by
  rintro L ⟨h, hs⟩
  have hc := h.chr hp
  exact ⟨1, _, run1 hs enters187 h.q (str_ch h.ok (by rw [hc]; exact e1) (by rw [hc]; exact e2) (by rw [hc]; exact h1) (by rw [hc]; exact h2) (by rw [hc]; exact h3) (by rw [hc]; exact h4) (by rw [hc]; exact h5) (by rw [hc]; exact h6) (by rw [hc]; exact h7)), (h.nxt hp).goes _⟩
theorem ld_dq_ch (hp : p < s.size) (h1 : byteAt s p ≠ 92) (h2 : byteAt s p ≠ 34) (h3 : byteAt s p ≠ 0) : Leads s p st stk (plainT 183) (p + 1) st stk (plainT 183) := by
  rintro L ⟨h, hs⟩
  have hc := h.chr hp
  exact ⟨1, _, run1 hs enters183 h.q (dq_ch h.ok (by rw [hc]; exact h1) (by rw [hc]; exact h2) (by rw [hc]; exact h3)), (h.nxt hp).goes _⟩
theorem enters180 : Enters 180 := fun args w => by kernel_rfl
theorem ld_arr_other (hp : p < s.size) (hl : stk.length ≤ 1000000) (e1 : isSp (byteAt s p) = false) (h1 : byteAt s p ≠ 35) (h2 : byteAt s p ≠ 47) (h3 : byteAt s p ≠ 44) (h4 : byteAt s p ≠ 93) : Leads s p st stk (plainT 180) p st (stk ++ [190]) (plainT 174) := by
  rintro L ⟨h, hs⟩
  have hc := h.chr hp
  exact ⟨1, _, run1 hs enters180 h.q (arr_other h.ok (by rw [h.stack]; exact hl) (by rw [hc]; exact e1) (by rw [hc]; exact h1) (by rw [hc]; exact h2) (by rw [hc]; exact h3) (by rw [hc]; exact h4)), (h.pk.psh 190).goes _⟩
theorem ld_arrend_ws (hp : p < s.size) (e1 : isWS (byteAt s p) = true) : Leads s p st stk (plainT 190) (p + 1) st stk (skipT 190) := by
  rintro L ⟨h, hs⟩
  have hc := h.chr hp
  exact ⟨1, _, run1 hs enters190 h.q (arrend_ws h.ok (by rw [hc]; exact e1)), (h.nxt hp).goes _⟩
theorem ld_num_ws (hp : p < s.size) (hst : st ≤ p) (e : byteAt s p = 32) (sk : List Nat) (n : Nat) (hk : stk = sk ++ [n]) (hl : sk.length ≤ 1000000) : Emits s p st stk (plainT 199) 7 (s.extract st p) (1 + (nlc s p : Nat)) p p sk (plainT n) := by
  rintro L ⟨h, hs⟩
  have hc := h.chr hp
  have hst' := h.stack.trans hk
  obtain ⟨h1, h2⟩ := (h.pk).emitted 7 sk (plainT n)
  exact ⟨1, _, _, run1 hs enters199 h.q (num_ws h.ok (h.rdy hst) sk n hst' hl (by rw [hc]; exact e)), h2, rfl, rfl, rfl, h1⟩
theorem ld_num_eof (hp : s.size ≤ p) (hst : st ≤ p) (sk : List Nat) (n : Nat) (hk : stk = sk ++ [n]) (hl : sk.length ≤ 1000000) : Emits s p st stk (plainT 199) 7 (s.extract st p) (1 + (nlc s p : Nat)) p p sk (plainT n) := by
  rintro L ⟨h, hs⟩
  have hc := h.chrEnd hp
  have hst' := h.stack.trans hk
  obtain ⟨h1, h2⟩ := (h.pk).emitted 7 sk (plainT n)
  exact ⟨1, _, _, run1 hs enters199 h.q (num_eof h.ok (h.rdy hst) sk n hst' hl hc), h2, rfl, rfl, rfl, h1⟩
theorem ld_str_ws (hp : p < s.size) (hst : st ≤ p) (e : byteAt s p = 32) (hb : boolWord (s.extract st p) = false) (hv : st < s.size → byteAt s st ≠ 36) (sk : List Nat) (n : Nat) (hk : stk = sk ++ [n]) (hl : sk.length ≤ 1000000) : Emits s p st stk (plainT 187) 5 (s.extract st p) (1 + (nlc s p : Nat)) p p sk (plainT n) := by
  rintro L ⟨h, hs⟩
  have hc := h.chr hp
  have hst' := h.stack.trans hk
  obtain ⟨h1, h2⟩ := (h.pk).emitted 5 sk (plainT n)
  exact ⟨1, _, _, run1 hs enters187 h.q (str_ws h.ok (h.rdy hst) sk n hst' hl (by rw [h.pk.txt]; exact hb) (by rw [h.pk.inp, h.pk.start]; exact hv) (by rw [hc]; exact e)), h2, rfl, rfl, rfl, h1⟩
theorem ld_val_arr (hp : p < s.size) (hst : st ≤ p) (e : byteAt s p = 91) : Emits s p st stk (plainT 174) 10 (s.extract (p + 1) (p + 1)) (1 + (nlc s (p + 1) : Nat)) (p + 1) (p + 1) stk (plainT 180) := by
  rintro L ⟨h, hs⟩
  have hc := h.chr hp
  obtain ⟨h1, h2⟩ := ((h.nxt hp).ign).emitted0 10 (plainT 180)
  exact ⟨1, _, _, run1 hs enters174 h.q (val_arr h.ok (h.rdy hst) (by rw [hc]; exact e)), h2, rfl, rfl, rfl, h1⟩
end
end Go.Cf
