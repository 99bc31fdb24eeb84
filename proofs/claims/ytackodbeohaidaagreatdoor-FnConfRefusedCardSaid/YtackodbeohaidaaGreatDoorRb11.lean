/-
  Texts joined: Lv Vr Wi R6 Rc Aw Rz.
-/
import Derived.Test.YtackodbeohaidaaGreatDoorRb8
import Derived.Test.YtackodbeohaidaaGreatDoorRb10
/-
  A variable that there is not: lookupVariable.
-/
namespace Go.Cf
open Go.RowKit Go.Conc Go.Proofs Go.Maps
theorem nt_61_61' (u : Value) (w : World) : (Instr.typeAssert (.iface 61 u) 20 61 true).run Tryz.prog w = .ok (.tuple #[u, .bool true]) w := by kernel_rfl
attribute [local go_sem ↓] nt_61_61'
theorem zero20 (w : World) : (zeroValue 20).run Tryz.prog w = .ok .nilIface w := by kernel_rfl
theorem zero4 (w : World) : (zeroValue 4).run Tryz.prog w = .ok (.bool false) w := by kernel_rfl
theorem mv_turned {w w' : World} {b ℓ : Nat} {lab : Lab} (h : w.mapTurned w' b) (hl : lab b = ℓ) : Mv (· = ℓ) w lab w' lab := by
  obtain ⟨es, clock, es', clock', hb, rfl⟩ := h
  refine ⟨rfl, rfl, rfl, by simp [ChangeMaps.setBlock], fun k hk hn => ?_, fun _ _ _ => rfl⟩
  have : k ≠ b := by rintro rfl; exact hn hl
  simp [ChangeMaps.setBlock, Array.getElem?_setIfInBounds_ne this.symm]
section
variable {lab : Lab} {w : World} {K : PK} {L : LX} {ks : List ByteArray}
set_option maxRecDepth 100000 in
set_option maxHeartbeats 4000000 in
theorem lookup_none (ℓ : Nat) (hℓ : ¬ 2 = ℓ) (h : PAt 0 lab w K ⟨L, [.map []], ks⟩) (hev : Mp ℓ lab w K.ev []) (s : ByteArray) (hs : s.size ≤ 1000000) (hp : Lib.hasPrefix s.data.toList [50, 97, 36] = false) :
    Calls Tryz.prog 72 #[.pointer (some ⟨K.p, 0, none⟩), .string s] w fun e w' => e = .returned (.tuple #[.nilIface, .bool false, .nilIface]) ∧ ∃ lab', Mv (· = ℓ) w lab w' lab' := by
  obtain ⟨top, cv, kv, vs, h⟩ := h
  obtain ⟨v, vs', rfl, hc, hcs⟩ := CsAt.form h.cs
  obtain ⟨b, es, rfl, hmp, hes, _⟩ := hc
  have hes0 : es = [] := List.map_eq_nil_iff.1 hes
  subst hes0
  have hvs : vs' = [] := by
    cases vs' with
    | nil => rfl
    | cons a r => exact hcs.elim
  subst hvs
  have hcv := h.cv.1
  obtain ⟨g, cap, rfl, hcap, hmx, hcell, cur, hgb⟩ := own_open hcv (by simp)
  have q0 : w.cell? ⟨g, 0, none⟩ = some (.iface 61 (.map (some b))) := hcell 0 _ (by simp)
  have c3 : w.cell? ⟨K.p, 3, none⟩ = some (.slice (some ⟨g, 0, none⟩) 1 cap) := h.cl.cell 3
  have c8 : w.cell? ⟨K.p, 8, none⟩ = some (.map (some K.ev)) := h.cl.cell 8
  have hown := hmp.1
  have hcl := h.cl
  have HE := Lib.hid hev
  have hp2 : (Lib.hasPrefix s.data.toList (⟨#[50, 97, 36]⟩ : ByteArray).data.toList) = false := hp
  have hms : s.size ≤ maxLen := by unfold maxLen; omega
  have hkey := WideMaps.keyOf_string_mk (P := Tryz.prog) Tryz.underlying9 hms
  clear hcell hcv hgb hmx hmp h hev hcs hes hp
  refine calls_of_wp_b Tryz.func72 rfl ?_
  simp only [Tryz.ntmps72, List.size_toArray, List.length_cons, List.length_nil, Nat.reduceAdd, Nat.reduceSub, Array.replicate_succ, Array.replicate_zero, List.push_toArray, List.append_toArray, List.nil_append, List.cons_append]
  go_wp2_with fail
  refine (Tryz.strings_HasPrefix s _ _).mono ?_
  rintro e w1 ⟨rfl, rfl⟩
  rw [hp2]
  have hl1 : (Instr.lookup 61 (.map (some b)) (.string s) true).run Tryz.prog w1 = .ok (.tuple #[.nilIface, .bool false]) w1 := by
    obtain ⟨v, ps, hr, hv⟩ := hown.look_ok (Maps.string_keyed Tryz.underlying9) Tryz.underlying61 (zero20 w1) (zd := .held .nilIface) (zp := []) rfl hkey
    have h2 : v = .nilIface := by
      have h3 : (some (DataW.held v, ([] : List MemPlace))) = some (DataW.held Value.nilIface, ps) := hv
      simp at h3
      exact h3.1
    rw [hr, h2]
    rfl
  have hl2 : (Instr.lookup 77 (.map (some K.ev)) (.string s) false).run Tryz.prog w1 = .ok (.bool false) w1 := by
    obtain ⟨v, ps, hr, hv⟩ := HE.out.1.lookup (Maps.string_keyed Tryz.underlying9) Tryz.underlying77 (zero4 w1) (zd := .held (.bool false)) (zp := []) rfl hkey
    have h2 : v = .bool false := by
      have h3 : (some (DataW.held v, ([] : List MemPlace))) = some (DataW.held (.bool false), ps) := hv
      simp at h3
      exact h3.1
    rw [hr, h2]
  obtain ⟨w2, hr2, hown2, ht2⟩ := HE.out.1.store (t := 77) (e := 4) (val := .bool true) (d := .held (.bool true)) (ps := []) (Maps.string_keyed Tryz.underlying9) Tryz.underlying77 (by decide) hkey rfl
  have m2 := mv_turned (ℓ := ℓ) ht2 HE.out.2
  have hlev := HE.out.2
  have c82 : w2.cell? ⟨K.p, 8, none⟩ = some (.map (some K.ev)) := (hcl.mv m2 hℓ).cell 8
  have HM := Lib.hid (And.intro m2 hown2)
  clear hown m2 ht2 hown2 HE hcl
  go_wp2_with fail
  go_loopw [7] (fun i wr => (i = .int .i64 0 ∨ i = .int .i64 (-1)) ∧ wr = w1) (fun i _ => (RowKit.intOf i + 1).toNat)
  case atStart => exact ⟨.inl rfl, rfl⟩
  case round =>
    obtain ⟨h0 | h0, rfl⟩ := hrel
    · subst h0
      go_wp2
      go_roundw
      case rel => exact ⟨.inr rfl, trivial⟩
      case measure => simp [RowKit.intOf]
    · subst h0
      go_wp2_with fail
      obtain ⟨m2, hown2⟩ := HM.out
      obtain ⟨w3, hdel, _, ht3⟩ := hown2.drop (Maps.string_keyed Tryz.underlying9) Tryz.underlying77 hkey 0
      exact bodyPostB_delete hdel (results_tmp3 rfl _ _ _) ⟨rfl, lab, m2.trans (mv_turned ht3 hlev) (fun _ h => h)⟩
end
end Go.Cf

/-
  The lexer at a variable that ends the text.
-/
namespace Go.Cf
open Go.RowKit Go.Conc Go.Proofs
/-- The '$' is skipped. -/
def LX.dlr (L : LX) : LX := { L with start := L.start + 1 }
theorem LX.Ok.dlr {L : LX} (ok : L.Ok) (h : L.start < L.inp.size) : L.dlr.Ok := ⟨ok.small, ok.pos, h, ok.width, ok.lstart, ok.ilstart, ok.line, ok.asc⟩
section
variable {base : Nat} {S0 : Nat → Prop} {w0 w : World} {b : Nat} {L : LX} {s : ByteArray} {p st : Nat} {stk : List Nat}
set_option maxRecDepth 100000 in
theorem isVar_yes (h : At base S0 w0 w b L) (ok : L.Ok) (hs : L.start < L.inp.size) (hk : byteAt L.inp L.start = 36) :
    Calls Tryz.prog 202 #[.pointer (some ⟨b, 0, none⟩)] w fun e w' => e = .returned (.bool true) ∧ At base S0 w0 w' b L.dlr := by
  have c0 := h.c0
  have c1 := h.c1
  have f1 := h.free 1
  have hsm := ok.small
  have h1 : (L.start : Int) < (L.inp.size : Int) := by omega
  rw [← byteAt_get _ _ hs] at hk
  have e1 : (((L.inp[L.start]'hs).toNat : Int) == 36) = true := beq_iff_eq.2 (by omega)
  have e2 : decide ((L.inp.size : Int) ≤ (L.start : Int)) = false := decide_eq_false (by omega)
  go_enter Tryz.func202, Tryz.ntmps202
  go_wp2_with fail
  go_quiet (fail)
  go_wp2_with fail
  go_quiet (fail)
  go_wp2
  go_ret
  exact ⟨rfl, At.set (L' := L.dlr) (h.drewN _) 1 (i64 ((L.start : Int) + 1)) (fun _ _ _ => rfl) rfl rfl rfl rfl rfl rfl rfl⟩
theorem str_eof_var (ok : L.Ok) (rdy : L.Rdy) (sk : List Nat) (n : Nat) (hst : L.stack = sk ++ [n]) (hl : sk.length ≤ 1000000) (hb : boolWord L.pk.txt = false) (hlt : L.pk.start < L.pk.inp.size) (hle : L.pk.start + 1 ≤ L.pk.pos) (hv : byteAt L.pk.inp L.pk.start = 36) (hc : L.chr = 0) : Goes1 187 L ((L.pk.dlr.emit 15 L.pk.dlr.txt).stk sk) (plainT n) := by
  have e_92_693 : (((L.chr : Nat) : Int) == 92) = false := beq_eq_false_iff_ne.2 (by omega)
  have e_0_693 : (((L.chr : Nat) : Int) == 0) = true := beq_iff_eq.2 (by omega)
  have e1 : isNLb L.chr = false := by rw [hc]; rfl
  have HB := Lib.hid hb
  have HV := Lib.hid hv
  have HL := Lib.hid hlt
  have HE := Lib.hid hle
  clear hc hb hv hlt hle
  intro base S0 w0 w b h0
  go_enter Tryz.func187, Tryz.ntmps187
  go_wp2_with fail
  refine (next_c h0 ok).mono ?_
  rintro e w1 ⟨rfl, h1⟩
  go_wp2_with fail
  refine (isNLb_c _ (chr_lt ok) _).mono ?_
  rintro e w' ⟨rfl, rfl⟩
  go_wp2_with fail
  refine (back_c h1 ok.nxt (nxt_width _)).mono ?_
  rintro e w2 ⟨rfl, h2⟩
  rw [nxt_back] at h2
  go_wp2_with fail
  refine (hasEsc_c h2 (by simpa [pk_parts] using rdy.parts)).mono ?_
  rintro e w3 ⟨rfl, h3⟩
  go_wp2_with fail
  refine (isBool_c h3 ok.pk ⟨(by simpa [pk_parts] using rdy.parts), (by have := rdy.start; simp only [pk_start, pk_pos]; omega), (by simpa [pk_q] using rdy.q)⟩ HB.out).mono ?_
  rintro e w4 ⟨rfl, h4⟩
  go_wp2_with fail
  refine (isVar_yes h4 ok.pk HL.out HV.out).mono ?_
  rintro e w5 ⟨rfl, h5⟩
  go_wp2_with fail
  refine (emit_c 15 h5 (ok.pk.dlr HL.out) (by show L.pk.parts = []; simpa [pk_parts] using rdy.parts) HE.out (by show L.pk.q.length < 10; simpa [pk_q] using rdy.q)).mono ?_
  rintro e w6 ⟨rfl, h6⟩
  go_wp2_with fail
  refine (pop_c sk n h6 (by show L.pk.stack = _; rw [pk_stack]; exact hst) hl).mono ?_
  rintro e w7 ⟨rfl, h7⟩
  go_wp2_with fail
  go_ret
  exact ⟨_, rfl, h7.plain _⟩
theorem LX.Is0.dlr (h : L.Is0 s p st stk) (hst : st < s.size) : L.dlr.Is0 s p (st + 1) stk := by
  refine ⟨h.ok.dlr (by rw [h.inp, h.start]; exact hst), h.inp, h.pos, ?_, h.stack, h.parts, h.q⟩
  show L.start + 1 = _
  rw [h.start]
theorem ld_str_eof_var (hp : s.size ≤ p) (hst : st + 1 ≤ p) (hs : st < s.size) (hb : boolWord (s.extract st p) = false) (hv : byteAt s st = 36) (sk : List Nat) (n : Nat) (hk : stk = sk ++ [n]) (hl : sk.length ≤ 1000000) : Emits s p st stk (plainT 187) 15 (s.extract (st + 1) p) (1 + (nlc s p : Nat)) p p sk (plainT n) := by
  rintro L ⟨h, hs'⟩
  have hc := h.chrEnd hp
  have hst' := h.stack.trans hk
  obtain ⟨h1, h2⟩ := ((h.pk).dlr hs).emitted 15 sk (plainT n)
  exact ⟨1, _, _, run1 hs' enters187 h.q (str_eof_var h.ok (h.rdy (by omega)) sk n hst' hl (by rw [h.pk.txt]; exact hb) (by rw [h.pk.inp, h.pk.start]; exact hs) (by rw [h.pk.start, h.pk.pos]; exact hst) (by rw [h.pk.inp, h.pk.start]; exact hv) hc), h2, rfl, rfl, rfl, h1⟩
end
end Go.Cf

/-
  A variable that there is not is refused.
-/
namespace Go.Cf
open Go.RowKit Go.Conc Go.Proofs
/-- A, with the map of the environment beside it: to A's own labels its block never turns. -/
def With (ev : Nat) (A : LW) : LW := fun lab w => ∃ labg : Lab, A labg w ∧ Mp 0 labg w ev [] ∧ lab ev = 6 ∧ ∀ k, k ≠ ev → labg k = lab k
section
variable {p ev : Nat} {A A' : LW} {x : It} {lab labg labg' : Lab} {w w' : World}
theorem With.moves (hA' : A' labg' w') (hm : Mp 0 labg w ev []) (h6 : lab ev = 6) (hag : ∀ k, k ≠ ev → labg k = lab k) (m : Mv PM6 w labg w' labg') : ∃ lab', With ev A' lab' w' ∧ Mv PM6 w lab w' lab' := by
  refine ⟨fun k => if k = ev then 6 else labg' k, ⟨labg', hA', hm.mv m (by simp [PM6]), if_pos rfl, fun k hk => (if_neg hk).symm⟩, m.os, m.tape, m.output, m.size, fun k hk hn => ?_, fun k hk hn => ?_⟩
  · have hne : k ≠ ev := by rintro rfl; exact hn (by rw [h6]; decide)
    exact m.block k hk (by rw [hag k hne]; exact hn)
  · have hne : k ≠ ev := by rintro rfl; exact hn (by rw [h6]; decide)
    simp only [if_neg hne]
    rw [m.lab k hk (by rw [hag k hne]; exact hn), hag k hne]
theorem With.nx (h : Nx p A x A') : Nx p (With ev A) x (With ev A') := by
  rintro lab w ⟨labg, hA, hm, h6, hag⟩
  refine (h labg w hA).mono ?_
  rintro e w' ⟨rfl, labg', hA', m⟩
  exact ⟨rfl, With.moves hA' hm h6 hag m⟩
theorem With.itm (h : Itm p A x A') : Itm p (With ev A) x (With ev A') := by
  rintro lab w ⟨labg, hA, hm, h6, hag⟩
  refine (h labg w hA).mono ?_
  rintro e w' ⟨rfl, labg', hA', m⟩
  exact ⟨rfl, With.moves hA' hm h6 hag m⟩
theorem With.stab (h : Stab A) : Stab (With ev A) := by
  rintro lab w lab' w' ⟨labg, hA, hm, h6, hag⟩ m
  have hlt : ev < w.heap.size := hm.1.lt
  have mg : Mv (· = 7) w labg w' (fun k => if k = ev then 0 else lab' k) := by
    refine ⟨m.os, m.tape, m.output, m.size, fun k hk hn => ?_, fun k hk hn => ?_⟩
    · by_cases hne : k = ev
      · subst hne; exact m.block k hk (by rw [h6]; decide)
      · exact m.block k hk (by rw [← hag k hne]; exact hn)
    · by_cases hne : k = ev
      · subst hne; show (if k = k then 0 else lab' k) = _; rw [if_pos rfl]; exact hm.2.symm
      · simp only [if_neg hne]
        rw [m.lab k hk (by rw [← hag k hne]; exact hn), hag k hne]
  exact ⟨_, h _ _ _ _ hA mg, hm.mv mg (by decide), (m.lab ev hlt (by rw [h6]; decide)).trans h6, fun k hk => if_neg hk⟩
theorem With.stf {S : LX → LW} (h : StF p S) : StF p (fun L => With ev (S L)) := ⟨fun L => With.stab (h.stab L), fun m L L' x q R hx => With.nx (h.nx m L L' x q R hx)⟩
end
section
variable {K : PK} {L : LX} {ks : List ByteArray} {lab : Lab} {w : World} {n : Nat} {its : List Value} {k : ByteArray}
set_option maxRecDepth 100000 in
set_option maxHeartbeats 4000000 in
theorem item_var_none (h : PAt 0 lab w K ⟨L, [.map []], ks⟩) (hev : Mp 6 lab w K.ev []) (xv : ByteArray) (xl xp : Int) (hsz : xv.size ≤ 1000000) (hp : Lib.hasPrefix xv.data.toList [50, 97, 36] = false) :
    Calls Tryz.prog 57 #[.pointer (some ⟨K.p, 0, none⟩), .agg #[i64 15, .string xv, i64 xl, i64 xp], .string { data := #[] }] w fun e w' => (∃ t v, e = .returned (.iface t v)) ∧ ∃ lab', Mv PM6 w lab w' lab' := by
  obtain ⟨lab1, hb, m1⟩ := h.boxed (Nat.zero_le _) 15 xv xl xp
  have hev1 := hev.mv m1 (by decide)
  have HM1 := Lib.hid (m1.mono (M' := PM6) (fun x h => ⟨h.1, h.2.2⟩))
  have d0 := hb.b0.cell 0
  have d1 := hb.b1.cell 1
  have d2 := hb.b1.cell 0
  have HP := Lib.hid hb.pat
  clear m1 hev h hb
  go_enter Tryz.func57, Tryz.ntmps57
  go_wp2_with fail
  refine (lookup_none 6 (by decide) HP.out hev1 xv hsz hp).mono ?_
  rintro e w2 ⟨rfl, lab2, m2⟩
  have HM2 := Lib.hid (HM1.out.trans m2 (by rintro x rfl; decide))
  clear m2 d0 d1 d2 HP HM1 hev1
  go_wp2_with fail
  refine (new_c _ _).mono ?_
  rintro e w5 ⟨⟨t, v, rfl⟩, hb5⟩
  have HB5 := Lib.hid hb5
  clear hb5
  go_wp2
  go_ret
  exact ⟨⟨_, _, rfl⟩, _, HM2.out.trans (Mv.below (M := fun _ => False) HB5.out _ 33) (fun _ (h : False) => h.elim)⟩
end
end Go.Cf

/-
  The text with a variable that there is not.
-/
namespace Go.Cf
open Go.RowKit Go.Conc Go.Proofs
section
variable {K : PK} {L : LX} {ks : List ByteArray} {lab labg : Lab} {w : World} {n : Nat} {its : List Value} {k : ByteArray}
theorem PAt.mv0 {X : PX} (h : PAt 0 labg w K X) (m : Mv (· = 0) w labg w lab) : PAt 0 lab w K X := by
  obtain ⟨top, cv, kv, vs, h⟩ := h
  exact ⟨top, cv, kv, vs, h.cl.mv m (by decide), h.lx.mv m (by decide), h.cv.mv m (by decide), h.kv.mv m (by decide), h.cs.mv m (by decide) (fun i _ => by omega), h.top, h.root⟩
theorem fl_var (x : It) (hx : x.typ = 15) (hsz : x.val.size ≤ 1000000) (hp : Lib.hasPrefix x.val.data.toList [50, 97, 36] = false) : Fl K.p (With K.ev (SI K n its ⟨L, [.map []], ks⟩)) x := by
  obtain ⟨xt, xv, xl, xp⟩ := x
  obtain rfl : xt = 15 := hx
  rintro lab w ⟨labg, ⟨iv, h1, h2, h3⟩, hm, h6, hag⟩
  have mg : Mv (· = 0) w labg w lab := ⟨rfl, rfl, rfl, Nat.le_refl _, fun _ _ _ => rfl, fun k hk hn => (hag k (by rintro rfl; exact hn hm.2)).symm⟩
  exact item_var_none (K := { K with iv := iv }) (h1.mv0 mg) ⟨hm.1, h6⟩ xv xl xp hsz hp
/-- The state in the beginning, the environment's map beside it. -/
theorem with_start (h1 : PAt 0 lab w K ⟨L, [.map []], []⟩) (hev : Mp 6 lab w K.ev []) (h2 : Rw 0 6 lab w 98 4 K.iv 0 []) (h3 : Tb lab w) : With K.ev (SI K 0 [] ⟨L, [.map []], []⟩) lab w := by
  have mg : Mv (· = 6) w lab w (fun k => if k = K.ev then 0 else lab k) := ⟨rfl, rfl, rfl, Nat.le_refl _, fun _ _ _ => rfl, fun k hk hn => if_neg (by rintro rfl; exact hn hev.2)⟩
  refine ⟨_, ⟨K.iv, ?_, ⟨h2.1, fun k hk => ?_⟩, h3.mv mg (by decide)⟩, ⟨hev.1, if_pos rfl⟩, hev.2, fun k hk => if_neg hk⟩
  · obtain ⟨top, cv, kv, vs, h⟩ := h1
    refine ⟨top, cv, kv, vs, h.cl.mv mg (by decide), h.lx.mv mg (by decide), h.cv.mv mg (by decide), h.kv.mv mg (by decide), ?_, h.top, h.root⟩
    obtain ⟨v, vs', rfl, hc, hcs⟩ := CsAt.form h.cs
    obtain ⟨b, es, rfl, hmp, hes, _⟩ := hc
    have hes0 : es = [] := List.map_eq_nil_iff.1 hes
    subst hes0
    cases vs' with
    | nil => exact ⟨⟨b, [], rfl, hmp.mv mg (by simp), rfl, trivial⟩, trivial⟩
    | cons a r => exact hcs.elim
  · have hne : k ≠ K.ev := by
      rintro rfl
      obtain ⟨_, ⟨h0, _⟩ | ⟨g, cap, cur, hv, _, hblk, _⟩⟩ := h2.1
      · rw [h0] at hk; cases hk
      · rw [hv] at hk
        simp only [Value.ownBlock, Option.some.injEq] at hk
        obtain ⟨es, clock, hb, _⟩ := hev.1
        rw [hk, hb] at hblk
        cases hblk
    show (if k = K.ev then 0 else lab k) = 6
    rw [if_neg hne]
    exact h2.2 k hk
def tx6 : ByteArray := ⟨#[32, 61, 32, 36, 110, 111, 116, 104, 105, 110, 103]⟩
theorem rf_6 (g : GoodKey k) : Refused (k ++ ⟨#[32, 61, 32, 36, 110, 111, 116, 104, 105, 110, 103]⟩) := by
  have hz := ks_size (k := k) (sfx := tx6)
  have hn : tx6.size = 11 := rfl
  rw [hn] at hz
  have hg := g.size
  have c3 : byteAt (k ++ tx6) (k.size + 3) = 36 := ks_at 3
  have le := lead_eq (k := k) (sfx := tx6) (by decide) rfl rfl rfl
  have hasc : ∀ j, j < tx6.size → byteAt tx6 j < 128 := (show ∀ j, j < 11 → byteAt tx6 j < 128 by decide)
  have hch : ∀ q, q < 8 → isNLb (byteAt (k ++ tx6) (k.size + 3 + q)) = false ∧ isWS (byteAt (k ++ tx6) (k.size + 3 + q)) = false ∧ (let c := byteAt (k ++ tx6) (k.size + 3 + q); c ≠ 92 ∧ c ≠ 0 ∧ c ≠ 59 ∧ c ≠ 44 ∧ c ≠ 93 ∧ c ≠ 125 ∧ c ≠ 39) := by
    intro q hq
    rw [Nat.add_assoc, ks_at]
    exact (show ∀ q, q < 8 → isNLb (byteAt tx6 (3 + q)) = false ∧ isWS (byteAt tx6 (3 + q)) = false ∧ (let c := byteAt tx6 (3 + q); c ≠ 92 ∧ c ≠ 0 ∧ c ≠ 59 ∧ c ≠ 44 ∧ c ≠ 93 ∧ c ≠ 125 ∧ c ≠ 39) by decide) q hq
  have hx1 : (k ++ tx6).extract (k.size + 3) (k.size + 11) = ⟨#[36, 110, 111, 116, 104, 105, 110, 103]⟩ := by rw [ks_extr]; decide
  have hx2 : (k ++ tx6).extract (k.size + 3 + 1) (k.size + 11) = ⟨#[110, 111, 116, 104, 105, 110, 103]⟩ := by rw [Nat.add_assoc, ks_extr]; decide
  obtain ⟨s, hs⟩ : ∃ s, s = k ++ tx6 := ⟨_, rfl⟩
  rw [← hs] at hz le c3 hch hx1 hx2
  have l1 : Leads s (k.size + 3) (k.size + 3) [94] (plainT 174) (k.size + 3) (k.size + 3) [94] (plainT 187) := ld_val_str (by omega) (by rw [c3]; rfl) (by rw [c3]; rfl) (by rw [c3]; rfl) (by rw [c3]; decide) (by rw [c3]; decide) (by rw [c3]; decide) (by rw [c3]; decide) (by rw [c3]; decide) (by rw [c3]; decide) (by rw [c3]; decide)
  have l2 : ∀ m, m ≤ 8 → Leads s (k.size + 3) (k.size + 3) [94] (plainT 187) (k.size + 3 + m) (k.size + 3) [94] (plainT 187) := by
    intro m
    induction m with
    | zero => intro _; exact Leads.refl
    | succ m ih =>
      intro hm
      obtain ⟨e1, e2, a1, a2, a3, a4, a5, a6, a7⟩ := hch m (by omega)
      exact (ih (by omega)).trans (ld_str_ch (by omega) e1 e2 a1 a2 a3 a4 a5 a6 a7)
  have l3 := l2 8 (by decide)
  rw [show k.size + 3 + 8 = k.size + 11 from by omega] at l3
  have E1 := ((le.trans l1).trans l3).emits (ld_str_eof_var (s := s) (p := k.size + 11) (st := k.size + 3) (stk := [94]) (by omega) (by omega) (by omega) (by rw [hx1]; decide) c3 [] 94 rfl (by simp))
  rw [hx2] at E1
  rw [hs] at E1
  show Refused (k ++ tx6)
  intro K c
  refine ⟨With K.ev (SI K 0 [] ⟨LX.new (k ++ tx6) c, [.map []], []⟩), With.stab stab_SI, fun lab w h1 hev h2 h3 => with_start h1 hev h2 h3, ?_⟩
  have key : BadAt K.p (fun L => With K.ev (SI K 0 [] ⟨L, [.map []], []⟩)) (k ++ tx6) 0 0 [] (plainT 60) := by
    refine bad_step (With.stf (stf_SI K 0 [] _ _)) (emit_key g (by decide) rfl) (by decide) (fun x h1 h2 => ?_)
    obtain ⟨n, its, _, hi⟩ := itm_key_any (K := K) x h1
    refine ⟨_, fun L => With.itm (hi L), bad_fail (With.stf (stf_SI K n its _ _)) E1 (by decide) (fun L y h3 h4 => fl_var y h3 (by rw [h4]; decide) (by rw [h4]; decide))⟩
  refine key _ _ ?_
  exact ⟨⟨fresh_ok _ c (by rw [ks_size, hn]; omega) (ks_asc g hasc), rfl, rfl, rfl, rfl, rfl, rfl⟩, rfl⟩
end
end Go.Cf

/-
  The texts that are refused, one for each number.
-/
namespace Go.Cf
open Go.RowKit Go.Conc Go.Proofs
def rfRow : Array Value := #[.string ⟨#[]⟩, .string ⟨#[32, 61, 32, 49, 32, 107]⟩, .string ⟨#[32, 61, 32, 40, 111, 110, 101, 32, 108, 105, 110, 101, 41]⟩, .string ⟨#[32, 61, 32, 102, 111, 111, 32, 98, 97, 114]⟩, .string ⟨#[32, 61, 32, 34, 120]⟩, .string ⟨#[32, 61, 32, 34, 120, 92, 113, 34]⟩, .string ⟨#[32, 61, 32, 36, 110, 111, 116, 104, 105, 110, 103]⟩, .string ⟨#[32, 61, 32, 91, 49, 32, 50, 32, 51, 93]⟩, .string ⟨#[32, 61, 32, 49, 32, 98, 32, 61, 32, 50]⟩, .string ⟨#[32, 61, 32, 57, 50, 50, 51, 51, 55, 50, 48, 51, 54, 56, 53, 52, 55, 55, 53, 56, 48, 56]⟩, .string ⟨#[32, 61, 32, 46, 53]⟩, .string ⟨#[32, 61, 32, 45]⟩]
def rfTx (r : Nat) : ByteArray := match r with
  | 0 => ⟨#[]⟩
  | 1 => ⟨#[32, 61, 32, 49, 32, 107]⟩
  | 2 => ⟨#[32, 61, 32, 40, 111, 110, 101, 32, 108, 105, 110, 101, 41]⟩
  | 3 => ⟨#[32, 61, 32, 102, 111, 111, 32, 98, 97, 114]⟩
  | 4 => ⟨#[32, 61, 32, 34, 120]⟩
  | 5 => ⟨#[32, 61, 32, 34, 120, 92, 113, 34]⟩
  | 6 => ⟨#[32, 61, 32, 36, 110, 111, 116, 104, 105, 110, 103]⟩
  | 7 => ⟨#[32, 61, 32, 91, 49, 32, 50, 32, 51, 93]⟩
  | 8 => ⟨#[32, 61, 32, 49, 32, 98, 32, 61, 32, 50]⟩
  | 9 => ⟨#[32, 61, 32, 57, 50, 50, 51, 51, 55, 50, 48, 51, 54, 56, 53, 52, 55, 55, 53, 56, 48, 56]⟩
  | 10 => ⟨#[32, 61, 32, 46, 53]⟩
  | _ => ⟨#[32, 61, 32, 45]⟩
theorem rf_get (r : Nat) (h : r < 12) : rfRow[r]? = some (.string (rfTx r)) ∧ (rfTx r).size ≤ 100 := by
  match r, h with
  | 0, _ => exact ⟨rfl, by decide⟩
  | 1, _ => exact ⟨rfl, by decide⟩
  | 2, _ => exact ⟨rfl, by decide⟩
  | 3, _ => exact ⟨rfl, by decide⟩
  | 4, _ => exact ⟨rfl, by decide⟩
  | 5, _ => exact ⟨rfl, by decide⟩
  | 6, _ => exact ⟨rfl, by decide⟩
  | 7, _ => exact ⟨rfl, by decide⟩
  | 8, _ => exact ⟨rfl, by decide⟩
  | 9, _ => exact ⟨rfl, by decide⟩
  | 10, _ => exact ⟨rfl, by decide⟩
  | 11, _ => exact ⟨rfl, by decide⟩
theorem rf_all {k : ByteArray} (g : GoodKey k) (r : Nat) (h : r < 12) : Refused (k ++ rfTx r) := by
  match r, h with
  | 0, _ => exact rf_0 g
  | 1, _ => exact rf_1 g
  | 2, _ => exact rf_2 g
  | 3, _ => exact rf_3 g
  | 4, _ => exact rf_4 g
  | 5, _ => exact rf_5 g
  | 6, _ => exact rf_6 g
  | 7, _ => exact rf_7 g
  | 8, _ => exact rf_8 g
  | 9, _ => exact rf_9 g
  | 10, _ => exact rf_10 g
  | 11, _ => exact rf_11 g
set_option maxRecDepth 100000 in
set_option maxHeartbeats 4000000 in
theorem ConfRefused_c (n : Nat) (hn : n < 256) (s : ByteArray) (hs : s.size ≤ 2147483647) (w : World) : Calls Tryz.prog 22 #[.int .u8 n, .string s] w fun e w' => (∃ (ok : Bool) (t : ByteArray), e = .returned (.tuple #[.string t, .bool ok]) ∧ (ok = true → Bare s ∧ ∃ r, r < 12 ∧ t = s ++ rfTx r)) ∧ Below w.heap.size w w' := by
  obtain ⟨r, hr, hr12⟩ : ∃ r : Nat, (n : Int) % 12 = r ∧ r < 12 := ⟨n % 12, by omega, by omega⟩
  have hn' : (n : Int) ≤ 255 := by omega
  have hn0 : (0 : Int) ≤ n := Int.natCast_nonneg _
  have ht : Int.tmod (n : Int) 12 = (r : Int) := by rw [← hr]; exact Int.tmod_eq_emod_of_nonneg hn0
  have hr0 : (0 : Int) ≤ r := Int.natCast_nonneg _
  have hr1 : (r : Int) < 12 := by omega
  obtain ⟨hg, hz⟩ := rf_get r hr12
  have hle : ¬ 9223372036854775807 < s.size + (rfTx r).size := by omega
  go_enter Tryz.func22, Tryz.ntmps22
  go_wp2_with fail
  refine (confBare_c s hs w).mono ?_
  rintro e w1 ⟨⟨ok, rfl, hok⟩, hb⟩
  cases ok with
  | false =>
    go_wp2
    go_ret2
    exact ⟨⟨false, _, rfl, fun h => by cases h⟩, hb⟩
  | true =>
    have hB := hok rfl
    have q : (w1.alloc (.cells rfRow 9)).cell? ⟨w1.heap.size, r, none⟩ = some (.string (rfTx r)) := (blk_cell (heap_alloc_new w1 _) r).trans hg
    unfold rfRow at q
    clear hok hg
    go_wp2
    go_ret2
    exact ⟨⟨true, _, rfl, fun _ => ⟨hB, r, hr12, rfl⟩⟩, hb.alloc hb.size _⟩
end Go.Cf

/-
  awakeConf answers true.
-/
namespace Go.Cf
open Go.RowKit Go.Conc Go.Proofs
attribute [local go_sem] run_store_flt
section
variable {B : Nat} {lab lab1 : Lab} {w w1 : World}
/-- A map of one whole number, as a Node. -/
theorem isC.one {k : ByteArray} {n : Int} {c : Array Value} (h : isC B lab w [(k, .int n)] c) : ∃ gk ck gl cl, c = ndC 6 0 0 false { data := #[] } (.slice (some ⟨gk, 0, none⟩) 1 ck) (.slice (some ⟨gl, 0, none⟩) 1 cl) ∧
    w.cell? ⟨gk, 0, none⟩ = some (.string k) ∧ w.cell? ⟨gl, 0, none⟩ = some (.int .i64 1) ∧ w.cell? ⟨gl, 1, none⟩ = some (.int .i64 n) ∧ gk < w.heap.size ∧ gl < w.heap.size := by
  simp only [isC, isN, List.map_cons, List.map_nil, List.length_cons, List.length_nil] at h
  obtain ⟨kv, lv, cs, rfl, hk, hl, hn⟩ := h
  obtain ⟨gk, ck, rfl, _, hgk⟩ := hk.1.form (by decide)
  obtain ⟨gl, cl, rfl, _, hgl⟩ := hl.1.form (by decide)
  match cs, hn with
  | [c0], hn =>
    simp only [isNs, isN, and_true] at hn
    subst hn
    refine ⟨gk, ck, gl, cl, rfl, ?_, ?_, ?_, hgk, hgl⟩
    · rw [hk.1.cellAt 0 (by decide)]; rfl
    · rw [hl.1.cellAt 0 (by decide)]; rfl
    · rw [hl.1.cellAt 1 (by decide)]; rfl
  | [], hn => simp [isNs] at hn
  | _ :: _ :: _, hn => simp [isNs] at hn
theorem read_awake : ReadAs ⟨#[97, 32, 61, 32, 53, 10]⟩ [(⟨#[97]⟩, .int 5)] := by
  have h := ra_plain ⟨#[53]⟩ (by intro i hi; match i, hi with | 0, _ => decide) (by decide) (by decide) (by decide)
  have e : szText ⟨#[53]⟩ ⟨#[]⟩ = ⟨#[97, 32, 61, 32, 53, 10]⟩ := by decide
  rw [e] at h
  exact h
set_option maxRecDepth 100000 in
set_option maxHeartbeats 1000000 in
theorem awake_c (htb : Tb lab w) : Calls Tryz.prog 13 #[] w fun e w' => e = .returned (.bool true) ∧ ∃ lab', Mv PM w lab w' lab' := by
  go_enter Tryz.func13, Tryz.ntmps13
  go_wp2_with fail
  refine (Conf_c (B := 0) _ _ (Nat.zero_le _) htb read_awake (by simp [JV.fits, fitsL])).mono ?_
  rintro e w1 ⟨c, lab1, rfl, hc, m⟩
  obtain ⟨gk, ck, gl, cl, rfl, h1, h2, h3, hk, hl⟩ := hc.one
  have q1 : ∀ o, (w1.alloc o).cell? ⟨gk, 0, none⟩ = some (.string ⟨#[97]⟩) := fun o => (World.cell?_alloc_lt _ _ _ hk).trans h1
  have q2 : ∀ o, (w1.alloc o).cell? ⟨gl, 0, none⟩ = some (.int .i64 1) := fun o => (World.cell?_alloc_lt _ _ _ hl).trans h2
  have q3 : ∀ o, (w1.alloc o).cell? ⟨gl, 1, none⟩ = some (.int .i64 5) := fun o => (World.cell?_alloc_lt _ _ _ hl).trans h3
  have HM := Lib.hid m
  clear m hc h1 h2 h3
  go_wp2
  go_ret
  exact ⟨rfl, _, HM.out.trans (Mv.alloc (M := fun _ => False) _ _ _ 33) (fun _ (h : False) => h.elim)⟩
end
end Go.Cf

/-
  FnConfRefused.
-/
namespace Go.Cf
open Go.RowKit Go.Conc Go.Proofs
attribute [local go_sem] run_store_flt
section
variable {lab : Lab} {w : World}
theorem awake_tail {w1 w2 : World} {lab1 : Lab} (m : Mv PM6 w lab w1 lab1) (h : ∃ lab', Mv PM w1 lab1 w2 lab') : ∃ lab', Mv PM6 w lab w2 lab' := by
  obtain ⟨lab', m2⟩ := h
  exact ⟨lab', m.trans (m2.mono (M' := PM6) (fun x h => ⟨h.1, h.2.2⟩)) (fun _ h => h)⟩
set_option maxRecDepth 100000 in
set_option maxHeartbeats 4000000 in
theorem Refused_c (n : Nat) (hn : n < 256) (s : ByteArray) (htb : Tb lab w) : Calls Tryz.prog 10 #[.int .u8 n, .string s] w fun e w' => e = .returned (.bool true) ∧ ∃ lab', Mv PM6 w lab w' lab' := by
  by_cases hz : 2147483647 < s.size
  · have e1 : decide ((2147483647 : Int) < (s.size : Int)) = true := decide_eq_true (by omega)
    go_enter Tryz.func10, Tryz.ntmps10
    go_wp2
    go_ret
    exact ⟨rfl, lab, Mv.refl _ _ _⟩
  have e1 : decide ((2147483647 : Int) < (s.size : Int)) = false := decide_eq_false (by omega)
  have HT := Lib.hid htb
  clear htb
  go_enter Tryz.func10, Tryz.ntmps10
  go_wp2_with fail
  refine (ConfRefused_c n hn s (by omega) w).mono ?_
  rintro e w1 ⟨⟨ok, t, rfl, hok⟩, hb⟩
  have m1 := Mv.below (M := PM6) hb lab 33
  have htb1 := HT.out.mv m1 (by decide)
  have HM1 := Lib.hid m1
  have HT1 := Lib.hid htb1
  clear m1 hb htb1
  cases ok with
  | false =>
    clear hok
    go_wp2_with fail
    refine (awake_c HT1.out).mono ?_
    rintro e w2 ⟨rfl, hm⟩
    have HF := Lib.hid (awake_tail HM1.out hm)
    clear hm
    go_wp2
    go_ret
    exact ⟨rfl, HF.out⟩
  | true =>
    by_cases h20 : 20 < s.size
    · have e2 : decide ((20 : Int) < (s.size : Int)) = true := decide_eq_true (by omega)
      clear hok
      go_wp2_with fail
      refine (awake_c HT1.out).mono ?_
      rintro e w2 ⟨rfl, hm⟩
      have HF := Lib.hid (awake_tail HM1.out hm)
      clear hm
      go_wp2
      go_ret
      exact ⟨rfl, HF.out⟩
    · have e2 : decide ((20 : Int) < (s.size : Int)) = false := decide_eq_false (by omega)
      obtain ⟨hB, r, hr, rfl⟩ := hok rfl
      have hR := rf_all (hB.good (by omega)) r hr
      clear hok hB
      obtain ⟨tt, htt⟩ : ∃ tt, tt = s ++ rfTx r := ⟨_, rfl⟩
      rw [← htt] at hR ⊢
      clear htt
      go_wp2_with fail
      refine (Conf_bad tt HT1.out hR).mono ?_
      rintro e w2 ⟨rfl, lab2, m2⟩
      have m3 := (HM1.out.trans m2 (fun _ h => h))
      have ma : ∀ o, Mv PM6 w2 lab2 (w2.alloc o) (lab2.ext w2.heap.size 33) := fun o => Mv.alloc _ _ _ _
      have HM3 := Lib.hid (fun o => m3.trans (ma o) (fun _ h => h))
      have HT3 := Lib.hid (fun o => (HT1.out.mv m2 (by decide)).mv (ma o) (by decide))
      clear m2 m3 ma
      go_wp2_with fail
      refine (Places_bad tt (HT3.out _) hR).mono ?_
      rintro e w3 ⟨⟨v, rfl⟩, lab3, m4⟩
      have HM4 := Lib.hid ((HM3.out _).trans m4 (fun _ h => h))
      have HT4 := Lib.hid ((HT3.out _).mv m4 (by decide))
      clear m4
      go_wp2_with fail
      refine (awake_c HT4.out).mono ?_
      rintro e w2 ⟨rfl, hm⟩
      have HF := Lib.hid (awake_tail HM4.out hm)
      clear hm
      go_wp2
      go_ret
      exact ⟨rfl, HF.out⟩
end
/-- FnConfRefused, in any world that holds the table of strings. -/
theorem Refused_below (w : World) (n : Nat) (hn : n < 256) (s : ByteArray) (htab : Lib.TabIs Tryz.prog w "strings.asciiSpace" .u8 Lib.asciiSpaceTab) :
    Calls Tryz.prog 10 #[.int .u8 n, .string s] w fun e w' => e = .returned (.bool true) ∧ Below w.heap.size w w' := by
  refine (Refused_c (lab := fun _ => 0) n hn s ⟨htab, fun _ _ => rfl⟩).mono ?_
  rintro e w' ⟨rfl, lab', m⟩
  exact ⟨rfl, m.toBelow (Nat.le_refl _) (fun _ _ => by decide)⟩
end Go.Cf
