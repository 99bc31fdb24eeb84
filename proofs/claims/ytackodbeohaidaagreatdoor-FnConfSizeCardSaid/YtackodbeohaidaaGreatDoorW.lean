/-
  The lexer's states, path by path: keys, whole numbers.
-/
import Derived.Test.YtackodbeohaidaaGreatDoorK
import Derived.Test.YtackodbeohaidaaGreatDoorShelf
namespace Go.Cf
open Go.RowKit Go.Conc Go.Proofs

section
variable {L : LX}
theorem byteAt_cut (s : ByteArray) (a b i : Nat) (h : i < (s.extract a b).size) : byteAt (s.extract a b) i = byteAt s (a + i) := by
  have h2 : (s.extract a b).size = min b s.size - a := by simp
  rw [← byteAt_get (s.extract a b) i h, ← byteAt_get s (a + i) (by omega), ByteArray.getElem_extract]
theorem toList_txt (L : LX) (ok : L.Ok) : ∀ (j : Nat) (b : UInt8), L.txt.data.toList[j]? = some b → b.toNat < 128 := by
  intro j b hj
  have h1 : byteAt L.txt j = b.toNat := by unfold byteAt; rw [List.getD_eq_getElem?_getD, hj]; rfl
  have hlt : j < L.txt.size := by
    have := (List.getElem?_eq_some_iff.1 hj).1
    rwa [data_length] at this
  have h2 : byteAt L.txt j = byteAt L.inp (L.start + j) := by
    exact byteAt_cut L.inp L.start L.pos j hlt
  rw [← h1, h2]
  refine ok.asc _ ?_
  have h3 : L.txt.size = min L.pos L.inp.size - L.start := by unfold LX.txt; simp
  omega
/-- A key that is no keyword. -/
def noKw (s : ByteArray) : Prop := (Lib.toLowerA s.data.toList == [105, 110, 99, 108, 117, 100, 101]) = false
set_option maxRecDepth 100000 in
theorem kck_c {base : Nat} {S0 : Nat → Prop} {w0 w : World} {b : Nat} (h : At base S0 w0 w b L) (ok : L.Ok) (rdy : L.Rdy) (n : Nat) (hk : noKw L.txt) :
    Calls Tryz.prog 164 #[.pointer (some ⟨b, 0, none⟩), fnV n, .nilFunc] w fun e w' => e = .returned (fnV n) ∧ At base S0 w0 w' b (L.emit 3 L.txt) := by
  have c0 := h.c0
  have c1 := h.c1
  have c2 := h.c2
  have hsm := ok.small
  have hpp := ok.pos
  have hst := rdy.start
  have ha := toList_txt L ok
  have hk2 : (Lib.toLowerA L.txt.data.toList == [105, 110, 99, 108, 117, 100, 101]) = false := hk
  have hsz : L.txt.size ≤ 140737488355328 := by unfold LX.txt; simp; omega
  obtain ⟨t, ht⟩ : ∃ t, t = L.txt := ⟨_, rfl⟩
  have ht2 : L.inp.extract L.start L.pos = t := ht.symm
  rw [← ht] at ha hk2 hsz ⊢
  have HA := Lib.hid ha
  have HR := Lib.hid rdy
  have HT := Lib.hid ht
  clear ha ht hk
  go_enter Tryz.func164, Tryz.ntmps164
  go_wp2
  refine wp_still_tail 13 mixed (by kernel_rfl) ?_
  simp only [List.take_succ_cons, List.take_zero, List.drop_succ_cons, List.drop_zero]
  repeat still_step
  refine wpStill_nil ?_
  go_wp2_with fail
  refine (Tryz.strings_ToLower_ascii t _ hsz HA.out).mono ?_
  rintro e w1 ⟨rfl, hb⟩
  have h1 := At.below (h.drewN 1) hb
  clear c0 c1 c2 hb
  go_wp2_with fail
  have he := emit_c 3 h1 ok HR.out.parts HR.out.start HR.out.q
  rw [← HT.out] at he
  refine he.mono ?_
  rintro e w2 ⟨rfl, h2⟩
  go_wp2
  go_ret
  exact ⟨rfl, h2⟩
theorem top_eof (ok : L.Ok) (rdy : L.Rdy) (hc : L.chr = 0) (hle : ¬ L.nxt.start < L.nxt.pos) : Goes1 60 L (L.nxt.emit 2 L.nxt.txt) none := by
  have hs0 : isSp L.chr = false := by rw [hc]; rfl
  have HLE : Hid (((L.nxt.start : Nat) : Int) < ((L.nxt.pos : Nat) : Int) → False) := fun h => hle (by omega)
  have e_123_935 : (((L.chr : Nat) : Int) == 123) = false := beq_eq_false_iff_ne.2 (by omega)
  have e_35_935 : (((L.chr : Nat) : Int) == 35) = false := beq_eq_false_iff_ne.2 (by omega)
  have e_47_935 : (((L.chr : Nat) : Int) == 47) = false := beq_eq_false_iff_ne.2 (by omega)
  have e_0_935 : (((L.chr : Nat) : Int) == 0) = true := beq_iff_eq.2 (by omega)
  clear hc hle
  intro base S0 w0 w b h0
  go_enter Tryz.func60, Tryz.ntmps60
  go_wp2_with fail
  refine (next_c h0 ok).mono ?_
  rintro e w1 ⟨rfl, h1⟩
  go_wp2_with fail
  refine (isSp_c _ (chr_lt ok) _).mono ?_
  rintro e w' ⟨rfl, rfl⟩
  have c1 := h1.c1
  have c2 := h1.c2
  have hle : ¬ (((L.nxt.start : Nat) : Int) < ((L.nxt.pos : Nat) : Int)) := HLE.out
  have hle2 : decide (L.nxt.start < L.nxt.pos) = false := decide_eq_false (by omega)
  go_wp2_with fail
  go_quiet (fail)
  have h1 := h1.drewN nq
  go_wp2_with fail
  refine (emit_c 2 h1 ok.nxt (by simpa [nxt_parts, pk_parts] using rdy.parts) (by have := rdy.start; simp only [nxt_start, nxt_pos]; split <;> omega) (by simpa [nxt_q, pk_q] using rdy.q)).mono ?_
  rintro e w2 ⟨rfl, h2⟩
  go_wp2_with fail
  go_ret
  exact ⟨_, rfl, h2.nil⟩
theorem tve_nl (ok : L.Ok) (hc : L.chr = 10) : Goes1 94 L L.nxt.ign (plainT 60) := by
  have e_35_935 : (((L.chr : Nat) : Int) == 35) = false := beq_eq_false_iff_ne.2 (by omega)
  have e_47_935 : (((L.chr : Nat) : Int) == 47) = false := beq_eq_false_iff_ne.2 (by omega)
  have e1 : isWS L.chr = false := by rw [hc]; rfl
  have e2 : isNLb L.chr = true := by rw [hc]; rfl
  clear hc
  intro base S0 w0 w b h0
  go_enter Tryz.func94, Tryz.ntmps94
  go_wp2_with fail
  refine (next_c h0 ok).mono ?_
  rintro e w1 ⟨rfl, h1⟩
  go_wp2_with fail
  refine (isWS_c _ (chr_lt ok) _).mono ?_
  rintro e w' ⟨rfl, rfl⟩
  go_wp2_with fail
  refine (isNLb_c _ (chr_lt ok) _).mono ?_
  rintro e w' ⟨rfl, rfl⟩
  go_wp2_with fail
  refine (ign_c h1).mono ?_
  rintro e w2 ⟨rfl, h2⟩
  go_wp2_with fail
  go_ret
  exact ⟨_, rfl, h2.plain _⟩
theorem ks_key (ok : L.Ok) (e1 : isSep L.chr = false) (e2 : isSp L.chr = false) (h1 : L.chr ≠ 34) (h2 : L.chr ≠ 39) : Goes1 95 L L.pk.ign.nxt (plainT 139) := by
  have e_34_935 : (((L.chr : Nat) : Int) == 34) = false := beq_eq_false_iff_ne.2 (by omega)
  have e_39_935 : (((L.chr : Nat) : Int) == 39) = false := beq_eq_false_iff_ne.2 (by omega)
  clear h1 h2
  intro base S0 w0 w b h0
  go_enter Tryz.func95, Tryz.ntmps95
  go_wp2_with fail
  refine (peek_c h0 ok).mono ?_
  rintro e w1 ⟨rfl, h1⟩
  go_wp2_with fail
  refine (isSep_c _ (chr_lt ok) _).mono ?_
  rintro e w' ⟨rfl, rfl⟩
  go_wp2_with fail
  refine (isSp_c _ (chr_lt ok) _).mono ?_
  rintro e w' ⟨rfl, rfl⟩
  go_wp2_with fail
  refine (ign_c h1).mono ?_
  rintro e w2 ⟨rfl, h2⟩
  go_wp2_with fail
  refine (next_c h2 ok.pk.ign).mono ?_
  rintro e w3 ⟨rfl, h3⟩
  go_wp2_with fail
  go_ret
  exact ⟨_, rfl, h3.plain _⟩
theorem key_more (ok : L.Ok) (e1 : isSp L.chr = false) (e2 : isSep L.chr = false) (h1 : L.chr ≠ 0) : Goes1 139 L L.pk.nxt (plainT 139) := by
  have e_0_935 : (((L.chr : Nat) : Int) == 0) = false := beq_eq_false_iff_ne.2 (by omega)
  clear h1
  intro base S0 w0 w b h0
  go_enter Tryz.func139, Tryz.ntmps139
  go_wp2_with fail
  refine (peek_c h0 ok).mono ?_
  rintro e w1 ⟨rfl, h1⟩
  go_wp2_with fail
  refine (isSp_c _ (chr_lt ok) _).mono ?_
  rintro e w' ⟨rfl, rfl⟩
  go_wp2_with fail
  refine (isSep_c _ (chr_lt ok) _).mono ?_
  rintro e w' ⟨rfl, rfl⟩
  go_wp2_with fail
  refine (next_c h1 ok.pk).mono ?_
  rintro e w2 ⟨rfl, h2⟩
  go_wp2_with fail
  go_ret
  exact ⟨_, rfl, h2.plain _⟩
theorem key_sp (ok : L.Ok) (rdy : L.Rdy) (e1 : isSp L.chr = true) (hk : noKw L.pk.txt) : Goes1 139 L (L.pk.emit 3 L.pk.txt) (plainT 163) := by
  have HK := Lib.hid hk
  clear hk
  intro base S0 w0 w b h0
  go_enter Tryz.func139, Tryz.ntmps139
  go_wp2_with fail
  refine (peek_c h0 ok).mono ?_
  rintro e w1 ⟨rfl, h1⟩
  go_wp2_with fail
  refine (isSp_c _ (chr_lt ok) _).mono ?_
  rintro e w' ⟨rfl, rfl⟩
  go_wp2_with fail
  refine (kck_c h1 ok.pk ⟨(by simpa [nxt_parts, pk_parts] using rdy.parts), (by have := rdy.start; simp only [pk_start, pk_pos]; omega), (by simpa [nxt_q, pk_q] using rdy.q)⟩ 163 HK.out).mono ?_
  rintro e w2 ⟨rfl, h2⟩
  go_wp2_with fail
  go_ret
  exact ⟨_, rfl, h2.plain _⟩
theorem key_sep (ok : L.Ok) (rdy : L.Rdy) (e1 : isSp L.chr = false) (e2 : isSep L.chr = true) : Goes1 139 L (L.pk.emit 3 L.pk.txt) (plainT 163) := by
  intro base S0 w0 w b h0
  go_enter Tryz.func139, Tryz.ntmps139
  go_wp2_with fail
  refine (peek_c h0 ok).mono ?_
  rintro e w1 ⟨rfl, h1⟩
  go_wp2_with fail
  refine (isSp_c _ (chr_lt ok) _).mono ?_
  rintro e w' ⟨rfl, rfl⟩
  go_wp2_with fail
  refine (isSep_c _ (chr_lt ok) _).mono ?_
  rintro e w' ⟨rfl, rfl⟩
  go_wp2_with fail
  refine (emit_c 3 h1 ok.pk (by simpa [nxt_parts, pk_parts] using rdy.parts) (by have := rdy.start; simp only [pk_start, pk_pos]; omega) (by simpa [nxt_q, pk_q] using rdy.q)).mono ?_
  rintro e w2 ⟨rfl, h2⟩
  go_wp2_with fail
  go_ret
  exact ⟨_, rfl, h2.plain _⟩
theorem key_eof (ok : L.Ok) (rdy : L.Rdy) (hc : L.chr = 0) : Goes1 139 L (L.pk.emit 3 L.pk.txt) (plainT 163) := by
  have e1 : isSp L.chr = false := by rw [hc]; rfl
  have e2 : isSep L.chr = false := by rw [hc]; rfl
  have e_0_935 : (((L.chr : Nat) : Int) == 0) = true := beq_iff_eq.2 (by omega)
  clear hc
  intro base S0 w0 w b h0
  go_enter Tryz.func139, Tryz.ntmps139
  go_wp2_with fail
  refine (peek_c h0 ok).mono ?_
  rintro e w1 ⟨rfl, h1⟩
  go_wp2_with fail
  refine (isSp_c _ (chr_lt ok) _).mono ?_
  rintro e w' ⟨rfl, rfl⟩
  go_wp2_with fail
  refine (isSep_c _ (chr_lt ok) _).mono ?_
  rintro e w' ⟨rfl, rfl⟩
  go_wp2_with fail
  refine (emit_c 3 h1 ok.pk (by simpa [nxt_parts, pk_parts] using rdy.parts) (by have := rdy.start; simp only [pk_start, pk_pos]; omega) (by simpa [nxt_q, pk_q] using rdy.q)).mono ?_
  rintro e w2 ⟨rfl, h2⟩
  go_wp2_with fail
  go_ret
  exact ⟨_, rfl, h2.plain _⟩
theorem ke_sp (ok : L.Ok) (e1 : isSp L.chr = true) : Goes1 163 L L.nxt (skipT 163) := by
  intro base S0 w0 w b h0
  go_enter Tryz.func163, Tryz.ntmps163
  go_wp2_with fail
  refine (next_c h0 ok).mono ?_
  rintro e w1 ⟨rfl, h1⟩
  go_wp2_with fail
  refine (isSp_c _ (chr_lt ok) _).mono ?_
  rintro e w' ⟨rfl, rfl⟩
  go_wp2_with fail
  refine (skipV_c h1 163).mono ?_
  rintro e w2 ⟨rfl, hv⟩
  go_wp2_with fail
  go_ret
  exact ⟨_, rfl, hv⟩
theorem ke_sep (ok : L.Ok) (e1 : isSp L.chr = false) (e2 : isSep L.chr = true) : Goes1 163 L L.nxt (skipT 174) := by
  intro base S0 w0 w b h0
  go_enter Tryz.func163, Tryz.ntmps163
  go_wp2_with fail
  refine (next_c h0 ok).mono ?_
  rintro e w1 ⟨rfl, h1⟩
  go_wp2_with fail
  refine (isSp_c _ (chr_lt ok) _).mono ?_
  rintro e w' ⟨rfl, rfl⟩
  go_wp2_with fail
  refine (isSep_c _ (chr_lt ok) _).mono ?_
  rintro e w' ⟨rfl, rfl⟩
  go_wp2_with fail
  refine (skipV_c h1 174).mono ?_
  rintro e w2 ⟨rfl, hv⟩
  go_wp2_with fail
  go_ret
  exact ⟨_, rfl, hv⟩
theorem ke_eof (ok : L.Ok) (rdy : L.Rdy) (hc : L.chr = 0) : Goes1 163 L (L.nxt.emit 2 L.nxt.txt) none := by
  have e1 : isSp L.chr = false := by rw [hc]; rfl
  have e2 : isSep L.chr = false := by rw [hc]; rfl
  have e_0_935 : (((L.chr : Nat) : Int) == 0) = true := beq_iff_eq.2 (by omega)
  clear hc
  intro base S0 w0 w b h0
  go_enter Tryz.func163, Tryz.ntmps163
  go_wp2_with fail
  refine (next_c h0 ok).mono ?_
  rintro e w1 ⟨rfl, h1⟩
  go_wp2_with fail
  refine (isSp_c _ (chr_lt ok) _).mono ?_
  rintro e w' ⟨rfl, rfl⟩
  go_wp2_with fail
  refine (isSep_c _ (chr_lt ok) _).mono ?_
  rintro e w' ⟨rfl, rfl⟩
  go_wp2_with fail
  refine (emit_c 2 h1 ok.nxt (by simpa [nxt_parts, pk_parts] using rdy.parts) (by have := rdy.start; simp only [nxt_start, nxt_pos]; split <;> omega) (by simpa [nxt_q, pk_q] using rdy.q)).mono ?_
  rintro e w2 ⟨rfl, h2⟩
  go_wp2_with fail
  go_ret
  exact ⟨_, rfl, h2.nil⟩
theorem ke_other (ok : L.Ok) (e1 : isSp L.chr = false) (e2 : isSep L.chr = false) (h1 : L.chr ≠ 0) : Goes1 163 L L.pk (plainT 174) := by
  have e_0_935 : (((L.chr : Nat) : Int) == 0) = false := beq_eq_false_iff_ne.2 (by omega)
  clear h1
  intro base S0 w0 w b h0
  go_enter Tryz.func163, Tryz.ntmps163
  go_wp2_with fail
  refine (next_c h0 ok).mono ?_
  rintro e w1 ⟨rfl, h1⟩
  go_wp2_with fail
  refine (isSp_c _ (chr_lt ok) _).mono ?_
  rintro e w' ⟨rfl, rfl⟩
  go_wp2_with fail
  refine (isSep_c _ (chr_lt ok) _).mono ?_
  rintro e w' ⟨rfl, rfl⟩
  go_wp2_with fail
  refine (back_c h1 ok.nxt (nxt_width _)).mono ?_
  rintro e w2 ⟨rfl, h2⟩
  rw [nxt_back] at h2
  go_wp2_with fail
  go_ret
  exact ⟨_, rfl, h2.plain _⟩
theorem val_ws (ok : L.Ok) (e1 : isWS L.chr = true) : Goes1 174 L L.nxt (skipT 174) := by
  intro base S0 w0 w b h0
  go_enter Tryz.func174, Tryz.ntmps174
  go_wp2_with fail
  refine (next_c h0 ok).mono ?_
  rintro e w1 ⟨rfl, h1⟩
  go_wp2_with fail
  refine (isWS_c _ (chr_lt ok) _).mono ?_
  rintro e w' ⟨rfl, rfl⟩
  go_wp2_with fail
  refine (skipV_c h1 174).mono ?_
  rintro e w2 ⟨rfl, hv⟩
  go_wp2_with fail
  go_ret
  exact ⟨_, rfl, hv⟩
theorem val_dig (ok : L.Ok) (e1 : isWS L.chr = false) (e2 : isDig L.chr = true) (hd : 48 ≤ L.chr ∧ L.chr ≤ 57) : Goes1 174 L L.pk (plainT 186) := by
  have e_91_935 : (((L.chr : Nat) : Int) == 91) = false := beq_eq_false_iff_ne.2 (by omega)
  have e_123_935 : (((L.chr : Nat) : Int) == 123) = false := beq_eq_false_iff_ne.2 (by omega)
  have e_39_935 : (((L.chr : Nat) : Int) == 39) = false := beq_eq_false_iff_ne.2 (by omega)
  have e_34_935 : (((L.chr : Nat) : Int) == 34) = false := beq_eq_false_iff_ne.2 (by omega)
  have e_45_935 : (((L.chr : Nat) : Int) == 45) = false := beq_eq_false_iff_ne.2 (by omega)
  have e_40_935 : (((L.chr : Nat) : Int) == 40) = false := beq_eq_false_iff_ne.2 (by omega)
  clear hd
  intro base S0 w0 w b h0
  go_enter Tryz.func174, Tryz.ntmps174
  go_wp2_with fail
  refine (next_c h0 ok).mono ?_
  rintro e w1 ⟨rfl, h1⟩
  go_wp2_with fail
  refine (isWS_c _ (chr_lt ok) _).mono ?_
  rintro e w' ⟨rfl, rfl⟩
  go_wp2_with fail
  refine (isDig_c _ (chr_lt ok) _).mono ?_
  rintro e w' ⟨rfl, rfl⟩
  go_wp2_with fail
  refine (back_c h1 ok.nxt (nxt_width _)).mono ?_
  rintro e w2 ⟨rfl, h2⟩
  rw [nxt_back] at h2
  go_wp2_with fail
  go_ret
  exact ⟨_, rfl, h2.plain _⟩
theorem num_start (ok : L.Ok) (e2 : isDig L.chr = true) : Goes1 186 L L.nxt (plainT 199) := by
  intro base S0 w0 w b h0
  go_enter Tryz.func186, Tryz.ntmps186
  go_wp2_with fail
  refine (next_c h0 ok).mono ?_
  rintro e w1 ⟨rfl, h1⟩
  go_wp2_with fail
  refine (isDig_c _ (chr_lt ok) _).mono ?_
  rintro e w' ⟨rfl, rfl⟩
  go_wp2_with fail
  go_ret
  exact ⟨_, rfl, h1.plain _⟩
theorem num_dig (ok : L.Ok) (e2 : isDig L.chr = true) (h1 : L.chr ≠ 45) : Goes1 199 L L.nxt (plainT 199) := by
  have e_45_935 : (((L.chr : Nat) : Int) == 45) = false := beq_eq_false_iff_ne.2 (by omega)
  clear h1
  intro base S0 w0 w b h0
  go_enter Tryz.func199, Tryz.ntmps199
  go_wp2_with fail
  refine (next_c h0 ok).mono ?_
  rintro e w1 ⟨rfl, h1⟩
  go_wp2_with fail
  refine (isDig_c _ (chr_lt ok) _).mono ?_
  rintro e w' ⟨rfl, rfl⟩
  go_wp2_with fail
  go_ret
  exact ⟨_, rfl, h1.plain _⟩
theorem num_suf (ok : L.Ok) (e2 : isDig L.chr = false) (e3 : isSuf L.chr = true) (h1 : L.chr ≠ 45) (h2 : L.chr ≠ 46) : Goes1 199 L L.nxt (plainT 212) := by
  have e_45_935 : (((L.chr : Nat) : Int) == 45) = false := beq_eq_false_iff_ne.2 (by omega)
  have e_46_935 : (((L.chr : Nat) : Int) == 46) = false := beq_eq_false_iff_ne.2 (by omega)
  clear h1 h2
  intro base S0 w0 w b h0
  go_enter Tryz.func199, Tryz.ntmps199
  go_wp2_with fail
  refine (next_c h0 ok).mono ?_
  rintro e w1 ⟨rfl, h1⟩
  go_wp2_with fail
  refine (isDig_c _ (chr_lt ok) _).mono ?_
  rintro e w' ⟨rfl, rfl⟩
  go_wp2_with fail
  refine (isSuf_c _ (chr_lt ok) _).mono ?_
  rintro e w' ⟨rfl, rfl⟩
  go_wp2_with fail
  go_ret
  exact ⟨_, rfl, h1.plain _⟩
theorem num_nl (ok : L.Ok) (rdy : L.Rdy) (st : List Nat) (n : Nat) (hst : L.stack = st ++ [n]) (hl : st.length ≤ 1000000) (hc : L.chr = 10) : Goes1 199 L ((L.pk.emit 7 L.pk.txt).stk st) (plainT n) := by
  have e_45_935 : (((L.chr : Nat) : Int) == 45) = false := beq_eq_false_iff_ne.2 (by omega)
  have e_46_935 : (((L.chr : Nat) : Int) == 46) = false := beq_eq_false_iff_ne.2 (by omega)
  have e1 : isDig L.chr = false := by rw [hc]; rfl
  have e2 : isSuf L.chr = false := by rw [hc]; rfl
  have e3 : isNLb L.chr = true := by rw [hc]; rfl
  clear hc
  intro base S0 w0 w b h0
  go_enter Tryz.func199, Tryz.ntmps199
  go_wp2_with fail
  refine (next_c h0 ok).mono ?_
  rintro e w1 ⟨rfl, h1⟩
  go_wp2_with fail
  refine (isDig_c _ (chr_lt ok) _).mono ?_
  rintro e w' ⟨rfl, rfl⟩
  go_wp2_with fail
  refine (isSuf_c _ (chr_lt ok) _).mono ?_
  rintro e w' ⟨rfl, rfl⟩
  go_wp2_with fail
  refine (isNLb_c _ (chr_lt ok) _).mono ?_
  rintro e w' ⟨rfl, rfl⟩
  go_wp2_with fail
  refine (back_c h1 ok.nxt (nxt_width _)).mono ?_
  rintro e w2 ⟨rfl, h2⟩
  rw [nxt_back] at h2
  go_wp2_with fail
  refine (emit_c 7 h2 ok.pk (by simpa [nxt_parts, pk_parts] using rdy.parts) (by have := rdy.start; simp only [pk_start, pk_pos]; omega) (by simpa [nxt_q, pk_q] using rdy.q)).mono ?_
  rintro e w3 ⟨rfl, h3⟩
  go_wp2_with fail
  refine (pop_c st n h3 (by show L.pk.stack = _; rw [pk_stack]; exact hst) hl).mono ?_
  rintro e w4 ⟨rfl, h4⟩
  go_wp2_with fail
  go_ret
  exact ⟨_, rfl, h4.plain _⟩
theorem suf_b (ok : L.Ok) (hc : L.chr = 98) : Goes1 212 L L.nxt (plainT 212) := by
  have e_98_935 : (((L.chr : Nat) : Int) == 98) = true := beq_iff_eq.2 (by omega)
  clear hc
  intro base S0 w0 w b h0
  go_enter Tryz.func212, Tryz.ntmps212
  go_wp2_with fail
  refine (next_c h0 ok).mono ?_
  rintro e w1 ⟨rfl, h1⟩
  go_wp2_with fail
  go_ret
  exact ⟨_, rfl, h1.plain _⟩
theorem suf_B (ok : L.Ok) (hc : L.chr = 66) : Goes1 212 L L.nxt (plainT 212) := by
  have e_98_935 : (((L.chr : Nat) : Int) == 98) = false := beq_eq_false_iff_ne.2 (by omega)
  have e_66_935 : (((L.chr : Nat) : Int) == 66) = true := beq_iff_eq.2 (by omega)
  clear hc
  intro base S0 w0 w b h0
  go_enter Tryz.func212, Tryz.ntmps212
  go_wp2_with fail
  refine (next_c h0 ok).mono ?_
  rintro e w1 ⟨rfl, h1⟩
  go_wp2_with fail
  go_ret
  exact ⟨_, rfl, h1.plain _⟩
theorem suf_i (ok : L.Ok) (hc : L.chr = 105) : Goes1 212 L L.nxt (plainT 212) := by
  have e_98_935 : (((L.chr : Nat) : Int) == 98) = false := beq_eq_false_iff_ne.2 (by omega)
  have e_66_935 : (((L.chr : Nat) : Int) == 66) = false := beq_eq_false_iff_ne.2 (by omega)
  have e_105_935 : (((L.chr : Nat) : Int) == 105) = true := beq_iff_eq.2 (by omega)
  clear hc
  intro base S0 w0 w b h0
  go_enter Tryz.func212, Tryz.ntmps212
  go_wp2_with fail
  refine (next_c h0 ok).mono ?_
  rintro e w1 ⟨rfl, h1⟩
  go_wp2_with fail
  go_ret
  exact ⟨_, rfl, h1.plain _⟩
theorem suf_nl (ok : L.Ok) (rdy : L.Rdy) (st : List Nat) (n : Nat) (hst : L.stack = st ++ [n]) (hl : st.length ≤ 1000000) (hc : L.chr = 10) : Goes1 212 L ((L.pk.emit 7 L.pk.txt).stk st) (plainT n) := by
  have e_98_935 : (((L.chr : Nat) : Int) == 98) = false := beq_eq_false_iff_ne.2 (by omega)
  have e_66_935 : (((L.chr : Nat) : Int) == 66) = false := beq_eq_false_iff_ne.2 (by omega)
  have e_105_935 : (((L.chr : Nat) : Int) == 105) = false := beq_eq_false_iff_ne.2 (by omega)
  have e_73_935 : (((L.chr : Nat) : Int) == 73) = false := beq_eq_false_iff_ne.2 (by omega)
  have e_0_935 : (((L.chr : Nat) : Int) == 0) = false := beq_eq_false_iff_ne.2 (by omega)
  have e_125_935 : (((L.chr : Nat) : Int) == 125) = false := beq_eq_false_iff_ne.2 (by omega)
  have e_59_935 : (((L.chr : Nat) : Int) == 59) = false := beq_eq_false_iff_ne.2 (by omega)
  have e_44_935 : (((L.chr : Nat) : Int) == 44) = false := beq_eq_false_iff_ne.2 (by omega)
  have e3 : isNLb L.chr = true := by rw [hc]; rfl
  clear hc
  intro base S0 w0 w b h0
  go_enter Tryz.func212, Tryz.ntmps212
  go_wp2_with fail
  refine (next_c h0 ok).mono ?_
  rintro e w1 ⟨rfl, h1⟩
  go_wp2_with fail
  refine (back_c h1 ok.nxt (nxt_width _)).mono ?_
  rintro e w2 ⟨rfl, h2⟩
  rw [nxt_back] at h2
  go_wp2_with fail
  refine (isNLb_c _ (chr_lt ok) _).mono ?_
  rintro e w' ⟨rfl, rfl⟩
  go_wp2_with fail
  refine (emit_c 7 h2 ok.pk (by simpa [nxt_parts, pk_parts] using rdy.parts) (by have := rdy.start; simp only [pk_start, pk_pos]; omega) (by simpa [nxt_q, pk_q] using rdy.q)).mono ?_
  rintro e w3 ⟨rfl, h3⟩
  go_wp2_with fail
  refine (pop_c st n h3 (by show L.pk.stack = _; rw [pk_stack]; exact hst) hl).mono ?_
  rintro e w4 ⟨rfl, h4⟩
  go_wp2_with fail
  go_ret
  exact ⟨_, rfl, h4.plain _⟩
end
end Go.Cf
