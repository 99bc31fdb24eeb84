/-
  Texts joined: Lg Lh Ra Mo Gd Gr Gv.
-/
import Derived.Test.YtackodbeohaidaaGreatDoorBq07
import Derived.Test.YtackodbeohaidaaGreatDoorBq08
import Derived.Test.YtackodbeohaidaaGreatDoorBq09
import Derived.Test.YtackodbeohaidaaGreatDoorBq010
import Derived.Test.YtackodbeohaidaaGreatDoorBq011
namespace Go.Cf
open Go.RowKit Go.Conc Go.Proofs
section
variable {base : Nat} {S0 : Nat → Prop} {w0 w w1 : World} {b : Nat} {L L' : LX}
set_option maxRecDepth 100000 in
theorem isBool_t (h : At base S0 w0 w b L) (ok : L.Ok) (rdy : L.Rdy) (hk : boolWord L.txt = true) :
  Calls Tryz.prog 201 #[.pointer (some ⟨b,0,none⟩)] w fun e w' => e = .returned (.bool true) ∧ At base S0 w0 w' b L := by
 have c0 := h.c0;have c1 := h.c1;have c2 := h.c2;have hsm := ok.small;have hpp := ok.pos;have hst := rdy.start;have ha := toList_txt L ok;simp only [boolWord,Bool.or_eq_true,beq_iff_eq] at hk;have hsz : L.txt.size ≤ 140737488355328 := by unfold LX.txt;simp;omega
 obtain ⟨t,ht⟩ : ∃ t,t = L.txt := ⟨_,rfl⟩;have ht2 : L.inp.extract L.start L.pos = t := ht.symm;rw [← ht] at ha hk hsz;have HA := Lib.hid ha;have HK := Lib.hid hk;clear ha ht hk;go_enter Tryz.func201,Tryz.ntmps201;go_wp2;refine wp_still_tail 13 mixed (by kernel_rfl) ?_;simp only [List.take_succ_cons,List.take_zero,List.drop_succ_cons,List.drop_zero]
 repeat still_step
 refine wpStill_nil ?_;go_wp2_with fail;refine (Tryz.strings_ToLower_ascii t _ hsz HA.out).mono ?_;rintro e w1 ⟨rfl,hb⟩;have h1 := At.below (h.drewN 1) hb;clear c0 c1 c2 hb;have hk := HK.out;rcases hk with ((((hk | hk) | hk) | hk) | hk) | hk
 all_goals rw [hk]
 all_goals go_wp2
 all_goals go_ret
 all_goals exact ⟨rfl,h1⟩
end
section
variable {L : LX}
theorem tve_comma (ok : L.Ok) (hc : L.chr = 44) : Goes1 94 L L.nxt.ign (plainT 60) := by
 have e_35_831 : (((L.chr : Nat) : Int) == 35) = false := bqf (by omega);have e_47_831 : (((L.chr : Nat) : Int) == 47) = false := bqf (by omega);have e_0_831 : (((L.chr : Nat) : Int) == 0) = false := bqf (by omega);have e_59_831 : (((L.chr : Nat) : Int) == 59) = false := bqf (by omega);have e_44_831 : (((L.chr : Nat) : Int) == 44) = true := beq_iff_eq.2 (by omega);have e_a : isWS L.chr = false := by rw [hc];rfl
 have e_b : isNLb L.chr = false := by rw [hc];rfl
 clear hc;intro base S0 w0 w b h0;go_enter Tryz.func94,Tryz.ntmps94;go_wp2_with fail;refine (next_c h0 ok).mono ?_;rintro e w1 ⟨rfl,h1⟩;go_wp2_with fail;refine (isWS_c _ (chr_lt ok) _).mono ?_;rintro e w' ⟨rfl,rfl⟩;go_wp2_with fail;refine (isNLb_c _ (chr_lt ok) _).mono ?_;rintro e w' ⟨rfl,rfl⟩;go_wp2_with fail;refine (ign_c h1).mono ?_;rintro e w2 ⟨rfl,h2⟩;go_wp2_with fail;go_ret;exact ⟨_,rfl,h2.plain _⟩
theorem mks_hash (ok : L.Ok) (hst : L.stack.length ≤ 1000000) (hc : L.chr = 35) : Goes1 181 L (L.pk.nxt.psh 181) (plainT 90) := by
 have e_93_831 : (((L.chr : Nat) : Int) == 93) = false := bqf (by omega);have e_125_831 : (((L.chr : Nat) : Int) == 125) = false := bqf (by omega);have e_35_831 : (((L.chr : Nat) : Int) == 35) = true := beq_iff_eq.2 (by omega);have e_a : isSep L.chr = false := by rw [hc];rfl
 have e_b : isSp L.chr = false := by rw [hc];rfl
 clear hc;intro base S0 w0 w b h0;go_enter Tryz.func181,Tryz.ntmps181;go_wp2_with fail;refine (peek_c h0 ok).mono ?_;rintro e w1 ⟨rfl,h1⟩;go_wp2_with fail;refine (isSep_c _ (chr_lt ok) _).mono ?_;rintro e w' ⟨rfl,rfl⟩;go_wp2_with fail;refine (isSp_c _ (chr_lt ok) _).mono ?_;rintro e w' ⟨rfl,rfl⟩;go_wp2_with fail;refine (next_c h1 ok.pk).mono ?_;rintro e w2 ⟨rfl,h2⟩;go_wp2_with fail;refine (push_c h2 181 (by rw [nxt_stack,pk_stack];exact hst)).mono ?_;rintro e w3 ⟨rfl,h3⟩;go_wp2_with fail;go_ret;exact ⟨_,rfl,h3.plain _⟩
theorem mks_slash (ok : L.Ok) (hst : L.stack.length ≤ 1000000) (hc : L.chr = 47) (hd : L.pk.nxt.chr = 47) : Goes1 181 L (L.pk.nxt.nxt.psh 181) (plainT 90) := by
 have e_93_831 : (((L.chr : Nat) : Int) == 93) = false := bqf (by omega);have e_125_831 : (((L.chr : Nat) : Int) == 125) = false := bqf (by omega);have e_35_831 : (((L.chr : Nat) : Int) == 35) = false := bqf (by omega);have e_47_831 : (((L.chr : Nat) : Int) == 47) = true := beq_iff_eq.2 (by omega);have e_47_606 : (((L.pk.nxt.chr : Nat) : Int) == 47) = true := beq_iff_eq.2 (by omega);have e_a : isSep L.chr = false := by rw [hc];rfl
 have e_b : isSp L.chr = false := by rw [hc];rfl
 clear hc hd;intro base S0 w0 w b h0;go_enter Tryz.func181,Tryz.ntmps181;go_wp2_with fail;refine (peek_c h0 ok).mono ?_;rintro e w1 ⟨rfl,h1⟩;go_wp2_with fail;refine (isSep_c _ (chr_lt ok) _).mono ?_;rintro e w' ⟨rfl,rfl⟩;go_wp2_with fail;refine (isSp_c _ (chr_lt ok) _).mono ?_;rintro e w' ⟨rfl,rfl⟩;go_wp2_with fail;refine (next_c h1 ok.pk).mono ?_;rintro e w2 ⟨rfl,h2⟩;go_wp2_with fail;refine (next_c h2 ok.pk.nxt).mono ?_;rintro e w3 ⟨rfl,h3⟩;go_wp2_with fail;refine (push_c h3 181 (by rw [nxt_stack,nxt_stack,pk_stack];exact hst)).mono ?_;rintro e w4 ⟨rfl,h4⟩;go_wp2_with fail;go_ret;exact ⟨_,rfl,h4.plain _⟩
theorem mks_sq (ok : L.Ok) (hc : L.chr = 39) : Goes1 181 L L.pk.nxt (skipT 192) := by
 have e_93_831 : (((L.chr : Nat) : Int) == 93) = false := bqf (by omega);have e_125_831 : (((L.chr : Nat) : Int) == 125) = false := bqf (by omega);have e_35_831 : (((L.chr : Nat) : Int) == 35) = false := bqf (by omega);have e_47_831 : (((L.chr : Nat) : Int) == 47) = false := bqf (by omega);have e_39_831 : (((L.chr : Nat) : Int) == 39) = true := beq_iff_eq.2 (by omega);have e_a : isSep L.chr = false := by rw [hc];rfl
 have e_b : isSp L.chr = false := by rw [hc];rfl
 clear hc;intro base S0 w0 w b h0;go_enter Tryz.func181,Tryz.ntmps181;go_wp2_with fail;refine (peek_c h0 ok).mono ?_;rintro e w1 ⟨rfl,h1⟩;go_wp2_with fail;refine (isSep_c _ (chr_lt ok) _).mono ?_;rintro e w' ⟨rfl,rfl⟩;go_wp2_with fail;refine (isSp_c _ (chr_lt ok) _).mono ?_;rintro e w' ⟨rfl,rfl⟩;go_wp2_with fail;refine (next_c h1 ok.pk).mono ?_;rintro e w2 ⟨rfl,h2⟩;go_wp2_with fail;refine (skipV_c h2 192).mono ?_;rintro e w3 ⟨rfl,hv⟩;go_wp2_with fail;go_ret;exact ⟨_,rfl,hv⟩
theorem msqk_end (ok : L.Ok) (rdy : L.Rdy) (hc : L.chr = 39) : Goes1 192 L (L.pk.emit 3 L.pk.txt).nxt (skipT 206) := by
 have e_0_831 : (((L.chr : Nat) : Int) == 0) = false := bqf (by omega);have e_39_831 : (((L.chr : Nat) : Int) == 39) = true := beq_iff_eq.2 (by omega);clear hc;intro base S0 w0 w b h0;go_enter Tryz.func192,Tryz.ntmps192;go_wp2_with fail;refine (peek_c h0 ok).mono ?_;rintro e w1 ⟨rfl,h1⟩;go_wp2_with fail;refine (emit_c 3 h1 ok.pk (by simpa [nxt_parts,pk_parts] using rdy.parts) (by have := rdy.start;simp only [pk_start,pk_pos];omega) (by simpa [nxt_q,pk_q] using rdy.q)).mono ?_;rintro e w2 ⟨rfl,h2⟩;go_wp2_with fail;refine (next_c h2 ((ok.pk.emit 3 _))).mono ?_;rintro e w3 ⟨rfl,h3⟩;go_wp2_with fail;refine (skipV_c h3 206).mono ?_;rintro e w4 ⟨rfl,hv⟩;go_wp2_with fail;go_ret;exact ⟨_,rfl,hv⟩
theorem msqk_ch (ok : L.Ok) (h1 : L.chr ≠ 39) (h2 : L.chr ≠ 0) : Goes1 192 L L.pk.nxt (plainT 192) := by
 have e_39_831 : (((L.chr : Nat) : Int) == 39) = false := bqf (by omega);have e_0_831 : (((L.chr : Nat) : Int) == 0) = false := bqf (by omega);clear h1 h2;intro base S0 w0 w b h0;go_enter Tryz.func192,Tryz.ntmps192;go_wp2_with fail;refine (peek_c h0 ok).mono ?_;rintro e w1 ⟨rfl,h1⟩;go_wp2_with fail;refine (next_c h1 ok.pk).mono ?_;rintro e w2 ⟨rfl,h2⟩;go_wp2_with fail;go_ret;exact ⟨_,rfl,h2.plain _⟩
theorem mks_dq (ok : L.Ok) (hc : L.chr = 34) : Goes1 181 L L.pk.nxt (skipT 193) := by
 have e_93_831 : (((L.chr : Nat) : Int) == 93) = false := bqf (by omega);have e_125_831 : (((L.chr : Nat) : Int) == 125) = false := bqf (by omega);have e_35_831 : (((L.chr : Nat) : Int) == 35) = false := bqf (by omega);have e_47_831 : (((L.chr : Nat) : Int) == 47) = false := bqf (by omega);have e_39_831 : (((L.chr : Nat) : Int) == 39) = false := bqf (by omega);have e_34_831 : (((L.chr : Nat) : Int) == 34) = true := beq_iff_eq.2 (by omega);have e_a : isSep L.chr = false := by rw [hc];rfl
 have e_b : isSp L.chr = false := by rw [hc];rfl
 clear hc;intro base S0 w0 w b h0;go_enter Tryz.func181,Tryz.ntmps181;go_wp2_with fail;refine (peek_c h0 ok).mono ?_;rintro e w1 ⟨rfl,h1⟩;go_wp2_with fail;refine (isSep_c _ (chr_lt ok) _).mono ?_;rintro e w' ⟨rfl,rfl⟩;go_wp2_with fail;refine (isSp_c _ (chr_lt ok) _).mono ?_;rintro e w' ⟨rfl,rfl⟩;go_wp2_with fail;refine (next_c h1 ok.pk).mono ?_;rintro e w2 ⟨rfl,h2⟩;go_wp2_with fail;refine (skipV_c h2 193).mono ?_;rintro e w3 ⟨rfl,hv⟩;go_wp2_with fail;go_ret;exact ⟨_,rfl,hv⟩
theorem mdqk_end (ok : L.Ok) (rdy : L.Rdy) (hc : L.chr = 34) : Goes1 193 L (L.pk.emit 3 L.pk.txt).nxt (skipT 206) := by
 have e_0_831 : (((L.chr : Nat) : Int) == 0) = false := bqf (by omega);have e_34_831 : (((L.chr : Nat) : Int) == 34) = true := beq_iff_eq.2 (by omega);clear hc;intro base S0 w0 w b h0;go_enter Tryz.func193,Tryz.ntmps193;go_wp2_with fail;refine (peek_c h0 ok).mono ?_;rintro e w1 ⟨rfl,h1⟩;go_wp2_with fail;refine (emit_c 3 h1 ok.pk (by simpa [nxt_parts,pk_parts] using rdy.parts) (by have := rdy.start;simp only [pk_start,pk_pos];omega) (by simpa [nxt_q,pk_q] using rdy.q)).mono ?_;rintro e w2 ⟨rfl,h2⟩;go_wp2_with fail;refine (next_c h2 ((ok.pk.emit 3 _))).mono ?_;rintro e w3 ⟨rfl,h3⟩;go_wp2_with fail;refine (skipV_c h3 206).mono ?_;rintro e w4 ⟨rfl,hv⟩;go_wp2_with fail;go_ret;exact ⟨_,rfl,hv⟩
theorem mdqk_ch (ok : L.Ok) (h1 : L.chr ≠ 34) (h2 : L.chr ≠ 0) : Goes1 193 L L.pk.nxt (plainT 193) := by
 have e_34_831 : (((L.chr : Nat) : Int) == 34) = false := bqf (by omega);have e_0_831 : (((L.chr : Nat) : Int) == 0) = false := bqf (by omega);clear h1 h2;intro base S0 w0 w b h0;go_enter Tryz.func193,Tryz.ntmps193;go_wp2_with fail;refine (peek_c h0 ok).mono ?_;rintro e w1 ⟨rfl,h1⟩;go_wp2_with fail;refine (next_c h1 ok.pk).mono ?_;rintro e w2 ⟨rfl,h2⟩;go_wp2_with fail;go_ret;exact ⟨_,rfl,h2.plain _⟩
theorem mve_hash (ok : L.Ok) (hst : L.stack.length ≤ 1000000) (hc : L.chr = 35) : Goes1 207 L (L.nxt.psh 207) (plainT 90) := by
 have e_35_831 : (((L.chr : Nat) : Int) == 35) = true := beq_iff_eq.2 (by omega);have e_a : isWS L.chr = false := by rw [hc];rfl
 clear hc;intro base S0 w0 w b h0;go_enter Tryz.func207,Tryz.ntmps207;go_wp2_with fail;refine (next_c h0 ok).mono ?_;rintro e w1 ⟨rfl,h1⟩;go_wp2_with fail;refine (isWS_c _ (chr_lt ok) _).mono ?_;rintro e w' ⟨rfl,rfl⟩;go_wp2_with fail;refine (push_c h1 207 (by rw [nxt_stack];exact hst)).mono ?_;rintro e w2 ⟨rfl,h2⟩;go_wp2_with fail;go_ret;exact ⟨_,rfl,h2.plain _⟩
theorem mve_slash (ok : L.Ok) (hst : L.stack.length ≤ 1000000) (hc : L.chr = 47) (hd : L.nxt.chr = 47) : Goes1 207 L (L.nxt.nxt.psh 207) (plainT 90) := by
 have e_35_831 : (((L.chr : Nat) : Int) == 35) = false := bqf (by omega);have e_47_831 : (((L.chr : Nat) : Int) == 47) = true := beq_iff_eq.2 (by omega);have e_47_647 : (((L.nxt.chr : Nat) : Int) == 47) = true := beq_iff_eq.2 (by omega);have e_a : isWS L.chr = false := by rw [hc];rfl
 clear hc hd;intro base S0 w0 w b h0;go_enter Tryz.func207,Tryz.ntmps207;go_wp2_with fail;refine (next_c h0 ok).mono ?_;rintro e w1 ⟨rfl,h1⟩;go_wp2_with fail;refine (isWS_c _ (chr_lt ok) _).mono ?_;rintro e w' ⟨rfl,rfl⟩;go_wp2_with fail;refine (next_c h1 ok.nxt).mono ?_;rintro e w2 ⟨rfl,h2⟩;go_wp2_with fail;refine (push_c h2 207 (by rw [nxt_stack,nxt_stack];exact hst)).mono ?_;rintro e w3 ⟨rfl,h3⟩;go_wp2_with fail;go_ret;exact ⟨_,rfl,h3.plain _⟩
theorem num_dot (ok : L.Ok) (hc : L.chr = 46) : Goes1 199 L L.nxt (plainT 210) := by
 have e_45_831 : (((L.chr : Nat) : Int) == 45) = false := bqf (by omega);have e_46_831 : (((L.chr : Nat) : Int) == 46) = true := beq_iff_eq.2 (by omega);have e_a : isDig L.chr = false := by rw [hc];rfl
 clear hc;intro base S0 w0 w b h0;go_enter Tryz.func199,Tryz.ntmps199;go_wp2_with fail;refine (next_c h0 ok).mono ?_;rintro e w1 ⟨rfl,h1⟩;go_wp2_with fail;refine (isDig_c _ (chr_lt ok) _).mono ?_;rintro e w' ⟨rfl,rfl⟩;go_wp2_with fail;go_ret;exact ⟨_,rfl,h1.plain _⟩
theorem neg_dot (ok : L.Ok) (hc : L.chr = 46) : Goes1 198 L L.nxt (plainT 210) := by
 have e_46_831 : (((L.chr : Nat) : Int) == 46) = true := beq_iff_eq.2 (by omega);have e_a : isDig L.chr = false := by rw [hc];rfl
 clear hc;intro base S0 w0 w b h0;go_enter Tryz.func198,Tryz.ntmps198;go_wp2_with fail;refine (next_c h0 ok).mono ?_;rintro e w1 ⟨rfl,h1⟩;go_wp2_with fail;refine (isDig_c _ (chr_lt ok) _).mono ?_;rintro e w' ⟨rfl,rfl⟩;go_wp2_with fail;go_ret;exact ⟨_,rfl,h1.plain _⟩
theorem fls_dig (ok : L.Ok) (e2 : isDig L.chr = true) : Goes1 210 L L.nxt (plainT 216) := by
 intro base S0 w0 w b h0;go_enter Tryz.func210,Tryz.ntmps210;go_wp2_with fail;refine (next_c h0 ok).mono ?_;rintro e w1 ⟨rfl,h1⟩;go_wp2_with fail;refine (isDig_c _ (chr_lt ok) _).mono ?_;rintro e w' ⟨rfl,rfl⟩;go_wp2_with fail;go_ret;exact ⟨_,rfl,h1.plain _⟩
theorem fl_dig (ok : L.Ok) (e2 : isDig L.chr = true) : Goes1 216 L L.nxt (plainT 216) := by
 intro base S0 w0 w b h0;go_enter Tryz.func216,Tryz.ntmps216;go_wp2_with fail;refine (next_c h0 ok).mono ?_;rintro e w1 ⟨rfl,h1⟩;go_wp2_with fail;refine (isDig_c _ (chr_lt ok) _).mono ?_;rintro e w' ⟨rfl,rfl⟩;go_wp2_with fail;go_ret;exact ⟨_,rfl,h1.plain _⟩
theorem fl_end (ok : L.Ok) (rdy : L.Rdy) (st : List Nat) (n : Nat) (hst : L.stack = st ++ [n]) (hl : st.length ≤ 1000000) (e2 : isDig L.chr = false) (h1 : L.chr ≠ 46) : Goes1 216 L ((L.pk.emit 8 L.pk.txt).stk st) (plainT n) := by
 have e_46_831 : (((L.chr : Nat) : Int) == 46) = false := bqf (by omega);clear h1;intro base S0 w0 w b h0;go_enter Tryz.func216,Tryz.ntmps216;go_wp2_with fail;refine (next_c h0 ok).mono ?_;rintro e w1 ⟨rfl,h1⟩;go_wp2_with fail;refine (isDig_c _ (chr_lt ok) _).mono ?_;rintro e w' ⟨rfl,rfl⟩;go_wp2_with fail;refine (back_c h1 ok.nxt (nxt_width _)).mono ?_;rintro e w2 ⟨rfl,h2⟩;rw [nxt_back] at h2;go_wp2_with fail;refine (emit_c 8 h2 ok.pk (by simpa [nxt_parts,pk_parts] using rdy.parts) (by have := rdy.start;simp only [pk_start,pk_pos];omega) (by simpa [nxt_q,pk_q] using rdy.q)).mono ?_;rintro e w3 ⟨rfl,h3⟩;go_wp2_with fail;refine (pop_c st n h3 (by show L.pk.stack = _;rw [pk_stack];exact hst) hl).mono ?_;rintro e w4 ⟨rfl,h4⟩;go_wp2_with fail;go_ret;exact ⟨_,rfl,h4.plain _⟩
theorem bool_nl (ok : L.Ok) (rdy : L.Rdy) (st : List Nat) (n : Nat) (hst : L.stack = st ++ [n]) (hl : st.length ≤ 1000000) (hb : boolWord L.pk.txt = true) (hc : L.chr = 10) : Goes1 187 L ((L.pk.emit 6 L.pk.txt).stk st) (plainT n) := by
 have e_92_831 : (((L.chr : Nat) : Int) == 92) = false := bqf (by omega);have e_nl : isNLb L.chr = true := by rw [hc];rfl
 have HB := Lib.hid hb;clear hc hb;intro base S0 w0 w b h0;go_enter Tryz.func187,Tryz.ntmps187;go_wp2_with fail;refine (next_c h0 ok).mono ?_;rintro e w1 ⟨rfl,h1⟩;go_wp2_with fail;refine (isNLb_c _ (chr_lt ok) _).mono ?_;rintro e w' ⟨rfl,rfl⟩;go_wp2_with fail;refine (back_c h1 ok.nxt (nxt_width _)).mono ?_;rintro e w2 ⟨rfl,h2⟩;rw [nxt_back] at h2;go_wp2_with fail;refine (hasEsc_c h2 (by simpa [pk_parts] using rdy.parts)).mono ?_;rintro e w3 ⟨rfl,h3⟩;go_wp2_with fail;refine (isBool_t h3 ok.pk ⟨(by simpa [pk_parts] using rdy.parts),(by have := rdy.start;simp only [pk_start,pk_pos];omega),(by simpa [pk_q] using rdy.q)⟩ HB.out).mono ?_;rintro e w4 ⟨rfl,h4⟩;go_wp2_with fail;refine (emit_c 6 h4 ok.pk (by simpa [nxt_parts,pk_parts] using rdy.parts) (by have := rdy.start;simp only [pk_start,pk_pos];omega) (by simpa [nxt_q,pk_q] using rdy.q)).mono ?_;rintro e w5 ⟨rfl,h5⟩;go_wp2_with fail;refine (pop_c st n h5 (by show L.pk.stack = _;rw [pk_stack];exact hst) hl).mono ?_;rintro e w6 ⟨rfl,h6⟩;go_wp2_with fail;go_ret;exact ⟨_,rfl,h6.plain _⟩
theorem bool_ws (ok : L.Ok) (rdy : L.Rdy) (st : List Nat) (n : Nat) (hst : L.stack = st ++ [n]) (hl : st.length ≤ 1000000) (hb : boolWord L.pk.txt = true) (hc : L.chr = 32) : Goes1 187 L ((L.pk.emit 6 L.pk.txt).stk st) (plainT n) := by
 have e_92_831 : (((L.chr : Nat) : Int) == 92) = false := bqf (by omega);have e_0_831 : (((L.chr : Nat) : Int) == 0) = false := bqf (by omega);have e_59_831 : (((L.chr : Nat) : Int) == 59) = false := bqf (by omega);have e_44_831 : (((L.chr : Nat) : Int) == 44) = false := bqf (by omega);have e_93_831 : (((L.chr : Nat) : Int) == 93) = false := bqf (by omega);have e_125_831 : (((L.chr : Nat) : Int) == 125) = false := bqf (by omega);have e_nl : isNLb L.chr = false := by rw [hc];rfl
 have e_ws : isWS L.chr = true := by rw [hc];rfl
 have HB := Lib.hid hb;clear hc hb;intro base S0 w0 w b h0;go_enter Tryz.func187,Tryz.ntmps187;go_wp2_with fail;refine (next_c h0 ok).mono ?_;rintro e w1 ⟨rfl,h1⟩;go_wp2_with fail;refine (isNLb_c _ (chr_lt ok) _).mono ?_;rintro e w' ⟨rfl,rfl⟩;go_wp2_with fail;refine (isWS_c _ (chr_lt ok) _).mono ?_;rintro e w' ⟨rfl,rfl⟩;go_wp2_with fail;refine (back_c h1 ok.nxt (nxt_width _)).mono ?_;rintro e w2 ⟨rfl,h2⟩;rw [nxt_back] at h2;go_wp2_with fail;refine (hasEsc_c h2 (by simpa [pk_parts] using rdy.parts)).mono ?_;rintro e w3 ⟨rfl,h3⟩;go_wp2_with fail;refine (isBool_t h3 ok.pk ⟨(by simpa [pk_parts] using rdy.parts),(by have := rdy.start;simp only [pk_start,pk_pos];omega),(by simpa [pk_q] using rdy.q)⟩ HB.out).mono ?_;rintro e w4 ⟨rfl,h4⟩;go_wp2_with fail;refine (emit_c 6 h4 ok.pk (by simpa [nxt_parts,pk_parts] using rdy.parts) (by have := rdy.start;simp only [pk_start,pk_pos];omega) (by simpa [nxt_q,pk_q] using rdy.q)).mono ?_;rintro e w5 ⟨rfl,h5⟩;go_wp2_with fail;refine (pop_c st n h5 (by show L.pk.stack = _;rw [pk_stack];exact hst) hl).mono ?_;rintro e w6 ⟨rfl,h6⟩;go_wp2_with fail;go_ret;exact ⟨_,rfl,h6.plain _⟩
theorem bool_semi (ok : L.Ok) (rdy : L.Rdy) (st : List Nat) (n : Nat) (hst : L.stack = st ++ [n]) (hl : st.length ≤ 1000000) (hb : boolWord L.pk.txt = true) (hc : L.chr = 59) : Goes1 187 L ((L.pk.emit 6 L.pk.txt).stk st) (plainT n) := by
 have e_92_831 : (((L.chr : Nat) : Int) == 92) = false := bqf (by omega);have e_0_831 : (((L.chr : Nat) : Int) == 0) = false := bqf (by omega);have e_59_831 : (((L.chr : Nat) : Int) == 59) = true := beq_iff_eq.2 (by omega);have e_nl : isNLb L.chr = false := by rw [hc];rfl
 have HB := Lib.hid hb;clear hc hb;intro base S0 w0 w b h0;go_enter Tryz.func187,Tryz.ntmps187;go_wp2_with fail;refine (next_c h0 ok).mono ?_;rintro e w1 ⟨rfl,h1⟩;go_wp2_with fail;refine (isNLb_c _ (chr_lt ok) _).mono ?_;rintro e w' ⟨rfl,rfl⟩;go_wp2_with fail;refine (back_c h1 ok.nxt (nxt_width _)).mono ?_;rintro e w2 ⟨rfl,h2⟩;rw [nxt_back] at h2;go_wp2_with fail;refine (hasEsc_c h2 (by simpa [pk_parts] using rdy.parts)).mono ?_;rintro e w3 ⟨rfl,h3⟩;go_wp2_with fail;refine (isBool_t h3 ok.pk ⟨(by simpa [pk_parts] using rdy.parts),(by have := rdy.start;simp only [pk_start,pk_pos];omega),(by simpa [pk_q] using rdy.q)⟩ HB.out).mono ?_;rintro e w4 ⟨rfl,h4⟩;go_wp2_with fail;refine (emit_c 6 h4 ok.pk (by simpa [nxt_parts,pk_parts] using rdy.parts) (by have := rdy.start;simp only [pk_start,pk_pos];omega) (by simpa [nxt_q,pk_q] using rdy.q)).mono ?_;rintro e w5 ⟨rfl,h5⟩;go_wp2_with fail;refine (pop_c st n h5 (by show L.pk.stack = _;rw [pk_stack];exact hst) hl).mono ?_;rintro e w6 ⟨rfl,h6⟩;go_wp2_with fail;go_ret;exact ⟨_,rfl,h6.plain _⟩
theorem bool_comma (ok : L.Ok) (rdy : L.Rdy) (st : List Nat) (n : Nat) (hst : L.stack = st ++ [n]) (hl : st.length ≤ 1000000) (hb : boolWord L.pk.txt = true) (hc : L.chr = 44) : Goes1 187 L ((L.pk.emit 6 L.pk.txt).stk st) (plainT n) := by
 have e_92_831 : (((L.chr : Nat) : Int) == 92) = false := bqf (by omega);have e_0_831 : (((L.chr : Nat) : Int) == 0) = false := bqf (by omega);have e_59_831 : (((L.chr : Nat) : Int) == 59) = false := bqf (by omega);have e_44_831 : (((L.chr : Nat) : Int) == 44) = true := beq_iff_eq.2 (by omega);have e_nl : isNLb L.chr = false := by rw [hc];rfl
 have HB := Lib.hid hb;clear hc hb;intro base S0 w0 w b h0;go_enter Tryz.func187,Tryz.ntmps187;go_wp2_with fail;refine (next_c h0 ok).mono ?_;rintro e w1 ⟨rfl,h1⟩;go_wp2_with fail;refine (isNLb_c _ (chr_lt ok) _).mono ?_;rintro e w' ⟨rfl,rfl⟩;go_wp2_with fail;refine (back_c h1 ok.nxt (nxt_width _)).mono ?_;rintro e w2 ⟨rfl,h2⟩;rw [nxt_back] at h2;go_wp2_with fail;refine (hasEsc_c h2 (by simpa [pk_parts] using rdy.parts)).mono ?_;rintro e w3 ⟨rfl,h3⟩;go_wp2_with fail;refine (isBool_t h3 ok.pk ⟨(by simpa [pk_parts] using rdy.parts),(by have := rdy.start;simp only [pk_start,pk_pos];omega),(by simpa [pk_q] using rdy.q)⟩ HB.out).mono ?_;rintro e w4 ⟨rfl,h4⟩;go_wp2_with fail;refine (emit_c 6 h4 ok.pk (by simpa [nxt_parts,pk_parts] using rdy.parts) (by have := rdy.start;simp only [pk_start,pk_pos];omega) (by simpa [nxt_q,pk_q] using rdy.q)).mono ?_;rintro e w5 ⟨rfl,h5⟩;go_wp2_with fail;refine (pop_c st n h5 (by show L.pk.stack = _;rw [pk_stack];exact hst) hl).mono ?_;rintro e w6 ⟨rfl,h6⟩;go_wp2_with fail;go_ret;exact ⟨_,rfl,h6.plain _⟩
theorem bool_brace (ok : L.Ok) (rdy : L.Rdy) (st : List Nat) (n : Nat) (hst : L.stack = st ++ [n]) (hl : st.length ≤ 1000000) (hb : boolWord L.pk.txt = true) (hc : L.chr = 125) : Goes1 187 L ((L.pk.emit 6 L.pk.txt).stk st) (plainT n) := by
 have e_92_831 : (((L.chr : Nat) : Int) == 92) = false := bqf (by omega);have e_0_831 : (((L.chr : Nat) : Int) == 0) = false := bqf (by omega);have e_59_831 : (((L.chr : Nat) : Int) == 59) = false := bqf (by omega);have e_44_831 : (((L.chr : Nat) : Int) == 44) = false := bqf (by omega);have e_93_831 : (((L.chr : Nat) : Int) == 93) = false := bqf (by omega);have e_125_831 : (((L.chr : Nat) : Int) == 125) = true := beq_iff_eq.2 (by omega);have e_nl : isNLb L.chr = false := by rw [hc];rfl
 have HB := Lib.hid hb;clear hc hb;intro base S0 w0 w b h0;go_enter Tryz.func187,Tryz.ntmps187;go_wp2_with fail;refine (next_c h0 ok).mono ?_;rintro e w1 ⟨rfl,h1⟩;go_wp2_with fail;refine (isNLb_c _ (chr_lt ok) _).mono ?_;rintro e w' ⟨rfl,rfl⟩;go_wp2_with fail;refine (back_c h1 ok.nxt (nxt_width _)).mono ?_;rintro e w2 ⟨rfl,h2⟩;rw [nxt_back] at h2;go_wp2_with fail;refine (hasEsc_c h2 (by simpa [pk_parts] using rdy.parts)).mono ?_;rintro e w3 ⟨rfl,h3⟩;go_wp2_with fail;refine (isBool_t h3 ok.pk ⟨(by simpa [pk_parts] using rdy.parts),(by have := rdy.start;simp only [pk_start,pk_pos];omega),(by simpa [pk_q] using rdy.q)⟩ HB.out).mono ?_;rintro e w4 ⟨rfl,h4⟩;go_wp2_with fail;refine (emit_c 6 h4 ok.pk (by simpa [nxt_parts,pk_parts] using rdy.parts) (by have := rdy.start;simp only [pk_start,pk_pos];omega) (by simpa [nxt_q,pk_q] using rdy.q)).mono ?_;rintro e w5 ⟨rfl,h5⟩;go_wp2_with fail;refine (pop_c st n h5 (by show L.pk.stack = _;rw [pk_stack];exact hst) hl).mono ?_;rintro e w6 ⟨rfl,h6⟩;go_wp2_with fail;go_ret;exact ⟨_,rfl,h6.plain _⟩
end
section
variable {s : ByteArray} {p st : Nat} {stk : List Nat} {L : LX}
theorem ld_tve_comma (hp : p < s.size) (e : byteAt s p = 44) : Leads s p st stk (plainT 94) (p + 1) (p + 1) stk (plainT 60) := by
 rintro L ⟨h,hs⟩;have hc := h.chr hp;exact ⟨1,_,run1 hs enters94 h.q (tve_comma h.ok (by rw [hc];exact e)),((h.nxt hp).ign).goes _⟩
theorem ld_mks_hash (hp : p < s.size) (hl : stk.length ≤ 1000000) (e : byteAt s p = 35) : Leads s p st stk (plainT 181) (p + 1) st (stk ++ [181]) (plainT 90) := by
 rintro L ⟨h,hs⟩;have hc := h.chr hp;exact ⟨1,_,run1 hs enters181 h.q (mks_hash h.ok (by rw [h.stack];exact hl) (by rw [hc];exact e)),((h.pk.nxt hp).psh 181).goes _⟩
theorem ld_mks_slash (hp : p + 1 < s.size) (hl : stk.length ≤ 1000000) (e : byteAt s p = 47) (e2 : byteAt s (p + 1) = 47) : Leads s p st stk (plainT 181) (p + 1 + 1) st (stk ++ [181]) (plainT 90) := by
 rintro L ⟨h,hs⟩;have hc := h.chr (show p < s.size by omega);have hn := h.pk.nxt (show p < s.size by omega);have hc2 : L.pk.nxt.chr = byteAt s (p + 1) := hn.chr hp;exact ⟨1,_,run1 hs enters181 h.q (mks_slash h.ok (by rw [h.stack];exact hl) (by rw [hc];exact e) (by rw [hc2];exact e2)),((hn.nxt hp).psh 181).goes _⟩
theorem ld_mks_sq (hp : p < s.size) (e : byteAt s p = 39) : Leads s p st stk (plainT 181) (p + 1) st stk (skipT 192) := by
 rintro L ⟨h,hs⟩;have hc := h.chr hp;exact ⟨1,_,run1 hs enters181 h.q (mks_sq h.ok (by rw [hc];exact e)),((h.pk).nxt hp).goes _⟩
theorem enters192 : Enters 192 := fun args w => by kernel_rfl
theorem ld_msqk_ch (hp : p < s.size) (h1 : byteAt s p ≠ 39) (h2 : byteAt s p ≠ 0) : Leads s p st stk (plainT 192) (p + 1) st stk (plainT 192) := by
 rintro L ⟨h,hs⟩;have hc := h.chr hp;exact ⟨1,_,run1 hs enters192 h.q (msqk_ch h.ok (by rw [hc];exact h1) (by rw [hc];exact h2)),((h.pk).nxt hp).goes _⟩
theorem ld_msqk_end (hp : p < s.size) (hst : st ≤ p) (e : byteAt s p = 39) : Emits s p st stk (plainT 192) 3 (s.extract st p) (1 + (nlc s p : Nat)) (p + 1) p stk (skipT 206) := by
 rintro L ⟨h,hs⟩;have hc := h.chr hp;obtain ⟨h1,h2⟩ := (h.pk).gaveN hp 3 (skipT 206);exact ⟨1,_,_,run1 hs enters192 h.q (msqk_end h.ok (h.rdy hst) (by rw [hc];exact e)),h2,rfl,rfl,rfl,h1⟩
theorem ld_mks_dq (hp : p < s.size) (e : byteAt s p = 34) : Leads s p st stk (plainT 181) (p + 1) st stk (skipT 193) := by
 rintro L ⟨h,hs⟩;have hc := h.chr hp;exact ⟨1,_,run1 hs enters181 h.q (mks_dq h.ok (by rw [hc];exact e)),((h.pk).nxt hp).goes _⟩
theorem enters193 : Enters 193 := fun args w => by kernel_rfl
theorem ld_mdqk_ch (hp : p < s.size) (h1 : byteAt s p ≠ 34) (h2 : byteAt s p ≠ 0) : Leads s p st stk (plainT 193) (p + 1) st stk (plainT 193) := by
 rintro L ⟨h,hs⟩;have hc := h.chr hp;exact ⟨1,_,run1 hs enters193 h.q (mdqk_ch h.ok (by rw [hc];exact h1) (by rw [hc];exact h2)),((h.pk).nxt hp).goes _⟩
theorem ld_mdqk_end (hp : p < s.size) (hst : st ≤ p) (e : byteAt s p = 34) : Emits s p st stk (plainT 193) 3 (s.extract st p) (1 + (nlc s p : Nat)) (p + 1) p stk (skipT 206) := by
 rintro L ⟨h,hs⟩;have hc := h.chr hp;obtain ⟨h1,h2⟩ := (h.pk).gaveN hp 3 (skipT 206);exact ⟨1,_,_,run1 hs enters193 h.q (mdqk_end h.ok (h.rdy hst) (by rw [hc];exact e)),h2,rfl,rfl,rfl,h1⟩
theorem ld_mve_hash (hp : p < s.size) (hl : stk.length ≤ 1000000) (e : byteAt s p = 35) : Leads s p st stk (plainT 207) (p + 1) st (stk ++ [207]) (plainT 90) := by
 rintro L ⟨h,hs⟩;have hc := h.chr hp;exact ⟨1,_,run1 hs enters207 h.q (mve_hash h.ok (by rw [h.stack];exact hl) (by rw [hc];exact e)),((h.nxt hp).psh 207).goes _⟩
theorem ld_mve_slash (hp : p + 1 < s.size) (hl : stk.length ≤ 1000000) (e : byteAt s p = 47) (e2 : byteAt s (p + 1) = 47) : Leads s p st stk (plainT 207) (p + 1 + 1) st (stk ++ [207]) (plainT 90) := by
 rintro L ⟨h,hs⟩;have hc := h.chr (show p < s.size by omega);have hn := h.nxt (show p < s.size by omega);have hc2 : L.nxt.chr = byteAt s (p + 1) := hn.chr hp;exact ⟨1,_,run1 hs enters207 h.q (mve_slash h.ok (by rw [h.stack];exact hl) (by rw [hc];exact e) (by rw [hc2];exact e2)),((hn.nxt hp).psh 207).goes _⟩
theorem ld_num_dot (hp : p < s.size) (e : byteAt s p = 46) : Leads s p st stk (plainT 199) (p + 1) st stk (plainT 210) := by
 rintro L ⟨h,hs⟩;have hc := h.chr hp;exact ⟨1,_,run1 hs enters199 h.q (num_dot h.ok (by rw [hc];exact e)),(h.nxt hp).goes _⟩
theorem ld_neg_dot (hp : p < s.size) (e : byteAt s p = 46) : Leads s p st stk (plainT 198) (p + 1) st stk (plainT 210) := by
 rintro L ⟨h,hs⟩;have hc := h.chr hp;exact ⟨1,_,run1 hs enters198 h.q (neg_dot h.ok (by rw [hc];exact e)),(h.nxt hp).goes _⟩
theorem enters210 : Enters 210 := fun args w => by kernel_rfl
theorem ld_fls_dig (hp : p < s.size) (e2 : isDig (byteAt s p) = true) : Leads s p st stk (plainT 210) (p + 1) st stk (plainT 216) := by
 rintro L ⟨h,hs⟩;have hc := h.chr hp;exact ⟨1,_,run1 hs enters210 h.q (fls_dig h.ok (by rw [hc];exact e2)),(h.nxt hp).goes _⟩
theorem enters216 : Enters 216 := fun args w => by kernel_rfl
theorem ld_fl_dig (hp : p < s.size) (e2 : isDig (byteAt s p) = true) : Leads s p st stk (plainT 216) (p + 1) st stk (plainT 216) := by
 rintro L ⟨h,hs⟩;have hc := h.chr hp;exact ⟨1,_,run1 hs enters216 h.q (fl_dig h.ok (by rw [hc];exact e2)),(h.nxt hp).goes _⟩
theorem ld_fl_end (hp : p < s.size) (hst : st ≤ p) (e2 : isDig (byteAt s p) = false) (h46 : byteAt s p ≠ 46) (sk : List Nat) (n : Nat) (hk : stk = sk ++ [n]) (hl : sk.length ≤ 1000000) : Emits s p st stk (plainT 216) 8 (s.extract st p) (1 + (nlc s p : Nat)) p p sk (plainT n) := by
 rintro L ⟨h,hs⟩;have hc := h.chr hp;have hst' := h.stack.trans hk;obtain ⟨h1,h2⟩ := (h.pk).emitted 8 sk (plainT n);exact ⟨1,_,_,run1 hs enters216 h.q (fl_end h.ok (h.rdy hst) sk n hst' hl (by rw [hc];exact e2) (by rw [hc];exact h46)),h2,rfl,rfl,rfl,h1⟩
theorem ld_bool_nl (hp : p < s.size) (hst : st ≤ p) (hb : boolWord (s.extract st p) = true) (e : byteAt s p = 10) (sk : List Nat) (n : Nat) (hk : stk = sk ++ [n]) (hl : sk.length ≤ 1000000) : Emits s p st stk (plainT 187) 6 (s.extract st p) (1 + (nlc s p : Nat)) p p sk (plainT n) := by
 rintro L ⟨h,hs⟩;have hc := h.chr hp;have hst' := h.stack.trans hk;obtain ⟨h1,h2⟩ := (h.pk).emitted 6 sk (plainT n);exact ⟨1,_,_,run1 hs enters187 h.q (bool_nl h.ok (h.rdy hst) sk n hst' hl (by rw [h.pk.txt];exact hb) (by rw [hc];exact e)),h2,rfl,rfl,rfl,h1⟩
theorem ld_bool_ws (hp : p < s.size) (hst : st ≤ p) (hb : boolWord (s.extract st p) = true) (e : byteAt s p = 32) (sk : List Nat) (n : Nat) (hk : stk = sk ++ [n]) (hl : sk.length ≤ 1000000) : Emits s p st stk (plainT 187) 6 (s.extract st p) (1 + (nlc s p : Nat)) p p sk (plainT n) := by
 rintro L ⟨h,hs⟩;have hc := h.chr hp;have hst' := h.stack.trans hk;obtain ⟨h1,h2⟩ := (h.pk).emitted 6 sk (plainT n);exact ⟨1,_,_,run1 hs enters187 h.q (bool_ws h.ok (h.rdy hst) sk n hst' hl (by rw [h.pk.txt];exact hb) (by rw [hc];exact e)),h2,rfl,rfl,rfl,h1⟩
theorem ld_bool_semi (hp : p < s.size) (hst : st ≤ p) (hb : boolWord (s.extract st p) = true) (e : byteAt s p = 59) (sk : List Nat) (n : Nat) (hk : stk = sk ++ [n]) (hl : sk.length ≤ 1000000) : Emits s p st stk (plainT 187) 6 (s.extract st p) (1 + (nlc s p : Nat)) p p sk (plainT n) := by
 rintro L ⟨h,hs⟩;have hc := h.chr hp;have hst' := h.stack.trans hk;obtain ⟨h1,h2⟩ := (h.pk).emitted 6 sk (plainT n);exact ⟨1,_,_,run1 hs enters187 h.q (bool_semi h.ok (h.rdy hst) sk n hst' hl (by rw [h.pk.txt];exact hb) (by rw [hc];exact e)),h2,rfl,rfl,rfl,h1⟩
theorem ld_bool_comma (hp : p < s.size) (hst : st ≤ p) (hb : boolWord (s.extract st p) = true) (e : byteAt s p = 44) (sk : List Nat) (n : Nat) (hk : stk = sk ++ [n]) (hl : sk.length ≤ 1000000) : Emits s p st stk (plainT 187) 6 (s.extract st p) (1 + (nlc s p : Nat)) p p sk (plainT n) := by
 rintro L ⟨h,hs⟩;have hc := h.chr hp;have hst' := h.stack.trans hk;obtain ⟨h1,h2⟩ := (h.pk).emitted 6 sk (plainT n);exact ⟨1,_,_,run1 hs enters187 h.q (bool_comma h.ok (h.rdy hst) sk n hst' hl (by rw [h.pk.txt];exact hb) (by rw [hc];exact e)),h2,rfl,rfl,rfl,h1⟩
theorem ld_bool_brace (hp : p < s.size) (hst : st ≤ p) (hb : boolWord (s.extract st p) = true) (e : byteAt s p = 125) (sk : List Nat) (n : Nat) (hk : stk = sk ++ [n]) (hl : sk.length ≤ 1000000) : Emits s p st stk (plainT 187) 6 (s.extract st p) (1 + (nlc s p : Nat)) p p sk (plainT n) := by
 rintro L ⟨h,hs⟩;have hc := h.chr hp;have hst' := h.stack.trans hk;obtain ⟨h1,h2⟩ := (h.pk).emitted 6 sk (plainT n);exact ⟨1,_,_,run1 hs enters187 h.q (bool_brace h.ok (h.rdy hst) sk n hst' hl (by rw [h.pk.txt];exact hb) (by rw [hc];exact e)),h2,rfl,rfl,rfl,h1⟩
theorem ld_bool_tm (hp : p < s.size) (hst : st ≤ p) (hb : boolWord (s.extract st p) = true) (e : tmB (byteAt s p)) (sk : List Nat) (n : Nat) (hk : stk = sk ++ [n]) (hl : sk.length ≤ 1000000) : Emits s p st stk (plainT 187) 6 (s.extract st p) (1 + (nlc s p : Nat)) p p sk (plainT n) := by
 rcases e with e | e | e | e | e
 ·exact ld_bool_nl hp hst hb e sk n hk hl
 ·exact ld_bool_ws hp hst hb e sk n hk hl
 ·exact ld_bool_semi hp hst hb e sk n hk hl
 ·exact ld_bool_comma hp hst hb e sk n hk hl
 ·exact ld_bool_brace hp hst hb e sk n hk hl
end
section
variable {K : PK} {s : ByteArray} {p st : Nat} {stk sk : List Nat} {cx cx1 fin : List CJ} {ks ks1 : List ByteArray} {pt n : Nat} {j : JV}
def endR (e : Nat) : ByteArray := match e with
 | 5 => ⟨#[59]⟩
 | 6 => ⟨#[44]⟩
 | e => endT e
theorem isSp_not (h : isSp (byteAt s p) = true) : isSep (byteAt s p) = false ∧ byteAt s p ≠ 93 := by
 simp only [isSp,Bool.or_eq_true,beq_iff_eq] at h;constructor
 ·simp [isSep];omega
 ·omega
theorem ld_sepM (j : Nat) (hj : j < 6) (h : Has s p (sepT j)) (hlt : p + (sepT j).size < s.size) (hv : vsB (byteAt s (p + (sepT j).size))) (hv2 : byteAt s (p + (sepT j).size) ≠ 44 ∧ byteAt s (p + (sepT j).size) ≠ 125) (hl : stk.length ≤ 1000000) : Leads s p p stk (plainT 206) (p + (sepT j).size) (p + (sepT j).size) (stk ++ [207]) (plainT 174) := by
 obtain ⟨v1,v2,v3⟩ := hv;have go : Leads s (p + (sepT j).size) (p + (sepT j).size) stk (plainT 214) (p + (sepT j).size) (p + (sepT j).size) (stk ++ [207]) (plainT 174) := ld_mv_other hlt hl v1 hv2.1 hv2.2
 match j,hj with
 | 0,_ =>
  have hle : p + 3 < s.size := hlt;have b0 : byteAt s p = 32 := h.at 0 (by decide);have b1 : byteAt s (p + 1) = 61 := h.at 1 (by decide);have b2 : byteAt s (p + 2) = 32 := h.at 2 (by decide);exact ((((ld_mke_sp (by omega) (by rw [b0];rfl)).trans (ld_skip 206)).trans ((ld_mke_sep (by omega) (by rw [b1];rfl) (by rw [b1];rfl)).trans (ld_skip 214))).trans ((ld_mv_sp (by omega) (by rw [show p + 1 + 1 = p + 2 from rfl,b2];rfl)).trans (ld_skip 214))).trans go
 | 1,_ =>
  have hle : p + 1 < s.size := hlt;have b0 : byteAt s p = 61 := h.at 0 (by decide);exact ((ld_mke_sep (by omega) (by rw [b0];rfl) (by rw [b0];rfl)).trans (ld_skip 214)).trans go
 | 2,_ =>
  have hle : p + 2 < s.size := hlt;have b0 : byteAt s p = 58 := h.at 0 (by decide);have b1 : byteAt s (p + 1) = 32 := h.at 1 (by decide);exact (((ld_mke_sep (by omega) (by rw [b0];rfl) (by rw [b0];rfl)).trans (ld_skip 214)).trans ((ld_mv_sp (by omega) (by rw [b1];rfl)).trans (ld_skip 214))).trans go
 | 3,_ =>
  have hle : p + 1 < s.size := hlt;have b0 : byteAt s p = 58 := h.at 0 (by decide);exact ((ld_mke_sep (by omega) (by rw [b0];rfl) (by rw [b0];rfl)).trans (ld_skip 214)).trans go
 | 4,_ =>
  have hle : p + 1 < s.size := hlt;have b0 : byteAt s p = 32 := h.at 0 (by decide);exact (((ld_mke_sp (by omega) (by rw [b0];rfl)).trans (ld_skip 206)).trans (ld_mke_other hle v1 v2)).trans go
 | 5,_ =>
  have hle : p + 3 < s.size := hlt;have b0 : byteAt s p = 32 := h.at 0 (by decide);have b1 : byteAt s (p + 1) = 32 := h.at 1 (by decide);have b2 : byteAt s (p + 2) = 32 := h.at 2 (by decide);exact ((((ld_mke_sp (by omega) (by rw [b0];rfl)).trans (ld_skip 206)).trans ((ld_mke_sp (by omega) (by rw [b1];rfl)).trans (ld_skip 206))).trans (((ld_mke_sp (by omega) (by rw [show p + 1 + 1 = p + 2 from rfl,b2];rfl)).trans (ld_skip 206)).trans (ld_mke_other hle v1 v2))).trans go
theorem fd_keyG {S E : Nat} {k Kt : ByteArray} (tokey : ∀ p,p < s.size → isSp (byteAt s p) = false → byteAt s p ≠ 123 → byteAt s p ≠ 35 → byteAt s p ≠ 47 → byteAt s p ≠ 0 → byteAt s p ≠ 125 → Leads s p p stk (plainT S) p p (stk ++ [E]) (plainT 95)) (hK : K.ped = false) (hsp : KeySp k Kt) (hkw : noKw k) (j : Nat) (hj : j < 6) (h : Has s p (Kt ++ sepT j)) (hlt : p + (Kt.size + (sepT j).size) < s.size) (hv : vsB (byteAt s (p + (Kt.size + (sepT j).size)))) (hlk : ks.length ≤ 1000000)
  (rest : Fd K s (p + (Kt.size + (sepT j).size)) (p + (Kt.size + (sepT j).size)) (stk ++ [E]) (plainT 174) cx (ks ++ [k]) 3 fin) : Fd K s p p stk (plainT S) cx ks pt fin := by
 have hK1 := h.left;have hS := h.right;rw [← Nat.add_assoc] at hlt hv rest;have hwk : ∀ (L : LX) (x : It),x.typ = 3 → x.val = k → Works K ⟨L,cx,ks⟩ x ⟨L,cx,ks ++ [k]⟩ := fun L x h1 h2 => by
  have := works_key (cx := cx) (ks := ks) hK L x h1 hlk;rwa [h2] at this
 have hsf := sep_first j hj;have hls := ld_sep (stk := stk ++ [E]) j hj hS hlt hv
 cases hsp with
 | dq hP =>
  have h0 := hK1.left.left;have ht : Has s (p + 1) k := hK1.left.right;have he := hK1.right;have hz : ((⟨#[34]⟩ : ByteArray) ++ k).size = k.size + 1 := by rw [bsa];show 1 + k.size = _;omega
  have hz2 : ((⟨#[34]⟩ : ByteArray) ++ k ++ ⟨#[34]⟩).size = k.size + 2 := by rw [bsa,hz];rfl
  rw [hz] at he;rw [hz2] at hlt hls rest;have e0 : byteAt s p = 34 := h0.at 0 (by decide);have e1 : byteAt s (p + (k.size + 1)) = 34 := he.at 0 (by decide);have l0 : Leads s p p stk (plainT S) p p (stk ++ [E]) (plainT 95) := tokey p (by omega) (by rw [e0];rfl) (by rw [e0];decide) (by rw [e0];decide) (by rw [e0];decide) (by rw [e0];decide) (by rw [e0];decide);have l1 : Leads s p p (stk ++ [E]) (plainT 95) (p + 1) (p + 1) (stk ++ [E]) (plainT 137) := (ld_ks_dq (by omega) e0).trans (ld_skip 137)
  have l2 := leads_run (s := s) (p := p + 1) (st := p + 1) (stk := stk ++ [E]) (f := 137) (Q := fun c => c ≠ 34 ∧ c ≠ 0) (fun p hp hq => ld_dqk_ch hp hq.1 hq.2) k.size (by omega) (fun i hi => by
   rw [ht.at i hi];have hq := hP i hi;have h34 := hq.2.2 0 (by decide);rw [show byteAt q4 0 = 34 from rfl] at h34
   exact ⟨h34,by omega⟩)
  have E := ld_dqk_end (s := s) (p := p + 1 + k.size) (st := p + 1) (stk := stk ++ [E]) (by omega) (by omega) (by rw [show p + 1 + k.size = p + (k.size + 1) from by omega];exact e1);rw [ht.ext] at E;refine Fd.lead (l0.trans (l1.trans l2)) (Fd.step E (by decide) (fun L x h1 h2 _ => hwk L x h1 h2) (Fd.lead ((ld_skip 163).trans ?_) rest));rw [show p + 1 + k.size + 1 = p + (k.size + 2) from by omega];exact hls
 | sq hP =>
  have h0 := hK1.left.left;have ht : Has s (p + 1) k := hK1.left.right;have he := hK1.right;have hz : ((⟨#[39]⟩ : ByteArray) ++ k).size = k.size + 1 := by rw [bsa];show 1 + k.size = _;omega
  have hz2 : ((⟨#[39]⟩ : ByteArray) ++ k ++ ⟨#[39]⟩).size = k.size + 2 := by rw [bsa,hz];rfl
  rw [hz] at he;rw [hz2] at hlt hls rest;have e0 : byteAt s p = 39 := h0.at 0 (by decide);have e1 : byteAt s (p + (k.size + 1)) = 39 := he.at 0 (by decide);have l0 : Leads s p p stk (plainT S) p p (stk ++ [E]) (plainT 95) := tokey p (by omega) (by rw [e0];rfl) (by rw [e0];decide) (by rw [e0];decide) (by rw [e0];decide) (by rw [e0];decide) (by rw [e0];decide);have l1 : Leads s p p (stk ++ [E]) (plainT 95) (p + 1) (p + 1) (stk ++ [E]) (plainT 138) := (ld_ks_sq (by omega) e0).trans (ld_skip 138)
  have l2 := leads_run (s := s) (p := p + 1) (st := p + 1) (stk := stk ++ [E]) (f := 138) (Q := fun c => c ≠ 39 ∧ c ≠ 0) (fun p hp hq => ld_sqk_ch hp hq.1 hq.2) k.size (by omega) (fun i hi => by
   rw [ht.at i hi];have hq := hP i hi;have h39 := hq.2.2 3 (by decide);rw [show byteAt q4 3 = 39 from rfl] at h39
   exact ⟨h39,by omega⟩)
  have E := ld_sqk_end (s := s) (p := p + 1 + k.size) (st := p + 1) (stk := stk ++ [E]) (by omega) (by omega) (by rw [show p + 1 + k.size = p + (k.size + 1) from by omega];exact e1);rw [ht.ext] at E;refine Fd.lead (l0.trans (l1.trans l2)) (Fd.step E (by decide) (fun L x h1 h2 _ => hwk L x h1 h2) (Fd.lead ((ld_skip 163).trans ?_) rest));rw [show p + 1 + k.size + 1 = p + (k.size + 2) from by omega];exact hls
 | bare hB =>
  have hpos := hB.pos;have e0 : byteAt s p = byteAt k 0 := hK1.at 0 hpos;have hl0 : letB (byteAt k 0) := by
   rcases hB.bytes 0 hpos with h | h
   ·exact h
   ·exact absurd rfl h.1
  have hcls : ∀ c,letB c ∨ goodB c → isSp c = false ∧ isSep c = false ∧ c ≠ 0 := fun c hc => by
   unfold letB goodB at hc;refine ⟨?_,?_,by omega⟩
   ·simp [isSp];omega
   ·simp [isSep];omega
  have hc0 := hcls _ (.inl hl0);have hne : byteAt k 0 ≠ 123 ∧ byteAt k 0 ≠ 35 ∧ byteAt k 0 ≠ 47 ∧ byteAt k 0 ≠ 34 ∧ byteAt k 0 ≠ 39 ∧ byteAt k 0 ≠ 125 := by unfold letB at hl0;omega
  have l0 : Leads s p p stk (plainT S) p p (stk ++ [E]) (plainT 95) := tokey p (by omega) (by rw [e0];exact hc0.1) (by rw [e0];exact hne.1) (by rw [e0];exact hne.2.1) (by rw [e0];exact hne.2.2.1) (by rw [e0];exact hc0.2.2) (by rw [e0];exact hne.2.2.2.2.2);have l1 : Leads s p p (stk ++ [E]) (plainT 95) (p + 1) p (stk ++ [E]) (plainT 139) := ld_ks_key (by omega) (by rw [e0];exact hc0.2.1) (by rw [e0];exact hc0.1) (by rw [e0];exact hne.2.2.2.1) (by rw [e0];exact hne.2.2.2.2.1)
  have l2 := leads_run (s := s) (p := p + 1) (st := p) (stk := stk ++ [E]) (f := 139) (Q := fun c => isSp c = false ∧ isSep c = false ∧ c ≠ 0) (fun p hp hq => ld_key_more hp hq.1 hq.2.1 hq.2.2) (k.size - 1) (by omega) (fun i hi => by
   rw [show p + 1 + i = p + (i + 1) from by omega,hK1.at (i + 1) (by omega)];rcases hB.bytes (i + 1) (by omega) with h | h
   ·exact hcls _ (.inl h)
   ·exact hcls _ (.inr h.2))
  rw [show p + 1 + (k.size - 1) = p + k.size from by omega] at l2;have es := hS.at 0 hsf.1;rw [Nat.add_zero] at es;have hx := hK1.ext;refine Fd.lead (l0.trans (l1.trans l2)) ?_;rcases hsf.2 with h1 | ⟨h1,h2⟩
  ·have E := ld_key_sp (s := s) (p := p + k.size) (st := p) (stk := stk ++ [E]) (by omega) (by omega) (by rw [es];exact h1) (by rw [hx];exact hkw);rw [hx] at E;exact Fd.step E (by decide) (fun L x h1 h2 _ => hwk L x h1 h2) (Fd.lead hls rest)
  ·have E := ld_key_sep (s := s) (p := p + k.size) (st := p) (stk := stk ++ [E]) (by omega) (by omega) (by rw [es];exact h1) (by rw [es];exact h2);rw [hx] at E;exact Fd.step E (by decide) (fun L x h1 h2 _ => hwk L x h1 h2) (Fd.lead hls rest)
theorem fd_keyM {k Kt : ByteArray} (hK : K.ped = false) (hsp : KeySp k Kt) (hkw : noKw k) (j : Nat) (hj : j < 6) (h : Has s p (Kt ++ sepT j)) (hlt : p + (Kt.size + (sepT j).size) < s.size) (hv : vsB (byteAt s (p + (Kt.size + (sepT j).size)))) (hv2 : byteAt s (p + (Kt.size + (sepT j).size)) ≠ 44 ∧ byteAt s (p + (Kt.size + (sepT j).size)) ≠ 125) (hl : stk.length ≤ 900000) (hlk : ks.length ≤ 1000000)
  (rest : Fd K s (p + (Kt.size + (sepT j).size)) (p + (Kt.size + (sepT j).size)) (stk ++ [207]) (plainT 174) cx (ks ++ [k]) 3 fin) : Fd K s p p stk (plainT 181) cx ks pt fin := by
 have hK1 := h.left;have hS := h.right;rw [← Nat.add_assoc] at hlt hv hv2 rest;have hwk : ∀ (L : LX) (x : It),x.typ = 3 → x.val = k → Works K ⟨L,cx,ks⟩ x ⟨L,cx,ks ++ [k]⟩ := fun L x h1 h2 => by
  have := works_key (cx := cx) (ks := ks) hK L x h1 hlk;rwa [h2] at this
 have hsf := sep_first j hj;have hls := ld_sepM (stk := stk) j hj hS hlt hv hv2 (by omega)
 cases hsp with
 | dq hP =>
  have h0 := hK1.left.left;have ht : Has s (p + 1) k := hK1.left.right;have he := hK1.right;have hz : ((⟨#[34]⟩ : ByteArray) ++ k).size = k.size + 1 := by rw [bsa];show 1 + k.size = _;omega
  have hz2 : ((⟨#[34]⟩ : ByteArray) ++ k ++ ⟨#[34]⟩).size = k.size + 2 := by rw [bsa,hz];rfl
  rw [hz] at he;rw [hz2] at hlt hls rest;have e0 : byteAt s p = 34 := h0.at 0 (by decide);have e1 : byteAt s (p + (k.size + 1)) = 34 := he.at 0 (by decide);have l1 : Leads s p p stk (plainT 181) (p + 1) (p + 1) stk (plainT 193) := (ld_mks_dq (by omega) e0).trans (ld_skip 193)
  have l2 := leads_run (s := s) (p := p + 1) (st := p + 1) (stk := stk) (f := 193) (Q := fun c => c ≠ 34 ∧ c ≠ 0) (fun p hp hq => ld_mdqk_ch hp hq.1 hq.2) k.size (by omega) (fun i hi => by
   rw [ht.at i hi];have hq := hP i hi;have h34 := hq.2.2 0 (by decide);rw [show byteAt q4 0 = 34 from rfl] at h34
   exact ⟨h34,by omega⟩)
  have E := ld_mdqk_end (s := s) (p := p + 1 + k.size) (st := p + 1) (stk := stk) (by omega) (by omega) (by rw [show p + 1 + k.size = p + (k.size + 1) from by omega];exact e1);rw [ht.ext] at E;refine Fd.lead (l1.trans l2) (Fd.step E (by decide) (fun L x h1 h2 _ => hwk L x h1 h2) (Fd.lead ((ld_skip 206).trans ?_) rest));rw [show p + 1 + k.size + 1 = p + (k.size + 2) from by omega];exact hls
 | sq hP =>
  have h0 := hK1.left.left;have ht : Has s (p + 1) k := hK1.left.right;have he := hK1.right;have hz : ((⟨#[39]⟩ : ByteArray) ++ k).size = k.size + 1 := by rw [bsa];show 1 + k.size = _;omega
  have hz2 : ((⟨#[39]⟩ : ByteArray) ++ k ++ ⟨#[39]⟩).size = k.size + 2 := by rw [bsa,hz];rfl
  rw [hz] at he;rw [hz2] at hlt hls rest;have e0 : byteAt s p = 39 := h0.at 0 (by decide);have e1 : byteAt s (p + (k.size + 1)) = 39 := he.at 0 (by decide);have l1 : Leads s p p stk (plainT 181) (p + 1) (p + 1) stk (plainT 192) := (ld_mks_sq (by omega) e0).trans (ld_skip 192)
  have l2 := leads_run (s := s) (p := p + 1) (st := p + 1) (stk := stk) (f := 192) (Q := fun c => c ≠ 39 ∧ c ≠ 0) (fun p hp hq => ld_msqk_ch hp hq.1 hq.2) k.size (by omega) (fun i hi => by
   rw [ht.at i hi];have hq := hP i hi;have h39 := hq.2.2 3 (by decide);rw [show byteAt q4 3 = 39 from rfl] at h39
   exact ⟨h39,by omega⟩)
  have E := ld_msqk_end (s := s) (p := p + 1 + k.size) (st := p + 1) (stk := stk) (by omega) (by omega) (by rw [show p + 1 + k.size = p + (k.size + 1) from by omega];exact e1);rw [ht.ext] at E;refine Fd.lead (l1.trans l2) (Fd.step E (by decide) (fun L x h1 h2 _ => hwk L x h1 h2) (Fd.lead ((ld_skip 206).trans ?_) rest));rw [show p + 1 + k.size + 1 = p + (k.size + 2) from by omega];exact hls
 | bare hB =>
  have hpos := hB.pos;have e0 : byteAt s p = byteAt k 0 := hK1.at 0 hpos;have hl0 : letB (byteAt k 0) := by
   rcases hB.bytes 0 hpos with h | h
   ·exact h
   ·exact absurd rfl h.1
  have hcls : ∀ c,letB c ∨ goodB c → isSp c = false ∧ isSep c = false ∧ c ≠ 0 := fun c hc => by
   unfold letB goodB at hc;refine ⟨?_,?_,by omega⟩
   ·simp [isSp];omega
   ·simp [isSep];omega
  have hc0 := hcls _ (.inl hl0);have hne : byteAt k 0 ≠ 123 ∧ byteAt k 0 ≠ 35 ∧ byteAt k 0 ≠ 47 ∧ byteAt k 0 ≠ 34 ∧ byteAt k 0 ≠ 39 ∧ byteAt k 0 ≠ 93 ∧ byteAt k 0 ≠ 125 := by unfold letB at hl0;omega
  have l1 : Leads s p p stk (plainT 181) (p + 1) p stk (plainT 194) := ld_mks_key (by omega) (by rw [e0];exact hc0.2.1) (by rw [e0];exact hc0.1) (by rw [e0];exact hc0.2.2) (by rw [e0];exact hne.2.2.2.2.2.1) (by rw [e0];exact hne.2.2.2.2.2.2) (by rw [e0];exact hne.2.1) (by rw [e0];exact hne.2.2.1) (by rw [e0];exact hne.2.2.2.2.1) (by rw [e0];exact hne.2.2.2.1)
  have l2 := leads_run (s := s) (p := p + 1) (st := p) (stk := stk) (f := 194) (Q := fun c => isSp c = false ∧ isSep c = false ∧ c ≠ 0) (fun p hp hq => ld_mk_more hp hq.1 hq.2.1 hq.2.2) (k.size - 1) (by omega) (fun i hi => by
   rw [show p + 1 + i = p + (i + 1) from by omega,hK1.at (i + 1) (by omega)];rcases hB.bytes (i + 1) (by omega) with h | h
   ·exact hcls _ (.inl h)
   ·exact hcls _ (.inr h.2))
  rw [show p + 1 + (k.size - 1) = p + k.size from by omega] at l2;have es := hS.at 0 hsf.1;rw [Nat.add_zero] at es;have hx := hK1.ext;have hsf0 : byteAt (sepT j) 0 ≠ 0 := by
   match j,hj with
   | 0,_ | 1,_ | 2,_ | 3,_ | 4,_ | 5,_ => decide
  refine Fd.lead (l1.trans l2) ?_;rcases hsf.2 with h1 | ⟨h1,h2⟩
  ·have E := ld_mk_sp (s := s) (p := p + k.size) (st := p) (stk := stk) (by omega) (by omega) (by rw [es];exact h1) (by rw [hx];exact hkw) (by rw [es];exact hsf0);rw [hx] at E;exact Fd.step E (by decide) (fun L x h1 h2 _ => hwk L x h1 h2) (Fd.lead hls rest)
  ·have E := ld_mk_sep (s := s) (p := p + k.size) (st := p) (stk := stk) (by omega) (by omega) (by rw [es];exact h1) (by rw [es];exact h2) (by rw [es];exact hsf0);rw [hx] at E;exact Fd.step E (by decide) (fun L x h1 h2 _ => hwk L x h1 h2) (Fd.lead hls rest)
end
structure Mode (K : PK) (S E : Nat) (sk : List Nat) : Prop where
 len : sk.length ≤ 800000
 sp : ∀ (s : ByteArray) (p st : Nat),p < s.size → isSp (byteAt s p) = true → Leads s p st sk (plainT S) (p + 1) (p + 1) sk (plainT S)
 hash : ∀ (s : ByteArray) (p st : Nat),p < s.size → byteAt s p = 35 → Leads s p st sk (plainT S) (p + 1) st (sk ++ [S]) (plainT 90)
 slash : ∀ (s : ByteArray) (p st : Nat),p + 1 < s.size → byteAt s p = 47 → byteAt s (p + 1) = 47 → Leads s p st sk (plainT S) (p + 1 + 1) st (sk ++ [S]) (plainT 90)
 nl : ∀ (s : ByteArray) (p st : Nat),p < s.size → byteAt s p = 10 → Leads s p st sk (plainT E) (p + 1) (p + 1) sk (plainT S)
 semi : ∀ (s : ByteArray) (p st : Nat),p < s.size → byteAt s p = 59 → Leads s p st sk (plainT E) (p + 1) (p + 1) sk (plainT S)
 comma : ∀ (s : ByteArray) (p st : Nat),p < s.size → byteAt s p = 44 → Leads s p st sk (plainT E) (p + 1) (p + 1) sk (plainT S)
 ws : ∀ (s : ByteArray) (p : Nat),p < s.size → byteAt s p = 32 → ∃ st',st' ≤ p + 1 ∧ Leads s p p sk (plainT E) (p + 1) st' sk (plainT E)
 ecmt : ∃ n,(n = S ∨ n = E) ∧ (∀ (s : ByteArray) (p st : Nat),p < s.size → byteAt s p = 35 → Leads s p st sk (plainT E) (p + 1) st (sk ++ [n]) (plainT 90)) ∧
  (∀ (s : ByteArray) (p st : Nat),p + 1 < s.size → byteAt s p = 47 → byteAt s (p + 1) = 47 → Leads s p st sk (plainT E) (p + 1 + 1) st (sk ++ [n]) (plainT 90))
 key : ∀ (s : ByteArray) (p : Nat) (cx fin : List CJ) (ks : List ByteArray) (pt : Nat) (k Kt : ByteArray) (j : Nat),KeySp k Kt → noKw k → j < 6 → Has s p (Kt ++ sepT j) → p + (Kt.size + (sepT j).size) < s.size → vsB (byteAt s (p + (Kt.size + (sepT j).size))) →
  (byteAt s (p + (Kt.size + (sepT j).size)) ≠ 44 ∧ byteAt s (p + (Kt.size + (sepT j).size)) ≠ 125) → ks.length ≤ 1000000 → Fd K s (p + (Kt.size + (sepT j).size)) (p + (Kt.size + (sepT j).size)) (sk ++ [E]) (plainT 174) cx (ks ++ [k]) 3 fin → Fd K s p p sk (plainT S) cx ks pt fin
theorem mode_top {K : PK} (hK : K.ped = false) : Mode K 60 94 [] where
 len := by simp
 sp := fun s p st hp e => (ld_top_sp hp e).trans (ld_skip 60)
 hash := fun s p st hp e => ld_top_hash hp (by simp) e
 slash := fun s p st hp e e2 => ld_top_slash hp (by simp) e e2
 nl := fun s p st hp e => ld_tve_nl hp e
 semi := fun s p st hp e => ld_tve_semi hp e
 comma := fun s p st hp e => ld_tve_comma hp e
 ws := fun s p hp e => ⟨p,by omega,ld_tve_ws hp (by rw [e];rfl) (by rw [e];decide) (by rw [e];decide)⟩
 ecmt := ⟨60,.inl rfl,fun s p st hp e => ld_tve_hash hp (by simp) e,fun s p st hp e e2 => ld_tve_slash hp (by simp) e e2⟩
 key := fun s p cx fin ks pt k Kt j h1 h2 h3 h4 h5 h6 _ h8 rest => fd_keyG (fun p hp a b c d e f => ld_top_key hp (by simp) a b c d e) hK h1 h2 j h3 h4 h5 h6 h8 rest
theorem mode_map {K : PK} (hK : K.ped = false) (sk : List Nat) (hl : sk.length ≤ 800000) : Mode K 181 207 sk where
 len := hl
 sp := fun s p st hp e => (ld_mks_sp hp e (isSp_not e).1 (isSp_not e).2).trans (ld_skip 181)
 hash := fun s p st hp e => ld_mks_hash hp (by omega) e
 slash := fun s p st hp e e2 => ld_mks_slash hp (by omega) e e2
 nl := fun s p st hp e => (ld_mve_nl hp e).trans (ld_skip 181)
 semi := fun s p st hp e => (ld_mve_semi hp e).trans (ld_skip 181)
 comma := fun s p st hp e => (ld_mve_comma hp e).trans (ld_skip 181)
 ws := fun s p hp e => ⟨p + 1,by omega,(ld_mve_ws hp (by rw [e];rfl)).trans (ld_skip 207)⟩
 ecmt := ⟨207,.inr rfl,fun s p st hp e => ld_mve_hash hp (by omega) e,fun s p st hp e e2 => ld_mve_slash hp (by omega) e e2⟩
 key := fun s p cx fin ks pt k Kt j h1 h2 h3 h4 h5 h6 h7 h8 rest => fd_keyM hK h1 h2 j h3 h4 h5 h6 h7 (by omega) h8 rest
section
variable {K : PK} {S E : Nat} {s : ByteArray} {p st : Nat} {sk : List Nat} {cx fin : List CJ} {ks : List ByteArray} {pt : Nat}
theorem Mode.fsp (M : Mode K S E sk) (hp : p < s.size) (e : isSp (byteAt s p) = true) (rest : Fd K s (p + 1) (p + 1) sk (plainT S) cx ks pt fin) : Fd K s p st sk (plainT S) cx ks pt fin := Fd.lead (M.sp s p st hp e) rest
theorem Mode.blank (M : Mode K S E sk) (k : Nat) (h : Has s p (blankT k)) (hpt : pt ≠ 3) (rest : ∀ pt',pt' ≠ 3 → Fd K s (p + (blankT k).size) (p + (blankT k).size) sk (plainT S) cx ks pt' fin) : Fd K s p p sk (plainT S) cx ks pt fin := by
 have hl := M.len
 match k with
 | 0 => exact rest _ hpt
 | 1 =>
  have b0 : byteAt s p = 32 := h.at 0 (by decide);have b1 : byteAt s (p + 1) = 32 := h.at 1 (by decide);have hle : p + 2 ≤ s.size := h.le;exact M.fsp (by omega) (by rw [b0];rfl) (M.fsp (by omega) (by rw [b1];rfl) (rest _ hpt))
 | 2 =>
  have hle : p + 16 ≤ s.size := h.le;have b0 : byteAt s p = 35 := h.at 0 (by decide);have b15 : byteAt s (p + 15) = 10 := h.at 15 (by decide);refine Fd.lead (M.hash s p p (by omega) b0) (fd_cmt 14 (by omega) (by omega) (fun i hi => ?_) (by rw [show p + 1 + 14 = p + 15 from rfl];exact b15) (by omega) (M.fsp (by omega) (by rw [show p + 1 + 14 = p + 15 from rfl,b15];rfl) (rest 4 (by decide))));rw [show p + 1 + i = p + (i + 1) from by omega,h.at (i + 1) (show i + 1 < 16 by omega)];exact (show ∀ i,i < 14 → isNLb (byteAt (blankT 2) (i + 1)) = false ∧ byteAt (blankT 2) (i + 1) ≠ 0 by decide) i hi
 | 3 =>
  have hle : p + 12 ≤ s.size := h.le;have b0 : byteAt s p = 47 := h.at 0 (by decide);have b1 : byteAt s (p + 1) = 47 := h.at 1 (by decide);have b10 : byteAt s (p + 10) = 10 := h.at 10 (by decide);have b11 : byteAt s (p + 11) = 9 := h.at 11 (by decide);refine Fd.lead (M.slash s p p (by omega) b0 b1) (fd_cmt 8 (by omega) (by omega) (fun i hi => ?_) (by rw [show p + 1 + 1 + 8 = p + 10 from rfl];exact b10) (by omega) (M.fsp (by omega) (by rw [show p + 1 + 1 + 8 = p + 10 from rfl,b10];rfl) (M.fsp (by omega) (by rw [show p + 1 + 1 + 8 + 1 = p + 11 from rfl,b11];rfl) (rest 4 (by decide)))));rw [show p + 1 + 1 + i = p + (i + 2) from by omega,h.at (i + 2) (show i + 2 < 12 by omega)];exact (show ∀ i,i < 8 → isNLb (byteAt (blankT 3) (i + 2)) = false ∧ byteAt (blankT 3) (i + 2) ≠ 0 by decide) i hi
 | 4 =>
  have hle : p + 1 ≤ s.size := h.le;have b0 : byteAt s p = 10 := h.at 0 (by decide);exact M.fsp (by omega) (by rw [b0];rfl) (rest _ hpt)
 | k + 5 => exact rest _ hpt
theorem Mode.behind (M : Mode K S E sk) {n : Nat} (hn : n = S ∨ n = E) (hp : p < s.size) (e : byteAt s p = 10) (rest : Fd K s (p + 1) (p + 1) sk (plainT S) cx ks pt fin) : Fd K s p st sk (plainT n) cx ks pt fin := by
 rcases hn with rfl | rfl
 ·exact M.fsp hp (by rw [e];rfl) rest
 ·exact Fd.lead (M.nl s p st hp e) rest
theorem Mode.ends (M : Mode K S E sk) (e : Nat) (he : e < 7) (h : Has s p (endR e)) (hpt : pt ≠ 3) (rest : ∀ pt',pt' ≠ 3 → Fd K s (p + (endR e).size) (p + (endR e).size) sk (plainT S) cx ks pt' fin) : Fd K s p p sk (plainT E) cx ks pt fin := by
 have hl := M.len
 match e,he with
 | 0,_ =>
  have hle : p + 1 ≤ s.size := h.le;have b0 : byteAt s p = 10 := h.at 0 (by decide);exact Fd.lead (M.nl s p p (by omega) b0) (rest _ hpt)
 | 1,_ =>
  have hle : p + 2 ≤ s.size := h.le;have b0 : byteAt s p = 59 := h.at 0 (by decide);have b1 : byteAt s (p + 1) = 10 := h.at 1 (by decide);exact Fd.lead (M.semi s p p (by omega) b0) (M.fsp (by omega) (by rw [b1];rfl) (rest _ hpt))
 | 2,_ =>
  have hle : p + 7 ≤ s.size := h.le;have b0 : byteAt s p = 32 := h.at 0 (by decide);have b1 : byteAt s (p + 1) = 35 := h.at 1 (by decide);have b6 : byteAt s (p + 6) = 10 := h.at 6 (by decide);obtain ⟨st',hst',l1⟩ := M.ws s p (by omega) b0;obtain ⟨n,hn,l2,_⟩ := M.ecmt;refine Fd.lead (l1.trans (l2 s (p + 1) st' (by omega) b1)) (fd_cmt 4 (by omega) (by omega) (fun i hi => ?_) (by rw [show p + 1 + 1 + 4 = p + 6 from rfl];exact b6) (by omega) (M.behind hn (by omega) (by rw [show p + 1 + 1 + 4 = p + 6 from rfl];exact b6) (rest 4 (by decide))));rw [show p + 1 + 1 + i = p + (i + 2) from by omega,h.at (i + 2) (show i + 2 < 7 by omega)];exact (show ∀ i,i < 4 → isNLb (byteAt (endR 2) (i + 2)) = false ∧ byteAt (endR 2) (i + 2) ≠ 0 by decide) i hi
 | 3,_ =>
  have hle : p + 2 ≤ s.size := h.le;have b0 : byteAt s p = 10 := h.at 0 (by decide);have b1 : byteAt s (p + 1) = 10 := h.at 1 (by decide);exact Fd.lead (M.nl s p p (by omega) b0) (M.fsp (by omega) (by rw [b1];rfl) (rest _ hpt))
 | 4,_ =>
  have hle : p + 8 ≤ s.size := h.le;have b0 : byteAt s p = 32 := h.at 0 (by decide);have b1 : byteAt s (p + 1) = 47 := h.at 1 (by decide);have b2 : byteAt s (p + 1 + 1) = 47 := h.at 2 (by decide);have b7 : byteAt s (p + 7) = 10 := h.at 7 (by decide);obtain ⟨st',hst',l1⟩ := M.ws s p (by omega) b0;obtain ⟨n,hn,_,l2⟩ := M.ecmt;refine Fd.lead (l1.trans (l2 s (p + 1) st' (by omega) b1 b2)) (fd_cmt 4 (by omega) (by omega) (fun i hi => ?_) (by rw [show p + 1 + 1 + 1 + 4 = p + 7 from rfl];exact b7) (by omega) (M.behind hn (by omega) (by rw [show p + 1 + 1 + 1 + 4 = p + 7 from rfl];exact b7) (rest 4 (by decide))));rw [show p + 1 + 1 + 1 + i = p + (i + 3) from by omega,h.at (i + 3) (show i + 3 < 8 by omega)];exact (show ∀ i,i < 4 → isNLb (byteAt (endR 4) (i + 3)) = false ∧ byteAt (endR 4) (i + 3) ≠ 0 by decide) i hi
 | 5,_ =>
  have hle : p + 1 ≤ s.size := h.le;have b0 : byteAt s p = 59 := h.at 0 (by decide);exact Fd.lead (M.semi s p p (by omega) b0) (rest _ hpt)
 | 6,_ =>
  have hle : p + 1 ≤ s.size := h.le;have b0 : byteAt s p = 44 := h.at 0 (by decide);exact Fd.lead (M.comma s p p (by omega) b0) (rest _ hpt)
end
def trT : Bool → Nat → ByteArray
 | true,0 => ⟨#[116,114,117,101]⟩
 | true,1 => ⟨#[121,101,115]⟩
 | true,2 => ⟨#[111,110]⟩
 | true,3 => ⟨#[84,82,85,69]⟩
 | true,4 => ⟨#[89,101,115]⟩
 | true,_ => ⟨#[111,78]⟩
 | false,0 => ⟨#[102,97,108,115,101]⟩
 | false,1 => ⟨#[110,111]⟩
 | false,2 => ⟨#[111,102,102]⟩
 | false,3 => ⟨#[70,65,76,83,69]⟩
 | false,4 => ⟨#[78,111]⟩
 | false,_ => ⟨#[111,70,102]⟩
theorem trT_ok (b : Bool) (i : Nat) (hi : i < 6) : 0 < (trT b i).size ∧ (trT b i).size ≤ 5 ∧ boolWord (trT b i) = true ∧ (∀ k,k < (trT b i).size → strB (byteAt (trT b i) k) ∧ letB (byteAt (trT b i) k) ∧ byteAt (trT b i) k < 128) ∧
  ((b = true ∧ trueW (Lib.toLowerA (trT b i).data.toList)) ∨ (b = false ∧ falseW (Lib.toLowerA (trT b i).data.toList))) := by
 unfold trueW falseW strB letB
 match b,i,hi with
 | true,0,_ | true,1,_ | true,2,_ | true,3,_ | true,4,_ | true,5,_ | false,0,_ | false,1,_ | false,2,_ | false,3,_ | false,4,_ | false,5,_ => decide
section
variable {K : PK} {s : ByteArray} {p st : Nat} {stk sk : List Nat} {cx cx1 fin : List CJ} {ks ks1 : List ByteArray} {pt n : Nat} {j : JV}
theorem works_bool (hK : K.ped = false) (L : LX) (x : It) (hx : x.typ = 6) (b : Bool) (i : Nat) (hi : i < 6) (hv : x.val = trT b i) (hs : (⟨L,cx,ks⟩ : PX).Sets (.tr b) ⟨L,cx1,ks1⟩) : Works K ⟨L,cx,ks⟩ x ⟨L,cx1,ks1⟩ := by
 intro B lab w hB hp _;obtain ⟨xt,xv,xl,xp⟩ := x;obtain rfl : xt = 6 := hx;obtain rfl : xv = trT b i := hv;obtain ⟨h1,h2,h3,h4,h5⟩ := trT_ok b i hi;refine item_bool hp hB hK _ xl xp b (by show (trT b i).size ≤ _;omega) (fun k c hk => ?_) h5 hs;have hlt : k < (trT b i).size := by
  have := (List.getElem?_eq_some_iff.1 hk).1;rwa [data_length] at this
 have h6 := (h4 k hlt).2.2;unfold byteAt at h6;rw [List.getD_eq_getElem?_getD,hk] at h6;exact h6
theorem rd_bool (b : Bool) (i : Nat) (hi : i < 6) (h : Has s p (trT b i)) (hlt : p + (trT b i).size < s.size) (he : tmB (byteAt s (p + (trT b i).size))) (hk : stk = sk ++ [n]) (hl : sk.length ≤ 1000000) :
  ∃ line,Emits s p p stk (plainT 174) 6 (trT b i) line (p + (trT b i).size) (p + (trT b i).size) sk (plainT n) := by
 obtain ⟨hpos,h2,h3,h4,h5⟩ := trT_ok b i hi;generalize trT b i = t at *;have e0 : byteAt s p = byteAt t 0 := h.at 0 hpos;obtain ⟨hs0,hl0,_⟩ := h4 0 hpos;have hnd : isDig (byteAt t 0) = false := by unfold letB at hl0;simp [isDig];omega
 have hc0 : byteAt t 0 ≠ 91 ∧ byteAt t 0 ≠ 123 ∧ byteAt t 0 ≠ 34 ∧ byteAt t 0 ≠ 45 ∧ byteAt t 0 ≠ 40 ∧ byteAt t 0 ≠ 46 ∧ byteAt t 0 ≠ 36 := by unfold letB at hl0;omega
 have l0 : Leads s p p stk (plainT 174) p p stk (plainT 187) := ld_val_str (by omega) (by rw [e0];exact hs0.2.1) (by rw [e0];exact hnd) (by rw [e0];exact hs0.1) (by rw [e0];exact hc0.1) (by rw [e0];exact hc0.2.1) (by rw [e0];exact hs0.2.2.2.2.2.2.2.2) (by rw [e0];exact hc0.2.2.1) (by rw [e0];exact hc0.2.2.2.1) (by rw [e0];exact hc0.2.2.2.2.1) (by rw [e0];exact hc0.2.2.2.2.2.1);have l1 := leads_run (s := s) (p := p) (st := p) (stk := stk) (f := 187) (Q := strB) (fun p hp hq => ld_str_chB hp hq) t.size (by omega) (fun i hi => by rw [h.at i hi];exact (h4 i hi).1);have E := ld_bool_tm (s := s) (p := p + t.size) (st := p) (stk := stk) hlt (by omega) (by rw [h.ext];exact h3) he sk n hk hl;rw [h.ext] at E;exact ⟨_,(l0.trans l1).emits E⟩
def fltT (sg : ByteArray) (m : Nat) (F : ByteArray) : ByteArray := sg ++ decB m ++ ⟨#[46]⟩ ++ F
theorem rd_flt (sg : ByteArray) (m : Nat) (F : ByteArray) (hsg : sg = ⟨#[]⟩ ∨ sg = ⟨#[45]⟩) (hm : m ≤ 1000000000) (hF : F.size = 3) (hFd : ∀ i,i < F.size → 48 ≤ byteAt F i ∧ byteAt F i ≤ 57) (h : Has s p (fltT sg m F)) (hlt : p + (fltT sg m F).size < s.size) (he : tmB (byteAt s (p + (fltT sg m F).size))) (hk : stk = sk ++ [n]) (hl : sk.length ≤ 1000000) :
  ∃ line,Emits s p p stk (plainT 174) 8 (fltT sg m F) line (p + (fltT sg m F).size) (p + (fltT sg m F).size) sk (plainT n) := by
 have hz := decB_small m (by omega);have hd := decB_dig m;have hall := h.ext;have h1 := h.left.left.left;have h2 := h.left.left.right;have h3 := h.left.right;have h4 := h.right;have z1 : (sg ++ decB m).size = sg.size + (decB m).size := bsa;have z2 : (sg ++ decB m ++ ⟨#[46]⟩).size = sg.size + (decB m).size + 1 := by rw [bsa,z1];rfl
 have hsz : (fltT sg m F).size = sg.size + (decB m).size + 1 + 3 := by unfold fltT;rw [bsa,z2,hF]
 rw [z1,← Nat.add_assoc] at h3;rw [z2] at h4;rw [hsz] at hlt he hall ⊢;rw [show p + (sg.size + (decB m).size + 1) = p + sg.size + (decB m).size + 1 from by omega] at h4;rw [show p + (sg.size + (decB m).size + 1 + 3) = p + sg.size + (decB m).size + 1 + 1 + 2 from by omega] at hlt he hall ⊢;have e46 : byteAt s (p + sg.size + (decB m).size) = 46 := h3.at 0 (by decide);have f0 := h4.at 0 (by omega);have f1 := h4.at 1 (by omega);have f2 := h4.at 2 (by omega);rw [Nat.add_zero] at f0;have g0 := hFd 0 (by omega);have g1 := hFd 1 (by omega);have g2 := hFd 2 (by omega);rw [← f0] at g0;rw [← f1] at g1;rw [← f2] at g2;have hnd : isDig (byteAt s (p + sg.size + (decB m).size + 1 + 1 + 2)) = false ∧ byteAt s (p + sg.size + (decB m).size + 1 + 1 + 2) ≠ 46 := by
  rcases he with e | e | e | e | e <;> rw [e] <;> exact ⟨rfl,by decide⟩
 have hd0 := h2.at 0 hz.1;rw [Nat.add_zero] at hd0;have hdd0 := hd 0 hz.1;rw [← hd0] at hdd0;have tail : ∀ st,st ≤ p + sg.size + (decB m).size → Emits s (p + sg.size + (decB m).size + 1) st stk (plainT 210) 8 (s.extract st (p + sg.size + (decB m).size + 1 + 1 + 2)) (1 + (nlc s (p + sg.size + (decB m).size + 1 + 1 + 2) : Nat)) (p + sg.size + (decB m).size + 1 + 1 + 2) (p + sg.size + (decB m).size + 1 + 1 + 2) sk (plainT n) := fun st hst => by
  have a0 : Leads s (p + sg.size + (decB m).size + 1) st stk (plainT 210) (p + sg.size + (decB m).size + 1 + 1) st stk (plainT 216) := ld_fls_dig (by omega) (dig_true g0)
  have a1 := leads_run (s := s) (p := p + sg.size + (decB m).size + 1 + 1) (st := st) (stk := stk) (f := 216) (Q := fun c => isDig c = true) (fun p hp hq => ld_fl_dig hp hq) 2 (by omega) (fun i hi => by
   match i,hi with
   | 0,_ => exact dig_true g1
   | 1,_ => exact dig_true g2)
  exact (a0.trans a1).emits (ld_fl_end (by omega) (by omega) hnd.1 hnd.2 sk n hk hl)
 rcases hsg with rfl | rfl
 ·have hs0 : (⟨#[]⟩ : ByteArray).size = 0 := rfl;simp only [hs0,Nat.add_zero] at h2 h3 hlt he hall hdd0 e46 tail ⊢;have l0 : Leads s p p stk (plainT 174) p p stk (plainT 186) := ld_val_dig (by omega) (by simp [isWS];omega) (dig_true hdd0) hdd0;have l1 : Leads s p p stk (plainT 186) (p + 1) p stk (plainT 199) := ld_num_start (by omega) (dig_true hdd0)
  have l2 := leads_digits (s := s) (p := p + 1) (st := p) (stk := stk) ((decB m).size - 1) (by omega) (fun i hi => by
   rw [show p + 1 + i = p + (i + 1) from by omega,h2.at (i + 1) (by omega)]
   exact hd (i + 1) (by omega))
  rw [show p + 1 + ((decB m).size - 1) = p + (decB m).size from by omega] at l2;have l3 : Leads s (p + (decB m).size) p stk (plainT 199) (p + (decB m).size + 1) p stk (plainT 210) := ld_num_dot (by omega) e46;have E := tail p (by omega);rw [hall] at E;exact ⟨_,(l0.trans (l1.trans (l2.trans l3))).emits E⟩
 ·have hs1 : (⟨#[45]⟩ : ByteArray).size = 1 := rfl;have e45 : byteAt s p = 45 := h1.at 0 (by decide);rw [hs1] at h2 h3 hlt he hall hdd0 e46 tail ⊢;have l0 : Leads s p p stk (plainT 174) (p + 1) p stk (plainT 184) := ld_val_neg (by omega) e45;have l1 : Leads s (p + 1) p stk (plainT 184) (p + 1 + 1) p stk (plainT 198) := ld_neg_start (by omega) (dig_true hdd0)
  have l2 := leads_run (s := s) (p := p + 1 + 1) (st := p) (stk := stk) (f := 198) (Q := fun c => isDig c = true) (fun p hp hq => ld_neg_dig hp hq) ((decB m).size - 1) (by omega) (fun i hi => by
   rw [show p + 1 + 1 + i = p + 1 + (i + 1) from by omega,h2.at (i + 1) (by omega)]
   exact dig_true (hd (i + 1) (by omega)))
  rw [show p + 1 + 1 + ((decB m).size - 1) = p + 1 + (decB m).size from by omega] at l2;have l3 : Leads s (p + 1 + (decB m).size) p stk (plainT 198) (p + 1 + (decB m).size + 1) p stk (plainT 210) := ld_neg_dot (by omega) e46;have E := tail p (by omega);rw [hall] at E;exact ⟨_,(l0.trans (l1.trans (l2.trans l3))).emits E⟩
end
inductive TxtS (t : ByteArray) (li : Bool) : Bool → ByteArray → Prop
 | blk (h : Blk t) (hl : li = false) : TxtS t li true (⟨#[40]⟩ ++ t ++ ⟨#[41]⟩)
 | sq (h : Plain t q5) : TxtS t li false (⟨#[39]⟩ ++ t ++ ⟨#[39]⟩)
 | bare (h : Bare t) (hl : li = false) : TxtS t li false t
 | dq (h : ∀ i,i < t.size → escOk (byteAt t i)) : TxtS t li false (⟨#[34]⟩ ++ escT t ++ ⟨#[34]⟩)
def FltGives (f : Nat) (T : ByteArray) : Prop := ∀ w,Calls Tryz.prog 71 #[.string T,.int .i64 64] w fun e w' => e = .returned (.tuple #[.float .f64 f,.nilIface]) ∧ Below w.heap.size w w'
def FltSp (f : Nat) (T : ByteArray) : Prop := ∃ (sg : ByteArray) (m : Nat) (F : ByteArray),(sg = ⟨#[]⟩ ∨ sg = ⟨#[45]⟩) ∧ m ≤ 1000000000 ∧ F.size = 3 ∧ (∀ i,i < F.size → 48 ≤ byteAt F i ∧ byteAt F i ≤ 57) ∧ T = fltT sg m F ∧ FltGives f T
def VarSp (env : List (ByteArray × JV)) (j : JV) (T : ByteArray) : Prop := ∃ k,(k,j) ∈ env ∧ Bare k ∧ T = ⟨#[36]⟩ ++ k
def sp3 : Nat → ByteArray
 | 0 => ⟨#[]⟩
 | 1 => ⟨#[32]⟩
 | _ => ⟨#[10]⟩
def mkT : Nat → ByteArray
 | 0 => ⟨#[44]⟩
 | 1 => ⟨#[44,32]⟩
 | 2 => ⟨#[10]⟩
 | _ => ⟨#[32,44,10,32,32]⟩
def tlT : Nat → ByteArray
 | 0 => ⟨#[44]⟩
 | 1 => ⟨#[32]⟩
 | _ => ⟨#[10]⟩
mutual
def SpV (env : List (ByteArray × JV)) (li : Bool) : JV → Bool → ByteArray → Prop
 | .int v,nl,T => nl = false ∧ (IntSp v T ∨ VarSp env (.int v) T)
 | .num f,nl,T => nl = false ∧ FltSp f T
 | .tr b,nl,T => nl = false ∧ ∃ i,i < 6 ∧ T = trT b i
 | .txt t,nl,T => TxtS t li nl T ∨ (nl = false ∧ VarSp env (.txt t) T)
 | .arr l,nl,T => nl = false ∧ ∃ a mk b Es R,SpL env mk true l Es ∧ ((l = [] ∧ R = ⟨#[]⟩) ∨ (l ≠ [] ∧ ∃ tl,R = tlT tl)) ∧ T = ⟨#[91]⟩ ++ (sp3 a ++ (Es ++ (R ++ (sp3 b ++ ⟨#[93]⟩))))
 | .map ks l,nl,T => nl = false ∧ ∃ a Es,SpE env ks l Es ∧ ks.Pairwise (fun x y => bytesBefore y.data.toList x.data.toList = false ∧ x ≠ y) ∧ (∀ k ∈ ks,∀ x ∈ env,x.1 ≠ k) ∧ T = ⟨#[123]⟩ ++ (sp3 a ++ (Es ++ ⟨#[125]⟩))
def SpL (env : List (ByteArray × JV)) (mk : Nat) : Bool → List JV → ByteArray → Prop
 | _,[],T => T = ⟨#[]⟩
 | first,j :: r,T => ∃ V R,SpV env true j false V ∧ SpL env mk false r R ∧ T = (if first then ⟨#[]⟩ else mkT mk) ++ (V ++ R)
def SpE (env : List (ByteArray × JV)) : List ByteArray → List JV → ByteArray → Prop
 | ks,[],T => ks = [] ∧ T = ⟨#[]⟩
 | ks,j :: r,T => ∃ k ks' kb Kt q nl V e R,ks = k :: ks' ∧ KeySp k Kt ∧ noKw k ∧ k.size ≤ 1000000 ∧ q < 6 ∧ SpV env false j nl V ∧ e < 7 ∧ (nl = true → e = 3) ∧ SpE env ks' r R ∧ T = blankT kb ++ ((Kt ++ sepT q) ++ (V ++ (endR e ++ R)))
end
def EnvOk (env : List (ByteArray × JV)) (cx : List CJ) : Prop := ∀ x ∈ env,lookCx x.1 cx = some x.2
theorem EnvOk.arr {env : List (ByteArray × JV)} {cx : List CJ} (h : EnvOk env cx) (l : List JV) : EnvOk env (.arr l :: cx) := h
theorem bytes_ne {a b : ByteArray} (h : a ≠ b) : (a.data.toList == b.data.toList) = false := by
 rw [beq_eq_false_iff_ne];intro e;apply h;obtain ⟨⟨x⟩⟩ := a;obtain ⟨⟨y⟩⟩ := b;simpa using e
theorem EnvOk.map {env : List (ByteArray × JV)} {cx : List CJ} (h : EnvOk env cx) (m : List (ByteArray × JV)) (hd : ∀ x ∈ env,∀ y ∈ m,x.1 ≠ y.1) : EnvOk env (.map m :: cx) := by
 intro x hx;show (match lookM x.1 m with | some j => some j | none => lookCx x.1 cx) = _;have : lookM x.1 m = none := by
  unfold lookM;rw [Option.map_eq_none_iff,List.find?_eq_none];intro y hy e;rw [bytes_ne (fun e => hd x hx y hy e.symm)] at e
  cases e
 rw [this];exact h x hx
theorem putL_last (k : ByteArray) (j : JV) : ∀ (m : List (ByteArray × JV)),(∀ y ∈ m,bytesBefore k.data.toList y.1.data.toList = false ∧ y.1 ≠ k) → putL k j m = m ++ [(k,j)] := by
 intro m hm;unfold putL;have hf : (m.filter fun p => !(p.1.data.toList == k.data.toList)) = m := by
  rw [List.filter_eq_self];intro y hy;rw [bytes_ne (hm y hy).2];rfl
 rw [hf];clear hf
 induction m with
 | nil => rfl
 | cons y r ih =>
  simp only [insL];rw [if_neg (by rw [(hm y (List.mem_cons_self ..)).1];decide),ih (fun z hz => hm z (List.mem_cons_of_mem _ hz))];rfl
def v0B (c : Nat) : Prop := (48 ≤ c ∧ c ≤ 57) ∨ c = 45 ∨ c = 40 ∨ c = 39 ∨ c = 34 ∨ letB c ∨ c = 36 ∨ c = 91 ∨ c = 123
theorem v0B.vs {c : Nat} (hc : v0B c) : vsB c ∧ c ≠ 44 ∧ c ≠ 125 ∧ c ≠ 35 ∧ c ≠ 47 ∧ c ≠ 93 := by
 unfold v0B letB at hc;refine ⟨⟨?_,?_,by omega⟩,by omega,by omega,by omega,by omega,by omega⟩
 ·simp [isSp];omega
 ·simp [isSep];omega
theorem first_app {a b : ByteArray} {Q : Nat → Prop} (h : 0 < a.size ∧ Q (byteAt a 0)) : 0 < (a ++ b).size ∧ Q (byteAt (a ++ b) 0) := by
 rw [bsa,byteAt_app_left _ _ _ h.1];exact ⟨by omega,h.2⟩
theorem one_first (c : UInt8) {Q : Nat → Prop} (h : Q c.toNat) : 0 < (⟨#[c]⟩ : ByteArray).size ∧ Q (byteAt ⟨#[c]⟩ 0) := ⟨Nat.one_pos,h⟩
theorem int_first {v : Int} {T : ByteArray} (h : IntSp v T) : 0 < T.size ∧ v0B (byteAt T 0) := by
 obtain ⟨sg,m,sf,u,rfl,hsf,hn,hb⟩ := h;have hu := mulB_pos hsf;have hmu : (m : Int) ≤ m * u := by
  have := Int.mul_le_mul_of_nonneg_left hu (Int.natCast_nonneg m);omega
 have hz := decB_small m (by omega);have hsg : sg = ⟨#[]⟩ ∨ sg = ⟨#[45]⟩ := by rcases hn with ⟨h,_⟩ | ⟨h,_⟩;exact .inl h;exact .inr h
 refine first_app ⟨by rw [bsa];omega,?_⟩;rcases sgdig sg m hsg 0 (by rw [bsa];omega) with h | h
 ·exact .inl h
 ·exact .inr (.inl h)
theorem var_first {env : List (ByteArray × JV)} {j : JV} {T : ByteArray} (h : VarSp env j T) : 0 < T.size ∧ v0B (byteAt T 0) := by
 obtain ⟨k,_,_,rfl⟩ := h;exact first_app (one_first 36 (.inr (.inr (.inr (.inr (.inr (.inr (.inl rfl))))))))
theorem flt_first {f : Nat} {T : ByteArray} (h : FltSp f T) : 0 < T.size ∧ v0B (byteAt T 0) := by
 obtain ⟨sg,m,F,hsg,hm,hF,hd,rfl,_⟩ := h;have hz := decB_small m (by omega);refine first_app (first_app ⟨by rw [bsa];omega,?_⟩);rcases sgdig sg m hsg 0 (by rw [bsa];omega) with h | h
 ·exact .inl h
 ·exact .inr (.inl h)
theorem txt_first {t T : ByteArray} {li nl : Bool} (h : TxtS t li nl T) : 0 < T.size ∧ v0B (byteAt T 0) := by
 cases h with
 | blk _ _ => exact first_app (first_app (one_first 40 (.inr (.inr (.inl rfl)))))
 | sq _ => exact first_app (first_app (one_first 39 (.inr (.inr (.inr (.inl rfl))))))
 | bare hB _ =>
  refine ⟨hB.pos,?_⟩;rcases hB.bytes 0 hB.pos with h | h
  ·exact .inr (.inr (.inr (.inr (.inr (.inl h)))))
  ·exact absurd rfl h.1
 | dq _ => exact first_app (first_app (one_first 34 (.inr (.inr (.inr (.inr (.inl rfl)))))))
theorem spv_first {env : List (ByteArray × JV)} {li nl : Bool} {T : ByteArray} : ∀ {j : JV},SpV env li j nl T → 0 < T.size ∧ v0B (byteAt T 0)
 | .int _,h => by
  simp only [SpV] at h;rcases h.2 with h | h
  ·exact int_first h
  ·exact var_first h
 | .num _,h => by
  simp only [SpV] at h;exact flt_first h.2
 | .tr b,h => by
  simp only [SpV] at h;obtain ⟨_,i,hi,rfl⟩ := h;obtain ⟨h1,_,_,h4,_⟩ := trT_ok b i hi;exact ⟨h1,.inr (.inr (.inr (.inr (.inr (.inl (h4 0 h1).2.1)))))⟩
 | .txt _,h => by
  simp only [SpV] at h;rcases h with h | h
  ·exact txt_first h
  ·exact var_first h.2
 | .arr _,h => by
  simp only [SpV] at h;obtain ⟨_,a,mk,b,Es,R,_,_,rfl⟩ := h;exact first_app (one_first 91 (.inr (.inr (.inr (.inr (.inr (.inr (.inr (.inl rfl)))))))))
 | .map _ _,h => by
  simp only [SpV] at h;obtain ⟨_,a,Es,_,_,_,rfl⟩ := h;exact first_app (one_first 123 (.inr (.inr (.inr (.inr (.inr (.inr (.inr (.inr rfl)))))))))
section
variable {K : PK} {s : ByteArray} {p : Nat} {sk : List Nat} {cx cx1 fin : List CJ} {ks ks1 : List ByteArray} {pt n : Nat} {j : JV} {env : List (ByteArray × JV)} {T : ByteArray}
theorem bare_pre {k : ByteArray} (hB : Bare k) : Lib.hasPrefix k.data.toList [50,97,36] = false := by
 have hp := hB.pos;have h0 := hB.bytes 0 hp;obtain ⟨⟨l⟩⟩ := k
 cases l with
 | nil => exact absurd hp (by decide)
 | cons c r =>
  have hc : letB c.toNat := by
   rcases h0 with h | h
   ·exact h
   ·exact absurd rfl h.1
  unfold letB at hc;have : c ≠ 50 := by
   rintro rfl
   revert hc
   decide
  have h2 : (50 == c) = false := by rw [beq_eq_false_iff_ne];exact fun e => this e.symm
  simp [Lib.hasPrefix,List.isPrefixOf,h2]
theorem fd_int {v : Int} (hK : K.ped = false) (hsp : IntSp v T) (h : Has s p T) (hlt : p + T.size < s.size) (htm : tmB (byteAt s (p + T.size))) (hl : sk.length ≤ 900000) (hs : ∀ L,(⟨L,cx,ks⟩ : PX).Sets (.int v) ⟨L,cx1,ks1⟩)
  (rest : ∀ pt',pt' ≠ 3 → Fd K s (p + T.size) (p + T.size) sk (plainT n) cx1 ks1 pt' fin) : Fd K s p p (sk ++ [n]) (plainT 174) cx ks pt fin := by
 obtain ⟨line,E⟩ := rd_int hsp h hlt htm (stk := sk ++ [n]) (sk := sk) (n := n) rfl (by omega);exact Fd.step E (by decide) (fun L x h1 h2 _ => works_intsp hK L x h1 v (by rw [h2];exact hsp) (hs L)) (rest 7 (by decide))
theorem fd_var (hK : K.ped = false) (hsp : VarSp env j T) (he : EnvOk env cx) (hcx : cx.length ≤ 1000000) (hss : s.size ≤ 1000000) (h : Has s p T) (hlt : p + T.size < s.size) (htm : tmB (byteAt s (p + T.size))) (hl : sk.length ≤ 900000) (hs : ∀ L,(⟨L,cx,ks⟩ : PX).Sets j ⟨L,cx1,ks1⟩)
  (rest : ∀ pt',pt' ≠ 3 → Fd K s (p + T.size) (p + T.size) sk (plainT n) cx1 ks1 pt' fin) : Fd K s p p (sk ++ [n]) (plainT 174) cx ks pt fin := by
 obtain ⟨k,hk,hB,rfl⟩ := hsp;have hz : ((⟨#[36]⟩ : ByteArray) ++ k).size = k.size + 1 := by rw [bsa];show 1 + k.size = _;omega
 rw [hz] at hlt htm rest;rw [← Nat.add_assoc] at hlt htm rest;obtain ⟨line,E⟩ := rd_var hB h hlt htm (stk := sk ++ [n]) (sk := sk) (n := n) rfl (by omega);exact Fd.step E (by decide) (fun L x h1 h2 _ => works_var hK L x h1 (by rw [h2];omega) (by rw [h2];exact bare_pre hB) hcx (by rw [h2];exact he _ hk) (hs L)) (rest 15 (by decide))
theorem fd_tr (hK : K.ped = false) (b : Bool) (i : Nat) (hi : i < 6) (h : Has s p (trT b i)) (hlt : p + (trT b i).size < s.size) (htm : tmB (byteAt s (p + (trT b i).size))) (hl : sk.length ≤ 900000) (hs : ∀ L,(⟨L,cx,ks⟩ : PX).Sets (.tr b) ⟨L,cx1,ks1⟩)
  (rest : ∀ pt',pt' ≠ 3 → Fd K s (p + (trT b i).size) (p + (trT b i).size) sk (plainT n) cx1 ks1 pt' fin) : Fd K s p p (sk ++ [n]) (plainT 174) cx ks pt fin := by
 obtain ⟨line,E⟩ := rd_bool b i hi h hlt htm (stk := sk ++ [n]) (sk := sk) (n := n) rfl (by omega);exact Fd.step E (by decide) (fun L x h1 h2 _ => works_bool hK L x h1 b i hi h2 (hs L)) (rest 6 (by decide))
theorem fd_txt {t : ByteArray} {li nl : Bool} (hK : K.ped = false) (hsp : TxtS t li nl T) (h : Has s p T) (hlt : p + T.size < s.size) (htm : tmB (byteAt s (p + T.size))) (hnl : nl = true → byteAt s (p + T.size) = 10) (hl : sk.length ≤ 900000) (hs : ∀ L,(⟨L,cx,ks⟩ : PX).Sets (.txt t) ⟨L,cx1,ks1⟩)
  (rest : ∀ pt',pt' ≠ 3 → Fd K s (p + T.size) (p + T.size) sk (plainT n) cx1 ks1 pt' fin) : Fd K s p p (sk ++ [n]) (plainT 174) cx ks pt fin := by
 have hw : ∀ (L : LX) (x : It),x.typ = 5 → x.val = t → Works K ⟨L,cx,ks⟩ x ⟨L,cx1,ks1⟩ := fun L x h1 h2 => works_str hK L x h1 (by rw [h2];exact hs L)
 cases hsp with
 | blk hB _ =>
  have hz : ((⟨#[40]⟩ : ByteArray) ++ t ++ ⟨#[41]⟩).size = t.size + 2 := by rw [bsa,bsa];show 1 + t.size + 1 = _;omega
  have h10 := hnl rfl;rw [hz] at hlt h10 rest;have h2 : Has s p (⟨#[40]⟩ ++ t ++ ⟨#[41,10]⟩) := by
   have e : (⟨#[40]⟩ ++ t ++ ⟨#[41,10]⟩ : ByteArray) = (⟨#[40]⟩ ++ t ++ ⟨#[41]⟩) ++ ⟨#[10]⟩ := by
    rw [show (⟨#[41,10]⟩ : ByteArray) = ⟨#[41]⟩ ++ ⟨#[10]⟩ from rfl];simp only [ByteArray.append_assoc]
   rw [e];refine ⟨by rw [bsa,hz];show p + (t.size + 2 + 1) ≤ _;omega,fun i hi => ?_⟩;rw [bsa,hz] at hi;have hi' : i < t.size + 2 + 1 := hi;by_cases e : i < t.size + 2
   ·rw [byteAt_app_left _ _ _ (by rw [hz];exact e)];exact h.at i (by rw [hz];exact e)
   ·have e2 : i = ((⟨#[40]⟩ : ByteArray) ++ t ++ ⟨#[41]⟩).size + 0 := by rw [hz];omega
    rw [e2,byteAt_app_right,hz];exact h10
  obtain ⟨line,E⟩ := rd_blk hB h2 (stk := sk ++ [n]) (sk := sk) (n := n) rfl (by omega)
  exact Fd.step E (by decide) (fun L x h1 h2 _ => hw L x h1 h2) (by
   rw [Nat.add_assoc];exact rest 5 (by decide))
 | sq hP =>
  have hz : ((⟨#[39]⟩ : ByteArray) ++ t ++ ⟨#[39]⟩).size = t.size + 2 := by rw [bsa,bsa];show 1 + t.size + 1 = _;omega
  obtain ⟨line,E⟩ := rd_sq hP h (stk := sk ++ [n]) (sk := sk) (n := n) rfl (by omega);rw [hz,← Nat.add_assoc] at rest;exact Fd.step E (by decide) (fun L x h1 h2 _ => hw L x h1 h2) (rest 5 (by decide))
 | bare hB _ =>
  obtain ⟨line,E⟩ := rd_bare hB h hlt htm (stk := sk ++ [n]) (sk := sk) (n := n) rfl (by omega);exact Fd.step E (by decide) (fun L x h1 h2 _ => hw L x h1 h2) (rest 5 (by decide))
 | dq hP =>
  have hz : ((⟨#[34]⟩ : ByteArray) ++ escT t ++ ⟨#[34]⟩).size = (escT t).size + 2 := by rw [bsa,bsa];show 1 + (escT t).size + 1 = _;omega
  obtain ⟨line,E⟩ := rd_dq hP h (stk := sk ++ [n]) (sk := sk) (n := n) rfl (by omega);rw [hz,← Nat.add_assoc] at rest;exact Fd.step E (by decide) (fun L x h1 h2 _ => hw L x h1 h2) (rest 5 (by decide))
end
end Go.Cf
