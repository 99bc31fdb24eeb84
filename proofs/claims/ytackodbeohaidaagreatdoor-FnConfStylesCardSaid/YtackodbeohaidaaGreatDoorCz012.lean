/-
  Texts joined: Lg Lh Ra Mo.
-/
import Derived.Test.YtackodbeohaidaaGreatDoorCz07
import Derived.Test.YtackodbeohaidaaGreatDoorCz08
import Derived.Test.YtackodbeohaidaaGreatDoorCz09
import Derived.Test.YtackodbeohaidaaGreatDoorCz010
namespace Go.Cf
open Go.RowKit Go.Conc Go.Proofs
section
variable {base : Nat} {S0 : Nat → Prop} {w0 w w1 : World} {b : Nat} {L L' : LX}
set_option maxRecDepth 100000 in
theorem isBool_t (h : At base S0 w0 w b L) (ok : L.Ok) (rdy : L.Rdy) (hk : boolWord L.txt = true) :
  Calls Tryz.prog 201 #[.pointer (some ⟨b, 0, none⟩)] w fun e w' => e = .returned (.bool true) ∧ At base S0 w0 w' b L := by
 have c0 := h.c0; have c1 := h.c1; have c2 := h.c2; have hsm := ok.small; have hpp := ok.pos; have hst := rdy.start; have ha := toList_txt L ok; simp only [boolWord, Bool.or_eq_true, beq_iff_eq] at hk
 have hsz : L.txt.size ≤ 140737488355328 := by unfold LX.txt; simp; omega
 obtain ⟨t, ht⟩ : ∃ t, t = L.txt := ⟨_, rfl⟩
 have ht2 : L.inp.extract L.start L.pos = t := ht.symm
 rw [← ht] at ha hk hsz; have HA := Lib.hid ha; have HK := Lib.hid hk; clear ha ht hk; go_enter Tryz.func201, Tryz.ntmps201; go_wp2; refine wp_still_tail 13 mixed (by kernel_rfl) ?_
 simp only [List.take_succ_cons, List.take_zero, List.drop_succ_cons, List.drop_zero]
 repeat still_step
 refine wpStill_nil ?_
 go_wp2_with fail
 refine (Tryz.strings_ToLower_ascii t _ hsz HA.out).mono ?_
 rintro e w1 ⟨rfl, hb⟩; have h1 := At.below (h.drewN 1) hb
 clear c0 c1 c2 hb; have hk := HK.out
 rcases hk with ((((hk | hk) | hk) | hk) | hk) | hk
 all_goals rw [hk]
 all_goals go_wp2
 all_goals go_ret
 all_goals exact ⟨rfl, h1⟩
end
section
variable {L : LX}
theorem tve_comma (ok : L.Ok) (hc : L.chr = 44) : Goes1 94 L L.nxt.ign (plainT 60) := by
 have e_35_831 : (((L.chr : Nat) : Int) == 35) = false := bqf (by omega)
 have e_47_831 : (((L.chr : Nat) : Int) == 47) = false := bqf (by omega)
 have e_0_831 : (((L.chr : Nat) : Int) == 0) = false := bqf (by omega)
 have e_59_831 : (((L.chr : Nat) : Int) == 59) = false := bqf (by omega)
 have e_44_831 : (((L.chr : Nat) : Int) == 44) = true := beq_iff_eq.2 (by omega)
 have e_a : isWS L.chr = false := by rw [hc]; rfl
 have e_b : isNLb L.chr = false := by rw [hc]; rfl
 clear hc; intro base S0 w0 w b h0; go_enter Tryz.func94, Tryz.ntmps94; go_wp2_with fail
 refine (next_c h0 ok).mono ?_
 rintro e w1 ⟨rfl, h1⟩; go_wp2_with fail
 refine (isWS_c _ (chr_lt ok) _).mono ?_
 rintro e w' ⟨rfl, rfl⟩; go_wp2_with fail
 refine (isNLb_c _ (chr_lt ok) _).mono ?_
 rintro e w' ⟨rfl, rfl⟩; go_wp2_with fail
 refine (ign_c h1).mono ?_
 rintro e w2 ⟨rfl, h2⟩; go_wp2_with fail
 go_ret
 exact ⟨_, rfl, h2.plain _⟩
theorem bs_sp (ok : L.Ok) (hs : isSp L.chr = true) : Goes1 89 L L.nxt (skipT 89) := by
 intro base S0 w0 w b h0; go_enter Tryz.func89, Tryz.ntmps89; go_wp2_with fail
 refine (next_c h0 ok).mono ?_
 rintro e w1 ⟨rfl, h1⟩; go_wp2_with fail
 refine (isSp_c _ (chr_lt ok) _).mono ?_
 rintro e w' ⟨rfl, rfl⟩; go_wp2_with fail
 refine (skipV_c h1 89).mono ?_
 rintro e w2 ⟨rfl, hv⟩; go_wp2_with fail
 go_ret
 exact ⟨_, rfl, hv⟩
theorem bs_end (ok : L.Ok) (st : List Nat) (n : Nat) (hst : L.stack = st ++ [n]) (hl : st.length ≤ 1000000) (hc : L.chr = 125) : Goes1 89 L (L.nxt.ign.stk st) (plainT n) := by
 have e_123_831 : (((L.chr : Nat) : Int) == 123) = false := bqf (by omega)
 have e_125_831 : (((L.chr : Nat) : Int) == 125) = true := beq_iff_eq.2 (by omega)
 have e_a : isSp L.chr = false := by rw [hc]; rfl
 clear hc; intro base S0 w0 w b h0; go_enter Tryz.func89, Tryz.ntmps89; go_wp2_with fail
 refine (next_c h0 ok).mono ?_
 rintro e w1 ⟨rfl, h1⟩; go_wp2_with fail
 refine (isSp_c _ (chr_lt ok) _).mono ?_
 rintro e w' ⟨rfl, rfl⟩; go_wp2_with fail
 refine (ign_c h1).mono ?_
 rintro e w2 ⟨rfl, h2⟩; go_wp2_with fail
 refine (pop_c st n h2 (by show L.nxt.stack = _; rw [nxt_stack]; exact hst) hl).mono ?_
 rintro e w3 ⟨rfl, h3⟩; go_wp2_with fail
 go_ret
 exact ⟨_, rfl, h3.plain _⟩
theorem bs_hash (ok : L.Ok) (hst : L.stack.length ≤ 1000000) (hc : L.chr = 35) : Goes1 89 L (L.nxt.psh 89) (plainT 90) := by
 have e_123_831 : (((L.chr : Nat) : Int) == 123) = false := bqf (by omega)
 have e_125_831 : (((L.chr : Nat) : Int) == 125) = false := bqf (by omega)
 have e_35_831 : (((L.chr : Nat) : Int) == 35) = true := beq_iff_eq.2 (by omega)
 have e_a : isSp L.chr = false := by rw [hc]; rfl
 clear hc; intro base S0 w0 w b h0; go_enter Tryz.func89, Tryz.ntmps89; go_wp2_with fail
 refine (next_c h0 ok).mono ?_
 rintro e w1 ⟨rfl, h1⟩; go_wp2_with fail
 refine (isSp_c _ (chr_lt ok) _).mono ?_
 rintro e w' ⟨rfl, rfl⟩; go_wp2_with fail
 refine (push_c h1 89 (by rw [nxt_stack]; exact hst)).mono ?_
 rintro e w2 ⟨rfl, h2⟩; go_wp2_with fail
 go_ret
 exact ⟨_, rfl, h2.plain _⟩
theorem bs_slash (ok : L.Ok) (hst : L.stack.length ≤ 1000000) (hc : L.chr = 47) (hd : L.nxt.chr = 47) : Goes1 89 L (L.nxt.nxt.psh 89) (plainT 90) := by
 have e_123_831 : (((L.chr : Nat) : Int) == 123) = false := bqf (by omega)
 have e_125_831 : (((L.chr : Nat) : Int) == 125) = false := bqf (by omega)
 have e_35_831 : (((L.chr : Nat) : Int) == 35) = false := bqf (by omega)
 have e_47_831 : (((L.chr : Nat) : Int) == 47) = true := beq_iff_eq.2 (by omega)
 have e_47_647 : (((L.nxt.chr : Nat) : Int) == 47) = true := beq_iff_eq.2 (by omega)
 have e_a : isSp L.chr = false := by rw [hc]; rfl
 clear hc hd; intro base S0 w0 w b h0; go_enter Tryz.func89, Tryz.ntmps89; go_wp2_with fail
 refine (next_c h0 ok).mono ?_
 rintro e w1 ⟨rfl, h1⟩; go_wp2_with fail
 refine (isSp_c _ (chr_lt ok) _).mono ?_
 rintro e w' ⟨rfl, rfl⟩; go_wp2_with fail
 refine (next_c h1 ok.nxt).mono ?_
 rintro e w2 ⟨rfl, h2⟩; go_wp2_with fail
 refine (push_c h2 89 (by rw [nxt_stack, nxt_stack]; exact hst)).mono ?_
 rintro e w3 ⟨rfl, h3⟩; go_wp2_with fail
 go_ret
 exact ⟨_, rfl, h3.plain _⟩
theorem bs_key (ok : L.Ok) (hst : L.stack.length ≤ 1000000) (hs : isSp L.chr = false) (h1 : L.chr ≠ 123) (h2 : L.chr ≠ 35) (h3 : L.chr ≠ 47) (h4 : L.chr ≠ 0) (h5 : L.chr ≠ 125) : Goes1 89 L (L.pk.psh 129) (plainT 95) := by
 have e_123_831 : (((L.chr : Nat) : Int) == 123) = false := bqf (by omega)
 have e_35_831 : (((L.chr : Nat) : Int) == 35) = false := bqf (by omega)
 have e_47_831 : (((L.chr : Nat) : Int) == 47) = false := bqf (by omega)
 have e_0_831 : (((L.chr : Nat) : Int) == 0) = false := bqf (by omega)
 have e_125_831 : (((L.chr : Nat) : Int) == 125) = false := bqf (by omega)
 clear h1 h2 h3 h4 h5; intro base S0 w0 w b h0; go_enter Tryz.func89, Tryz.ntmps89; go_wp2_with fail
 refine (next_c h0 ok).mono ?_
 rintro e w1 ⟨rfl, h1⟩; go_wp2_with fail
 refine (isSp_c _ (chr_lt ok) _).mono ?_
 rintro e w' ⟨rfl, rfl⟩; go_wp2_with fail
 refine (back_c h1 ok.nxt (nxt_width _)).mono ?_
 rintro e w2 ⟨rfl, h2⟩; rw [nxt_back] at h2; go_wp2_with fail
 refine (push_c h2 129 (by rw [pk_stack]; exact hst)).mono ?_
 rintro e w3 ⟨rfl, h3⟩; go_wp2_with fail
 go_ret
 exact ⟨_, rfl, h3.plain _⟩
theorem bve_hash (ok : L.Ok) (hst : L.stack.length ≤ 1000000) (hc : L.chr = 35) : Goes1 129 L (L.nxt.psh 129) (plainT 90) := by
 have e_35_831 : (((L.chr : Nat) : Int) == 35) = true := beq_iff_eq.2 (by omega)
 clear hc; intro base S0 w0 w b h0; go_enter Tryz.func129, Tryz.ntmps129; go_wp2_with fail
 refine (next_c h0 ok).mono ?_
 rintro e w1 ⟨rfl, h1⟩; go_wp2_with fail
 refine (push_c h1 129 (by rw [nxt_stack]; exact hst)).mono ?_
 rintro e w2 ⟨rfl, h2⟩; go_wp2_with fail
 go_ret
 exact ⟨_, rfl, h2.plain _⟩
theorem bve_slash (ok : L.Ok) (hst : L.stack.length ≤ 1000000) (hc : L.chr = 47) (hd : L.nxt.chr = 47) : Goes1 129 L (L.nxt.nxt.psh 129) (plainT 90) := by
 have e_35_831 : (((L.chr : Nat) : Int) == 35) = false := bqf (by omega)
 have e_47_831 : (((L.chr : Nat) : Int) == 47) = true := beq_iff_eq.2 (by omega)
 have e_47_647 : (((L.nxt.chr : Nat) : Int) == 47) = true := beq_iff_eq.2 (by omega)
 clear hc hd; intro base S0 w0 w b h0; go_enter Tryz.func129, Tryz.ntmps129; go_wp2_with fail
 refine (next_c h0 ok).mono ?_
 rintro e w1 ⟨rfl, h1⟩; go_wp2_with fail
 refine (next_c h1 ok.nxt).mono ?_
 rintro e w2 ⟨rfl, h2⟩; go_wp2_with fail
 refine (push_c h2 129 (by rw [nxt_stack, nxt_stack]; exact hst)).mono ?_
 rintro e w3 ⟨rfl, h3⟩; go_wp2_with fail
 go_ret
 exact ⟨_, rfl, h3.plain _⟩
theorem bve_ws (ok : L.Ok) (h1 : L.chr ≠ 35) (h2 : L.chr ≠ 47) (hw : isWS L.chr = true) : Goes1 129 L L.nxt (plainT 129) := by
 have e_35_831 : (((L.chr : Nat) : Int) == 35) = false := bqf (by omega)
 have e_47_831 : (((L.chr : Nat) : Int) == 47) = false := bqf (by omega)
 clear h1 h2; intro base S0 w0 w b h0; go_enter Tryz.func129, Tryz.ntmps129; go_wp2_with fail
 refine (next_c h0 ok).mono ?_
 rintro e w1 ⟨rfl, h1⟩; go_wp2_with fail
 refine (isWS_c _ (chr_lt ok) _).mono ?_
 rintro e w' ⟨rfl, rfl⟩; go_wp2_with fail
 go_ret
 exact ⟨_, rfl, h1.plain _⟩
theorem bve_nl (ok : L.Ok) (hc : L.chr = 10) : Goes1 129 L L.nxt.ign (plainT 89) := by
 have e_35_831 : (((L.chr : Nat) : Int) == 35) = false := bqf (by omega)
 have e_47_831 : (((L.chr : Nat) : Int) == 47) = false := bqf (by omega)
 have e_a : isWS L.chr = false := by rw [hc]; rfl
 have e_b : isNLb L.chr = true := by rw [hc]; rfl
 clear hc; intro base S0 w0 w b h0; go_enter Tryz.func129, Tryz.ntmps129; go_wp2_with fail
 refine (next_c h0 ok).mono ?_
 rintro e w1 ⟨rfl, h1⟩; go_wp2_with fail
 refine (isWS_c _ (chr_lt ok) _).mono ?_
 rintro e w' ⟨rfl, rfl⟩; go_wp2_with fail
 refine (isNLb_c _ (chr_lt ok) _).mono ?_
 rintro e w' ⟨rfl, rfl⟩; go_wp2_with fail
 refine (ign_c h1).mono ?_
 rintro e w2 ⟨rfl, h2⟩; go_wp2_with fail
 go_ret
 exact ⟨_, rfl, h2.plain _⟩
theorem bve_semi (ok : L.Ok) (hc : L.chr = 59) : Goes1 129 L L.nxt.ign (plainT 89) := by
 have e_35_831 : (((L.chr : Nat) : Int) == 35) = false := bqf (by omega)
 have e_47_831 : (((L.chr : Nat) : Int) == 47) = false := bqf (by omega)
 have e_59_831 : (((L.chr : Nat) : Int) == 59) = true := beq_iff_eq.2 (by omega)
 have e_a : isWS L.chr = false := by rw [hc]; rfl
 have e_b : isNLb L.chr = false := by rw [hc]; rfl
 clear hc; intro base S0 w0 w b h0; go_enter Tryz.func129, Tryz.ntmps129; go_wp2_with fail
 refine (next_c h0 ok).mono ?_
 rintro e w1 ⟨rfl, h1⟩; go_wp2_with fail
 refine (isWS_c _ (chr_lt ok) _).mono ?_
 rintro e w' ⟨rfl, rfl⟩; go_wp2_with fail
 refine (isNLb_c _ (chr_lt ok) _).mono ?_
 rintro e w' ⟨rfl, rfl⟩; go_wp2_with fail
 refine (ign_c h1).mono ?_
 rintro e w2 ⟨rfl, h2⟩; go_wp2_with fail
 go_ret
 exact ⟨_, rfl, h2.plain _⟩
theorem bve_comma (ok : L.Ok) (hc : L.chr = 44) : Goes1 129 L L.nxt.ign (plainT 89) := by
 have e_35_831 : (((L.chr : Nat) : Int) == 35) = false := bqf (by omega)
 have e_47_831 : (((L.chr : Nat) : Int) == 47) = false := bqf (by omega)
 have e_59_831 : (((L.chr : Nat) : Int) == 59) = false := bqf (by omega)
 have e_44_831 : (((L.chr : Nat) : Int) == 44) = true := beq_iff_eq.2 (by omega)
 have e_a : isWS L.chr = false := by rw [hc]; rfl
 have e_b : isNLb L.chr = false := by rw [hc]; rfl
 clear hc; intro base S0 w0 w b h0; go_enter Tryz.func129, Tryz.ntmps129; go_wp2_with fail
 refine (next_c h0 ok).mono ?_
 rintro e w1 ⟨rfl, h1⟩; go_wp2_with fail
 refine (isWS_c _ (chr_lt ok) _).mono ?_
 rintro e w' ⟨rfl, rfl⟩; go_wp2_with fail
 refine (isNLb_c _ (chr_lt ok) _).mono ?_
 rintro e w' ⟨rfl, rfl⟩; go_wp2_with fail
 refine (ign_c h1).mono ?_
 rintro e w2 ⟨rfl, h2⟩; go_wp2_with fail
 go_ret
 exact ⟨_, rfl, h2.plain _⟩
theorem be_end (ok : L.Ok) (st : List Nat) (n : Nat) (hst : L.stack = st ++ [n]) (hl : st.length ≤ 1000000) (hc : L.chr = 125) : Goes1 127 L (L.nxt.ign.stk st) (plainT n) := by
 have e_35_831 : (((L.chr : Nat) : Int) == 35) = false := bqf (by omega)
 have e_47_831 : (((L.chr : Nat) : Int) == 47) = false := bqf (by omega)
 have e_59_831 : (((L.chr : Nat) : Int) == 59) = false := bqf (by omega)
 have e_44_831 : (((L.chr : Nat) : Int) == 44) = false := bqf (by omega)
 have e_125_831 : (((L.chr : Nat) : Int) == 125) = true := beq_iff_eq.2 (by omega)
 have e_a : isWS L.chr = false := by rw [hc]; rfl
 have e_b : isNLb L.chr = false := by rw [hc]; rfl
 clear hc; intro base S0 w0 w b h0; go_enter Tryz.func127, Tryz.ntmps127; go_wp2_with fail
 refine (next_c h0 ok).mono ?_
 rintro e w1 ⟨rfl, h1⟩; go_wp2_with fail
 refine (isNLb_c _ (chr_lt ok) _).mono ?_
 rintro e w' ⟨rfl, rfl⟩; go_wp2_with fail
 refine (isWS_c _ (chr_lt ok) _).mono ?_
 rintro e w' ⟨rfl, rfl⟩; go_wp2_with fail
 refine (ign_c h1).mono ?_
 rintro e w2 ⟨rfl, h2⟩; go_wp2_with fail
 refine (pop_c st n h2 (by show L.nxt.stack = _; rw [nxt_stack]; exact hst) hl).mono ?_
 rintro e w3 ⟨rfl, h3⟩; go_wp2_with fail
 go_ret
 exact ⟨_, rfl, h3.plain _⟩
theorem mks_hash (ok : L.Ok) (hst : L.stack.length ≤ 1000000) (hc : L.chr = 35) : Goes1 181 L (L.pk.nxt.psh 181) (plainT 90) := by
 have e_93_831 : (((L.chr : Nat) : Int) == 93) = false := bqf (by omega)
 have e_125_831 : (((L.chr : Nat) : Int) == 125) = false := bqf (by omega)
 have e_35_831 : (((L.chr : Nat) : Int) == 35) = true := beq_iff_eq.2 (by omega)
 have e_a : isSep L.chr = false := by rw [hc]; rfl
 have e_b : isSp L.chr = false := by rw [hc]; rfl
 clear hc; intro base S0 w0 w b h0; go_enter Tryz.func181, Tryz.ntmps181; go_wp2_with fail
 refine (peek_c h0 ok).mono ?_
 rintro e w1 ⟨rfl, h1⟩; go_wp2_with fail
 refine (isSep_c _ (chr_lt ok) _).mono ?_
 rintro e w' ⟨rfl, rfl⟩; go_wp2_with fail
 refine (isSp_c _ (chr_lt ok) _).mono ?_
 rintro e w' ⟨rfl, rfl⟩; go_wp2_with fail
 refine (next_c h1 ok.pk).mono ?_
 rintro e w2 ⟨rfl, h2⟩; go_wp2_with fail
 refine (push_c h2 181 (by rw [nxt_stack, pk_stack]; exact hst)).mono ?_
 rintro e w3 ⟨rfl, h3⟩; go_wp2_with fail
 go_ret
 exact ⟨_, rfl, h3.plain _⟩
theorem mks_slash (ok : L.Ok) (hst : L.stack.length ≤ 1000000) (hc : L.chr = 47) (hd : L.pk.nxt.chr = 47) : Goes1 181 L (L.pk.nxt.nxt.psh 181) (plainT 90) := by
 have e_93_831 : (((L.chr : Nat) : Int) == 93) = false := bqf (by omega)
 have e_125_831 : (((L.chr : Nat) : Int) == 125) = false := bqf (by omega)
 have e_35_831 : (((L.chr : Nat) : Int) == 35) = false := bqf (by omega)
 have e_47_831 : (((L.chr : Nat) : Int) == 47) = true := beq_iff_eq.2 (by omega)
 have e_47_606 : (((L.pk.nxt.chr : Nat) : Int) == 47) = true := beq_iff_eq.2 (by omega)
 have e_a : isSep L.chr = false := by rw [hc]; rfl
 have e_b : isSp L.chr = false := by rw [hc]; rfl
 clear hc hd; intro base S0 w0 w b h0; go_enter Tryz.func181, Tryz.ntmps181; go_wp2_with fail
 refine (peek_c h0 ok).mono ?_
 rintro e w1 ⟨rfl, h1⟩; go_wp2_with fail
 refine (isSep_c _ (chr_lt ok) _).mono ?_
 rintro e w' ⟨rfl, rfl⟩; go_wp2_with fail
 refine (isSp_c _ (chr_lt ok) _).mono ?_
 rintro e w' ⟨rfl, rfl⟩; go_wp2_with fail
 refine (next_c h1 ok.pk).mono ?_
 rintro e w2 ⟨rfl, h2⟩; go_wp2_with fail
 refine (next_c h2 ok.pk.nxt).mono ?_
 rintro e w3 ⟨rfl, h3⟩; go_wp2_with fail
 refine (push_c h3 181 (by rw [nxt_stack, nxt_stack, pk_stack]; exact hst)).mono ?_
 rintro e w4 ⟨rfl, h4⟩; go_wp2_with fail
 go_ret
 exact ⟨_, rfl, h4.plain _⟩
theorem mks_sq (ok : L.Ok) (hc : L.chr = 39) : Goes1 181 L L.pk.nxt (skipT 192) := by
 have e_93_831 : (((L.chr : Nat) : Int) == 93) = false := bqf (by omega)
 have e_125_831 : (((L.chr : Nat) : Int) == 125) = false := bqf (by omega)
 have e_35_831 : (((L.chr : Nat) : Int) == 35) = false := bqf (by omega)
 have e_47_831 : (((L.chr : Nat) : Int) == 47) = false := bqf (by omega)
 have e_39_831 : (((L.chr : Nat) : Int) == 39) = true := beq_iff_eq.2 (by omega)
 have e_a : isSep L.chr = false := by rw [hc]; rfl
 have e_b : isSp L.chr = false := by rw [hc]; rfl
 clear hc; intro base S0 w0 w b h0; go_enter Tryz.func181, Tryz.ntmps181; go_wp2_with fail
 refine (peek_c h0 ok).mono ?_
 rintro e w1 ⟨rfl, h1⟩; go_wp2_with fail
 refine (isSep_c _ (chr_lt ok) _).mono ?_
 rintro e w' ⟨rfl, rfl⟩; go_wp2_with fail
 refine (isSp_c _ (chr_lt ok) _).mono ?_
 rintro e w' ⟨rfl, rfl⟩; go_wp2_with fail
 refine (next_c h1 ok.pk).mono ?_
 rintro e w2 ⟨rfl, h2⟩; go_wp2_with fail
 refine (skipV_c h2 192).mono ?_
 rintro e w3 ⟨rfl, hv⟩; go_wp2_with fail
 go_ret
 exact ⟨_, rfl, hv⟩
theorem msqk_end (ok : L.Ok) (rdy : L.Rdy) (hc : L.chr = 39) : Goes1 192 L (L.pk.emit 3 L.pk.txt).nxt (skipT 206) := by
 have e_0_831 : (((L.chr : Nat) : Int) == 0) = false := bqf (by omega)
 have e_39_831 : (((L.chr : Nat) : Int) == 39) = true := beq_iff_eq.2 (by omega)
 clear hc; intro base S0 w0 w b h0; go_enter Tryz.func192, Tryz.ntmps192; go_wp2_with fail
 refine (peek_c h0 ok).mono ?_
 rintro e w1 ⟨rfl, h1⟩; go_wp2_with fail
 refine (emit_c 3 h1 ok.pk (by simpa [nxt_parts, pk_parts] using rdy.parts) (by have := rdy.start; simp only [pk_start, pk_pos]; omega) (by simpa [nxt_q, pk_q] using rdy.q)).mono ?_
 rintro e w2 ⟨rfl, h2⟩; go_wp2_with fail
 refine (next_c h2 ((ok.pk.emit 3 _))).mono ?_
 rintro e w3 ⟨rfl, h3⟩; go_wp2_with fail
 refine (skipV_c h3 206).mono ?_
 rintro e w4 ⟨rfl, hv⟩; go_wp2_with fail
 go_ret
 exact ⟨_, rfl, hv⟩
theorem msqk_ch (ok : L.Ok) (h1 : L.chr ≠ 39) (h2 : L.chr ≠ 0) : Goes1 192 L L.pk.nxt (plainT 192) := by
 have e_39_831 : (((L.chr : Nat) : Int) == 39) = false := bqf (by omega)
 have e_0_831 : (((L.chr : Nat) : Int) == 0) = false := bqf (by omega)
 clear h1 h2; intro base S0 w0 w b h0; go_enter Tryz.func192, Tryz.ntmps192; go_wp2_with fail
 refine (peek_c h0 ok).mono ?_
 rintro e w1 ⟨rfl, h1⟩; go_wp2_with fail
 refine (next_c h1 ok.pk).mono ?_
 rintro e w2 ⟨rfl, h2⟩; go_wp2_with fail
 go_ret
 exact ⟨_, rfl, h2.plain _⟩
theorem mks_dq (ok : L.Ok) (hc : L.chr = 34) : Goes1 181 L L.pk.nxt (skipT 193) := by
 have e_93_831 : (((L.chr : Nat) : Int) == 93) = false := bqf (by omega)
 have e_125_831 : (((L.chr : Nat) : Int) == 125) = false := bqf (by omega)
 have e_35_831 : (((L.chr : Nat) : Int) == 35) = false := bqf (by omega)
 have e_47_831 : (((L.chr : Nat) : Int) == 47) = false := bqf (by omega)
 have e_39_831 : (((L.chr : Nat) : Int) == 39) = false := bqf (by omega)
 have e_34_831 : (((L.chr : Nat) : Int) == 34) = true := beq_iff_eq.2 (by omega)
 have e_a : isSep L.chr = false := by rw [hc]; rfl
 have e_b : isSp L.chr = false := by rw [hc]; rfl
 clear hc; intro base S0 w0 w b h0; go_enter Tryz.func181, Tryz.ntmps181; go_wp2_with fail
 refine (peek_c h0 ok).mono ?_
 rintro e w1 ⟨rfl, h1⟩; go_wp2_with fail
 refine (isSep_c _ (chr_lt ok) _).mono ?_
 rintro e w' ⟨rfl, rfl⟩; go_wp2_with fail
 refine (isSp_c _ (chr_lt ok) _).mono ?_
 rintro e w' ⟨rfl, rfl⟩; go_wp2_with fail
 refine (next_c h1 ok.pk).mono ?_
 rintro e w2 ⟨rfl, h2⟩; go_wp2_with fail
 refine (skipV_c h2 193).mono ?_
 rintro e w3 ⟨rfl, hv⟩; go_wp2_with fail
 go_ret
 exact ⟨_, rfl, hv⟩
theorem mdqk_end (ok : L.Ok) (rdy : L.Rdy) (hc : L.chr = 34) : Goes1 193 L (L.pk.emit 3 L.pk.txt).nxt (skipT 206) := by
 have e_0_831 : (((L.chr : Nat) : Int) == 0) = false := bqf (by omega)
 have e_34_831 : (((L.chr : Nat) : Int) == 34) = true := beq_iff_eq.2 (by omega)
 clear hc; intro base S0 w0 w b h0; go_enter Tryz.func193, Tryz.ntmps193; go_wp2_with fail
 refine (peek_c h0 ok).mono ?_
 rintro e w1 ⟨rfl, h1⟩; go_wp2_with fail
 refine (emit_c 3 h1 ok.pk (by simpa [nxt_parts, pk_parts] using rdy.parts) (by have := rdy.start; simp only [pk_start, pk_pos]; omega) (by simpa [nxt_q, pk_q] using rdy.q)).mono ?_
 rintro e w2 ⟨rfl, h2⟩; go_wp2_with fail
 refine (next_c h2 ((ok.pk.emit 3 _))).mono ?_
 rintro e w3 ⟨rfl, h3⟩; go_wp2_with fail
 refine (skipV_c h3 206).mono ?_
 rintro e w4 ⟨rfl, hv⟩; go_wp2_with fail
 go_ret
 exact ⟨_, rfl, hv⟩
theorem mdqk_ch (ok : L.Ok) (h1 : L.chr ≠ 34) (h2 : L.chr ≠ 0) : Goes1 193 L L.pk.nxt (plainT 193) := by
 have e_34_831 : (((L.chr : Nat) : Int) == 34) = false := bqf (by omega)
 have e_0_831 : (((L.chr : Nat) : Int) == 0) = false := bqf (by omega)
 clear h1 h2; intro base S0 w0 w b h0; go_enter Tryz.func193, Tryz.ntmps193; go_wp2_with fail
 refine (peek_c h0 ok).mono ?_
 rintro e w1 ⟨rfl, h1⟩; go_wp2_with fail
 refine (next_c h1 ok.pk).mono ?_
 rintro e w2 ⟨rfl, h2⟩; go_wp2_with fail
 go_ret
 exact ⟨_, rfl, h2.plain _⟩
theorem mve_hash (ok : L.Ok) (hst : L.stack.length ≤ 1000000) (hc : L.chr = 35) : Goes1 207 L (L.nxt.psh 207) (plainT 90) := by
 have e_35_831 : (((L.chr : Nat) : Int) == 35) = true := beq_iff_eq.2 (by omega)
 have e_a : isWS L.chr = false := by rw [hc]; rfl
 clear hc; intro base S0 w0 w b h0; go_enter Tryz.func207, Tryz.ntmps207; go_wp2_with fail
 refine (next_c h0 ok).mono ?_
 rintro e w1 ⟨rfl, h1⟩; go_wp2_with fail
 refine (isWS_c _ (chr_lt ok) _).mono ?_
 rintro e w' ⟨rfl, rfl⟩; go_wp2_with fail
 refine (push_c h1 207 (by rw [nxt_stack]; exact hst)).mono ?_
 rintro e w2 ⟨rfl, h2⟩; go_wp2_with fail
 go_ret
 exact ⟨_, rfl, h2.plain _⟩
theorem mve_slash (ok : L.Ok) (hst : L.stack.length ≤ 1000000) (hc : L.chr = 47) (hd : L.nxt.chr = 47) : Goes1 207 L (L.nxt.nxt.psh 207) (plainT 90) := by
 have e_35_831 : (((L.chr : Nat) : Int) == 35) = false := bqf (by omega)
 have e_47_831 : (((L.chr : Nat) : Int) == 47) = true := beq_iff_eq.2 (by omega)
 have e_47_647 : (((L.nxt.chr : Nat) : Int) == 47) = true := beq_iff_eq.2 (by omega)
 have e_a : isWS L.chr = false := by rw [hc]; rfl
 clear hc hd; intro base S0 w0 w b h0; go_enter Tryz.func207, Tryz.ntmps207; go_wp2_with fail
 refine (next_c h0 ok).mono ?_
 rintro e w1 ⟨rfl, h1⟩; go_wp2_with fail
 refine (isWS_c _ (chr_lt ok) _).mono ?_
 rintro e w' ⟨rfl, rfl⟩; go_wp2_with fail
 refine (next_c h1 ok.nxt).mono ?_
 rintro e w2 ⟨rfl, h2⟩; go_wp2_with fail
 refine (push_c h2 207 (by rw [nxt_stack, nxt_stack]; exact hst)).mono ?_
 rintro e w3 ⟨rfl, h3⟩; go_wp2_with fail
 go_ret
 exact ⟨_, rfl, h3.plain _⟩
theorem num_dot (ok : L.Ok) (hc : L.chr = 46) : Goes1 199 L L.nxt (plainT 210) := by
 have e_45_831 : (((L.chr : Nat) : Int) == 45) = false := bqf (by omega)
 have e_46_831 : (((L.chr : Nat) : Int) == 46) = true := beq_iff_eq.2 (by omega)
 have e_a : isDig L.chr = false := by rw [hc]; rfl
 clear hc; intro base S0 w0 w b h0; go_enter Tryz.func199, Tryz.ntmps199; go_wp2_with fail
 refine (next_c h0 ok).mono ?_
 rintro e w1 ⟨rfl, h1⟩; go_wp2_with fail
 refine (isDig_c _ (chr_lt ok) _).mono ?_
 rintro e w' ⟨rfl, rfl⟩; go_wp2_with fail
 go_ret
 exact ⟨_, rfl, h1.plain _⟩
theorem neg_dot (ok : L.Ok) (hc : L.chr = 46) : Goes1 198 L L.nxt (plainT 210) := by
 have e_46_831 : (((L.chr : Nat) : Int) == 46) = true := beq_iff_eq.2 (by omega)
 have e_a : isDig L.chr = false := by rw [hc]; rfl
 clear hc; intro base S0 w0 w b h0; go_enter Tryz.func198, Tryz.ntmps198; go_wp2_with fail
 refine (next_c h0 ok).mono ?_
 rintro e w1 ⟨rfl, h1⟩; go_wp2_with fail
 refine (isDig_c _ (chr_lt ok) _).mono ?_
 rintro e w' ⟨rfl, rfl⟩; go_wp2_with fail
 go_ret
 exact ⟨_, rfl, h1.plain _⟩
theorem fls_dig (ok : L.Ok) (e2 : isDig L.chr = true) : Goes1 210 L L.nxt (plainT 216) := by
 intro base S0 w0 w b h0; go_enter Tryz.func210, Tryz.ntmps210; go_wp2_with fail
 refine (next_c h0 ok).mono ?_
 rintro e w1 ⟨rfl, h1⟩; go_wp2_with fail
 refine (isDig_c _ (chr_lt ok) _).mono ?_
 rintro e w' ⟨rfl, rfl⟩; go_wp2_with fail
 go_ret
 exact ⟨_, rfl, h1.plain _⟩
theorem fl_dig (ok : L.Ok) (e2 : isDig L.chr = true) : Goes1 216 L L.nxt (plainT 216) := by
 intro base S0 w0 w b h0; go_enter Tryz.func216, Tryz.ntmps216; go_wp2_with fail
 refine (next_c h0 ok).mono ?_
 rintro e w1 ⟨rfl, h1⟩; go_wp2_with fail
 refine (isDig_c _ (chr_lt ok) _).mono ?_
 rintro e w' ⟨rfl, rfl⟩; go_wp2_with fail
 go_ret
 exact ⟨_, rfl, h1.plain _⟩
theorem fl_end (ok : L.Ok) (rdy : L.Rdy) (st : List Nat) (n : Nat) (hst : L.stack = st ++ [n]) (hl : st.length ≤ 1000000) (e2 : isDig L.chr = false) (h1 : L.chr ≠ 46) : Goes1 216 L ((L.pk.emit 8 L.pk.txt).stk st) (plainT n) := by
 have e_46_831 : (((L.chr : Nat) : Int) == 46) = false := bqf (by omega)
 clear h1; intro base S0 w0 w b h0; go_enter Tryz.func216, Tryz.ntmps216; go_wp2_with fail
 refine (next_c h0 ok).mono ?_
 rintro e w1 ⟨rfl, h1⟩; go_wp2_with fail
 refine (isDig_c _ (chr_lt ok) _).mono ?_
 rintro e w' ⟨rfl, rfl⟩; go_wp2_with fail
 refine (back_c h1 ok.nxt (nxt_width _)).mono ?_
 rintro e w2 ⟨rfl, h2⟩; rw [nxt_back] at h2; go_wp2_with fail
 refine (emit_c 8 h2 ok.pk (by simpa [nxt_parts, pk_parts] using rdy.parts) (by have := rdy.start; simp only [pk_start, pk_pos]; omega) (by simpa [nxt_q, pk_q] using rdy.q)).mono ?_
 rintro e w3 ⟨rfl, h3⟩; go_wp2_with fail
 refine (pop_c st n h3 (by show L.pk.stack = _; rw [pk_stack]; exact hst) hl).mono ?_
 rintro e w4 ⟨rfl, h4⟩; go_wp2_with fail
 go_ret
 exact ⟨_, rfl, h4.plain _⟩
theorem bool_nl (ok : L.Ok) (rdy : L.Rdy) (st : List Nat) (n : Nat) (hst : L.stack = st ++ [n]) (hl : st.length ≤ 1000000) (hb : boolWord L.pk.txt = true) (hc : L.chr = 10) : Goes1 187 L ((L.pk.emit 6 L.pk.txt).stk st) (plainT n) := by
 have e_92_831 : (((L.chr : Nat) : Int) == 92) = false := bqf (by omega)
 have e_nl : isNLb L.chr = true := by rw [hc]; rfl
 have HB := Lib.hid hb; clear hc hb; intro base S0 w0 w b h0; go_enter Tryz.func187, Tryz.ntmps187; go_wp2_with fail
 refine (next_c h0 ok).mono ?_
 rintro e w1 ⟨rfl, h1⟩; go_wp2_with fail
 refine (isNLb_c _ (chr_lt ok) _).mono ?_
 rintro e w' ⟨rfl, rfl⟩; go_wp2_with fail
 refine (back_c h1 ok.nxt (nxt_width _)).mono ?_
 rintro e w2 ⟨rfl, h2⟩; rw [nxt_back] at h2; go_wp2_with fail
 refine (hasEsc_c h2 (by simpa [pk_parts] using rdy.parts)).mono ?_
 rintro e w3 ⟨rfl, h3⟩; go_wp2_with fail
 refine (isBool_t h3 ok.pk ⟨(by simpa [pk_parts] using rdy.parts), (by have := rdy.start; simp only [pk_start, pk_pos]; omega), (by simpa [pk_q] using rdy.q)⟩ HB.out).mono ?_
 rintro e w4 ⟨rfl, h4⟩; go_wp2_with fail
 refine (emit_c 6 h4 ok.pk (by simpa [nxt_parts, pk_parts] using rdy.parts) (by have := rdy.start; simp only [pk_start, pk_pos]; omega) (by simpa [nxt_q, pk_q] using rdy.q)).mono ?_
 rintro e w5 ⟨rfl, h5⟩; go_wp2_with fail
 refine (pop_c st n h5 (by show L.pk.stack = _; rw [pk_stack]; exact hst) hl).mono ?_
 rintro e w6 ⟨rfl, h6⟩; go_wp2_with fail
 go_ret
 exact ⟨_, rfl, h6.plain _⟩
theorem bool_ws (ok : L.Ok) (rdy : L.Rdy) (st : List Nat) (n : Nat) (hst : L.stack = st ++ [n]) (hl : st.length ≤ 1000000) (hb : boolWord L.pk.txt = true) (hc : L.chr = 32) : Goes1 187 L ((L.pk.emit 6 L.pk.txt).stk st) (plainT n) := by
 have e_92_831 : (((L.chr : Nat) : Int) == 92) = false := bqf (by omega)
 have e_0_831 : (((L.chr : Nat) : Int) == 0) = false := bqf (by omega)
 have e_59_831 : (((L.chr : Nat) : Int) == 59) = false := bqf (by omega)
 have e_44_831 : (((L.chr : Nat) : Int) == 44) = false := bqf (by omega)
 have e_93_831 : (((L.chr : Nat) : Int) == 93) = false := bqf (by omega)
 have e_125_831 : (((L.chr : Nat) : Int) == 125) = false := bqf (by omega)
 have e_nl : isNLb L.chr = false := by rw [hc]; rfl
 have e_ws : isWS L.chr = true := by rw [hc]; rfl
 have HB := Lib.hid hb; clear hc hb; intro base S0 w0 w b h0; go_enter Tryz.func187, Tryz.ntmps187; go_wp2_with fail
 refine (next_c h0 ok).mono ?_
 rintro e w1 ⟨rfl, h1⟩; go_wp2_with fail
 refine (isNLb_c _ (chr_lt ok) _).mono ?_
 rintro e w' ⟨rfl, rfl⟩; go_wp2_with fail
 refine (isWS_c _ (chr_lt ok) _).mono ?_
 rintro e w' ⟨rfl, rfl⟩; go_wp2_with fail
 refine (back_c h1 ok.nxt (nxt_width _)).mono ?_
 rintro e w2 ⟨rfl, h2⟩; rw [nxt_back] at h2; go_wp2_with fail
 refine (hasEsc_c h2 (by simpa [pk_parts] using rdy.parts)).mono ?_
 rintro e w3 ⟨rfl, h3⟩; go_wp2_with fail
 refine (isBool_t h3 ok.pk ⟨(by simpa [pk_parts] using rdy.parts), (by have := rdy.start; simp only [pk_start, pk_pos]; omega), (by simpa [pk_q] using rdy.q)⟩ HB.out).mono ?_
 rintro e w4 ⟨rfl, h4⟩; go_wp2_with fail
 refine (emit_c 6 h4 ok.pk (by simpa [nxt_parts, pk_parts] using rdy.parts) (by have := rdy.start; simp only [pk_start, pk_pos]; omega) (by simpa [nxt_q, pk_q] using rdy.q)).mono ?_
 rintro e w5 ⟨rfl, h5⟩; go_wp2_with fail
 refine (pop_c st n h5 (by show L.pk.stack = _; rw [pk_stack]; exact hst) hl).mono ?_
 rintro e w6 ⟨rfl, h6⟩; go_wp2_with fail
 go_ret
 exact ⟨_, rfl, h6.plain _⟩
theorem bool_semi (ok : L.Ok) (rdy : L.Rdy) (st : List Nat) (n : Nat) (hst : L.stack = st ++ [n]) (hl : st.length ≤ 1000000) (hb : boolWord L.pk.txt = true) (hc : L.chr = 59) : Goes1 187 L ((L.pk.emit 6 L.pk.txt).stk st) (plainT n) := by
 have e_92_831 : (((L.chr : Nat) : Int) == 92) = false := bqf (by omega)
 have e_0_831 : (((L.chr : Nat) : Int) == 0) = false := bqf (by omega)
 have e_59_831 : (((L.chr : Nat) : Int) == 59) = true := beq_iff_eq.2 (by omega)
 have e_nl : isNLb L.chr = false := by rw [hc]; rfl
 have HB := Lib.hid hb; clear hc hb; intro base S0 w0 w b h0; go_enter Tryz.func187, Tryz.ntmps187; go_wp2_with fail
 refine (next_c h0 ok).mono ?_
 rintro e w1 ⟨rfl, h1⟩; go_wp2_with fail
 refine (isNLb_c _ (chr_lt ok) _).mono ?_
 rintro e w' ⟨rfl, rfl⟩; go_wp2_with fail
 refine (back_c h1 ok.nxt (nxt_width _)).mono ?_
 rintro e w2 ⟨rfl, h2⟩; rw [nxt_back] at h2; go_wp2_with fail
 refine (hasEsc_c h2 (by simpa [pk_parts] using rdy.parts)).mono ?_
 rintro e w3 ⟨rfl, h3⟩; go_wp2_with fail
 refine (isBool_t h3 ok.pk ⟨(by simpa [pk_parts] using rdy.parts), (by have := rdy.start; simp only [pk_start, pk_pos]; omega), (by simpa [pk_q] using rdy.q)⟩ HB.out).mono ?_
 rintro e w4 ⟨rfl, h4⟩; go_wp2_with fail
 refine (emit_c 6 h4 ok.pk (by simpa [nxt_parts, pk_parts] using rdy.parts) (by have := rdy.start; simp only [pk_start, pk_pos]; omega) (by simpa [nxt_q, pk_q] using rdy.q)).mono ?_
 rintro e w5 ⟨rfl, h5⟩; go_wp2_with fail
 refine (pop_c st n h5 (by show L.pk.stack = _; rw [pk_stack]; exact hst) hl).mono ?_
 rintro e w6 ⟨rfl, h6⟩; go_wp2_with fail
 go_ret
 exact ⟨_, rfl, h6.plain _⟩
theorem bool_comma (ok : L.Ok) (rdy : L.Rdy) (st : List Nat) (n : Nat) (hst : L.stack = st ++ [n]) (hl : st.length ≤ 1000000) (hb : boolWord L.pk.txt = true) (hc : L.chr = 44) : Goes1 187 L ((L.pk.emit 6 L.pk.txt).stk st) (plainT n) := by
 have e_92_831 : (((L.chr : Nat) : Int) == 92) = false := bqf (by omega)
 have e_0_831 : (((L.chr : Nat) : Int) == 0) = false := bqf (by omega)
 have e_59_831 : (((L.chr : Nat) : Int) == 59) = false := bqf (by omega)
 have e_44_831 : (((L.chr : Nat) : Int) == 44) = true := beq_iff_eq.2 (by omega)
 have e_nl : isNLb L.chr = false := by rw [hc]; rfl
 have HB := Lib.hid hb; clear hc hb; intro base S0 w0 w b h0; go_enter Tryz.func187, Tryz.ntmps187; go_wp2_with fail
 refine (next_c h0 ok).mono ?_
 rintro e w1 ⟨rfl, h1⟩; go_wp2_with fail
 refine (isNLb_c _ (chr_lt ok) _).mono ?_
 rintro e w' ⟨rfl, rfl⟩; go_wp2_with fail
 refine (back_c h1 ok.nxt (nxt_width _)).mono ?_
 rintro e w2 ⟨rfl, h2⟩; rw [nxt_back] at h2; go_wp2_with fail
 refine (hasEsc_c h2 (by simpa [pk_parts] using rdy.parts)).mono ?_
 rintro e w3 ⟨rfl, h3⟩; go_wp2_with fail
 refine (isBool_t h3 ok.pk ⟨(by simpa [pk_parts] using rdy.parts), (by have := rdy.start; simp only [pk_start, pk_pos]; omega), (by simpa [pk_q] using rdy.q)⟩ HB.out).mono ?_
 rintro e w4 ⟨rfl, h4⟩; go_wp2_with fail
 refine (emit_c 6 h4 ok.pk (by simpa [nxt_parts, pk_parts] using rdy.parts) (by have := rdy.start; simp only [pk_start, pk_pos]; omega) (by simpa [nxt_q, pk_q] using rdy.q)).mono ?_
 rintro e w5 ⟨rfl, h5⟩; go_wp2_with fail
 refine (pop_c st n h5 (by show L.pk.stack = _; rw [pk_stack]; exact hst) hl).mono ?_
 rintro e w6 ⟨rfl, h6⟩; go_wp2_with fail
 go_ret
 exact ⟨_, rfl, h6.plain _⟩
theorem bool_brace (ok : L.Ok) (rdy : L.Rdy) (st : List Nat) (n : Nat) (hst : L.stack = st ++ [n]) (hl : st.length ≤ 1000000) (hb : boolWord L.pk.txt = true) (hc : L.chr = 125) : Goes1 187 L ((L.pk.emit 6 L.pk.txt).stk st) (plainT n) := by
 have e_92_831 : (((L.chr : Nat) : Int) == 92) = false := bqf (by omega)
 have e_0_831 : (((L.chr : Nat) : Int) == 0) = false := bqf (by omega)
 have e_59_831 : (((L.chr : Nat) : Int) == 59) = false := bqf (by omega)
 have e_44_831 : (((L.chr : Nat) : Int) == 44) = false := bqf (by omega)
 have e_93_831 : (((L.chr : Nat) : Int) == 93) = false := bqf (by omega)
 have e_125_831 : (((L.chr : Nat) : Int) == 125) = true := beq_iff_eq.2 (by omega)
 have e_nl : isNLb L.chr = false := by rw [hc]; rfl
 have HB := Lib.hid hb; clear hc hb; intro base S0 w0 w b h0; go_enter Tryz.func187, Tryz.ntmps187; go_wp2_with fail
 refine (next_c h0 ok).mono ?_
 rintro e w1 ⟨rfl, h1⟩; go_wp2_with fail
 refine (isNLb_c _ (chr_lt ok) _).mono ?_
 rintro e w' ⟨rfl, rfl⟩; go_wp2_with fail
 refine (back_c h1 ok.nxt (nxt_width _)).mono ?_
 rintro e w2 ⟨rfl, h2⟩; rw [nxt_back] at h2; go_wp2_with fail
 refine (hasEsc_c h2 (by simpa [pk_parts] using rdy.parts)).mono ?_
 rintro e w3 ⟨rfl, h3⟩; go_wp2_with fail
 refine (isBool_t h3 ok.pk ⟨(by simpa [pk_parts] using rdy.parts), (by have := rdy.start; simp only [pk_start, pk_pos]; omega), (by simpa [pk_q] using rdy.q)⟩ HB.out).mono ?_
 rintro e w4 ⟨rfl, h4⟩; go_wp2_with fail
 refine (emit_c 6 h4 ok.pk (by simpa [nxt_parts, pk_parts] using rdy.parts) (by have := rdy.start; simp only [pk_start, pk_pos]; omega) (by simpa [nxt_q, pk_q] using rdy.q)).mono ?_
 rintro e w5 ⟨rfl, h5⟩; go_wp2_with fail
 refine (pop_c st n h5 (by show L.pk.stack = _; rw [pk_stack]; exact hst) hl).mono ?_
 rintro e w6 ⟨rfl, h6⟩; go_wp2_with fail
 go_ret
 exact ⟨_, rfl, h6.plain _⟩
end
section
variable {s : ByteArray} {p st : Nat} {stk : List Nat} {L : LX}
theorem ld_tve_comma (hp : p < s.size) (e : byteAt s p = 44) : Leads s p st stk (plainT 94) (p + 1) (p + 1) stk (plainT 60) := by
 rintro L ⟨h, hs⟩
 have hc := h.chr hp; exact ⟨1, _, run1 hs enters94 h.q (tve_comma h.ok (by rw [hc]; exact e)), ((h.nxt hp).ign).goes _⟩
theorem ld_top_brace (hp : p < s.size) (hl : stk.length ≤ 1000000) (e : byteAt s p = 123) : Leads s p st stk (plainT 60) (p + 1) st (stk ++ [60]) (skipT 89) := by
 rintro L ⟨h, hs⟩
 have hc := h.chr hp; exact ⟨1, _, run1 hs enters60 h.q (top_brace h.ok (by rw [h.stack]; exact hl) (by rw [hc, e]; rfl) (by rw [hc]; exact e)), ((h.nxt hp).psh 60).goes _⟩
theorem enters89 : Enters 89 := fun args w => by kernel_rfl
theorem ld_bs_sp (hp : p < s.size) (e1 : isSp (byteAt s p) = true) : Leads s p st stk (plainT 89) (p + 1) st stk (skipT 89) := by
 rintro L ⟨h, hs⟩
 have hc := h.chr hp; exact ⟨1, _, run1 hs enters89 h.q (bs_sp h.ok (by rw [hc]; exact e1)), (h.nxt hp).goes _⟩
theorem ld_bs_end (hp : p < s.size) (e : byteAt s p = 125) (sk : List Nat) (n : Nat) (hk : stk = sk ++ [n]) (hl : sk.length ≤ 1000000) : Leads s p st stk (plainT 89) (p + 1) (p + 1) sk (plainT n) := by
 rintro L ⟨h, hs⟩
 have hc := h.chr hp; have hst' := h.stack.trans hk; exact ⟨1, _, run1 hs enters89 h.q (bs_end h.ok sk n hst' hl (by rw [hc]; exact e)), (((h.nxt hp).ign).stkd sk).goes _⟩
theorem ld_bs_hash (hp : p < s.size) (hl : stk.length ≤ 1000000) (e : byteAt s p = 35) : Leads s p st stk (plainT 89) (p + 1) st (stk ++ [89]) (plainT 90) := by
 rintro L ⟨h, hs⟩
 have hc := h.chr hp; exact ⟨1, _, run1 hs enters89 h.q (bs_hash h.ok (by rw [h.stack]; exact hl) (by rw [hc]; exact e)), ((h.nxt hp).psh 89).goes _⟩
theorem ld_bs_slash (hp : p + 1 < s.size) (hl : stk.length ≤ 1000000) (e : byteAt s p = 47) (e2 : byteAt s (p + 1) = 47) : Leads s p st stk (plainT 89) (p + 1 + 1) st (stk ++ [89]) (plainT 90) := by
 rintro L ⟨h, hs⟩
 have hc := h.chr (show p < s.size by omega)
 have hn := h.nxt (show p < s.size by omega)
 have hc2 : L.nxt.chr = byteAt s (p + 1) := hn.chr hp
 exact ⟨1, _, run1 hs enters89 h.q (bs_slash h.ok (by rw [h.stack]; exact hl) (by rw [hc]; exact e) (by rw [hc2]; exact e2)), ((hn.nxt hp).psh 89).goes _⟩
theorem ld_bs_key (hp : p < s.size) (hl : stk.length ≤ 1000000) (e1 : isSp (byteAt s p) = false) (h1 : byteAt s p ≠ 123) (h2 : byteAt s p ≠ 35) (h3 : byteAt s p ≠ 47) (h4 : byteAt s p ≠ 0) (h5 : byteAt s p ≠ 125) : Leads s p st stk (plainT 89) p st (stk ++ [129]) (plainT 95) := by
 rintro L ⟨h, hs⟩
 have hc := h.chr hp; exact ⟨1, _, run1 hs enters89 h.q (bs_key h.ok (by rw [h.stack]; exact hl) (by rw [hc]; exact e1) (by rw [hc]; exact h1) (by rw [hc]; exact h2) (by rw [hc]; exact h3) (by rw [hc]; exact h4) (by rw [hc]; exact h5)), ((h.pk).psh 129).goes _⟩
theorem enters129 : Enters 129 := fun args w => by kernel_rfl
theorem ld_bve_hash (hp : p < s.size) (hl : stk.length ≤ 1000000) (e : byteAt s p = 35) : Leads s p st stk (plainT 129) (p + 1) st (stk ++ [129]) (plainT 90) := by
 rintro L ⟨h, hs⟩
 have hc := h.chr hp; exact ⟨1, _, run1 hs enters129 h.q (bve_hash h.ok (by rw [h.stack]; exact hl) (by rw [hc]; exact e)), ((h.nxt hp).psh 129).goes _⟩
theorem ld_bve_slash (hp : p + 1 < s.size) (hl : stk.length ≤ 1000000) (e : byteAt s p = 47) (e2 : byteAt s (p + 1) = 47) : Leads s p st stk (plainT 129) (p + 1 + 1) st (stk ++ [129]) (plainT 90) := by
 rintro L ⟨h, hs⟩
 have hc := h.chr (show p < s.size by omega)
 have hn := h.nxt (show p < s.size by omega)
 have hc2 : L.nxt.chr = byteAt s (p + 1) := hn.chr hp
 exact ⟨1, _, run1 hs enters129 h.q (bve_slash h.ok (by rw [h.stack]; exact hl) (by rw [hc]; exact e) (by rw [hc2]; exact e2)), ((hn.nxt hp).psh 129).goes _⟩
theorem ld_bve_ws (hp : p < s.size) (e1 : isWS (byteAt s p) = true) (h1 : byteAt s p ≠ 35) (h2 : byteAt s p ≠ 47) : Leads s p st stk (plainT 129) (p + 1) st stk (plainT 129) := by
 rintro L ⟨h, hs⟩
 have hc := h.chr hp; exact ⟨1, _, run1 hs enters129 h.q (bve_ws h.ok (by rw [hc]; exact h1) (by rw [hc]; exact h2) (by rw [hc]; exact e1)), (h.nxt hp).goes _⟩
theorem ld_bve_nl (hp : p < s.size) (e : byteAt s p = 10) : Leads s p st stk (plainT 129) (p + 1) (p + 1) stk (plainT 89) := by
 rintro L ⟨h, hs⟩
 have hc := h.chr hp; exact ⟨1, _, run1 hs enters129 h.q (bve_nl h.ok (by rw [hc]; exact e)), ((h.nxt hp).ign).goes _⟩
theorem ld_bve_semi (hp : p < s.size) (e : byteAt s p = 59) : Leads s p st stk (plainT 129) (p + 1) (p + 1) stk (plainT 89) := by
 rintro L ⟨h, hs⟩
 have hc := h.chr hp; exact ⟨1, _, run1 hs enters129 h.q (bve_semi h.ok (by rw [hc]; exact e)), ((h.nxt hp).ign).goes _⟩
theorem ld_bve_comma (hp : p < s.size) (e : byteAt s p = 44) : Leads s p st stk (plainT 129) (p + 1) (p + 1) stk (plainT 89) := by
 rintro L ⟨h, hs⟩
 have hc := h.chr hp; exact ⟨1, _, run1 hs enters129 h.q (bve_comma h.ok (by rw [hc]; exact e)), ((h.nxt hp).ign).goes _⟩
theorem ld_mks_hash (hp : p < s.size) (hl : stk.length ≤ 1000000) (e : byteAt s p = 35) : Leads s p st stk (plainT 181) (p + 1) st (stk ++ [181]) (plainT 90) := by
 rintro L ⟨h, hs⟩
 have hc := h.chr hp; exact ⟨1, _, run1 hs enters181 h.q (mks_hash h.ok (by rw [h.stack]; exact hl) (by rw [hc]; exact e)), ((h.pk.nxt hp).psh 181).goes _⟩
theorem ld_mks_slash (hp : p + 1 < s.size) (hl : stk.length ≤ 1000000) (e : byteAt s p = 47) (e2 : byteAt s (p + 1) = 47) : Leads s p st stk (plainT 181) (p + 1 + 1) st (stk ++ [181]) (plainT 90) := by
 rintro L ⟨h, hs⟩
 have hc := h.chr (show p < s.size by omega)
 have hn := h.pk.nxt (show p < s.size by omega)
 have hc2 : L.pk.nxt.chr = byteAt s (p + 1) := hn.chr hp
 exact ⟨1, _, run1 hs enters181 h.q (mks_slash h.ok (by rw [h.stack]; exact hl) (by rw [hc]; exact e) (by rw [hc2]; exact e2)), ((hn.nxt hp).psh 181).goes _⟩
theorem ld_mks_sq (hp : p < s.size) (e : byteAt s p = 39) : Leads s p st stk (plainT 181) (p + 1) st stk (skipT 192) := by
 rintro L ⟨h, hs⟩
 have hc := h.chr hp; exact ⟨1, _, run1 hs enters181 h.q (mks_sq h.ok (by rw [hc]; exact e)), ((h.pk).nxt hp).goes _⟩
theorem enters192 : Enters 192 := fun args w => by kernel_rfl
theorem ld_msqk_ch (hp : p < s.size) (h1 : byteAt s p ≠ 39) (h2 : byteAt s p ≠ 0) : Leads s p st stk (plainT 192) (p + 1) st stk (plainT 192) := by
 rintro L ⟨h, hs⟩
 have hc := h.chr hp; exact ⟨1, _, run1 hs enters192 h.q (msqk_ch h.ok (by rw [hc]; exact h1) (by rw [hc]; exact h2)), ((h.pk).nxt hp).goes _⟩
theorem ld_msqk_end (hp : p < s.size) (hst : st ≤ p) (e : byteAt s p = 39) : Emits s p st stk (plainT 192) 3 (s.extract st p) (1 + (nlc s p : Nat)) (p + 1) p stk (skipT 206) := by
 rintro L ⟨h, hs⟩
 have hc := h.chr hp; obtain ⟨h1, h2⟩ := (h.pk).gaveN hp 3 (skipT 206)
 exact ⟨1, _, _, run1 hs enters192 h.q (msqk_end h.ok (h.rdy hst) (by rw [hc]; exact e)), h2, rfl, rfl, rfl, h1⟩
theorem ld_mks_dq (hp : p < s.size) (e : byteAt s p = 34) : Leads s p st stk (plainT 181) (p + 1) st stk (skipT 193) := by
 rintro L ⟨h, hs⟩
 have hc := h.chr hp; exact ⟨1, _, run1 hs enters181 h.q (mks_dq h.ok (by rw [hc]; exact e)), ((h.pk).nxt hp).goes _⟩
theorem enters193 : Enters 193 := fun args w => by kernel_rfl
theorem ld_mdqk_ch (hp : p < s.size) (h1 : byteAt s p ≠ 34) (h2 : byteAt s p ≠ 0) : Leads s p st stk (plainT 193) (p + 1) st stk (plainT 193) := by
 rintro L ⟨h, hs⟩
 have hc := h.chr hp; exact ⟨1, _, run1 hs enters193 h.q (mdqk_ch h.ok (by rw [hc]; exact h1) (by rw [hc]; exact h2)), ((h.pk).nxt hp).goes _⟩
theorem ld_mdqk_end (hp : p < s.size) (hst : st ≤ p) (e : byteAt s p = 34) : Emits s p st stk (plainT 193) 3 (s.extract st p) (1 + (nlc s p : Nat)) (p + 1) p stk (skipT 206) := by
 rintro L ⟨h, hs⟩
 have hc := h.chr hp; obtain ⟨h1, h2⟩ := (h.pk).gaveN hp 3 (skipT 206)
 exact ⟨1, _, _, run1 hs enters193 h.q (mdqk_end h.ok (h.rdy hst) (by rw [hc]; exact e)), h2, rfl, rfl, rfl, h1⟩
theorem ld_mve_hash (hp : p < s.size) (hl : stk.length ≤ 1000000) (e : byteAt s p = 35) : Leads s p st stk (plainT 207) (p + 1) st (stk ++ [207]) (plainT 90) := by
 rintro L ⟨h, hs⟩
 have hc := h.chr hp; exact ⟨1, _, run1 hs enters207 h.q (mve_hash h.ok (by rw [h.stack]; exact hl) (by rw [hc]; exact e)), ((h.nxt hp).psh 207).goes _⟩
theorem ld_mve_slash (hp : p + 1 < s.size) (hl : stk.length ≤ 1000000) (e : byteAt s p = 47) (e2 : byteAt s (p + 1) = 47) : Leads s p st stk (plainT 207) (p + 1 + 1) st (stk ++ [207]) (plainT 90) := by
 rintro L ⟨h, hs⟩
 have hc := h.chr (show p < s.size by omega)
 have hn := h.nxt (show p < s.size by omega)
 have hc2 : L.nxt.chr = byteAt s (p + 1) := hn.chr hp
 exact ⟨1, _, run1 hs enters207 h.q (mve_slash h.ok (by rw [h.stack]; exact hl) (by rw [hc]; exact e) (by rw [hc2]; exact e2)), ((hn.nxt hp).psh 207).goes _⟩
theorem ld_num_dot (hp : p < s.size) (e : byteAt s p = 46) : Leads s p st stk (plainT 199) (p + 1) st stk (plainT 210) := by
 rintro L ⟨h, hs⟩
 have hc := h.chr hp; exact ⟨1, _, run1 hs enters199 h.q (num_dot h.ok (by rw [hc]; exact e)), (h.nxt hp).goes _⟩
theorem ld_neg_dot (hp : p < s.size) (e : byteAt s p = 46) : Leads s p st stk (plainT 198) (p + 1) st stk (plainT 210) := by
 rintro L ⟨h, hs⟩
 have hc := h.chr hp; exact ⟨1, _, run1 hs enters198 h.q (neg_dot h.ok (by rw [hc]; exact e)), (h.nxt hp).goes _⟩
theorem enters210 : Enters 210 := fun args w => by kernel_rfl
theorem ld_fls_dig (hp : p < s.size) (e2 : isDig (byteAt s p) = true) : Leads s p st stk (plainT 210) (p + 1) st stk (plainT 216) := by
 rintro L ⟨h, hs⟩
 have hc := h.chr hp; exact ⟨1, _, run1 hs enters210 h.q (fls_dig h.ok (by rw [hc]; exact e2)), (h.nxt hp).goes _⟩
theorem enters216 : Enters 216 := fun args w => by kernel_rfl
theorem ld_fl_dig (hp : p < s.size) (e2 : isDig (byteAt s p) = true) : Leads s p st stk (plainT 216) (p + 1) st stk (plainT 216) := by
 rintro L ⟨h, hs⟩
 have hc := h.chr hp; exact ⟨1, _, run1 hs enters216 h.q (fl_dig h.ok (by rw [hc]; exact e2)), (h.nxt hp).goes _⟩
theorem ld_fl_end (hp : p < s.size) (hst : st ≤ p) (e2 : isDig (byteAt s p) = false) (h46 : byteAt s p ≠ 46) (sk : List Nat) (n : Nat) (hk : stk = sk ++ [n]) (hl : sk.length ≤ 1000000) : Emits s p st stk (plainT 216) 8 (s.extract st p) (1 + (nlc s p : Nat)) p p sk (plainT n) := by
 rintro L ⟨h, hs⟩
 have hc := h.chr hp; have hst' := h.stack.trans hk; obtain ⟨h1, h2⟩ := (h.pk).emitted 8 sk (plainT n)
 exact ⟨1, _, _, run1 hs enters216 h.q (fl_end h.ok (h.rdy hst) sk n hst' hl (by rw [hc]; exact e2) (by rw [hc]; exact h46)), h2, rfl, rfl, rfl, h1⟩
theorem ld_bool_nl (hp : p < s.size) (hst : st ≤ p) (hb : boolWord (s.extract st p) = true) (e : byteAt s p = 10) (sk : List Nat) (n : Nat) (hk : stk = sk ++ [n]) (hl : sk.length ≤ 1000000) : Emits s p st stk (plainT 187) 6 (s.extract st p) (1 + (nlc s p : Nat)) p p sk (plainT n) := by
 rintro L ⟨h, hs⟩
 have hc := h.chr hp; have hst' := h.stack.trans hk; obtain ⟨h1, h2⟩ := (h.pk).emitted 6 sk (plainT n)
 exact ⟨1, _, _, run1 hs enters187 h.q (bool_nl h.ok (h.rdy hst) sk n hst' hl (by rw [h.pk.txt]; exact hb) (by rw [hc]; exact e)), h2, rfl, rfl, rfl, h1⟩
theorem ld_bool_ws (hp : p < s.size) (hst : st ≤ p) (hb : boolWord (s.extract st p) = true) (e : byteAt s p = 32) (sk : List Nat) (n : Nat) (hk : stk = sk ++ [n]) (hl : sk.length ≤ 1000000) : Emits s p st stk (plainT 187) 6 (s.extract st p) (1 + (nlc s p : Nat)) p p sk (plainT n) := by
 rintro L ⟨h, hs⟩
 have hc := h.chr hp; have hst' := h.stack.trans hk; obtain ⟨h1, h2⟩ := (h.pk).emitted 6 sk (plainT n)
 exact ⟨1, _, _, run1 hs enters187 h.q (bool_ws h.ok (h.rdy hst) sk n hst' hl (by rw [h.pk.txt]; exact hb) (by rw [hc]; exact e)), h2, rfl, rfl, rfl, h1⟩
theorem ld_bool_semi (hp : p < s.size) (hst : st ≤ p) (hb : boolWord (s.extract st p) = true) (e : byteAt s p = 59) (sk : List Nat) (n : Nat) (hk : stk = sk ++ [n]) (hl : sk.length ≤ 1000000) : Emits s p st stk (plainT 187) 6 (s.extract st p) (1 + (nlc s p : Nat)) p p sk (plainT n) := by
 rintro L ⟨h, hs⟩
 have hc := h.chr hp; have hst' := h.stack.trans hk; obtain ⟨h1, h2⟩ := (h.pk).emitted 6 sk (plainT n)
 exact ⟨1, _, _, run1 hs enters187 h.q (bool_semi h.ok (h.rdy hst) sk n hst' hl (by rw [h.pk.txt]; exact hb) (by rw [hc]; exact e)), h2, rfl, rfl, rfl, h1⟩
theorem ld_bool_comma (hp : p < s.size) (hst : st ≤ p) (hb : boolWord (s.extract st p) = true) (e : byteAt s p = 44) (sk : List Nat) (n : Nat) (hk : stk = sk ++ [n]) (hl : sk.length ≤ 1000000) : Emits s p st stk (plainT 187) 6 (s.extract st p) (1 + (nlc s p : Nat)) p p sk (plainT n) := by
 rintro L ⟨h, hs⟩
 have hc := h.chr hp; have hst' := h.stack.trans hk; obtain ⟨h1, h2⟩ := (h.pk).emitted 6 sk (plainT n)
 exact ⟨1, _, _, run1 hs enters187 h.q (bool_comma h.ok (h.rdy hst) sk n hst' hl (by rw [h.pk.txt]; exact hb) (by rw [hc]; exact e)), h2, rfl, rfl, rfl, h1⟩
theorem ld_bool_brace (hp : p < s.size) (hst : st ≤ p) (hb : boolWord (s.extract st p) = true) (e : byteAt s p = 125) (sk : List Nat) (n : Nat) (hk : stk = sk ++ [n]) (hl : sk.length ≤ 1000000) : Emits s p st stk (plainT 187) 6 (s.extract st p) (1 + (nlc s p : Nat)) p p sk (plainT n) := by
 rintro L ⟨h, hs⟩
 have hc := h.chr hp; have hst' := h.stack.trans hk; obtain ⟨h1, h2⟩ := (h.pk).emitted 6 sk (plainT n)
 exact ⟨1, _, _, run1 hs enters187 h.q (bool_brace h.ok (h.rdy hst) sk n hst' hl (by rw [h.pk.txt]; exact hb) (by rw [hc]; exact e)), h2, rfl, rfl, rfl, h1⟩
theorem ld_bool_tm (hp : p < s.size) (hst : st ≤ p) (hb : boolWord (s.extract st p) = true) (e : tmB (byteAt s p)) (sk : List Nat) (n : Nat) (hk : stk = sk ++ [n]) (hl : sk.length ≤ 1000000) : Emits s p st stk (plainT 187) 6 (s.extract st p) (1 + (nlc s p : Nat)) p p sk (plainT n) := by
 rcases e with e | e | e | e | e
 ·exact ld_bool_nl hp hst hb e sk n hk hl
 ·exact ld_bool_ws hp hst hb e sk n hk hl
 ·exact ld_bool_semi hp hst hb e sk n hk hl
 ·exact ld_bool_comma hp hst hb e sk n hk hl
 ·exact ld_bool_brace hp hst hb e sk n hk hl
end
section
variable {K : PK} {s : ByteArray} {p st : Nat} {stk sk : List Nat} {cx cx1 fin : List CJ} {ks ks1 : List ByteArray} {pt n : Nat} {j : JV}
def endR (e : Nat) : ByteArray := match e with
 | 5 => ⟨#[59]⟩
 | 6 => ⟨#[44]⟩
 | e => endT e
theorem isSp_not (h : isSp (byteAt s p) = true) : isSep (byteAt s p) = false ∧ byteAt s p ≠ 93 := by
 simp only [isSp, Bool.or_eq_true, beq_iff_eq] at h
 constructor
 ·simp [isSep]; omega
 ·omega
theorem ld_sepM (j : Nat) (hj : j < 6) (h : Has s p (sepT j)) (hlt : p + (sepT j).size < s.size) (hv : vsB (byteAt s (p + (sepT j).size))) (hv2 : byteAt s (p + (sepT j).size) ≠ 44 ∧ byteAt s (p + (sepT j).size) ≠ 125) (hl : stk.length ≤ 1000000) : Leads s p p stk (plainT 206) (p + (sepT j).size) (p + (sepT j).size) (stk ++ [207]) (plainT 174) := by
 obtain ⟨v1, v2, v3⟩ := hv; have go : Leads s (p + (sepT j).size) (p + (sepT j).size) stk (plainT 214) (p + (sepT j).size) (p + (sepT j).size) (stk ++ [207]) (plainT 174) := ld_mv_other hlt hl v1 hv2.1 hv2.2
 match j, hj with
 | 0, _ =>
  have hle : p + 3 < s.size := hlt
  have b0 : byteAt s p = 32 := h.at 0 (by decide)
  have b1 : byteAt s (p + 1) = 61 := h.at 1 (by decide)
  have b2 : byteAt s (p + 2) = 32 := h.at 2 (by decide)
  exact ((((ld_mke_sp (by omega) (by rw [b0]; rfl)).trans (ld_skip 206)).trans ((ld_mke_sep (by omega) (by rw [b1]; rfl) (by rw [b1]; rfl)).trans (ld_skip 214))).trans ((ld_mv_sp (by omega) (by rw [show p + 1 + 1 = p + 2 from rfl, b2]; rfl)).trans (ld_skip 214))).trans go
 | 1, _ =>
  have hle : p + 1 < s.size := hlt
  have b0 : byteAt s p = 61 := h.at 0 (by decide)
  exact ((ld_mke_sep (by omega) (by rw [b0]; rfl) (by rw [b0]; rfl)).trans (ld_skip 214)).trans go
 | 2, _ =>
  have hle : p + 2 < s.size := hlt
  have b0 : byteAt s p = 58 := h.at 0 (by decide)
  have b1 : byteAt s (p + 1) = 32 := h.at 1 (by decide)
  exact (((ld_mke_sep (by omega) (by rw [b0]; rfl) (by rw [b0]; rfl)).trans (ld_skip 214)).trans ((ld_mv_sp (by omega) (by rw [b1]; rfl)).trans (ld_skip 214))).trans go
 | 3, _ =>
  have hle : p + 1 < s.size := hlt
  have b0 : byteAt s p = 58 := h.at 0 (by decide)
  exact ((ld_mke_sep (by omega) (by rw [b0]; rfl) (by rw [b0]; rfl)).trans (ld_skip 214)).trans go
 | 4, _ =>
  have hle : p + 1 < s.size := hlt
  have b0 : byteAt s p = 32 := h.at 0 (by decide)
  exact (((ld_mke_sp (by omega) (by rw [b0]; rfl)).trans (ld_skip 206)).trans (ld_mke_other hle v1 v2)).trans go
 | 5, _ =>
  have hle : p + 3 < s.size := hlt
  have b0 : byteAt s p = 32 := h.at 0 (by decide)
  have b1 : byteAt s (p + 1) = 32 := h.at 1 (by decide)
  have b2 : byteAt s (p + 2) = 32 := h.at 2 (by decide)
  exact ((((ld_mke_sp (by omega) (by rw [b0]; rfl)).trans (ld_skip 206)).trans ((ld_mke_sp (by omega) (by rw [b1]; rfl)).trans (ld_skip 206))).trans (((ld_mke_sp (by omega) (by rw [show p + 1 + 1 = p + 2 from rfl, b2]; rfl)).trans (ld_skip 206)).trans (ld_mke_other hle v1 v2))).trans go
theorem fd_keyG {S E : Nat} {k Kt : ByteArray} (tokey : ∀ p, p < s.size → isSp (byteAt s p) = false → byteAt s p ≠ 123 → byteAt s p ≠ 35 → byteAt s p ≠ 47 → byteAt s p ≠ 0 → byteAt s p ≠ 125 → Leads s p p stk (plainT S) p p (stk ++ [E]) (plainT 95)) (hK : K.ped = false) (hsp : KeySp k Kt) (hkw : noKw k) (j : Nat) (hj : j < 6) (h : Has s p (Kt ++ sepT j)) (hlt : p + (Kt.size + (sepT j).size) < s.size) (hv : vsB (byteAt s (p + (Kt.size + (sepT j).size)))) (hlk : ks.length ≤ 1000000)
  (rest : Fd K s (p + (Kt.size + (sepT j).size)) (p + (Kt.size + (sepT j).size)) (stk ++ [E]) (plainT 174) cx (ks ++ [k]) 3 fin) : Fd K s p p stk (plainT S) cx ks pt fin := by
 have hK1 := h.left; have hS := h.right; rw [← Nat.add_assoc] at hlt hv rest; have hwk : ∀ (L : LX) (x : It), x.typ = 3 → x.val = k → Works K ⟨L, cx, ks⟩ x ⟨L, cx, ks ++ [k]⟩ := fun L x h1 h2 => by
  have := works_key (cx := cx) (ks := ks) hK L x h1 hlk
  rwa [h2] at this
 have hsf := sep_first j hj; have hls := ld_sep (stk := stk ++ [E]) j hj hS hlt hv
 cases hsp with
 | dq hP =>
  have h0 := hK1.left.left; have ht : Has s (p + 1) k := hK1.left.right
  have he := hK1.right; have hz : ((⟨#[34]⟩ : ByteArray) ++ k).size = k.size + 1 := by rw [bsa]; show 1 + k.size = _; omega
  have hz2 : ((⟨#[34]⟩ : ByteArray) ++ k ++ ⟨#[34]⟩).size = k.size + 2 := by rw [bsa, hz]; rfl
  rw [hz] at he; rw [hz2] at hlt hls rest; have e0 : byteAt s p = 34 := h0.at 0 (by decide)
  have e1 : byteAt s (p + (k.size + 1)) = 34 := he.at 0 (by decide)
  have l0 : Leads s p p stk (plainT S) p p (stk ++ [E]) (plainT 95) := tokey p (by omega) (by rw [e0]; rfl) (by rw [e0]; decide) (by rw [e0]; decide) (by rw [e0]; decide) (by rw [e0]; decide) (by rw [e0]; decide)
  have l1 : Leads s p p (stk ++ [E]) (plainT 95) (p + 1) (p + 1) (stk ++ [E]) (plainT 137) := (ld_ks_dq (by omega) e0).trans (ld_skip 137)
  have l2 := leads_run (s := s) (p := p + 1) (st := p + 1) (stk := stk ++ [E]) (f := 137) (Q := fun c => c ≠ 34 ∧ c ≠ 0) (fun p hp hq => ld_dqk_ch hp hq.1 hq.2) k.size (by omega) (fun i hi => by
   rw [ht.at i hi]; have hq := hP i hi; have h34 := hq.2.2 0 (by decide)
   rw [show byteAt q4 0 = 34 from rfl] at h34
   exact ⟨h34, by omega⟩)
  have E := ld_dqk_end (s := s) (p := p + 1 + k.size) (st := p + 1) (stk := stk ++ [E]) (by omega) (by omega) (by rw [show p + 1 + k.size = p + (k.size + 1) from by omega]; exact e1)
  rw [ht.ext] at E; refine Fd.lead (l0.trans (l1.trans l2)) (Fd.step E (by decide) (fun L x h1 h2 _ => hwk L x h1 h2) (Fd.lead ((ld_skip 163).trans ?_) rest))
  rw [show p + 1 + k.size + 1 = p + (k.size + 2) from by omega]
  exact hls
 | sq hP =>
  have h0 := hK1.left.left; have ht : Has s (p + 1) k := hK1.left.right
  have he := hK1.right; have hz : ((⟨#[39]⟩ : ByteArray) ++ k).size = k.size + 1 := by rw [bsa]; show 1 + k.size = _; omega
  have hz2 : ((⟨#[39]⟩ : ByteArray) ++ k ++ ⟨#[39]⟩).size = k.size + 2 := by rw [bsa, hz]; rfl
  rw [hz] at he; rw [hz2] at hlt hls rest; have e0 : byteAt s p = 39 := h0.at 0 (by decide)
  have e1 : byteAt s (p + (k.size + 1)) = 39 := he.at 0 (by decide)
  have l0 : Leads s p p stk (plainT S) p p (stk ++ [E]) (plainT 95) := tokey p (by omega) (by rw [e0]; rfl) (by rw [e0]; decide) (by rw [e0]; decide) (by rw [e0]; decide) (by rw [e0]; decide) (by rw [e0]; decide)
  have l1 : Leads s p p (stk ++ [E]) (plainT 95) (p + 1) (p + 1) (stk ++ [E]) (plainT 138) := (ld_ks_sq (by omega) e0).trans (ld_skip 138)
  have l2 := leads_run (s := s) (p := p + 1) (st := p + 1) (stk := stk ++ [E]) (f := 138) (Q := fun c => c ≠ 39 ∧ c ≠ 0) (fun p hp hq => ld_sqk_ch hp hq.1 hq.2) k.size (by omega) (fun i hi => by
   rw [ht.at i hi]; have hq := hP i hi; have h39 := hq.2.2 3 (by decide)
   rw [show byteAt q4 3 = 39 from rfl] at h39
   exact ⟨h39, by omega⟩)
  have E := ld_sqk_end (s := s) (p := p + 1 + k.size) (st := p + 1) (stk := stk ++ [E]) (by omega) (by omega) (by rw [show p + 1 + k.size = p + (k.size + 1) from by omega]; exact e1)
  rw [ht.ext] at E; refine Fd.lead (l0.trans (l1.trans l2)) (Fd.step E (by decide) (fun L x h1 h2 _ => hwk L x h1 h2) (Fd.lead ((ld_skip 163).trans ?_) rest))
  rw [show p + 1 + k.size + 1 = p + (k.size + 2) from by omega]
  exact hls
 | bare hB =>
  have hpos := hB.pos; have e0 : byteAt s p = byteAt k 0 := hK1.at 0 hpos
  have hl0 : letB (byteAt k 0) := by
   rcases hB.bytes 0 hpos with h | h
   ·exact h
   ·exact absurd rfl h.1
  have hcls : ∀ c, letB c ∨ goodB c → isSp c = false ∧ isSep c = false ∧ c ≠ 0 := fun c hc => by
   unfold letB goodB at hc; refine ⟨?_, ?_, by omega⟩
   ·simp [isSp]; omega
   ·simp [isSep]; omega
  have hc0 := hcls _ (.inl hl0)
  have hne : byteAt k 0 ≠ 123 ∧ byteAt k 0 ≠ 35 ∧ byteAt k 0 ≠ 47 ∧ byteAt k 0 ≠ 34 ∧ byteAt k 0 ≠ 39 ∧ byteAt k 0 ≠ 125 := by unfold letB at hl0; omega
  have l0 : Leads s p p stk (plainT S) p p (stk ++ [E]) (plainT 95) := tokey p (by omega) (by rw [e0]; exact hc0.1) (by rw [e0]; exact hne.1) (by rw [e0]; exact hne.2.1) (by rw [e0]; exact hne.2.2.1) (by rw [e0]; exact hc0.2.2) (by rw [e0]; exact hne.2.2.2.2.2)
  have l1 : Leads s p p (stk ++ [E]) (plainT 95) (p + 1) p (stk ++ [E]) (plainT 139) := ld_ks_key (by omega) (by rw [e0]; exact hc0.2.1) (by rw [e0]; exact hc0.1) (by rw [e0]; exact hne.2.2.2.1) (by rw [e0]; exact hne.2.2.2.2.1)
  have l2 := leads_run (s := s) (p := p + 1) (st := p) (stk := stk ++ [E]) (f := 139) (Q := fun c => isSp c = false ∧ isSep c = false ∧ c ≠ 0) (fun p hp hq => ld_key_more hp hq.1 hq.2.1 hq.2.2) (k.size - 1) (by omega) (fun i hi => by
   rw [show p + 1 + i = p + (i + 1) from by omega, hK1.at (i + 1) (by omega)]
   rcases hB.bytes (i + 1) (by omega) with h | h
   ·exact hcls _ (.inl h)
   ·exact hcls _ (.inr h.2))
  rw [show p + 1 + (k.size - 1) = p + k.size from by omega] at l2
  have es := hS.at 0 hsf.1; rw [Nat.add_zero] at es; have hx := hK1.ext; refine Fd.lead (l0.trans (l1.trans l2)) ?_
  rcases hsf.2 with h1 | ⟨h1, h2⟩
  ·have E := ld_key_sp (s := s) (p := p + k.size) (st := p) (stk := stk ++ [E]) (by omega) (by omega) (by rw [es]; exact h1) (by rw [hx]; exact hkw)
   rw [hx] at E; exact Fd.step E (by decide) (fun L x h1 h2 _ => hwk L x h1 h2) (Fd.lead hls rest)
  ·have E := ld_key_sep (s := s) (p := p + k.size) (st := p) (stk := stk ++ [E]) (by omega) (by omega) (by rw [es]; exact h1) (by rw [es]; exact h2)
   rw [hx] at E; exact Fd.step E (by decide) (fun L x h1 h2 _ => hwk L x h1 h2) (Fd.lead hls rest)
theorem fd_keyM {k Kt : ByteArray} (hK : K.ped = false) (hsp : KeySp k Kt) (hkw : noKw k) (j : Nat) (hj : j < 6) (h : Has s p (Kt ++ sepT j)) (hlt : p + (Kt.size + (sepT j).size) < s.size) (hv : vsB (byteAt s (p + (Kt.size + (sepT j).size)))) (hv2 : byteAt s (p + (Kt.size + (sepT j).size)) ≠ 44 ∧ byteAt s (p + (Kt.size + (sepT j).size)) ≠ 125) (hl : stk.length ≤ 900000) (hlk : ks.length ≤ 1000000)
  (rest : Fd K s (p + (Kt.size + (sepT j).size)) (p + (Kt.size + (sepT j).size)) (stk ++ [207]) (plainT 174) cx (ks ++ [k]) 3 fin) : Fd K s p p stk (plainT 181) cx ks pt fin := by
 have hK1 := h.left; have hS := h.right; rw [← Nat.add_assoc] at hlt hv hv2 rest; have hwk : ∀ (L : LX) (x : It), x.typ = 3 → x.val = k → Works K ⟨L, cx, ks⟩ x ⟨L, cx, ks ++ [k]⟩ := fun L x h1 h2 => by
  have := works_key (cx := cx) (ks := ks) hK L x h1 hlk
  rwa [h2] at this
 have hsf := sep_first j hj; have hls := ld_sepM (stk := stk) j hj hS hlt hv hv2 (by omega)
 cases hsp with
 | dq hP =>
  have h0 := hK1.left.left; have ht : Has s (p + 1) k := hK1.left.right
  have he := hK1.right; have hz : ((⟨#[34]⟩ : ByteArray) ++ k).size = k.size + 1 := by rw [bsa]; show 1 + k.size = _; omega
  have hz2 : ((⟨#[34]⟩ : ByteArray) ++ k ++ ⟨#[34]⟩).size = k.size + 2 := by rw [bsa, hz]; rfl
  rw [hz] at he; rw [hz2] at hlt hls rest; have e0 : byteAt s p = 34 := h0.at 0 (by decide)
  have e1 : byteAt s (p + (k.size + 1)) = 34 := he.at 0 (by decide)
  have l1 : Leads s p p stk (plainT 181) (p + 1) (p + 1) stk (plainT 193) := (ld_mks_dq (by omega) e0).trans (ld_skip 193)
  have l2 := leads_run (s := s) (p := p + 1) (st := p + 1) (stk := stk) (f := 193) (Q := fun c => c ≠ 34 ∧ c ≠ 0) (fun p hp hq => ld_mdqk_ch hp hq.1 hq.2) k.size (by omega) (fun i hi => by
   rw [ht.at i hi]; have hq := hP i hi; have h34 := hq.2.2 0 (by decide)
   rw [show byteAt q4 0 = 34 from rfl] at h34
   exact ⟨h34, by omega⟩)
  have E := ld_mdqk_end (s := s) (p := p + 1 + k.size) (st := p + 1) (stk := stk) (by omega) (by omega) (by rw [show p + 1 + k.size = p + (k.size + 1) from by omega]; exact e1)
  rw [ht.ext] at E; refine Fd.lead (l1.trans l2) (Fd.step E (by decide) (fun L x h1 h2 _ => hwk L x h1 h2) (Fd.lead ((ld_skip 206).trans ?_) rest))
  rw [show p + 1 + k.size + 1 = p + (k.size + 2) from by omega]
  exact hls
 | sq hP =>
  have h0 := hK1.left.left; have ht : Has s (p + 1) k := hK1.left.right
  have he := hK1.right; have hz : ((⟨#[39]⟩ : ByteArray) ++ k).size = k.size + 1 := by rw [bsa]; show 1 + k.size = _; omega
  have hz2 : ((⟨#[39]⟩ : ByteArray) ++ k ++ ⟨#[39]⟩).size = k.size + 2 := by rw [bsa, hz]; rfl
  rw [hz] at he; rw [hz2] at hlt hls rest; have e0 : byteAt s p = 39 := h0.at 0 (by decide)
  have e1 : byteAt s (p + (k.size + 1)) = 39 := he.at 0 (by decide)
  have l1 : Leads s p p stk (plainT 181) (p + 1) (p + 1) stk (plainT 192) := (ld_mks_sq (by omega) e0).trans (ld_skip 192)
  have l2 := leads_run (s := s) (p := p + 1) (st := p + 1) (stk := stk) (f := 192) (Q := fun c => c ≠ 39 ∧ c ≠ 0) (fun p hp hq => ld_msqk_ch hp hq.1 hq.2) k.size (by omega) (fun i hi => by
   rw [ht.at i hi]; have hq := hP i hi; have h39 := hq.2.2 3 (by decide)
   rw [show byteAt q4 3 = 39 from rfl] at h39
   exact ⟨h39, by omega⟩)
  have E := ld_msqk_end (s := s) (p := p + 1 + k.size) (st := p + 1) (stk := stk) (by omega) (by omega) (by rw [show p + 1 + k.size = p + (k.size + 1) from by omega]; exact e1)
  rw [ht.ext] at E; refine Fd.lead (l1.trans l2) (Fd.step E (by decide) (fun L x h1 h2 _ => hwk L x h1 h2) (Fd.lead ((ld_skip 206).trans ?_) rest))
  rw [show p + 1 + k.size + 1 = p + (k.size + 2) from by omega]
  exact hls
 | bare hB =>
  have hpos := hB.pos; have e0 : byteAt s p = byteAt k 0 := hK1.at 0 hpos
  have hl0 : letB (byteAt k 0) := by
   rcases hB.bytes 0 hpos with h | h
   ·exact h
   ·exact absurd rfl h.1
  have hcls : ∀ c, letB c ∨ goodB c → isSp c = false ∧ isSep c = false ∧ c ≠ 0 := fun c hc => by
   unfold letB goodB at hc; refine ⟨?_, ?_, by omega⟩
   ·simp [isSp]; omega
   ·simp [isSep]; omega
  have hc0 := hcls _ (.inl hl0)
  have hne : byteAt k 0 ≠ 123 ∧ byteAt k 0 ≠ 35 ∧ byteAt k 0 ≠ 47 ∧ byteAt k 0 ≠ 34 ∧ byteAt k 0 ≠ 39 ∧ byteAt k 0 ≠ 93 ∧ byteAt k 0 ≠ 125 := by unfold letB at hl0; omega
  have l1 : Leads s p p stk (plainT 181) (p + 1) p stk (plainT 194) := ld_mks_key (by omega) (by rw [e0]; exact hc0.2.1) (by rw [e0]; exact hc0.1) (by rw [e0]; exact hc0.2.2) (by rw [e0]; exact hne.2.2.2.2.2.1) (by rw [e0]; exact hne.2.2.2.2.2.2) (by rw [e0]; exact hne.2.1) (by rw [e0]; exact hne.2.2.1) (by rw [e0]; exact hne.2.2.2.2.1) (by rw [e0]; exact hne.2.2.2.1)
  have l2 := leads_run (s := s) (p := p + 1) (st := p) (stk := stk) (f := 194) (Q := fun c => isSp c = false ∧ isSep c = false ∧ c ≠ 0) (fun p hp hq => ld_mk_more hp hq.1 hq.2.1 hq.2.2) (k.size - 1) (by omega) (fun i hi => by
   rw [show p + 1 + i = p + (i + 1) from by omega, hK1.at (i + 1) (by omega)]
   rcases hB.bytes (i + 1) (by omega) with h | h
   ·exact hcls _ (.inl h)
   ·exact hcls _ (.inr h.2))
  rw [show p + 1 + (k.size - 1) = p + k.size from by omega] at l2
  have es := hS.at 0 hsf.1; rw [Nat.add_zero] at es; have hx := hK1.ext; have hsf0 : byteAt (sepT j) 0 ≠ 0 := by
   match j, hj with
   | 0, _ | 1, _ | 2, _ | 3, _ | 4, _ | 5, _ => decide
  refine Fd.lead (l1.trans l2) ?_
  rcases hsf.2 with h1 | ⟨h1, h2⟩
  ·have E := ld_mk_sp (s := s) (p := p + k.size) (st := p) (stk := stk) (by omega) (by omega) (by rw [es]; exact h1) (by rw [hx]; exact hkw) (by rw [es]; exact hsf0)
   rw [hx] at E; exact Fd.step E (by decide) (fun L x h1 h2 _ => hwk L x h1 h2) (Fd.lead hls rest)
  ·have E := ld_mk_sep (s := s) (p := p + k.size) (st := p) (stk := stk) (by omega) (by omega) (by rw [es]; exact h1) (by rw [es]; exact h2) (by rw [es]; exact hsf0)
   rw [hx] at E; exact Fd.step E (by decide) (fun L x h1 h2 _ => hwk L x h1 h2) (Fd.lead hls rest)
end
structure Mode (K : PK) (S E : Nat) (sk : List Nat) : Prop where
 len : sk.length ≤ 800000
 sp : ∀ (s : ByteArray) (p st : Nat), p < s.size → isSp (byteAt s p) = true → Leads s p st sk (plainT S) (p + 1) (p + 1) sk (plainT S)
 hash : ∀ (s : ByteArray) (p st : Nat), p < s.size → byteAt s p = 35 → Leads s p st sk (plainT S) (p + 1) st (sk ++ [S]) (plainT 90)
 slash : ∀ (s : ByteArray) (p st : Nat), p + 1 < s.size → byteAt s p = 47 → byteAt s (p + 1) = 47 → Leads s p st sk (plainT S) (p + 1 + 1) st (sk ++ [S]) (plainT 90)
 nl : ∀ (s : ByteArray) (p st : Nat), p < s.size → byteAt s p = 10 → Leads s p st sk (plainT E) (p + 1) (p + 1) sk (plainT S)
 semi : ∀ (s : ByteArray) (p st : Nat), p < s.size → byteAt s p = 59 → Leads s p st sk (plainT E) (p + 1) (p + 1) sk (plainT S)
 comma : ∀ (s : ByteArray) (p st : Nat), p < s.size → byteAt s p = 44 → Leads s p st sk (plainT E) (p + 1) (p + 1) sk (plainT S)
 ws : ∀ (s : ByteArray) (p : Nat), p < s.size → byteAt s p = 32 → ∃ st', st' ≤ p + 1 ∧ Leads s p p sk (plainT E) (p + 1) st' sk (plainT E)
 ecmt : ∃ n, (n = S ∨ n = E) ∧ (∀ (s : ByteArray) (p st : Nat), p < s.size → byteAt s p = 35 → Leads s p st sk (plainT E) (p + 1) st (sk ++ [n]) (plainT 90)) ∧
  (∀ (s : ByteArray) (p st : Nat), p + 1 < s.size → byteAt s p = 47 → byteAt s (p + 1) = 47 → Leads s p st sk (plainT E) (p + 1 + 1) st (sk ++ [n]) (plainT 90))
 key : ∀ (s : ByteArray) (p : Nat) (cx fin : List CJ) (ks : List ByteArray) (pt : Nat) (k Kt : ByteArray) (j : Nat), KeySp k Kt → noKw k → j < 6 → Has s p (Kt ++ sepT j) → p + (Kt.size + (sepT j).size) < s.size → vsB (byteAt s (p + (Kt.size + (sepT j).size))) →
  (byteAt s (p + (Kt.size + (sepT j).size)) ≠ 44 ∧ byteAt s (p + (Kt.size + (sepT j).size)) ≠ 125) → ks.length ≤ 1000000 → Fd K s (p + (Kt.size + (sepT j).size)) (p + (Kt.size + (sepT j).size)) (sk ++ [E]) (plainT 174) cx (ks ++ [k]) 3 fin → Fd K s p p sk (plainT S) cx ks pt fin
theorem mode_top {K : PK} (hK : K.ped = false) : Mode K 60 94 [] where
 len := by simp
 sp := fun s p st hp e => (ld_top_sp hp e).trans (ld_skip 60)
 hash := fun s p st hp e => ld_top_hash hp (by simp) e
 slash := fun s p st hp e e2 => ld_top_slash hp (by simp) e e2
 nl := fun s p st hp e => ld_tve_nl hp e
 semi := fun s p st hp e => ld_tve_semi hp e
 comma := fun s p st hp e => ld_tve_comma hp e
 ws := fun s p hp e => ⟨p, by omega, ld_tve_ws hp (by rw [e]; rfl) (by rw [e]; decide) (by rw [e]; decide)⟩
 ecmt := ⟨60, .inl rfl, fun s p st hp e => ld_tve_hash hp (by simp) e, fun s p st hp e e2 => ld_tve_slash hp (by simp) e e2⟩
 key := fun s p cx fin ks pt k Kt j h1 h2 h3 h4 h5 h6 _ h8 rest => fd_keyG (fun p hp a b c d e f => ld_top_key hp (by simp) a b c d e) hK h1 h2 j h3 h4 h5 h6 h8 rest
theorem mode_blk {K : PK} (hK : K.ped = false) : Mode K 89 129 [60] where
 len := by simp
 sp := fun s p st hp e => (ld_bs_sp hp e).trans (ld_skip 89)
 hash := fun s p st hp e => ld_bs_hash hp (by simp) e
 slash := fun s p st hp e e2 => ld_bs_slash hp (by simp) e e2
 nl := fun s p st hp e => ld_bve_nl hp e
 semi := fun s p st hp e => ld_bve_semi hp e
 comma := fun s p st hp e => ld_bve_comma hp e
 ws := fun s p hp e => ⟨p, by omega, ld_bve_ws hp (by rw [e]; rfl) (by rw [e]; decide) (by rw [e]; decide)⟩
 ecmt := ⟨129, .inr rfl, fun s p st hp e => ld_bve_hash hp (by simp) e, fun s p st hp e e2 => ld_bve_slash hp (by simp) e e2⟩
 key := fun s p cx fin ks pt k Kt j h1 h2 h3 h4 h5 h6 _ h8 rest => fd_keyG (fun p hp a b c d e f => ld_bs_key hp (by simp) a b c d e f) hK h1 h2 j h3 h4 h5 h6 h8 rest
theorem mode_map {K : PK} (hK : K.ped = false) (sk : List Nat) (hl : sk.length ≤ 800000) : Mode K 181 207 sk where
 len := hl
 sp := fun s p st hp e => (ld_mks_sp hp e (isSp_not e).1 (isSp_not e).2).trans (ld_skip 181)
 hash := fun s p st hp e => ld_mks_hash hp (by omega) e
 slash := fun s p st hp e e2 => ld_mks_slash hp (by omega) e e2
 nl := fun s p st hp e => (ld_mve_nl hp e).trans (ld_skip 181)
 semi := fun s p st hp e => (ld_mve_semi hp e).trans (ld_skip 181)
 comma := fun s p st hp e => (ld_mve_comma hp e).trans (ld_skip 181)
 ws := fun s p hp e => ⟨p + 1, by omega, (ld_mve_ws hp (by rw [e]; rfl)).trans (ld_skip 207)⟩
 ecmt := ⟨207, .inr rfl, fun s p st hp e => ld_mve_hash hp (by omega) e, fun s p st hp e e2 => ld_mve_slash hp (by omega) e e2⟩
 key := fun s p cx fin ks pt k Kt j h1 h2 h3 h4 h5 h6 h7 h8 rest => fd_keyM hK h1 h2 j h3 h4 h5 h6 h7 (by omega) h8 rest
section
variable {K : PK} {S E : Nat} {s : ByteArray} {p st : Nat} {sk : List Nat} {cx fin : List CJ} {ks : List ByteArray} {pt : Nat}
theorem Mode.fsp (M : Mode K S E sk) (hp : p < s.size) (e : isSp (byteAt s p) = true) (rest : Fd K s (p + 1) (p + 1) sk (plainT S) cx ks pt fin) : Fd K s p st sk (plainT S) cx ks pt fin := Fd.lead (M.sp s p st hp e) rest
theorem Mode.blank (M : Mode K S E sk) (k : Nat) (h : Has s p (blankT k)) (hpt : pt ≠ 3) (rest : ∀ pt', pt' ≠ 3 → Fd K s (p + (blankT k).size) (p + (blankT k).size) sk (plainT S) cx ks pt' fin) : Fd K s p p sk (plainT S) cx ks pt fin := by
 have hl := M.len
 match k with
 | 0 => exact rest _ hpt
 | 1 =>
  have b0 : byteAt s p = 32 := h.at 0 (by decide)
  have b1 : byteAt s (p + 1) = 32 := h.at 1 (by decide)
  have hle : p + 2 ≤ s.size := h.le
  exact M.fsp (by omega) (by rw [b0]; rfl) (M.fsp (by omega) (by rw [b1]; rfl) (rest _ hpt))
 | 2 =>
  have hle : p + 16 ≤ s.size := h.le
  have b0 : byteAt s p = 35 := h.at 0 (by decide)
  have b15 : byteAt s (p + 15) = 10 := h.at 15 (by decide)
  refine Fd.lead (M.hash s p p (by omega) b0) (fd_cmt 14 (by omega) (by omega) (fun i hi => ?_) (by rw [show p + 1 + 14 = p + 15 from rfl]; exact b15) (by omega) (M.fsp (by omega) (by rw [show p + 1 + 14 = p + 15 from rfl, b15]; rfl) (rest 4 (by decide))))
  rw [show p + 1 + i = p + (i + 1) from by omega, h.at (i + 1) (show i + 1 < 16 by omega)]
  exact (show ∀ i, i < 14 → isNLb (byteAt (blankT 2) (i + 1)) = false ∧ byteAt (blankT 2) (i + 1) ≠ 0 by decide) i hi
 | 3 =>
  have hle : p + 12 ≤ s.size := h.le
  have b0 : byteAt s p = 47 := h.at 0 (by decide)
  have b1 : byteAt s (p + 1) = 47 := h.at 1 (by decide)
  have b10 : byteAt s (p + 10) = 10 := h.at 10 (by decide)
  have b11 : byteAt s (p + 11) = 9 := h.at 11 (by decide)
  refine Fd.lead (M.slash s p p (by omega) b0 b1) (fd_cmt 8 (by omega) (by omega) (fun i hi => ?_) (by rw [show p + 1 + 1 + 8 = p + 10 from rfl]; exact b10) (by omega) (M.fsp (by omega) (by rw [show p + 1 + 1 + 8 = p + 10 from rfl, b10]; rfl) (M.fsp (by omega) (by rw [show p + 1 + 1 + 8 + 1 = p + 11 from rfl, b11]; rfl) (rest 4 (by decide)))))
  rw [show p + 1 + 1 + i = p + (i + 2) from by omega, h.at (i + 2) (show i + 2 < 12 by omega)]
  exact (show ∀ i, i < 8 → isNLb (byteAt (blankT 3) (i + 2)) = false ∧ byteAt (blankT 3) (i + 2) ≠ 0 by decide) i hi
 | 4 =>
  have hle : p + 1 ≤ s.size := h.le
  have b0 : byteAt s p = 10 := h.at 0 (by decide)
  exact M.fsp (by omega) (by rw [b0]; rfl) (rest _ hpt)
 | k + 5 => exact rest _ hpt
theorem Mode.behind (M : Mode K S E sk) {n : Nat} (hn : n = S ∨ n = E) (hp : p < s.size) (e : byteAt s p = 10) (rest : Fd K s (p + 1) (p + 1) sk (plainT S) cx ks pt fin) : Fd K s p st sk (plainT n) cx ks pt fin := by
 rcases hn with rfl | rfl
 ·exact M.fsp hp (by rw [e]; rfl) rest
 ·exact Fd.lead (M.nl s p st hp e) rest
theorem Mode.ends (M : Mode K S E sk) (e : Nat) (he : e < 7) (h : Has s p (endR e)) (hpt : pt ≠ 3) (rest : ∀ pt', pt' ≠ 3 → Fd K s (p + (endR e).size) (p + (endR e).size) sk (plainT S) cx ks pt' fin) : Fd K s p p sk (plainT E) cx ks pt fin := by
 have hl := M.len
 match e, he with
 | 0, _ =>
  have hle : p + 1 ≤ s.size := h.le
  have b0 : byteAt s p = 10 := h.at 0 (by decide)
  exact Fd.lead (M.nl s p p (by omega) b0) (rest _ hpt)
 | 1, _ =>
  have hle : p + 2 ≤ s.size := h.le
  have b0 : byteAt s p = 59 := h.at 0 (by decide)
  have b1 : byteAt s (p + 1) = 10 := h.at 1 (by decide)
  exact Fd.lead (M.semi s p p (by omega) b0) (M.fsp (by omega) (by rw [b1]; rfl) (rest _ hpt))
 | 2, _ =>
  have hle : p + 7 ≤ s.size := h.le
  have b0 : byteAt s p = 32 := h.at 0 (by decide)
  have b1 : byteAt s (p + 1) = 35 := h.at 1 (by decide)
  have b6 : byteAt s (p + 6) = 10 := h.at 6 (by decide)
  obtain ⟨st', hst', l1⟩ := M.ws s p (by omega) b0
  obtain ⟨n, hn, l2, _⟩ := M.ecmt; refine Fd.lead (l1.trans (l2 s (p + 1) st' (by omega) b1)) (fd_cmt 4 (by omega) (by omega) (fun i hi => ?_) (by rw [show p + 1 + 1 + 4 = p + 6 from rfl]; exact b6) (by omega) (M.behind hn (by omega) (by rw [show p + 1 + 1 + 4 = p + 6 from rfl]; exact b6) (rest 4 (by decide))))
  rw [show p + 1 + 1 + i = p + (i + 2) from by omega, h.at (i + 2) (show i + 2 < 7 by omega)]
  exact (show ∀ i, i < 4 → isNLb (byteAt (endR 2) (i + 2)) = false ∧ byteAt (endR 2) (i + 2) ≠ 0 by decide) i hi
 | 3, _ =>
  have hle : p + 2 ≤ s.size := h.le
  have b0 : byteAt s p = 10 := h.at 0 (by decide)
  have b1 : byteAt s (p + 1) = 10 := h.at 1 (by decide)
  exact Fd.lead (M.nl s p p (by omega) b0) (M.fsp (by omega) (by rw [b1]; rfl) (rest _ hpt))
 | 4, _ =>
  have hle : p + 8 ≤ s.size := h.le
  have b0 : byteAt s p = 32 := h.at 0 (by decide)
  have b1 : byteAt s (p + 1) = 47 := h.at 1 (by decide)
  have b2 : byteAt s (p + 1 + 1) = 47 := h.at 2 (by decide)
  have b7 : byteAt s (p + 7) = 10 := h.at 7 (by decide)
  obtain ⟨st', hst', l1⟩ := M.ws s p (by omega) b0
  obtain ⟨n, hn, _, l2⟩ := M.ecmt; refine Fd.lead (l1.trans (l2 s (p + 1) st' (by omega) b1 b2)) (fd_cmt 4 (by omega) (by omega) (fun i hi => ?_) (by rw [show p + 1 + 1 + 1 + 4 = p + 7 from rfl]; exact b7) (by omega) (M.behind hn (by omega) (by rw [show p + 1 + 1 + 1 + 4 = p + 7 from rfl]; exact b7) (rest 4 (by decide))))
  rw [show p + 1 + 1 + 1 + i = p + (i + 3) from by omega, h.at (i + 3) (show i + 3 < 8 by omega)]
  exact (show ∀ i, i < 4 → isNLb (byteAt (endR 4) (i + 3)) = false ∧ byteAt (endR 4) (i + 3) ≠ 0 by decide) i hi
 | 5, _ =>
  have hle : p + 1 ≤ s.size := h.le
  have b0 : byteAt s p = 59 := h.at 0 (by decide)
  exact Fd.lead (M.semi s p p (by omega) b0) (rest _ hpt)
 | 6, _ =>
  have hle : p + 1 ≤ s.size := h.le
  have b0 : byteAt s p = 44 := h.at 0 (by decide)
  exact Fd.lead (M.comma s p p (by omega) b0) (rest _ hpt)
end
end Go.Cf
