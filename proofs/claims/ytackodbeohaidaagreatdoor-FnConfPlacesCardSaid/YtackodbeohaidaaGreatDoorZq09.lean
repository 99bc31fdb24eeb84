/-
  Texts joined: Lz Rv Rq V7 V6 Wj.
-/
import Derived.Test.YtackodbeohaidaaGreatDoorZq05
import Derived.Test.YtackodbeohaidaaGreatDoorZq06
import Derived.Test.YtackodbeohaidaaGreatDoorZq07
import Derived.Test.YtackodbeohaidaaGreatDoorZq08
namespace Go.Cf
open Go.RowKit Go.Conc Go.Proofs
section
variable {L:LX}
theorem str_nl (ok:L.Ok) (rdy:L.Rdy) (st:List Nat) (n:Nat) (hst:L.stack=st ++ [n]) (hl:st.length≤1000000) (hb:boolWord L.pk.txt=false) (hv:L.pk.start < L.pk.inp.size→byteAt L.pk.inp L.pk.start ≠ 36) (hc:L.chr=10):Goes1 187 L ((L.pk.emit 5 L.pk.txt).stk st) (plainT n):=by
 have e_92_639:(((L.chr:Nat):Int) == 92)=false:=bqf (by omega);have e_nl:isNLb L.chr=true:=by rw [hc];rfl
 have HB:=Lib.hid hb;have HV:=Lib.hid hv;clear hc hb hv;intro base S0 w0 w b h0;go_enter Tryz.func187,Tryz.ntmps187;go_wp2_with fail;refine (next_c h0 ok).mono ?_;rintro e w1 ⟨rfl,h1⟩;go_wp2_with fail;refine (isNLb_c _ (chr_lt ok) _).mono ?_;rintro e w' ⟨rfl,rfl⟩;go_wp2_with fail;refine (back_c h1 ok.nxt (nxt_width _)).mono ?_;rintro e w2 ⟨rfl,h2⟩;rw [nxt_back] at h2;go_wp2_with fail;refine (hasEsc_c h2 (by simpa [pk_parts] using rdy.parts)).mono ?_;rintro e w3 ⟨rfl,h3⟩;go_wp2_with fail;refine (isBool_c h3 ok.pk ⟨(by simpa [pk_parts] using rdy.parts),(by have:=rdy.start;simp only [pk_start,pk_pos];omega),(by simpa [pk_q] using rdy.q)⟩ HB.out).mono ?_;rintro e w4 ⟨rfl,h4⟩;go_wp2_with fail;refine (isVar_no h4 ok.pk HV.out).mono ?_;rintro e w5 ⟨rfl,h5⟩;go_wp2_with fail;refine (emitString_c h5 ok.pk (by simpa [pk_parts] using rdy.parts) (by have:=rdy.start;simp only [pk_start,pk_pos];omega) (by simpa [pk_q] using rdy.q)).mono ?_;rintro e w6 ⟨rfl,h6⟩;go_wp2_with fail;refine (pop_c st n h6 (by show L.pk.stack=_;rw [pk_stack];exact hst) hl).mono ?_;rintro e w7 ⟨rfl,h7⟩;go_wp2_with fail;go_ret;exact ⟨_,rfl,h7.plain _⟩
theorem str_semi (ok:L.Ok) (rdy:L.Rdy) (st:List Nat) (n:Nat) (hst:L.stack=st ++ [n]) (hl:st.length≤1000000) (hb:boolWord L.pk.txt=false) (hv:L.pk.start < L.pk.inp.size→byteAt L.pk.inp L.pk.start ≠ 36) (hc:L.chr=59):Goes1 187 L ((L.pk.emit 5 L.pk.txt).stk st) (plainT n):=by
 have e_92_639:(((L.chr:Nat):Int) == 92)=false:=bqf (by omega);have e_0_639:(((L.chr:Nat):Int) == 0)=false:=bqf (by omega);have e_59_639:(((L.chr:Nat):Int) == 59)=true:=beq_iff_eq.2 (by omega);have e_nl:isNLb L.chr=false:=by rw [hc];rfl
 have HB:=Lib.hid hb;have HV:=Lib.hid hv;clear hc hb hv;intro base S0 w0 w b h0;go_enter Tryz.func187,Tryz.ntmps187;go_wp2_with fail;refine (next_c h0 ok).mono ?_;rintro e w1 ⟨rfl,h1⟩;go_wp2_with fail;refine (isNLb_c _ (chr_lt ok) _).mono ?_;rintro e w' ⟨rfl,rfl⟩;go_wp2_with fail;refine (back_c h1 ok.nxt (nxt_width _)).mono ?_;rintro e w2 ⟨rfl,h2⟩;rw [nxt_back] at h2;go_wp2_with fail;refine (hasEsc_c h2 (by simpa [pk_parts] using rdy.parts)).mono ?_;rintro e w3 ⟨rfl,h3⟩;go_wp2_with fail;refine (isBool_c h3 ok.pk ⟨(by simpa [pk_parts] using rdy.parts),(by have:=rdy.start;simp only [pk_start,pk_pos];omega),(by simpa [pk_q] using rdy.q)⟩ HB.out).mono ?_;rintro e w4 ⟨rfl,h4⟩;go_wp2_with fail;refine (isVar_no h4 ok.pk HV.out).mono ?_;rintro e w5 ⟨rfl,h5⟩;go_wp2_with fail;refine (emitString_c h5 ok.pk (by simpa [pk_parts] using rdy.parts) (by have:=rdy.start;simp only [pk_start,pk_pos];omega) (by simpa [pk_q] using rdy.q)).mono ?_;rintro e w6 ⟨rfl,h6⟩;go_wp2_with fail;refine (pop_c st n h6 (by show L.pk.stack=_;rw [pk_stack];exact hst) hl).mono ?_;rintro e w7 ⟨rfl,h7⟩;go_wp2_with fail;go_ret;exact ⟨_,rfl,h7.plain _⟩
theorem str_comma (ok:L.Ok) (rdy:L.Rdy) (st:List Nat) (n:Nat) (hst:L.stack=st ++ [n]) (hl:st.length≤1000000) (hb:boolWord L.pk.txt=false) (hv:L.pk.start < L.pk.inp.size→byteAt L.pk.inp L.pk.start ≠ 36) (hc:L.chr=44):Goes1 187 L ((L.pk.emit 5 L.pk.txt).stk st) (plainT n):=by
 have e_92_639:(((L.chr:Nat):Int) == 92)=false:=bqf (by omega);have e_0_639:(((L.chr:Nat):Int) == 0)=false:=bqf (by omega);have e_59_639:(((L.chr:Nat):Int) == 59)=false:=bqf (by omega);have e_44_639:(((L.chr:Nat):Int) == 44)=true:=beq_iff_eq.2 (by omega);have e_nl:isNLb L.chr=false:=by rw [hc];rfl
 have HB:=Lib.hid hb;have HV:=Lib.hid hv;clear hc hb hv;intro base S0 w0 w b h0;go_enter Tryz.func187,Tryz.ntmps187;go_wp2_with fail;refine (next_c h0 ok).mono ?_;rintro e w1 ⟨rfl,h1⟩;go_wp2_with fail;refine (isNLb_c _ (chr_lt ok) _).mono ?_;rintro e w' ⟨rfl,rfl⟩;go_wp2_with fail;refine (back_c h1 ok.nxt (nxt_width _)).mono ?_;rintro e w2 ⟨rfl,h2⟩;rw [nxt_back] at h2;go_wp2_with fail;refine (hasEsc_c h2 (by simpa [pk_parts] using rdy.parts)).mono ?_;rintro e w3 ⟨rfl,h3⟩;go_wp2_with fail;refine (isBool_c h3 ok.pk ⟨(by simpa [pk_parts] using rdy.parts),(by have:=rdy.start;simp only [pk_start,pk_pos];omega),(by simpa [pk_q] using rdy.q)⟩ HB.out).mono ?_;rintro e w4 ⟨rfl,h4⟩;go_wp2_with fail;refine (isVar_no h4 ok.pk HV.out).mono ?_;rintro e w5 ⟨rfl,h5⟩;go_wp2_with fail;refine (emitString_c h5 ok.pk (by simpa [pk_parts] using rdy.parts) (by have:=rdy.start;simp only [pk_start,pk_pos];omega) (by simpa [pk_q] using rdy.q)).mono ?_;rintro e w6 ⟨rfl,h6⟩;go_wp2_with fail;refine (pop_c st n h6 (by show L.pk.stack=_;rw [pk_stack];exact hst) hl).mono ?_;rintro e w7 ⟨rfl,h7⟩;go_wp2_with fail;go_ret;exact ⟨_,rfl,h7.plain _⟩
theorem str_brace (ok:L.Ok) (rdy:L.Rdy) (st:List Nat) (n:Nat) (hst:L.stack=st ++ [n]) (hl:st.length≤1000000) (hb:boolWord L.pk.txt=false) (hv:L.pk.start < L.pk.inp.size→byteAt L.pk.inp L.pk.start ≠ 36) (hc:L.chr=125):Goes1 187 L ((L.pk.emit 5 L.pk.txt).stk st) (plainT n):=by
 have e_92_639:(((L.chr:Nat):Int) == 92)=false:=bqf (by omega);have e_0_639:(((L.chr:Nat):Int) == 0)=false:=bqf (by omega);have e_59_639:(((L.chr:Nat):Int) == 59)=false:=bqf (by omega);have e_44_639:(((L.chr:Nat):Int) == 44)=false:=bqf (by omega);have e_93_639:(((L.chr:Nat):Int) == 93)=false:=bqf (by omega);have e_125_639:(((L.chr:Nat):Int) == 125)=true:=beq_iff_eq.2 (by omega);have e_nl:isNLb L.chr=false:=by rw [hc];rfl
 have HB:=Lib.hid hb;have HV:=Lib.hid hv;clear hc hb hv;intro base S0 w0 w b h0;go_enter Tryz.func187,Tryz.ntmps187;go_wp2_with fail;refine (next_c h0 ok).mono ?_;rintro e w1 ⟨rfl,h1⟩;go_wp2_with fail;refine (isNLb_c _ (chr_lt ok) _).mono ?_;rintro e w' ⟨rfl,rfl⟩;go_wp2_with fail;refine (back_c h1 ok.nxt (nxt_width _)).mono ?_;rintro e w2 ⟨rfl,h2⟩;rw [nxt_back] at h2;go_wp2_with fail;refine (hasEsc_c h2 (by simpa [pk_parts] using rdy.parts)).mono ?_;rintro e w3 ⟨rfl,h3⟩;go_wp2_with fail;refine (isBool_c h3 ok.pk ⟨(by simpa [pk_parts] using rdy.parts),(by have:=rdy.start;simp only [pk_start,pk_pos];omega),(by simpa [pk_q] using rdy.q)⟩ HB.out).mono ?_;rintro e w4 ⟨rfl,h4⟩;go_wp2_with fail;refine (isVar_no h4 ok.pk HV.out).mono ?_;rintro e w5 ⟨rfl,h5⟩;go_wp2_with fail;refine (emitString_c h5 ok.pk (by simpa [pk_parts] using rdy.parts) (by have:=rdy.start;simp only [pk_start,pk_pos];omega) (by simpa [pk_q] using rdy.q)).mono ?_;rintro e w6 ⟨rfl,h6⟩;go_wp2_with fail;refine (pop_c st n h6 (by show L.pk.stack=_;rw [pk_stack];exact hst) hl).mono ?_;rintro e w7 ⟨rfl,h7⟩;go_wp2_with fail;go_ret;exact ⟨_,rfl,h7.plain _⟩
theorem var_nl (ok:L.Ok) (rdy:L.Rdy) (st:List Nat) (n:Nat) (hst:L.stack=st ++ [n]) (hl:st.length≤1000000) (hb:boolWord L.pk.txt=false) (hlt:L.pk.start < L.pk.inp.size) (hle:L.pk.start + 1≤L.pk.pos) (hv:byteAt L.pk.inp L.pk.start=36) (hc:L.chr=10):Goes1 187 L ((L.pk.dlr.emit 15 L.pk.dlr.txt).stk st) (plainT n):=by
 have e_92_639:(((L.chr:Nat):Int) == 92)=false:=bqf (by omega);have e_nl:isNLb L.chr=true:=by rw [hc];rfl
 have HB:=Lib.hid hb;have HV:=Lib.hid hv;have HL:=Lib.hid hlt;have HE:=Lib.hid hle;clear hc hb hv hlt hle;intro base S0 w0 w b h0;go_enter Tryz.func187,Tryz.ntmps187;go_wp2_with fail;refine (next_c h0 ok).mono ?_;rintro e w1 ⟨rfl,h1⟩;go_wp2_with fail;refine (isNLb_c _ (chr_lt ok) _).mono ?_;rintro e w' ⟨rfl,rfl⟩;go_wp2_with fail;refine (back_c h1 ok.nxt (nxt_width _)).mono ?_;rintro e w2 ⟨rfl,h2⟩;rw [nxt_back] at h2;go_wp2_with fail;refine (hasEsc_c h2 (by simpa [pk_parts] using rdy.parts)).mono ?_;rintro e w3 ⟨rfl,h3⟩;go_wp2_with fail;refine (isBool_c h3 ok.pk ⟨(by simpa [pk_parts] using rdy.parts),(by have:=rdy.start;simp only [pk_start,pk_pos];omega),(by simpa [pk_q] using rdy.q)⟩ HB.out).mono ?_;rintro e w4 ⟨rfl,h4⟩;go_wp2_with fail;refine (isVar_yes h4 ok.pk HL.out HV.out).mono ?_;rintro e w5 ⟨rfl,h5⟩;go_wp2_with fail;refine (emit_c 15 h5 (ok.pk.dlr HL.out) (by show L.pk.parts=[];simpa [pk_parts] using rdy.parts) HE.out (by show L.pk.q.length < 10;simpa [pk_q] using rdy.q)).mono ?_;rintro e w6 ⟨rfl,h6⟩;go_wp2_with fail;refine (pop_c st n h6 (by show L.pk.stack=_;rw [pk_stack];exact hst) hl).mono ?_;rintro e w7 ⟨rfl,h7⟩;go_wp2_with fail;go_ret;exact ⟨_,rfl,h7.plain _⟩
theorem var_ws (ok:L.Ok) (rdy:L.Rdy) (st:List Nat) (n:Nat) (hst:L.stack=st ++ [n]) (hl:st.length≤1000000) (hb:boolWord L.pk.txt=false) (hlt:L.pk.start < L.pk.inp.size) (hle:L.pk.start + 1≤L.pk.pos) (hv:byteAt L.pk.inp L.pk.start=36) (hc:L.chr=32):Goes1 187 L ((L.pk.dlr.emit 15 L.pk.dlr.txt).stk st) (plainT n):=by
 have e_92_639:(((L.chr:Nat):Int) == 92)=false:=bqf (by omega);have e_0_639:(((L.chr:Nat):Int) == 0)=false:=bqf (by omega);have e_59_639:(((L.chr:Nat):Int) == 59)=false:=bqf (by omega);have e_44_639:(((L.chr:Nat):Int) == 44)=false:=bqf (by omega);have e_93_639:(((L.chr:Nat):Int) == 93)=false:=bqf (by omega);have e_125_639:(((L.chr:Nat):Int) == 125)=false:=bqf (by omega);have e_nl:isNLb L.chr=false:=by rw [hc];rfl
 have e_ws:isWS L.chr=true:=by rw [hc];rfl
 have HB:=Lib.hid hb;have HV:=Lib.hid hv;have HL:=Lib.hid hlt;have HE:=Lib.hid hle;clear hc hb hv hlt hle;intro base S0 w0 w b h0;go_enter Tryz.func187,Tryz.ntmps187;go_wp2_with fail;refine (next_c h0 ok).mono ?_;rintro e w1 ⟨rfl,h1⟩;go_wp2_with fail;refine (isNLb_c _ (chr_lt ok) _).mono ?_;rintro e w' ⟨rfl,rfl⟩;go_wp2_with fail;refine (isWS_c _ (chr_lt ok) _).mono ?_;rintro e w' ⟨rfl,rfl⟩;go_wp2_with fail;refine (back_c h1 ok.nxt (nxt_width _)).mono ?_;rintro e w2 ⟨rfl,h2⟩;rw [nxt_back] at h2;go_wp2_with fail;refine (hasEsc_c h2 (by simpa [pk_parts] using rdy.parts)).mono ?_;rintro e w3 ⟨rfl,h3⟩;go_wp2_with fail;refine (isBool_c h3 ok.pk ⟨(by simpa [pk_parts] using rdy.parts),(by have:=rdy.start;simp only [pk_start,pk_pos];omega),(by simpa [pk_q] using rdy.q)⟩ HB.out).mono ?_;rintro e w4 ⟨rfl,h4⟩;go_wp2_with fail;refine (isVar_yes h4 ok.pk HL.out HV.out).mono ?_;rintro e w5 ⟨rfl,h5⟩;go_wp2_with fail;refine (emit_c 15 h5 (ok.pk.dlr HL.out) (by show L.pk.parts=[];simpa [pk_parts] using rdy.parts) HE.out (by show L.pk.q.length < 10;simpa [pk_q] using rdy.q)).mono ?_;rintro e w6 ⟨rfl,h6⟩;go_wp2_with fail;refine (pop_c st n h6 (by show L.pk.stack=_;rw [pk_stack];exact hst) hl).mono ?_;rintro e w7 ⟨rfl,h7⟩;go_wp2_with fail;go_ret;exact ⟨_,rfl,h7.plain _⟩
theorem var_semi (ok:L.Ok) (rdy:L.Rdy) (st:List Nat) (n:Nat) (hst:L.stack=st ++ [n]) (hl:st.length≤1000000) (hb:boolWord L.pk.txt=false) (hlt:L.pk.start < L.pk.inp.size) (hle:L.pk.start + 1≤L.pk.pos) (hv:byteAt L.pk.inp L.pk.start=36) (hc:L.chr=59):Goes1 187 L ((L.pk.dlr.emit 15 L.pk.dlr.txt).stk st) (plainT n):=by
 have e_92_639:(((L.chr:Nat):Int) == 92)=false:=bqf (by omega);have e_0_639:(((L.chr:Nat):Int) == 0)=false:=bqf (by omega);have e_59_639:(((L.chr:Nat):Int) == 59)=true:=beq_iff_eq.2 (by omega);have e_nl:isNLb L.chr=false:=by rw [hc];rfl
 have HB:=Lib.hid hb;have HV:=Lib.hid hv;have HL:=Lib.hid hlt;have HE:=Lib.hid hle;clear hc hb hv hlt hle;intro base S0 w0 w b h0;go_enter Tryz.func187,Tryz.ntmps187;go_wp2_with fail;refine (next_c h0 ok).mono ?_;rintro e w1 ⟨rfl,h1⟩;go_wp2_with fail;refine (isNLb_c _ (chr_lt ok) _).mono ?_;rintro e w' ⟨rfl,rfl⟩;go_wp2_with fail;refine (back_c h1 ok.nxt (nxt_width _)).mono ?_;rintro e w2 ⟨rfl,h2⟩;rw [nxt_back] at h2;go_wp2_with fail;refine (hasEsc_c h2 (by simpa [pk_parts] using rdy.parts)).mono ?_;rintro e w3 ⟨rfl,h3⟩;go_wp2_with fail;refine (isBool_c h3 ok.pk ⟨(by simpa [pk_parts] using rdy.parts),(by have:=rdy.start;simp only [pk_start,pk_pos];omega),(by simpa [pk_q] using rdy.q)⟩ HB.out).mono ?_;rintro e w4 ⟨rfl,h4⟩;go_wp2_with fail;refine (isVar_yes h4 ok.pk HL.out HV.out).mono ?_;rintro e w5 ⟨rfl,h5⟩;go_wp2_with fail;refine (emit_c 15 h5 (ok.pk.dlr HL.out) (by show L.pk.parts=[];simpa [pk_parts] using rdy.parts) HE.out (by show L.pk.q.length < 10;simpa [pk_q] using rdy.q)).mono ?_;rintro e w6 ⟨rfl,h6⟩;go_wp2_with fail;refine (pop_c st n h6 (by show L.pk.stack=_;rw [pk_stack];exact hst) hl).mono ?_;rintro e w7 ⟨rfl,h7⟩;go_wp2_with fail;go_ret;exact ⟨_,rfl,h7.plain _⟩
theorem var_comma (ok:L.Ok) (rdy:L.Rdy) (st:List Nat) (n:Nat) (hst:L.stack=st ++ [n]) (hl:st.length≤1000000) (hb:boolWord L.pk.txt=false) (hlt:L.pk.start < L.pk.inp.size) (hle:L.pk.start + 1≤L.pk.pos) (hv:byteAt L.pk.inp L.pk.start=36) (hc:L.chr=44):Goes1 187 L ((L.pk.dlr.emit 15 L.pk.dlr.txt).stk st) (plainT n):=by
 have e_92_639:(((L.chr:Nat):Int) == 92)=false:=bqf (by omega);have e_0_639:(((L.chr:Nat):Int) == 0)=false:=bqf (by omega);have e_59_639:(((L.chr:Nat):Int) == 59)=false:=bqf (by omega);have e_44_639:(((L.chr:Nat):Int) == 44)=true:=beq_iff_eq.2 (by omega);have e_nl:isNLb L.chr=false:=by rw [hc];rfl
 have HB:=Lib.hid hb;have HV:=Lib.hid hv;have HL:=Lib.hid hlt;have HE:=Lib.hid hle;clear hc hb hv hlt hle;intro base S0 w0 w b h0;go_enter Tryz.func187,Tryz.ntmps187;go_wp2_with fail;refine (next_c h0 ok).mono ?_;rintro e w1 ⟨rfl,h1⟩;go_wp2_with fail;refine (isNLb_c _ (chr_lt ok) _).mono ?_;rintro e w' ⟨rfl,rfl⟩;go_wp2_with fail;refine (back_c h1 ok.nxt (nxt_width _)).mono ?_;rintro e w2 ⟨rfl,h2⟩;rw [nxt_back] at h2;go_wp2_with fail;refine (hasEsc_c h2 (by simpa [pk_parts] using rdy.parts)).mono ?_;rintro e w3 ⟨rfl,h3⟩;go_wp2_with fail;refine (isBool_c h3 ok.pk ⟨(by simpa [pk_parts] using rdy.parts),(by have:=rdy.start;simp only [pk_start,pk_pos];omega),(by simpa [pk_q] using rdy.q)⟩ HB.out).mono ?_;rintro e w4 ⟨rfl,h4⟩;go_wp2_with fail;refine (isVar_yes h4 ok.pk HL.out HV.out).mono ?_;rintro e w5 ⟨rfl,h5⟩;go_wp2_with fail;refine (emit_c 15 h5 (ok.pk.dlr HL.out) (by show L.pk.parts=[];simpa [pk_parts] using rdy.parts) HE.out (by show L.pk.q.length < 10;simpa [pk_q] using rdy.q)).mono ?_;rintro e w6 ⟨rfl,h6⟩;go_wp2_with fail;refine (pop_c st n h6 (by show L.pk.stack=_;rw [pk_stack];exact hst) hl).mono ?_;rintro e w7 ⟨rfl,h7⟩;go_wp2_with fail;go_ret;exact ⟨_,rfl,h7.plain _⟩
theorem var_brace (ok:L.Ok) (rdy:L.Rdy) (st:List Nat) (n:Nat) (hst:L.stack=st ++ [n]) (hl:st.length≤1000000) (hb:boolWord L.pk.txt=false) (hlt:L.pk.start < L.pk.inp.size) (hle:L.pk.start + 1≤L.pk.pos) (hv:byteAt L.pk.inp L.pk.start=36) (hc:L.chr=125):Goes1 187 L ((L.pk.dlr.emit 15 L.pk.dlr.txt).stk st) (plainT n):=by
 have e_92_639:(((L.chr:Nat):Int) == 92)=false:=bqf (by omega);have e_0_639:(((L.chr:Nat):Int) == 0)=false:=bqf (by omega);have e_59_639:(((L.chr:Nat):Int) == 59)=false:=bqf (by omega);have e_44_639:(((L.chr:Nat):Int) == 44)=false:=bqf (by omega);have e_93_639:(((L.chr:Nat):Int) == 93)=false:=bqf (by omega);have e_125_639:(((L.chr:Nat):Int) == 125)=true:=beq_iff_eq.2 (by omega);have e_nl:isNLb L.chr=false:=by rw [hc];rfl
 have HB:=Lib.hid hb;have HV:=Lib.hid hv;have HL:=Lib.hid hlt;have HE:=Lib.hid hle;clear hc hb hv hlt hle;intro base S0 w0 w b h0;go_enter Tryz.func187,Tryz.ntmps187;go_wp2_with fail;refine (next_c h0 ok).mono ?_;rintro e w1 ⟨rfl,h1⟩;go_wp2_with fail;refine (isNLb_c _ (chr_lt ok) _).mono ?_;rintro e w' ⟨rfl,rfl⟩;go_wp2_with fail;refine (back_c h1 ok.nxt (nxt_width _)).mono ?_;rintro e w2 ⟨rfl,h2⟩;rw [nxt_back] at h2;go_wp2_with fail;refine (hasEsc_c h2 (by simpa [pk_parts] using rdy.parts)).mono ?_;rintro e w3 ⟨rfl,h3⟩;go_wp2_with fail;refine (isBool_c h3 ok.pk ⟨(by simpa [pk_parts] using rdy.parts),(by have:=rdy.start;simp only [pk_start,pk_pos];omega),(by simpa [pk_q] using rdy.q)⟩ HB.out).mono ?_;rintro e w4 ⟨rfl,h4⟩;go_wp2_with fail;refine (isVar_yes h4 ok.pk HL.out HV.out).mono ?_;rintro e w5 ⟨rfl,h5⟩;go_wp2_with fail;refine (emit_c 15 h5 (ok.pk.dlr HL.out) (by show L.pk.parts=[];simpa [pk_parts] using rdy.parts) HE.out (by show L.pk.q.length < 10;simpa [pk_q] using rdy.q)).mono ?_;rintro e w6 ⟨rfl,h6⟩;go_wp2_with fail;refine (pop_c st n h6 (by show L.pk.stack=_;rw [pk_stack];exact hst) hl).mono ?_;rintro e w7 ⟨rfl,h7⟩;go_wp2_with fail;go_ret;exact ⟨_,rfl,h7.plain _⟩
def LX.addp (L:LX) (x:ByteArray):LX:={ L with parts:=L.parts ++ [x],start:=L.pos }
theorem LX.Ok.addp {L:LX} (ok:L.Ok) (x:ByteArray):(L.addp x).Ok:=⟨ok.small,ok.pos,ok.pos,ok.width,ok.lstart,ok.ilstart,ok.line,ok.asc⟩
theorem nxt_ssf (L:LX):L.nxt.ssf=L.ssf:=(nxt_same L).2.2.2.2.2.2.1
theorem esc_t (ok:L.Ok) (m:Nat) (hf:L.ssf=some m) (hp:L.parts.length≤1000000) (hc:L.chr=116):Goes1 196 L (L.nxt.addp ⟨#[9]⟩) (plainT m):=by
 have e_120_639:(((L.chr:Nat):Int) == 120)=false:=bqf (by omega);have e_116_639:(((L.chr:Nat):Int) == 116)=true:=beq_iff_eq.2 (by omega);have HF:=Lib.hid hf;have HP:=Lib.hid hp;clear hc hf hp;intro base S0 w0 w b h0;go_enter Tryz.func196,Tryz.ntmps196;go_wp2_with fail;refine (next_c h0 ok).mono ?_;rintro e w1 ⟨rfl,h1⟩;go_wp2_with fail;refine (addStr_c h1 ok.nxt (by rw [nxt_parts];exact HP.out) ⟨#[9]⟩ m (by rw [nxt_ssf];exact HF.out)).mono ?_;rintro e w2 ⟨rfl,h2⟩;go_wp2_with fail;go_ret;exact ⟨_,rfl,At.plain (L:=L.nxt.addp ⟨#[9]⟩) h2 _⟩
theorem esc_n (ok:L.Ok) (m:Nat) (hf:L.ssf=some m) (hp:L.parts.length≤1000000) (hc:L.chr=110):Goes1 196 L (L.nxt.addp ⟨#[10]⟩) (plainT m):=by
 have e_120_639:(((L.chr:Nat):Int) == 120)=false:=bqf (by omega);have e_116_639:(((L.chr:Nat):Int) == 116)=false:=bqf (by omega);have e_110_639:(((L.chr:Nat):Int) == 110)=true:=beq_iff_eq.2 (by omega);have HF:=Lib.hid hf;have HP:=Lib.hid hp;clear hc hf hp;intro base S0 w0 w b h0;go_enter Tryz.func196,Tryz.ntmps196;go_wp2_with fail;refine (next_c h0 ok).mono ?_;rintro e w1 ⟨rfl,h1⟩;go_wp2_with fail;refine (addStr_c h1 ok.nxt (by rw [nxt_parts];exact HP.out) ⟨#[10]⟩ m (by rw [nxt_ssf];exact HF.out)).mono ?_;rintro e w2 ⟨rfl,h2⟩;go_wp2_with fail;go_ret;exact ⟨_,rfl,At.plain (L:=L.nxt.addp ⟨#[10]⟩) h2 _⟩
theorem esc_q (ok:L.Ok) (m:Nat) (hf:L.ssf=some m) (hp:L.parts.length≤1000000) (hc:L.chr=34):Goes1 196 L (L.nxt.addp ⟨#[34]⟩) (plainT m):=by
 have e_120_639:(((L.chr:Nat):Int) == 120)=false:=bqf (by omega);have e_116_639:(((L.chr:Nat):Int) == 116)=false:=bqf (by omega);have e_110_639:(((L.chr:Nat):Int) == 110)=false:=bqf (by omega);have e_114_639:(((L.chr:Nat):Int) == 114)=false:=bqf (by omega);have e_34_639:(((L.chr:Nat):Int) == 34)=true:=beq_iff_eq.2 (by omega);have HF:=Lib.hid hf;have HP:=Lib.hid hp;clear hc hf hp;intro base S0 w0 w b h0;go_enter Tryz.func196,Tryz.ntmps196;go_wp2_with fail;refine (next_c h0 ok).mono ?_;rintro e w1 ⟨rfl,h1⟩;go_wp2_with fail;refine (addStr_c h1 ok.nxt (by rw [nxt_parts];exact HP.out) ⟨#[34]⟩ m (by rw [nxt_ssf];exact HF.out)).mono ?_;rintro e w2 ⟨rfl,h2⟩;go_wp2_with fail;go_ret;exact ⟨_,rfl,At.plain (L:=L.nxt.addp ⟨#[34]⟩) h2 _⟩
theorem esc_b (ok:L.Ok) (m:Nat) (hf:L.ssf=some m) (hp:L.parts.length≤1000000) (hc:L.chr=92):Goes1 196 L (L.nxt.addp ⟨#[92]⟩) (plainT m):=by
 have e_120_639:(((L.chr:Nat):Int) == 120)=false:=bqf (by omega);have e_116_639:(((L.chr:Nat):Int) == 116)=false:=bqf (by omega);have e_110_639:(((L.chr:Nat):Int) == 110)=false:=bqf (by omega);have e_114_639:(((L.chr:Nat):Int) == 114)=false:=bqf (by omega);have e_34_639:(((L.chr:Nat):Int) == 34)=false:=bqf (by omega);have e_92_639:(((L.chr:Nat):Int) == 92)=true:=beq_iff_eq.2 (by omega);have HF:=Lib.hid hf;have HP:=Lib.hid hp;clear hc hf hp;intro base S0 w0 w b h0;go_enter Tryz.func196,Tryz.ntmps196;go_wp2_with fail;refine (next_c h0 ok).mono ?_;rintro e w1 ⟨rfl,h1⟩;go_wp2_with fail;refine (addStr_c h1 ok.nxt (by rw [nxt_parts];exact HP.out) ⟨#[92]⟩ m (by rw [nxt_ssf];exact HF.out)).mono ?_;rintro e w2 ⟨rfl,h2⟩;go_wp2_with fail;go_ret;exact ⟨_,rfl,At.plain (L:=L.nxt.addp ⟨#[92]⟩) h2 _⟩
theorem dqp_end (ok:L.Ok) (st:List Nat) (n:Nat) (hst:L.stack=st ++ [n]) (hl:st.length≤1000000) (hp:L.parts ≠ []∧L.parts.length≤1000000∧(joinB L.parts).size≤1000000) (hs:L.start≤L.pos) (hq:L.q.length < 10) (hc:L.chr=34):Goes1 183 L ((L.pk.emitP.nxt).ign.stk st) (plainT n):=by
 have e_92_639:(((L.chr:Nat):Int) == 92)=false:=bqf (by omega);have e_34_639:(((L.chr:Nat):Int) == 34)=true:=beq_iff_eq.2 (by omega);have HP:=Lib.hid hp;have HS:=Lib.hid hs;have HQ:=Lib.hid hq;have okE:L.pk.emitP.Ok:=by have k:=ok.pk.emit 5 L.pk.txt;exact ⟨k.small,k.pos,k.start,k.width,k.lstart,k.ilstart,k.line,k.asc⟩
 clear hc hp hs hq;intro base S0 w0 w b h0;go_enter Tryz.func183,Tryz.ntmps183;go_wp2_with fail;refine (next_c h0 ok).mono ?_;rintro e w1 ⟨rfl,h1⟩;go_wp2_with fail;refine (back_c h1 ok.nxt (nxt_width _)).mono ?_;rintro e w2 ⟨rfl,h2⟩;rw [nxt_back] at h2;go_wp2_with fail;refine (emitParts_c h2 ok.pk (by rw [pk_parts];exact HP.out.1) (by rw [pk_parts];exact HP.out.2.1) (by rw [pk_parts];exact HP.out.2.2) (by simp only [pk_start,pk_pos];exact HS.out) (by rw [pk_q];exact HQ.out)).mono ?_;rintro e w3 ⟨rfl,h3⟩;go_wp2_with fail;refine (next_c h3 okE).mono ?_;rintro e w4 ⟨rfl,h4⟩;go_wp2_with fail;refine (ign_c h4).mono ?_;rintro e w5 ⟨rfl,h5⟩;go_wp2_with fail;refine (pop_c st n h5 (by show L.pk.emitP.nxt.stack=_;rw [nxt_stack];show L.pk.stack=_;rw [pk_stack];exact hst) hl).mono ?_;rintro e w6 ⟨rfl,h6⟩;go_wp2_with fail;go_ret;exact ⟨_,rfl,h6.plain _⟩
theorem LX.Ok.pkb {L:LX} (ok:L.Ok) (hp:1≤L.pos) (hlt:L.pos < L.inp.size):L.pk.back.Ok∧L.pk.width≤L.pk.pos:=by
 have hw:L.pk.width=1:=by
  unfold LX.pk;rw [if_neg (by omega)]
  split <;> rfl
 refine ⟨ok.pk.back (.inl ⟨hw,by rw [pk_pos];exact hp⟩),by rw [hw,pk_pos];exact hp⟩
theorem blkl_in (ok:L.Ok) (hp:1≤L.pos) (hlt:L.pos < L.inp.size) (hc:L.chr=41) (hd:L.pk.back.chr ≠ 10):Goes1 185 L L.pk.back.nxt.nxt (plainT 185):=by
 have e_41_639:(((L.chr:Nat):Int) == 41)=true:=beq_iff_eq.2 (by omega);have e10:(((L.pk.back.chr:Nat):Int) == 10)=false:=bqf (by omega);have n10:(((L.pk.back.chr:Nat):Int) != 10)=true:=by rw [bne,e10];rfl
 have okB:=(ok.pkb hp hlt).1;have hpw:=(ok.pkb hp hlt).2;clear hc hd;intro base S0 w0 w b h0;go_enter Tryz.func185,Tryz.ntmps185;go_wp2_with fail;refine (next_c h0 ok).mono ?_;rintro e w1 ⟨rfl,h1⟩;go_wp2_with fail;refine (back_c h1 ok.nxt (nxt_width _)).mono ?_;rintro e w2 ⟨rfl,h2⟩;rw [nxt_back] at h2;go_wp2_with fail;refine (back_c h2 ok.pk hpw).mono ?_;rintro e w3 ⟨rfl,h3⟩;go_wp2_with fail;refine (next_c h3 okB).mono ?_;rintro e w4 ⟨rfl,h4⟩;go_wp2_with fail;refine (next_c h4 okB.nxt).mono ?_;rintro e w5 ⟨rfl,h5⟩;go_wp2_with fail;go_ret;exact ⟨_,rfl,h5.plain _⟩
theorem blkl_end (ok:L.Ok) (st:List Nat) (n:Nat) (hl:st.length≤1000000) (hp:1≤L.pos) (hlt:L.pos < L.inp.size) (hp2:1≤L.pk.back.nxt.nxt.pos) (hlt2:L.pk.back.nxt.nxt.pos < L.pk.back.nxt.nxt.inp.size) (hr:L.pk.back.nxt.nxt.pk.back.parts=[]∧L.pk.back.nxt.nxt.pk.back.start≤L.pk.back.nxt.nxt.pk.back.pos∧L.pk.back.nxt.nxt.pk.back.q.length < 10) (hst:((L.pk.back.nxt.nxt.pk.back.emit 5 L.pk.back.nxt.nxt.pk.back.txt).nxt.ign).stack=st ++ [n]) (hc:L.chr=41) (hd:L.pk.back.chr=10) (he:L.pk.back.nxt.nxt.chr=10):Goes1 185 L (((L.pk.back.nxt.nxt.pk.back.emit 5 L.pk.back.nxt.nxt.pk.back.txt).nxt).ign.stk st) (plainT n):=by
 have e_41_639:(((L.chr:Nat):Int) == 41)=true:=beq_iff_eq.2 (by omega);have e10:(((L.pk.back.chr:Nat):Int) == 10)=true:=beq_iff_eq.2 (by omega);have n10:(((L.pk.back.chr:Nat):Int) != 10)=false:=by rw [bne,e10];rfl
 have e11:(((L.pk.back.nxt.nxt.chr:Nat):Int) == 10)=true:=beq_iff_eq.2 (by omega);have okB:=(ok.pkb hp hlt).1;have hpw:=(ok.pkb hp hlt).2;have okC:=(okB.nxt.nxt.pkb hp2 hlt2).1;have hpw2:=(okB.nxt.nxt.pkb hp2 hlt2).2;have HRP:=Lib.hid hr;have HST:=Lib.hid hst;clear hc hd he hr hst;intro base S0 w0 w b h0;go_enter Tryz.func185,Tryz.ntmps185;go_wp2_with fail;refine (next_c h0 ok).mono ?_;rintro e w1 ⟨rfl,h1⟩;go_wp2_with fail;refine (back_c h1 ok.nxt (nxt_width _)).mono ?_;rintro e w2 ⟨rfl,h2⟩;rw [nxt_back] at h2;go_wp2_with fail;refine (back_c h2 ok.pk hpw).mono ?_;rintro e w3 ⟨rfl,h3⟩;go_wp2_with fail;refine (next_c h3 okB).mono ?_;rintro e w4 ⟨rfl,h4⟩;go_wp2_with fail;refine (next_c h4 okB.nxt).mono ?_;rintro e w5 ⟨rfl,h5⟩;go_wp2_with fail;refine (next_c h5 okB.nxt.nxt).mono ?_;rintro e w6 ⟨rfl,h6⟩;go_wp2_with fail;refine (back_c h6 okB.nxt.nxt.nxt (nxt_width _)).mono ?_;rintro e w7 ⟨rfl,h7⟩;rw [nxt_back] at h7;go_wp2_with fail;refine (back_c h7 okB.nxt.nxt.pk hpw2).mono ?_;rintro e w8 ⟨rfl,h8⟩;go_wp2_with fail;refine (emit_c 5 h8 okC HRP.out.1 HRP.out.2.1 HRP.out.2.2).mono ?_;rintro e w9 ⟨rfl,h9⟩;go_wp2_with fail;refine (next_c h9 ((okC.emit 5 _))).mono ?_;rintro e w10 ⟨rfl,h10⟩;go_wp2_with fail;refine (ign_c h10).mono ?_;rintro e w11 ⟨rfl,h11⟩;go_wp2_with fail;refine (pop_c st n h11 HST.out hl).mono ?_;rintro e w12 ⟨rfl,h12⟩;go_wp2_with fail;go_ret;exact ⟨_,rfl,h12.plain _⟩
end
section
variable {s:ByteArray} {p st:Nat} {stk sk:List Nat} {L:LX} {n:Nat}
theorem ld_str_nl (hp:p < s.size) (hst:st≤p) (e:byteAt s p=10) (hb:boolWord (s.extract st p)=false) (hv:st < s.size→byteAt s st ≠ 36) (sk:List Nat) (n:Nat) (hk:stk=sk ++ [n]) (hl:sk.length≤1000000):Emits s p st stk (plainT 187) 5 (s.extract st p) (1 + (nlc s p:Nat)) p p sk (plainT n):=by
 rintro L ⟨h,hs⟩;have hc:=h.chr hp;have hst':=h.stack.trans hk;obtain ⟨h1,h2⟩:=(h.pk).emitted 5 sk (plainT n);exact ⟨1,_,_,run1 hs enters187 h.q (str_nl h.ok (h.rdy hst) sk n hst' hl (by rw [h.pk.txt];exact hb) (by rw [h.pk.inp,h.pk.start];exact hv) (by rw [hc];exact e)),h2,rfl,rfl,rfl,h1⟩
theorem ld_str_semi (hp:p < s.size) (hst:st≤p) (e:byteAt s p=59) (hb:boolWord (s.extract st p)=false) (hv:st < s.size→byteAt s st ≠ 36) (sk:List Nat) (n:Nat) (hk:stk=sk ++ [n]) (hl:sk.length≤1000000):Emits s p st stk (plainT 187) 5 (s.extract st p) (1 + (nlc s p:Nat)) p p sk (plainT n):=by
 rintro L ⟨h,hs⟩;have hc:=h.chr hp;have hst':=h.stack.trans hk;obtain ⟨h1,h2⟩:=(h.pk).emitted 5 sk (plainT n);exact ⟨1,_,_,run1 hs enters187 h.q (str_semi h.ok (h.rdy hst) sk n hst' hl (by rw [h.pk.txt];exact hb) (by rw [h.pk.inp,h.pk.start];exact hv) (by rw [hc];exact e)),h2,rfl,rfl,rfl,h1⟩
theorem ld_str_comma (hp:p < s.size) (hst:st≤p) (e:byteAt s p=44) (hb:boolWord (s.extract st p)=false) (hv:st < s.size→byteAt s st ≠ 36) (sk:List Nat) (n:Nat) (hk:stk=sk ++ [n]) (hl:sk.length≤1000000):Emits s p st stk (plainT 187) 5 (s.extract st p) (1 + (nlc s p:Nat)) p p sk (plainT n):=by
 rintro L ⟨h,hs⟩;have hc:=h.chr hp;have hst':=h.stack.trans hk;obtain ⟨h1,h2⟩:=(h.pk).emitted 5 sk (plainT n);exact ⟨1,_,_,run1 hs enters187 h.q (str_comma h.ok (h.rdy hst) sk n hst' hl (by rw [h.pk.txt];exact hb) (by rw [h.pk.inp,h.pk.start];exact hv) (by rw [hc];exact e)),h2,rfl,rfl,rfl,h1⟩
theorem ld_str_brace (hp:p < s.size) (hst:st≤p) (e:byteAt s p=125) (hb:boolWord (s.extract st p)=false) (hv:st < s.size→byteAt s st ≠ 36) (sk:List Nat) (n:Nat) (hk:stk=sk ++ [n]) (hl:sk.length≤1000000):Emits s p st stk (plainT 187) 5 (s.extract st p) (1 + (nlc s p:Nat)) p p sk (plainT n):=by
 rintro L ⟨h,hs⟩;have hc:=h.chr hp;have hst':=h.stack.trans hk;obtain ⟨h1,h2⟩:=(h.pk).emitted 5 sk (plainT n);exact ⟨1,_,_,run1 hs enters187 h.q (str_brace h.ok (h.rdy hst) sk n hst' hl (by rw [h.pk.txt];exact hb) (by rw [h.pk.inp,h.pk.start];exact hv) (by rw [hc];exact e)),h2,rfl,rfl,rfl,h1⟩
theorem ld_var_nl (hp:p < s.size) (hst:st + 1≤p) (e:byteAt s p=10) (hb:boolWord (s.extract st p)=false) (hv:byteAt s st=36) (sk:List Nat) (n:Nat) (hk:stk=sk ++ [n]) (hl:sk.length≤1000000):Emits s p st stk (plainT 187) 15 (s.extract (st + 1) p) (1 + (nlc s p:Nat)) p p sk (plainT n):=by
 rintro L ⟨h,hs'⟩;have hs:st < s.size:=by omega
 have hc:=h.chr hp;have hst':=h.stack.trans hk;obtain ⟨h1,h2⟩:=((h.pk).dlr hs).emitted 15 sk (plainT n);exact ⟨1,_,_,run1 hs' enters187 h.q (var_nl h.ok (h.rdy (by omega)) sk n hst' hl (by rw [h.pk.txt];exact hb) (by rw [h.pk.inp,h.pk.start];exact hs) (by rw [h.pk.start,h.pk.pos];exact hst) (by rw [h.pk.inp,h.pk.start];exact hv) (by rw [hc];exact e)),h2,rfl,rfl,rfl,h1⟩
theorem ld_var_ws (hp:p < s.size) (hst:st + 1≤p) (e:byteAt s p=32) (hb:boolWord (s.extract st p)=false) (hv:byteAt s st=36) (sk:List Nat) (n:Nat) (hk:stk=sk ++ [n]) (hl:sk.length≤1000000):Emits s p st stk (plainT 187) 15 (s.extract (st + 1) p) (1 + (nlc s p:Nat)) p p sk (plainT n):=by
 rintro L ⟨h,hs'⟩;have hs:st < s.size:=by omega
 have hc:=h.chr hp;have hst':=h.stack.trans hk;obtain ⟨h1,h2⟩:=((h.pk).dlr hs).emitted 15 sk (plainT n);exact ⟨1,_,_,run1 hs' enters187 h.q (var_ws h.ok (h.rdy (by omega)) sk n hst' hl (by rw [h.pk.txt];exact hb) (by rw [h.pk.inp,h.pk.start];exact hs) (by rw [h.pk.start,h.pk.pos];exact hst) (by rw [h.pk.inp,h.pk.start];exact hv) (by rw [hc];exact e)),h2,rfl,rfl,rfl,h1⟩
theorem ld_var_semi (hp:p < s.size) (hst:st + 1≤p) (e:byteAt s p=59) (hb:boolWord (s.extract st p)=false) (hv:byteAt s st=36) (sk:List Nat) (n:Nat) (hk:stk=sk ++ [n]) (hl:sk.length≤1000000):Emits s p st stk (plainT 187) 15 (s.extract (st + 1) p) (1 + (nlc s p:Nat)) p p sk (plainT n):=by
 rintro L ⟨h,hs'⟩;have hs:st < s.size:=by omega
 have hc:=h.chr hp;have hst':=h.stack.trans hk;obtain ⟨h1,h2⟩:=((h.pk).dlr hs).emitted 15 sk (plainT n);exact ⟨1,_,_,run1 hs' enters187 h.q (var_semi h.ok (h.rdy (by omega)) sk n hst' hl (by rw [h.pk.txt];exact hb) (by rw [h.pk.inp,h.pk.start];exact hs) (by rw [h.pk.start,h.pk.pos];exact hst) (by rw [h.pk.inp,h.pk.start];exact hv) (by rw [hc];exact e)),h2,rfl,rfl,rfl,h1⟩
theorem ld_var_comma (hp:p < s.size) (hst:st + 1≤p) (e:byteAt s p=44) (hb:boolWord (s.extract st p)=false) (hv:byteAt s st=36) (sk:List Nat) (n:Nat) (hk:stk=sk ++ [n]) (hl:sk.length≤1000000):Emits s p st stk (plainT 187) 15 (s.extract (st + 1) p) (1 + (nlc s p:Nat)) p p sk (plainT n):=by
 rintro L ⟨h,hs'⟩;have hs:st < s.size:=by omega
 have hc:=h.chr hp;have hst':=h.stack.trans hk;obtain ⟨h1,h2⟩:=((h.pk).dlr hs).emitted 15 sk (plainT n);exact ⟨1,_,_,run1 hs' enters187 h.q (var_comma h.ok (h.rdy (by omega)) sk n hst' hl (by rw [h.pk.txt];exact hb) (by rw [h.pk.inp,h.pk.start];exact hs) (by rw [h.pk.start,h.pk.pos];exact hst) (by rw [h.pk.inp,h.pk.start];exact hv) (by rw [hc];exact e)),h2,rfl,rfl,rfl,h1⟩
theorem ld_var_brace (hp:p < s.size) (hst:st + 1≤p) (e:byteAt s p=125) (hb:boolWord (s.extract st p)=false) (hv:byteAt s st=36) (sk:List Nat) (n:Nat) (hk:stk=sk ++ [n]) (hl:sk.length≤1000000):Emits s p st stk (plainT 187) 15 (s.extract (st + 1) p) (1 + (nlc s p:Nat)) p p sk (plainT n):=by
 rintro L ⟨h,hs'⟩;have hs:st < s.size:=by omega
 have hc:=h.chr hp;have hst':=h.stack.trans hk;obtain ⟨h1,h2⟩:=((h.pk).dlr hs).emitted 15 sk (plainT n);exact ⟨1,_,_,run1 hs' enters187 h.q (var_brace h.ok (h.rdy (by omega)) sk n hst' hl (by rw [h.pk.txt];exact hb) (by rw [h.pk.inp,h.pk.start];exact hs) (by rw [h.pk.start,h.pk.pos];exact hst) (by rw [h.pk.inp,h.pk.start];exact hv) (by rw [hc];exact e)),h2,rfl,rfl,rfl,h1⟩
theorem LX.Is0.pkb (h:L.Is0 s (p + 1) st stk) (hlt:p + 1 < s.size):L.pk.back.Is0 s p st stk∧1≤L.pos∧L.pos < L.inp.size:=by
 have h1:1≤L.pos:=by rw [h.pos];omega
 have h2:L.pos < L.inp.size:=by rw [h.pos,h.inp];exact hlt
 have hw:L.pk.width=1:=by
  unfold LX.pk;rw [if_neg (by omega)]
  split <;> rfl
 refine ⟨⟨(h.ok.pkb h1 h2).1,h.pk.inp,?_,h.pk.start,h.pk.stack,h.pk.parts,h.pk.q⟩,h1,h2⟩;show L.pk.pos - L.pk.width=p;rw [hw,h.pk.pos];omega
theorem ld_blk_in (hp:p + 1 < s.size) (e:byteAt s (p + 1)=41) (e0:byteAt s p ≠ 10):Leads s (p + 1) st stk (plainT 185) (p + 1 + 1) st stk (plainT 185):=by
 rintro L ⟨h,hs⟩;have hc:=h.chr hp;obtain ⟨hB,h1,h2⟩:=h.pkb hp;have hcB:=hB.chr (show p < s.size by omega);exact ⟨1,_,run1 hs enters185 h.q (blkl_in h.ok h1 h2 (by rw [hc];exact e) (by rw [hcB];exact e0)),(((hB.nxt (by omega)).nxt hp)).goes _⟩
theorem ign_stack (L:LX):L.ign.stack=L.stack:=rfl
theorem emit_stack (L:LX) (t:Nat) (v:ByteArray):(L.emit t v).stack=L.stack:=rfl
theorem ld_blkl_end (hp:p + 1 + 1 < s.size) (hst:st≤p + 1) (e:byteAt s (p + 1)=41) (e0:byteAt s p=10) (e2:byteAt s (p + 1 + 1)=10) (sk:List Nat) (n:Nat) (hk:stk=sk ++ [n]) (hl:sk.length≤1000000) :
  Emits s (p + 1) st stk (plainT 185) 5 (s.extract st (p + 1)) (1 + (nlc s (p + 1):Nat)) (p + 1 + 1) (p + 1 + 1) sk (plainT n):=by
 rintro L ⟨h,hs⟩;have hc:=h.chr (show p + 1 < s.size by omega);obtain ⟨hB,h1,h2⟩:=h.pkb (show p + 1 < s.size by omega);have hcB:=hB.chr (show p < s.size by omega);have hN:=(hB.nxt (show p < s.size by omega)).nxt (show p + 1 < s.size by omega);have hcN:=hN.chr hp;obtain ⟨hY,h3,h4⟩:=hN.pkb hp;obtain ⟨k1,k2⟩:=hY.gaveNI (show p + 1 < s.size by omega) 5 sk (plainT n);have hS:(((L.pk.back.nxt.nxt.pk.back.emit 5 L.pk.back.nxt.nxt.pk.back.txt).nxt).ign).stack=sk ++ [n]:=by
  rw [ign_stack,nxt_stack,emit_stack];exact hY.stack.trans hk
 have hR:L.pk.back.nxt.nxt.pk.back.parts=[]∧L.pk.back.nxt.nxt.pk.back.start≤L.pk.back.nxt.nxt.pk.back.pos∧L.pk.back.nxt.nxt.pk.back.q.length < 10:=⟨hY.parts,by rw [hY.start,hY.pos];exact hst,by rw [hY.q];decide⟩;have G:=blkl_end h.ok sk n hl h1 h2 h3 h4 hR hS (by rw [hc];exact e) (by rw [hcB];exact e0) (by rw [hcN];exact e2);exact ⟨1,_,_,run1 hs enters185 h.q G,k2,rfl,rfl,rfl,k1⟩
theorem ext_app (a b c:Nat) (h1:a≤b) (h2:b≤c):s.extract a b ++ s.extract b c=s.extract a c:=by
 rw [ByteArray.extract_append_extract,Nat.min_eq_left h1,Nat.max_eq_right h2]
theorem rd_blk {t:ByteArray} (hb:Blk t) (h:Has s p (⟨#[40]⟩ ++ t ++ ⟨#[41,10]⟩)) (hk:stk=sk ++ [n]) (hl:sk.length≤1000000) :
  ∃ line,Emits s p p stk (plainT 174) 5 t line (p + t.size + 2) (p + t.size + 2) sk (plainT n):=by
 have h0:=h.left.left;have ht:Has s (p + 1) t:=h.left.right;have he:=h.right;have hz:((⟨#[40]⟩:ByteArray) ++ t).size=t.size + 1:=by rw [bsa];show 1 + t.size=_;omega
 rw [hz] at he;have e40:byteAt s p=40:=h0.at 0 (by decide);have e41:byteAt s (p + (t.size + 1))=41:=he.at 0 (by decide);have e10:byteAt s (p + (t.size + 1) + 1)=10:=he.at 1 (by decide);have hsz:=he.le;have h2:(⟨#[41,10]⟩:ByteArray).size=2:=rfl;have hts:=hb.size;have l0:Leads s p p stk (plainT 174) (p + 1) (p + 1) stk (plainT 185):=ld_val_blk (by omega) e40;have hin:∀ k,k≤t.size→Leads s (p + 1) (p + 1) stk (plainT 185) (p + 1 + k) (p + 1) stk (plainT 185):=by
  intro k
  induction k with
  | zero=>exact fun _=>Leads.refl
  | succ k ih =>
   intro hk;refine (ih (by omega)).trans ?_;have hbk:=ht.at k (by omega);by_cases h41:byteAt t k=41
   ·have hk0:k ≠ 0:=by rintro rfl;have:=hb.first;omega
    obtain ⟨j,rfl⟩:=Nat.exists_eq_succ_of_ne_zero hk0;have hm:=hb.mid (j + 1) (by omega) (by omega);rw [Nat.add_sub_cancel] at hm;have hbj:=ht.at j (by omega);have:=ld_blk_in (s:=s) (p:=p + 1 + j) (st:=p + 1) (stk:=stk) (by omega) (by rw [show p + 1 + j + 1=p + 1 + (j + 1) from rfl,hbk];exact h41) (by rw [hbj];exact fun h=>hm.1 ⟨h,h41⟩);exact this
   ·refine ld_blk_ch (by omega) (by rw [hbk];exact h41) ?_;rw [hbk];rcases Nat.eq_zero_or_pos k with rfl | hk0
    ·rw [hb.first];decide
    ·rcases (hb.mid k hk0 (by omega)).2 with h | h <;> omega
 have l1:=hin t.size (Nat.le_refl _);have hlast:=ht.at (t.size - 1) (by omega);rw [hb.last] at hlast;obtain ⟨q,hq⟩:∃ q,q=p + 1 + (t.size - 1):=⟨_,rfl⟩;have hq1:p + 1 + t.size=q + 1:=by omega
 rw [← hq] at hlast;rw [hq1] at l1;have E:=ld_blkl_end (s:=s) (p:=q) (st:=p + 1) (stk:=stk) (by omega) (by omega) (by rw [show q + 1=p + (t.size + 1) from by omega];exact e41) hlast (by rw [show q + 1 + 1=p + (t.size + 1) + 1 from by omega];exact e10) sk n hk hl;have hx:s.extract (p + 1) (q + 1)=t:=by rw [← hq1];exact ht.ext
 rw [hx,show q + 1 + 1=p + t.size + 2 from by omega] at E;exact ⟨_,(l0.trans l1).emits E⟩
theorem rd_sq {t:ByteArray} (hP:Plain t q5) (h:Has s p (⟨#[39]⟩ ++ t ++ ⟨#[39]⟩)) (hk:stk=sk ++ [n]) (hl:sk.length≤1000000) :
  ∃ line,Emits s p p stk (plainT 174) 5 t line (p + t.size + 2) (p + t.size + 2) sk (plainT n):=by
 have h0:=h.left.left;have ht:Has s (p + 1) t:=h.left.right;have he:=h.right;have hz:((⟨#[39]⟩:ByteArray) ++ t).size=t.size + 1:=by rw [bsa];show 1 + t.size=_;omega
 rw [hz] at he;have e39:byteAt s p=39:=h0.at 0 (by decide);have e39':byteAt s (p + (t.size + 1))=39:=he.at 0 (by decide);have hsz:=he.le;have h2:(⟨#[39]⟩:ByteArray).size=1:=rfl;have l0:Leads s p p stk (plainT 174) (p + 1) (p + 1) stk (plainT 182):=ld_val_sq (by omega) e39
 have l1:=leads_run (s:=s) (p:=p + 1) (st:=p + 1) (stk:=stk) (f:=182) (Q:=fun c=>c ≠ 39∧c ≠ 0) (fun p hp hq=>ld_sq_ch hp hq.1 hq.2) t.size (by omega) (fun i hi=>by
  rw [ht.at i hi];have hq:=hP i hi;have h39:=hq.2.2 1 (by decide);rw [show byteAt q5 1=39 from rfl] at h39
  exact ⟨h39,by omega⟩)
 have E:=ld_sq_end (s:=s) (p:=p + 1 + t.size) (st:=p + 1) (stk:=stk) (by omega) (by omega) (by rw [show p + 1 + t.size=p + (t.size + 1) from by omega];exact e39') sk n hk hl;rw [ht.ext,show p + 1 + t.size + 1=p + t.size + 2 from by omega] at E;exact ⟨_,(l0.trans l1).emits E⟩
def tmB (c:Nat):Prop:=c=10 ∨ c=32 ∨ c=59 ∨ c=44 ∨ c=125
theorem ld_str_tm (hp:p < s.size) (hst:st≤p) (e:tmB (byteAt s p)) (hb:boolWord (s.extract st p)=false) (hv:st < s.size→byteAt s st ≠ 36) (sk:List Nat) (n:Nat) (hk:stk=sk ++ [n]) (hl:sk.length≤1000000):Emits s p st stk (plainT 187) 5 (s.extract st p) (1 + (nlc s p:Nat)) p p sk (plainT n):=by
 rcases e with e | e | e | e | e
 ·exact ld_str_nl hp hst e hb hv sk n hk hl
 ·exact ld_str_ws hp hst e hb hv sk n hk hl
 ·exact ld_str_semi hp hst e hb hv sk n hk hl
 ·exact ld_str_comma hp hst e hb hv sk n hk hl
 ·exact ld_str_brace hp hst e hb hv sk n hk hl
theorem ld_var_tm (hp:p < s.size) (hst:st + 1≤p) (e:tmB (byteAt s p)) (hb:boolWord (s.extract st p)=false) (hv:byteAt s st=36) (sk:List Nat) (n:Nat) (hk:stk=sk ++ [n]) (hl:sk.length≤1000000):Emits s p st stk (plainT 187) 15 (s.extract (st + 1) p) (1 + (nlc s p:Nat)) p p sk (plainT n):=by
 rcases e with e | e | e | e | e
 ·exact ld_var_nl hp hst e hb hv sk n hk hl
 ·exact ld_var_ws hp hst e hb hv sk n hk hl
 ·exact ld_var_semi hp hst e hb hv sk n hk hl
 ·exact ld_var_comma hp hst e hb hv sk n hk hl
 ·exact ld_var_brace hp hst e hb hv sk n hk hl
def strB (c:Nat):Prop:=isNLb c=false∧isWS c=false∧c ≠ 92∧c ≠ 0∧c ≠ 59∧c ≠ 44∧c ≠ 93∧c ≠ 125∧c ≠ 39
theorem ld_str_chB (hp:p < s.size) (h:strB (byteAt s p)):Leads s p st stk (plainT 187) (p + 1) st stk (plainT 187):=by
 obtain ⟨h1,h2,h3,h4,h5,h6,h7,h8,h9⟩:=h;exact ld_str_ch hp h1 h2 h3 h4 h5 h6 h7 h8 h9
theorem strB_of {c:Nat} (h:letB c ∨ goodB c):strB c:=by
 unfold letB goodB at h;refine ⟨?_,?_,?_⟩
 ·simp [isNLb];omega
 ·simp [isWS];omega
 ·omega
theorem Bare.strB {t:ByteArray} (hB:Bare t) (i:Nat) (hi:i < t.size):strB (byteAt t i):=by
 rcases hB.bytes i hi with h | h
 ·exact strB_of (.inl h)
 ·exact strB_of (.inr h.2)
theorem Bare.noBool {t:ByteArray} (hB:Bare t):boolWord t=false:=by
 have h:=hB.kw;unfold boolWord;have hh:∀ x ∈ kwWords,(Lib.toLowerA t.data.toList == x)=false:=fun x hx=>bqf (h x hx)
 rw [hh _ (by simp [kwWords]),hh _ (by simp [kwWords]),hh _ (by simp [kwWords]),hh _ (by simp [kwWords]),hh _ (by simp [kwWords]),hh _ (by simp [kwWords])];rfl
theorem rd_bare {t:ByteArray} (hB:Bare t) (h:Has s p t) (hlt:p + t.size < s.size) (he:tmB (byteAt s (p + t.size))) (hk:stk=sk ++ [n]) (hl:sk.length≤1000000) :
  ∃ line,Emits s p p stk (plainT 174) 5 t line (p + t.size) (p + t.size) sk (plainT n):=by
 have hpos:=hB.pos;have e0:byteAt s p=byteAt t 0:=h.at 0 hpos;have hl0:letB (byteAt t 0):=by
  rcases hB.bytes 0 hpos with h | h
  ·exact h
  ·exact absurd rfl h.1
 have hs0:=strB_of (.inl hl0);have hnd:isDig (byteAt t 0)=false:=by unfold letB at hl0;simp [isDig];omega
 have hc0:byteAt t 0 ≠ 91∧byteAt t 0 ≠ 123∧byteAt t 0 ≠ 34∧byteAt t 0 ≠ 45∧byteAt t 0 ≠ 40∧byteAt t 0 ≠ 46∧byteAt t 0 ≠ 36:=by unfold letB at hl0;omega
 have l0:Leads s p p stk (plainT 174) p p stk (plainT 187):=ld_val_str (by omega) (by rw [e0];exact hs0.2.1) (by rw [e0];exact hnd) (by rw [e0];exact hs0.1) (by rw [e0];exact hc0.1) (by rw [e0];exact hc0.2.1) (by rw [e0];exact hs0.2.2.2.2.2.2.2.2) (by rw [e0];exact hc0.2.2.1) (by rw [e0];exact hc0.2.2.2.1) (by rw [e0];exact hc0.2.2.2.2.1) (by rw [e0];exact hc0.2.2.2.2.2.1);have l1:=leads_run (s:=s) (p:=p) (st:=p) (stk:=stk) (f:=187) (Q:=strB) (fun p hp hq=>ld_str_chB hp hq) t.size (by omega) (fun i hi=>by rw [h.at i hi];exact hB.strB i hi);have E:=ld_str_tm (s:=s) (p:=p + t.size) (st:=p) (stk:=stk) hlt (by omega) he (by rw [h.ext];exact hB.noBool) (fun _=>by rw [e0];exact hc0.2.2.2.2.2.2) sk n hk hl;rw [h.ext] at E;exact ⟨_,(l0.trans l1).emits E⟩
theorem rd_var {t:ByteArray} (hB:Bare t) (h:Has s p (⟨#[36]⟩ ++ t)) (hlt:p + t.size + 1 < s.size) (he:tmB (byteAt s (p + t.size + 1))) (hk:stk=sk ++ [n]) (hl:sk.length≤1000000) :
  ∃ line,Emits s p p stk (plainT 174) 15 t line (p + t.size + 1) (p + t.size + 1) sk (plainT n):=by
 have h36:=h.left;have ht:Has s (p + 1) t:=h.right;have e0:byteAt s p=36:=h36.at 0 (by decide);have l0:Leads s p p stk (plainT 174) p p stk (plainT 187):=ld_val_str (by omega) (by rw [e0];rfl) (by rw [e0];rfl) (by rw [e0];rfl) (by rw [e0];decide) (by rw [e0];decide) (by rw [e0];decide) (by rw [e0];decide) (by rw [e0];decide) (by rw [e0];decide) (by rw [e0];decide);have l00:Leads s p p stk (plainT 187) (p + 1) p stk (plainT 187):=ld_str_chB (by omega) (by rw [e0];refine ⟨rfl,rfl,?_⟩;decide);have l1:=leads_run (s:=s) (p:=p + 1) (st:=p) (stk:=stk) (f:=187) (Q:=strB) (fun p hp hq=>ld_str_chB hp hq) t.size (by omega) (fun i hi=>by rw [ht.at i hi];exact hB.strB i hi);have hx:s.extract p (p + 1 + t.size)=⟨#[36]⟩ ++ t:=by
  have:=h.ext;rwa [bsa,← Nat.add_assoc] at this
 have hnb:boolWord (s.extract p (p + 1 + t.size))=false:=by
  rw [hx];have hd:Lib.toLowerA ((⟨#[36]⟩:ByteArray) ++ t).data.toList=36 :: Lib.toLowerA t.data.toList:=by
   rw [app_list];rfl
  unfold boolWord;rw [hd];rfl
 have E:=ld_var_tm (s:=s) (p:=p + 1 + t.size) (st:=p) (stk:=stk) (by omega) (by omega) (by rw [show p + 1 + t.size=p + t.size + 1 from by omega];exact he) hnb e0 sk n hk hl;rw [ht.ext,show p + 1 + t.size=p + t.size + 1 from by omega] at E;rw [show p + 1 + t.size=p + t.size + 1 from by omega] at l1;exact ⟨_,(l0.trans (l00.trans l1)).emits E⟩
end
theorem bytes_app (a b:List UInt8):(⟨(a ++ b).toArray⟩:ByteArray)=⟨a.toArray⟩ ++ ⟨b.toArray⟩:=by
 apply ByteArray.ext
 rw [ByteArray.data_append];simp
theorem join_flat (l:List (List UInt8)):Lib.join l []=l.flatten:=by
 cases l with
 | nil=>rfl
 | cons x r=>rw [Lib.join_cons,Lib.joinTail];simp
theorem joinB_snoc (ps:List ByteArray) (a x:ByteArray):joinB (ps ++ [a] ++ [x])=joinB ps ++ a ++ x:=by
 unfold joinB;rw [join_flat,join_flat];apply ByteArray.ext;rw [ByteArray.data_append,ByteArray.data_append];simp
theorem joinB_nil:joinB []=⟨#[]⟩:=rfl
structure LX.IsP (L:LX) (s:ByteArray) (p st:Nat) (stk:List Nat) (ps:List ByteArray):Prop where
 ok:L.Ok
 inp:L.inp=s
 pos:L.pos=p
 start:L.start=st
 stack:L.stack=stk
 parts:L.parts=ps
 q:L.q=[]
 ssf:L.ssf=some 183
section
variable {s:ByteArray} {p st:Nat} {stk sk:List Nat} {L:LX} {n:Nat} {ps:List ByteArray}
theorem LX.IsP.goes (h:L.IsP s p st stk ps) (t:Tag):(L.goes t).IsP s p st stk ps:=⟨h.ok.goes t,h.inp,h.pos,h.start,h.stack,h.parts,h.q,h.ssf⟩
theorem LX.IsP.nxt (h:L.IsP s p st stk ps) (hp:p < s.size):L.nxt.IsP s (p + 1) st stk ps:=by
 obtain ⟨h1,h2,h3,h4,h5,h6,h7,h8⟩:=nxt_same L;refine ⟨h.ok.nxt,by rw [h5];exact h.inp,?_,by rw [h4];exact h.start,by rw [h1];exact h.stack,by rw [h2];exact h.parts,by rw [h3];exact h.q,by rw [h7];exact h.ssf⟩;rw [nxt_pos,h.inp,h.pos,if_neg (by omega)]
theorem LX.IsP.part (h:L.IsP s (p + 1) st stk ps):L.part.IsP s (p + 1) (p + 1) stk (ps ++ [s.extract st p]):=by
 refine ⟨h.ok.part,h.inp,h.pos,h.pos,h.stack,?_,h.q,h.ssf⟩;show L.parts ++ [L.inp.extract L.start (L.pos - 1)]=_;rw [h.parts,h.inp,h.start,h.pos,Nat.add_sub_cancel]
theorem LX.IsP.addp (h:L.IsP s p st stk ps) (x:ByteArray):(L.addp x).IsP s p p stk (ps ++ [x]):=by
 refine ⟨h.ok.addp x,h.inp,h.pos,h.pos,h.stack,?_,h.q,h.ssf⟩;show L.parts ++ [x]=_;rw [h.parts]
theorem LX.IsP.is0 (h:L.IsP s p st stk []):L.Is0 s p st stk:=⟨h.ok,h.inp,h.pos,h.start,h.stack,h.parts,h.q⟩
theorem LX.IsP.chr (h:L.IsP s p st stk ps) (hp:p < s.size):L.chr=byteAt s p:=by unfold LX.chr;rw [h.inp,h.pos,if_neg (by omega)]
theorem LX.IsP.pk (h:L.IsP s p st stk ps):L.pk.IsP s p st stk ps:=by
 obtain ⟨h1,h2,h3,h4,h5,h6,h7,h8,h9,h10⟩:=pk_same L;exact ⟨h.ok.pk,by rw [h5];exact h.inp,by rw [h9];exact h.pos,by rw [h4];exact h.start,by rw [h1];exact h.stack,by rw [h2];exact h.parts,by rw [h3];exact h.q,by rw [h7];exact h.ssf⟩
theorem dq_fin (h:L.IsP s p st stk ps) (hs:L.state=plainT 183) (hst:st≤p) (hp:p < s.size) (e:byteAt s p=34) (hj:(joinB ps).size≤st) (hn:ps.length≤st) (hk:stk=sk ++ [n]) (hl:sk.length≤1000000) :
  ∃ m L' x,Run m L L'∧L'.q=[x]∧x.typ=5∧x.val=joinB ps ++ s.extract st p∧x.line=1 + (nlc s p:Nat)∧(L'.took []).Is s (p + 1) (p + 1) sk (plainT n):=by
 have hc:=h.chr hp;have hsm:=h.ok.small;rw [h.inp] at hsm;have hst':=h.stack.trans hk;by_cases hps:ps=[]
 ·subst hps;have h0:=h.is0;obtain ⟨h1,h2⟩:=(h0.pk).gaveNI hp 5 sk (plainT n);refine ⟨1,_,_,run1 hs enters183 h.q (dq_end h.ok (h0.rdy hst) sk n hst' hl (by rw [hc];exact e)),h2,rfl,?_,rfl,h1⟩;rw [joinB_nil,empty_app]
 ·have hP:=h.pk;have hprt:L.parts ≠ []:=by rw [h.parts];exact hps
  have hval:joinB L.pk.parts ++ L.pk.txt=joinB ps ++ s.extract st p:=by
   unfold LX.txt;rw [hP.parts,hP.inp,hP.start,hP.pos]
  have hline:L.pk.line=1 + (nlc s p:Nat):=by
   have:=h.ok.line;rw [h.inp,h.pos] at this;rw [(pk_same L).2.2.2.2.2.2.2.2.2,this]
  have k:=hP.ok.emit 5 L.pk.txt;have hE:(L.pk.emitP.took []).Is0 s p p stk:=⟨⟨k.small,k.pos,k.start,k.width,k.lstart,k.ilstart,k.line,k.asc⟩,hP.inp,hP.pos,hP.pos,hP.stack,rfl,rfl⟩;have hq:L.pk.emitP.q=[⟨5,joinB ps ++ s.extract st p,1 + (nlc s p:Nat),(L.pk.pos:Int) - L.pk.ilstart - (joinB L.pk.parts ++ L.pk.txt).size⟩]:=by
   show L.pk.q ++ [_]=_
   rw [hP.q,hval,hline];rfl
  have h3:=(((hE.nxt hp).ign).stkd sk).goes (plainT n);rw [← nxt_took] at h3;refine ⟨1,_,_,run1 hs enters183 h.q (dqp_end h.ok sk n hst' hl ⟨hprt,by rw [h.parts];omega,by rw [h.parts];omega⟩ (by rw [h.start,h.pos];exact hst) (by rw [h.q];decide) (by rw [hc];exact e)),(nxt_q _).trans hq,rfl,rfl,rfl,h3⟩
theorem dq_one (h:L.IsP s p st stk ps) (hs:L.state=plainT 183) (hst:st≤p) (hp:p + 1 < s.size) (e:byteAt s p=92) (c:UInt8) (e1:escC c=[92,UInt8.ofNat (byteAt s (p + 1))]) (hn:ps.length≤st) :
  ∃ m L',Run m L L'∧L'.IsP s (p + 1 + 1) (p + 1 + 1) stk (ps ++ [s.extract st p] ++ [⟨#[c]⟩])∧L'.state=plainT 183:=by
 have hc:=h.chr (show p < s.size by omega);have hsm:=h.ok.small;rw [h.inp] at hsm;have hN:=h.nxt (show p < s.size by omega);have hp1:=hN.part;have r1:=run1 hs enters183 h.q (dq_esc h.ok (by rw [hc];exact e) (by rw [hN.start,hN.pos];omega) (by rw [hN.parts];omega));have hG:=hp1.goes (plainT 196);have hGc:=hG.chr hp;have hGl:(L.nxt.part.goes (plainT 196)).parts.length≤1000000:=by rw [hG.parts,List.length_append,List.length_singleton];omega
 have hb:=byteAt_lt s (p + 1);have fin:∀ x:ByteArray,x=⟨#[c]⟩→Goes1 196 (L.nxt.part.goes (plainT 196)) ((L.nxt.part.goes (plainT 196)).nxt.addp x) (plainT 183)→∃ m L',Run m L L'∧L'.IsP s (p + 1 + 1) (p + 1 + 1) stk (ps ++ [s.extract st p] ++ [⟨#[c]⟩])∧L'.state=plainT 183:=by
  intro x hx g;subst hx;exact ⟨_,_,r1.trans (run1 (L:=L.nxt.part.goes (plainT 196)) rfl enters196 hG.q g),((hG.nxt hp).addp _).goes _,rfl⟩
 unfold escC at e1
 split at e1
 ·next h10 =>
  have e2:byteAt s (p + 1)=110:=by
   have:=congrArg UInt8.toNat (List.cons.inj (List.cons.inj e1).2).1;rw [UInt8.toNat_ofNat'] at this;have h2:(110:UInt8).toNat=110:=rfl;omega
  have hcc:c=10:=UInt8.toNat_inj.1 h10;exact fin ⟨#[10]⟩ (by rw [hcc]) (esc_n hG.ok 183 hG.ssf hGl (by rw [hGc];exact e2))
 ·split at e1
  ·next h10 h9 =>
   have e2:byteAt s (p + 1)=116:=by
    have:=congrArg UInt8.toNat (List.cons.inj (List.cons.inj e1).2).1;rw [UInt8.toNat_ofNat'] at this;have h2:(116:UInt8).toNat=116:=rfl;omega
   have hcc:c=9:=UInt8.toNat_inj.1 h9;exact fin ⟨#[9]⟩ (by rw [hcc]) (esc_t hG.ok 183 hG.ssf hGl (by rw [hGc];exact e2))
  ·split at e1
   ·next h10 h9 h34 =>
    have e2:byteAt s (p + 1)=c.toNat:=by
     have:=congrArg UInt8.toNat (List.cons.inj (List.cons.inj e1).2).1;rw [UInt8.toNat_ofNat'] at this;omega
    rcases h34 with h34 | h92
    ·have hcc:c=34:=UInt8.toNat_inj.1 h34;exact fin ⟨#[34]⟩ (by rw [hcc]) (esc_q hG.ok 183 hG.ssf hGl (by rw [hGc,e2];exact h34))
    ·have hcc:c=92:=UInt8.toNat_inj.1 h92;exact fin ⟨#[92]⟩ (by rw [hcc]) (esc_b hG.ok 183 hG.ssf hGl (by rw [hGc,e2];exact h92))
   ·simp at e1
theorem run_dq (hk:stk=sk ++ [n]) (hl:sk.length≤1000000):∀ (r:List UInt8) (L:LX) (p st:Nat) (ps:List ByteArray),L.IsP s p st stk ps→L.state=plainT 183→st≤p→Has s p (⟨(r.flatMap escC).toArray⟩ ++ ⟨#[34]⟩)→(∀ c ∈ r,escOk c.toNat)→(joinB ps).size≤st→ps.length≤st →
  ∃ m L' x,Run m L L'∧L'.q=[x]∧x.typ=5∧x.val=joinB ps ++ s.extract st p ++ ⟨r.toArray⟩∧x.line=1 + (nlc s (p + (r.flatMap escC).length):Nat)∧(L'.took []).Is s (p + (r.flatMap escC).length + 1) (p + (r.flatMap escC).length + 1) sk (plainT n)
 | [],L,p,st,ps,h,hs,hst,hH,hok,hj,hn=>by
  have hlt:=hH.right.lt 0 (by decide);have e34:=hH.right.at 0 (by decide);have hz:(⟨(([]:List UInt8).flatMap escC).toArray⟩:ByteArray).size=0:=rfl;rw [hz,Nat.add_zero] at hlt e34;obtain ⟨m,L',x,h1,h2,h3,h4,h5,h6⟩:=dq_fin h hs hst hlt e34 hj hn hk hl;refine ⟨m,L',x,h1,h2,h3,?_,h5,h6⟩;rw [h4];exact (ByteArray.append_empty).symm
 | c :: r,L,p,st,ps,h,hs,hst,hH,hok,hj,hn=>by
  have hokc:=hok c (by simp);have hokr:∀ x ∈ r,escOk x.toNat:=fun x hx=>hok x (by simp [hx])
  have hx:(⟨((c :: r).flatMap escC).toArray⟩:ByteArray)=⟨(escC c).toArray⟩ ++ ⟨(r.flatMap escC).toArray⟩:=by rw [List.flatMap_cons,bytes_app]
  have hlen:((c :: r).flatMap escC).length=(escC c).length + (r.flatMap escC).length:=by rw [List.flatMap_cons,List.length_append]
  have hcr:(⟨(c :: r).toArray⟩:ByteArray)=⟨#[c]⟩ ++ ⟨r.toArray⟩:=bytes_app [c] r;rw [hx,ByteArray.append_assoc] at hH;have h0:=hH.left;have hr:=hH.right;have hle:=hr.le;rw [bsa] at hle;have h34:(⟨#[34]⟩:ByteArray).size=1:=rfl;by_cases hplain:escC c=[c]
  ·have hz:(⟨(escC c).toArray⟩:ByteArray).size=1:=by rw [hplain];rfl
   rw [hz] at hr hle;have eb:byteAt s p=c.toNat:=by
    have:=h0.at 0 (by rw [hz];decide);rw [hplain] at this;exact this
   have hlt:p < s.size:=by omega
   have hne:c.toNat ≠ 92∧c.toNat ≠ 34:=by
    constructor
    ·intro h;have:escC c=[92,c]:=by unfold escC;rw [if_neg (by omega),if_neg (by omega),if_pos (.inr h)]
     rw [this] at hplain;simp at hplain
    ·intro h;have:escC c=[92,c]:=by unfold escC;rw [if_neg (by omega),if_neg (by omega),if_pos (.inl h)]
     rw [this] at hplain;simp at hplain
   have hc:=h.chr hlt;have r1:=run1 hs enters183 h.q (dq_ch h.ok (by rw [hc,eb];exact hne.1) (by rw [hc,eb];exact hne.2) (by rw [hc,eb];unfold escOk at hokc;omega));obtain ⟨m,L',x,h1,h2,h3,h4,h5,h6⟩:=run_dq hk hl r (L.nxt.goes (plainT 183)) (p + 1) st ps ((h.nxt hlt).goes _) rfl (by omega) hr hokr hj hn;refine ⟨_,L',x,r1.trans h1,h2,h3,?_,?_,?_⟩
   ·rw [h4,hcr,← ext_app st p (p + 1) hst (by omega),ext_one s p hlt];have:s[p]'hlt=c:=UInt8.toNat_inj.1 (by rw [byteAt_get,eb]);rw [this];simp only [ByteArray.append_assoc]
   ·rw [h5,hlen,hplain,List.length_singleton,Nat.add_assoc]
   ·rw [hlen,hplain,List.length_singleton,← Nat.add_assoc];exact h6
  ·have hesc:∃ y,escC c=[92,y]:=by
    unfold escC at hplain ⊢
    split
    ·exact ⟨_,rfl⟩
    ·split
     ·exact ⟨_,rfl⟩
     ·split
      ·exact ⟨_,rfl⟩
      ·next h1 h2 h3=>rw [if_neg h1,if_neg h2,if_neg h3] at hplain;exact absurd rfl hplain
   obtain ⟨y,hy⟩:=hesc;have hz:(⟨(escC c).toArray⟩:ByteArray).size=2:=by rw [hy];rfl
   rw [hz] at hr hle;have e0:byteAt s p=92:=by
    have:=h0.at 0 (by rw [hz];decide);rw [hy] at this;exact this
   have e1:byteAt s (p + 1)=y.toNat:=by
    have:=h0.at 1 (by rw [hz];decide);rw [hy] at this;exact this
   obtain ⟨m1,L1,r1,hP,hs1⟩:=dq_one h hs hst (by omega) e0 c (by rw [hy,e1];simp) hn;have hjs:(joinB (ps ++ [s.extract st p] ++ [⟨#[c]⟩])).size≤p + 1 + 1:=by
    rw [joinB_snoc,bsa,bsa];have:(s.extract st p).size≤p - st:=by simp;omega
    have h1:(⟨#[c]⟩:ByteArray).size=1:=rfl;omega
   obtain ⟨m,L',x,h1,h2,h3,h4,h5,h6⟩:=run_dq hk hl r L1 (p + 1 + 1) (p + 1 + 1) _ hP hs1 (Nat.le_refl _) hr hokr hjs (by simp;omega);refine ⟨_,L',x,r1.trans h1,h2,h3,?_,?_,?_⟩
   ·rw [h4,hcr,joinB_snoc];have:s.extract (p + 1 + 1) (p + 1 + 1)=⟨#[]⟩:=ByteArray.extract_eq_empty_iff.2 (by omega);rw [this];have h2:(⟨#[]⟩:ByteArray)=ByteArray.empty:=rfl;rw [h2,ByteArray.append_empty];simp only [ByteArray.append_assoc]
   ·rw [h5,hlen,hy]
    congr 3
    show p + 1 + 1 + _=p + (2 + _)
    omega
   ·rw [hlen,hy];have:p + ([92,y].length + (r.flatMap escC).length) + 1=p + 1 + 1 + (r.flatMap escC).length + 1:=by show p + (2 + _) + 1=_;omega
    rw [this];exact h6
theorem rd_dq {t:ByteArray} (ht:∀ i,i < t.size→escOk (byteAt t i)) (h:Has s p (⟨#[34]⟩ ++ escT t ++ ⟨#[34]⟩)) (hk:stk=sk ++ [n]) (hl:sk.length≤1000000) :
  ∃ line,Emits s p p stk (plainT 174) 5 t line (p + (escT t).size + 2) (p + (escT t).size + 2) sk (plainT n):=by
 have e34:byteAt s p=34:=h.left.left.at 0 (by decide);have hlt:p < s.size:=h.left.left.lt 0 (by decide);rw [ByteArray.append_assoc] at h;have hr:Has s (p + 1) (escT t ++ ⟨#[34]⟩):=h.right;have hok:∀ c ∈ t.data.toList,escOk c.toNat:=by
  intro c hc;obtain ⟨i,hi,rfl⟩:=List.getElem_of_mem hc;have hi2:i < t.size:=by rw [data_length] at hi;exact hi
  have:=ht i hi2;rw [← byteAt_get t i hi2] at this;exact this
 have hsz:(escT t).size=(t.data.toList.flatMap escC).length:=List.size_toArray;refine ⟨1 + (nlc s (p + 1 + (t.data.toList.flatMap escC).length):Nat),?_⟩;rintro L ⟨h0,hs⟩;have hc:=h0.chr hlt;have r1:=run1 hs enters174 h0.q (val_dq h0.ok (by rw [hc];exact e34));have hI:((L.nxt.ign.ssfd 183).goes (plainT 183)).IsP s (p + 1) (p + 1) stk []:=by
  have:=(((h0.nxt hlt).ign).ssfd 183).goes (plainT 183);exact ⟨this.1.ok,this.1.inp,this.1.pos,this.1.start,this.1.stack,this.1.parts,this.1.q,rfl⟩
 obtain ⟨m,L',x,h1,h2,h3,h4,h5,h6⟩:=run_dq hk hl t.data.toList _ (p + 1) (p + 1) [] hI rfl (Nat.le_refl _) hr hok (Nat.zero_le _) (Nat.zero_le _);refine ⟨_,L',x,r1.trans h1,h2,h3,?_,h5,?_⟩
 ·rw [h4,joinB_nil,empty_app];have:s.extract (p + 1) (p + 1)=ByteArray.empty:=ByteArray.extract_eq_empty_iff.2 (by omega);rw [this,ByteArray.empty_append]
 ·rw [hsz,show p + (t.data.toList.flatMap escC).length + 2=p + 1 + (t.data.toList.flatMap escC).length + 1 from by omega];exact h6
end
inductive LowF:ByteArray→(Int→Int)→Prop
 | k:LowF ⟨#[107]⟩ (fun n=>n * 1000)
 | kb:LowF ⟨#[107,98]⟩ (fun n=>n * 1024)
 | kib:LowF ⟨#[107,105,98]⟩ (fun n=>n * 1024)
 | ki:LowF ⟨#[107,105]⟩ (fun n=>n * 1024)
 | m:LowF ⟨#[109]⟩ (fun n=>n * 1000 * 1000)
 | mb:LowF ⟨#[109,98]⟩ (fun n=>n * 1024 * 1024)
 | mib:LowF ⟨#[109,105,98]⟩ (fun n=>n * 1024 * 1024)
 | mi:LowF ⟨#[109,105]⟩ (fun n=>n * 1024 * 1024)
 | g:LowF ⟨#[103]⟩ (fun n=>n * 1000 * 1000 * 1000)
 | gb:LowF ⟨#[103,98]⟩ (fun n=>n * 1024 * 1024 * 1024)
 | gib:LowF ⟨#[103,105,98]⟩ (fun n=>n * 1024 * 1024 * 1024)
 | gi:LowF ⟨#[103,105]⟩ (fun n=>n * 1024 * 1024 * 1024)
 | t:LowF ⟨#[116]⟩ (fun n=>n * 1000 * 1000 * 1000 * 1000)
 | tb:LowF ⟨#[116,98]⟩ (fun n=>n * 1024 * 1024 * 1024 * 1024)
 | tib:LowF ⟨#[116,105,98]⟩ (fun n=>n * 1024 * 1024 * 1024 * 1024)
 | ti:LowF ⟨#[116,105]⟩ (fun n=>n * 1024 * 1024 * 1024 * 1024)
set_option maxRecDepth 100000 in
set_option maxHeartbeats 1000000 in
theorem parseInt_neg (t s:ByteArray) (ht:t=⟨#[45]⟩ ++ s) (hs:0 < s.size) (hd:isDigits s) (hn:numOf s.data.toList < 9223372036854775808) (hsm:s.size≤1000000) (w:World) :
  Calls Tryz.prog 99 #[.string t,i64 10,i64 64] w fun e w'=>e=.returned (.tuple #[.int .i64 (-((numOf s.data.toList:Nat):Int)),.nilIface])∧Below w.heap.size w w':=by
 have HU:=parseUint_c s hs hd (by omega) hsm w;have htz:t.size=1 + s.size:=by rw [ht,bsa];rfl
 have h0s:0 < t.size:=by omega
 have h45:(t[0]'h0s)=45:=by
  apply UInt8.toNat_inj.1
  rw [byteAt_get,ht,byteAt_app_left _ _ _ (by decide)];rfl
 have hex:t.extract 1 t.size=s:=by rw [ht];exact ByteArray.extract_append_eq_right rfl (by rw [bsa])
 rw [htz] at hex;have e1:(((t[0]'h0s).toNat:Int) == 45)=true:=by rw [h45];rfl
 have e2:(((t[0]'h0s).toNat:Int) == 43)=false:=by rw [h45];rfl
 have hne:=nonempty_list t h0s;obtain ⟨n,hnn⟩:∃ n,n=numOf s.data.toList:=⟨_,rfl⟩;rw [← hnn] at hn HU ⊢;have b1:(n:Int) < 9223372036854775808:=by omega
 have HN:=Lib.hid hn;have d1:decide ((9223372036854775808:Int)≤(n:Int))=false:=decide_eq_false (by omega);have d2:¬ ((9223372036854775808:Int)≤(n:Int)):=by omega
 have d3:decide ((9223372036854775808:Int) < (n:Int))=false:=decide_eq_false (by omega);have hw:IntKind.i64.wrap (n:Int)=(n:Int):=by rw [IntKind.wrap_i64];omega
 have hw2:IntKind.i64.wrap (-(n:Int))=-(n:Int):=by rw [IntKind.wrap_i64];omega
 have HB1:=Lib.hid b1;have hsz1:(1:Int)≤(t.size:Int):=by omega
 clear hd hnn hn b1 ht;go_enter Tryz.func99,Tryz.ntmps99;go_wp2_with fail;refine HU.mono ?_;rintro e w1 ⟨rfl,hb⟩;clear HU;go_wp2;go_ret2;exact ⟨rfl,hb⟩
set_option maxRecDepth 100000 in
theorem ParseInt_neg (t s:ByteArray) (ht:t=⟨#[45]⟩ ++ s) (hs:0 < s.size) (hd:isDigits s) (hn:numOf s.data.toList < 9223372036854775808) (hsm:s.size≤1000000) (w:World) :
  Calls Tryz.prog 68 #[.string t,i64 10,i64 64] w fun e w'=>e=.returned (.tuple #[.int .i64 (-((numOf s.data.toList:Nat):Int)),.nilIface])∧Below w.heap.size w w':=by
 have HU:=parseInt_neg t s ht hs hd hn hsm w;clear hn hd ht;go_enter Tryz.func68,Tryz.ntmps68;go_wp2_with fail;refine HU.mono ?_;rintro e w1 ⟨rfl,hb⟩;clear HU;go_wp2;go_ret2;exact ⟨rfl,hb⟩
section
variable {B:Nat} {lab lab1:Lab} {w w1:World} {K:PK} {X X':PX} {M:Nat→Prop}
end
theorem ng_k:LowF ⟨#[107]⟩ (fun n=>n * 1000):=.k
theorem ng_kb:LowF ⟨#[107,98]⟩ (fun n=>n * 1024):=.kb
theorem ng_kib:LowF ⟨#[107,105,98]⟩ (fun n=>n * 1024):=.kib
theorem ng_ki:LowF ⟨#[107,105]⟩ (fun n=>n * 1024):=.ki
theorem ng_m:LowF ⟨#[109]⟩ (fun n=>n * 1000 * 1000):=.m
theorem ng_mb:LowF ⟨#[109,98]⟩ (fun n=>n * 1024 * 1024):=.mb
theorem ng_mib:LowF ⟨#[109,105,98]⟩ (fun n=>n * 1024 * 1024):=.mib
theorem ng_mi:LowF ⟨#[109,105]⟩ (fun n=>n * 1024 * 1024):=.mi
theorem ng_g:LowF ⟨#[103]⟩ (fun n=>n * 1000 * 1000 * 1000):=.g
theorem ng_gb:LowF ⟨#[103,98]⟩ (fun n=>n * 1024 * 1024 * 1024):=.gb
theorem ng_gib:LowF ⟨#[103,105,98]⟩ (fun n=>n * 1024 * 1024 * 1024):=.gib
theorem ng_gi:LowF ⟨#[103,105]⟩ (fun n=>n * 1024 * 1024 * 1024):=.gi
theorem ng_t:LowF ⟨#[116]⟩ (fun n=>n * 1000 * 1000 * 1000 * 1000):=.t
theorem ng_tb:LowF ⟨#[116,98]⟩ (fun n=>n * 1024 * 1024 * 1024 * 1024):=.tb
theorem ng_tib:LowF ⟨#[116,105,98]⟩ (fun n=>n * 1024 * 1024 * 1024 * 1024):=.tib
theorem ng_ti:LowF ⟨#[116,105]⟩ (fun n=>n * 1024 * 1024 * 1024 * 1024):=.ti
theorem pi_c (sg:ByteArray) (m:Nat) (v:Int) (hv:(sg=⟨#[]⟩∧v=m) ∨ (sg=⟨#[45]⟩∧v=-(m:Int))) (hm:m≤4611686018427387904) (w:World) :
  Calls Tryz.prog 68 #[.string (sg ++ decB m),i64 10,i64 64] w fun e w'=>e=.returned (.tuple #[.int .i64 v,.nilIface])∧Below w.heap.size w w':=by
 have hz:=decB_small m (by omega);rcases hv with ⟨rfl,rfl⟩ | ⟨rfl,rfl⟩
 ·rw [empty_app];have:=ParseInt_pos (decB m) hz.1 (decB_dig m) (by rw [decB_num];omega) (by omega) w;rwa [decB_num] at this
 ·have:=ParseInt_neg _ (decB m) rfl hz.1 (decB_dig m) (by rw [decB_num];omega) (by omega) w;rwa [decB_num] at this
theorem sgdig (sg:ByteArray) (m:Nat) (hsg:sg=⟨#[]⟩ ∨ sg=⟨#[45]⟩) (i:Nat) (hi:i < (sg ++ decB m).size):(48≤byteAt (sg ++ decB m) i∧byteAt (sg ++ decB m) i≤57) ∨ byteAt (sg ++ decB m) i=45:=by
 rcases hsg with rfl | rfl
 ·rw [empty_app] at hi ⊢;exact .inl (decB_dig m i hi)
 ·rw [bsa] at hi
  cases i with
  | zero=>right;rw [byteAt_app_left _ _ _ (by decide)];rfl
  | succ i =>
   left
   have h:=byteAt_app_right (⟨#[45]⟩:ByteArray) (decB m) i;rw [show (⟨#[45]⟩:ByteArray).size + i=i + 1 from Nat.add_comm _ _] at h;rw [h];have h1:(⟨#[45]⟩:ByteArray).size=1:=rfl;exact decB_dig m i (by omega)
section
variable {K:PK} {cx cx1:List CJ} {ks ks1:List ByteArray}
structure SfI (sf:ByteArray) (u:Int):Prop where
 ex:∃ (low:ByteArray) (f:Int→Int),LowF low f∧(⟨(Lib.toLowerA sf.data.toList).toArray⟩:ByteArray)=low∧∀ v,f v=v * u
 s0:0 < sf.size
 s3:sf.size≤3
 d:isDig (byteAt sf 0)=false
 d2:byteAt sf 0 ≠ 45
 suf:isSuf (byteAt sf 0)=true
 asc:∀ j,j < sf.size→byteAt sf j < 128
 rest:∀ j,0 < j→j < sf.size→byteAt sf j=98 ∨ byteAt sf j=66 ∨ byteAt sf j=105
 trim:Lib.trimSpace sf.data.toList=sf.data.toList
theorem sfi_low0:SfI ⟨#[107]⟩ (mulB 1000 (0 + 1)):=⟨⟨_,_,ng_k,rfl,fun v=>by simp only [mulB];omega⟩,by decide,by decide,rfl,by decide,rfl,(show ∀ j,j < 1→byteAt ⟨#[107]⟩ j < 128 by decide),(fun j h0 h1=>absurd h1 (by show ¬ j < 1;omega)),rfl⟩
theorem sfi_up0:SfI ⟨#[75]⟩ (mulB 1000 (0 + 1)):=⟨⟨_,_,ng_k,rfl,fun v=>by simp only [mulB];omega⟩,by decide,by decide,rfl,by decide,rfl,(show ∀ j,j < 1→byteAt ⟨#[75]⟩ j < 128 by decide),(fun j h0 h1=>absurd h1 (by show ¬ j < 1;omega)),rfl⟩
theorem sfi_kib00:SfI ⟨#[107,98]⟩ (mulB 1024 (0 + 1)):=⟨⟨_,_,ng_kb,rfl,fun v=>by simp only [mulB];omega⟩,by decide,by decide,rfl,by decide,rfl,(show ∀ j,j < 2→byteAt ⟨#[107,98]⟩ j < 128 by decide),(show ∀ j,0 < j→j < 2→byteAt ⟨#[107,98]⟩ j=98 ∨ byteAt ⟨#[107,98]⟩ j=66 ∨ byteAt ⟨#[107,98]⟩ j=105 from (fun j h0 h1=>(show ∀ j,j < 2→0 < j→byteAt ⟨#[107,98]⟩ j=98 ∨ byteAt ⟨#[107,98]⟩ j=66 ∨ byteAt ⟨#[107,98]⟩ j=105 by decide) j h1 h0)),rfl⟩
theorem sfi_kib01:SfI ⟨#[107,105,98]⟩ (mulB 1024 (0 + 1)):=⟨⟨_,_,ng_kib,rfl,fun v=>by simp only [mulB];omega⟩,by decide,by decide,rfl,by decide,rfl,(show ∀ j,j < 3→byteAt ⟨#[107,105,98]⟩ j < 128 by decide),(show ∀ j,0 < j→j < 3→byteAt ⟨#[107,105,98]⟩ j=98 ∨ byteAt ⟨#[107,105,98]⟩ j=66 ∨ byteAt ⟨#[107,105,98]⟩ j=105 from (fun j h0 h1=>(show ∀ j,j < 3→0 < j→byteAt ⟨#[107,105,98]⟩ j=98 ∨ byteAt ⟨#[107,105,98]⟩ j=66 ∨ byteAt ⟨#[107,105,98]⟩ j=105 by decide) j h1 h0)),rfl⟩
theorem sfi_kib02:SfI ⟨#[107,105]⟩ (mulB 1024 (0 + 1)):=⟨⟨_,_,ng_ki,rfl,fun v=>by simp only [mulB];omega⟩,by decide,by decide,rfl,by decide,rfl,(show ∀ j,j < 2→byteAt ⟨#[107,105]⟩ j < 128 by decide),(show ∀ j,0 < j→j < 2→byteAt ⟨#[107,105]⟩ j=98 ∨ byteAt ⟨#[107,105]⟩ j=66 ∨ byteAt ⟨#[107,105]⟩ j=105 from (fun j h0 h1=>(show ∀ j,j < 2→0 < j→byteAt ⟨#[107,105]⟩ j=98 ∨ byteAt ⟨#[107,105]⟩ j=66 ∨ byteAt ⟨#[107,105]⟩ j=105 by decide) j h1 h0)),rfl⟩
theorem sfi_kib03:SfI ⟨#[107,66]⟩ (mulB 1024 (0 + 1)):=⟨⟨_,_,ng_kb,rfl,fun v=>by simp only [mulB];omega⟩,by decide,by decide,rfl,by decide,rfl,(show ∀ j,j < 2→byteAt ⟨#[107,66]⟩ j < 128 by decide),(show ∀ j,0 < j→j < 2→byteAt ⟨#[107,66]⟩ j=98 ∨ byteAt ⟨#[107,66]⟩ j=66 ∨ byteAt ⟨#[107,66]⟩ j=105 from (fun j h0 h1=>(show ∀ j,j < 2→0 < j→byteAt ⟨#[107,66]⟩ j=98 ∨ byteAt ⟨#[107,66]⟩ j=66 ∨ byteAt ⟨#[107,66]⟩ j=105 by decide) j h1 h0)),rfl⟩
theorem sfi_low1:SfI ⟨#[109]⟩ (mulB 1000 (1 + 1)):=⟨⟨_,_,ng_m,rfl,fun v=>by simp only [mulB];omega⟩,by decide,by decide,rfl,by decide,rfl,(show ∀ j,j < 1→byteAt ⟨#[109]⟩ j < 128 by decide),(fun j h0 h1=>absurd h1 (by show ¬ j < 1;omega)),rfl⟩
theorem sfi_up1:SfI ⟨#[77]⟩ (mulB 1000 (1 + 1)):=⟨⟨_,_,ng_m,rfl,fun v=>by simp only [mulB];omega⟩,by decide,by decide,rfl,by decide,rfl,(show ∀ j,j < 1→byteAt ⟨#[77]⟩ j < 128 by decide),(fun j h0 h1=>absurd h1 (by show ¬ j < 1;omega)),rfl⟩
theorem sfi_kib10:SfI ⟨#[109,98]⟩ (mulB 1024 (1 + 1)):=⟨⟨_,_,ng_mb,rfl,fun v=>by simp only [mulB];omega⟩,by decide,by decide,rfl,by decide,rfl,(show ∀ j,j < 2→byteAt ⟨#[109,98]⟩ j < 128 by decide),(show ∀ j,0 < j→j < 2→byteAt ⟨#[109,98]⟩ j=98 ∨ byteAt ⟨#[109,98]⟩ j=66 ∨ byteAt ⟨#[109,98]⟩ j=105 from (fun j h0 h1=>(show ∀ j,j < 2→0 < j→byteAt ⟨#[109,98]⟩ j=98 ∨ byteAt ⟨#[109,98]⟩ j=66 ∨ byteAt ⟨#[109,98]⟩ j=105 by decide) j h1 h0)),rfl⟩
theorem sfi_kib11:SfI ⟨#[109,105,98]⟩ (mulB 1024 (1 + 1)):=⟨⟨_,_,ng_mib,rfl,fun v=>by simp only [mulB];omega⟩,by decide,by decide,rfl,by decide,rfl,(show ∀ j,j < 3→byteAt ⟨#[109,105,98]⟩ j < 128 by decide),(show ∀ j,0 < j→j < 3→byteAt ⟨#[109,105,98]⟩ j=98 ∨ byteAt ⟨#[109,105,98]⟩ j=66 ∨ byteAt ⟨#[109,105,98]⟩ j=105 from (fun j h0 h1=>(show ∀ j,j < 3→0 < j→byteAt ⟨#[109,105,98]⟩ j=98 ∨ byteAt ⟨#[109,105,98]⟩ j=66 ∨ byteAt ⟨#[109,105,98]⟩ j=105 by decide) j h1 h0)),rfl⟩
theorem sfi_kib12:SfI ⟨#[109,105]⟩ (mulB 1024 (1 + 1)):=⟨⟨_,_,ng_mi,rfl,fun v=>by simp only [mulB];omega⟩,by decide,by decide,rfl,by decide,rfl,(show ∀ j,j < 2→byteAt ⟨#[109,105]⟩ j < 128 by decide),(show ∀ j,0 < j→j < 2→byteAt ⟨#[109,105]⟩ j=98 ∨ byteAt ⟨#[109,105]⟩ j=66 ∨ byteAt ⟨#[109,105]⟩ j=105 from (fun j h0 h1=>(show ∀ j,j < 2→0 < j→byteAt ⟨#[109,105]⟩ j=98 ∨ byteAt ⟨#[109,105]⟩ j=66 ∨ byteAt ⟨#[109,105]⟩ j=105 by decide) j h1 h0)),rfl⟩
theorem sfi_kib13:SfI ⟨#[109,66]⟩ (mulB 1024 (1 + 1)):=⟨⟨_,_,ng_mb,rfl,fun v=>by simp only [mulB];omega⟩,by decide,by decide,rfl,by decide,rfl,(show ∀ j,j < 2→byteAt ⟨#[109,66]⟩ j < 128 by decide),(show ∀ j,0 < j→j < 2→byteAt ⟨#[109,66]⟩ j=98 ∨ byteAt ⟨#[109,66]⟩ j=66 ∨ byteAt ⟨#[109,66]⟩ j=105 from (fun j h0 h1=>(show ∀ j,j < 2→0 < j→byteAt ⟨#[109,66]⟩ j=98 ∨ byteAt ⟨#[109,66]⟩ j=66 ∨ byteAt ⟨#[109,66]⟩ j=105 by decide) j h1 h0)),rfl⟩
theorem sfi_low2:SfI ⟨#[103]⟩ (mulB 1000 (2 + 1)):=⟨⟨_,_,ng_g,rfl,fun v=>by simp only [mulB];omega⟩,by decide,by decide,rfl,by decide,rfl,(show ∀ j,j < 1→byteAt ⟨#[103]⟩ j < 128 by decide),(fun j h0 h1=>absurd h1 (by show ¬ j < 1;omega)),rfl⟩
theorem sfi_up2:SfI ⟨#[71]⟩ (mulB 1000 (2 + 1)):=⟨⟨_,_,ng_g,rfl,fun v=>by simp only [mulB];omega⟩,by decide,by decide,rfl,by decide,rfl,(show ∀ j,j < 1→byteAt ⟨#[71]⟩ j < 128 by decide),(fun j h0 h1=>absurd h1 (by show ¬ j < 1;omega)),rfl⟩
theorem sfi_kib20:SfI ⟨#[103,98]⟩ (mulB 1024 (2 + 1)):=⟨⟨_,_,ng_gb,rfl,fun v=>by simp only [mulB];omega⟩,by decide,by decide,rfl,by decide,rfl,(show ∀ j,j < 2→byteAt ⟨#[103,98]⟩ j < 128 by decide),(show ∀ j,0 < j→j < 2→byteAt ⟨#[103,98]⟩ j=98 ∨ byteAt ⟨#[103,98]⟩ j=66 ∨ byteAt ⟨#[103,98]⟩ j=105 from (fun j h0 h1=>(show ∀ j,j < 2→0 < j→byteAt ⟨#[103,98]⟩ j=98 ∨ byteAt ⟨#[103,98]⟩ j=66 ∨ byteAt ⟨#[103,98]⟩ j=105 by decide) j h1 h0)),rfl⟩
theorem sfi_kib21:SfI ⟨#[103,105,98]⟩ (mulB 1024 (2 + 1)):=⟨⟨_,_,ng_gib,rfl,fun v=>by simp only [mulB];omega⟩,by decide,by decide,rfl,by decide,rfl,(show ∀ j,j < 3→byteAt ⟨#[103,105,98]⟩ j < 128 by decide),(show ∀ j,0 < j→j < 3→byteAt ⟨#[103,105,98]⟩ j=98 ∨ byteAt ⟨#[103,105,98]⟩ j=66 ∨ byteAt ⟨#[103,105,98]⟩ j=105 from (fun j h0 h1=>(show ∀ j,j < 3→0 < j→byteAt ⟨#[103,105,98]⟩ j=98 ∨ byteAt ⟨#[103,105,98]⟩ j=66 ∨ byteAt ⟨#[103,105,98]⟩ j=105 by decide) j h1 h0)),rfl⟩
theorem sfi_kib22:SfI ⟨#[103,105]⟩ (mulB 1024 (2 + 1)):=⟨⟨_,_,ng_gi,rfl,fun v=>by simp only [mulB];omega⟩,by decide,by decide,rfl,by decide,rfl,(show ∀ j,j < 2→byteAt ⟨#[103,105]⟩ j < 128 by decide),(show ∀ j,0 < j→j < 2→byteAt ⟨#[103,105]⟩ j=98 ∨ byteAt ⟨#[103,105]⟩ j=66 ∨ byteAt ⟨#[103,105]⟩ j=105 from (fun j h0 h1=>(show ∀ j,j < 2→0 < j→byteAt ⟨#[103,105]⟩ j=98 ∨ byteAt ⟨#[103,105]⟩ j=66 ∨ byteAt ⟨#[103,105]⟩ j=105 by decide) j h1 h0)),rfl⟩
theorem sfi_kib23:SfI ⟨#[103,66]⟩ (mulB 1024 (2 + 1)):=⟨⟨_,_,ng_gb,rfl,fun v=>by simp only [mulB];omega⟩,by decide,by decide,rfl,by decide,rfl,(show ∀ j,j < 2→byteAt ⟨#[103,66]⟩ j < 128 by decide),(show ∀ j,0 < j→j < 2→byteAt ⟨#[103,66]⟩ j=98 ∨ byteAt ⟨#[103,66]⟩ j=66 ∨ byteAt ⟨#[103,66]⟩ j=105 from (fun j h0 h1=>(show ∀ j,j < 2→0 < j→byteAt ⟨#[103,66]⟩ j=98 ∨ byteAt ⟨#[103,66]⟩ j=66 ∨ byteAt ⟨#[103,66]⟩ j=105 by decide) j h1 h0)),rfl⟩
theorem sfi_low3:SfI ⟨#[116]⟩ (mulB 1000 (3 + 1)):=⟨⟨_,_,ng_t,rfl,fun v=>by simp only [mulB];omega⟩,by decide,by decide,rfl,by decide,rfl,(show ∀ j,j < 1→byteAt ⟨#[116]⟩ j < 128 by decide),(fun j h0 h1=>absurd h1 (by show ¬ j < 1;omega)),rfl⟩
theorem sfi_up3:SfI ⟨#[84]⟩ (mulB 1000 (3 + 1)):=⟨⟨_,_,ng_t,rfl,fun v=>by simp only [mulB];omega⟩,by decide,by decide,rfl,by decide,rfl,(show ∀ j,j < 1→byteAt ⟨#[84]⟩ j < 128 by decide),(fun j h0 h1=>absurd h1 (by show ¬ j < 1;omega)),rfl⟩
theorem sfi_kib30:SfI ⟨#[116,98]⟩ (mulB 1024 (3 + 1)):=⟨⟨_,_,ng_tb,rfl,fun v=>by simp only [mulB];omega⟩,by decide,by decide,rfl,by decide,rfl,(show ∀ j,j < 2→byteAt ⟨#[116,98]⟩ j < 128 by decide),(show ∀ j,0 < j→j < 2→byteAt ⟨#[116,98]⟩ j=98 ∨ byteAt ⟨#[116,98]⟩ j=66 ∨ byteAt ⟨#[116,98]⟩ j=105 from (fun j h0 h1=>(show ∀ j,j < 2→0 < j→byteAt ⟨#[116,98]⟩ j=98 ∨ byteAt ⟨#[116,98]⟩ j=66 ∨ byteAt ⟨#[116,98]⟩ j=105 by decide) j h1 h0)),rfl⟩
theorem sfi_kib31:SfI ⟨#[116,105,98]⟩ (mulB 1024 (3 + 1)):=⟨⟨_,_,ng_tib,rfl,fun v=>by simp only [mulB];omega⟩,by decide,by decide,rfl,by decide,rfl,(show ∀ j,j < 3→byteAt ⟨#[116,105,98]⟩ j < 128 by decide),(show ∀ j,0 < j→j < 3→byteAt ⟨#[116,105,98]⟩ j=98 ∨ byteAt ⟨#[116,105,98]⟩ j=66 ∨ byteAt ⟨#[116,105,98]⟩ j=105 from (fun j h0 h1=>(show ∀ j,j < 3→0 < j→byteAt ⟨#[116,105,98]⟩ j=98 ∨ byteAt ⟨#[116,105,98]⟩ j=66 ∨ byteAt ⟨#[116,105,98]⟩ j=105 by decide) j h1 h0)),rfl⟩
theorem sfi_kib32:SfI ⟨#[116,105]⟩ (mulB 1024 (3 + 1)):=⟨⟨_,_,ng_ti,rfl,fun v=>by simp only [mulB];omega⟩,by decide,by decide,rfl,by decide,rfl,(show ∀ j,j < 2→byteAt ⟨#[116,105]⟩ j < 128 by decide),(show ∀ j,0 < j→j < 2→byteAt ⟨#[116,105]⟩ j=98 ∨ byteAt ⟨#[116,105]⟩ j=66 ∨ byteAt ⟨#[116,105]⟩ j=105 from (fun j h0 h1=>(show ∀ j,j < 2→0 < j→byteAt ⟨#[116,105]⟩ j=98 ∨ byteAt ⟨#[116,105]⟩ j=66 ∨ byteAt ⟨#[116,105]⟩ j=105 by decide) j h1 h0)),rfl⟩
theorem sfi_kib33:SfI ⟨#[116,66]⟩ (mulB 1024 (3 + 1)):=⟨⟨_,_,ng_tb,rfl,fun v=>by simp only [mulB];omega⟩,by decide,by decide,rfl,by decide,rfl,(show ∀ j,j < 2→byteAt ⟨#[116,66]⟩ j < 128 by decide),(show ∀ j,0 < j→j < 2→byteAt ⟨#[116,66]⟩ j=98 ∨ byteAt ⟨#[116,66]⟩ j=66 ∨ byteAt ⟨#[116,66]⟩ j=105 from (fun j h0 h1=>(show ∀ j,j < 2→0 < j→byteAt ⟨#[116,66]⟩ j=98 ∨ byteAt ⟨#[116,66]⟩ j=66 ∨ byteAt ⟨#[116,66]⟩ j=105 by decide) j h1 h0)),rfl⟩
theorem Sfx.item {sf:ByteArray} {u:Int} (h:Sfx sf u):(sf=⟨#[]⟩∧u=1) ∨ SfI sf u:=by
 cases h with
 | one=>exact .inl ⟨rfl,rfl⟩
 | low U hU =>
  right
  match U,hU with
  | 0,_=>exact sfi_low0
  | 1,_=>exact sfi_low1
  | 2,_=>exact sfi_low2
  | 3,_=>exact sfi_low3
 | up U hU =>
  right
  match U,hU with
  | 0,_=>exact sfi_up0
  | 1,_=>exact sfi_up1
  | 2,_=>exact sfi_up2
  | 3,_=>exact sfi_up3
 | kib U H hU hH =>
  right
  match U,H,hU,hH with
  | 0,0,_,_=>exact sfi_kib00
  | 0,1,_,_=>exact sfi_kib01
  | 0,2,_,_=>exact sfi_kib02
  | 0,3,_,_=>exact sfi_kib03
  | 1,0,_,_=>exact sfi_kib10
  | 1,1,_,_=>exact sfi_kib11
  | 1,2,_,_=>exact sfi_kib12
  | 1,3,_,_=>exact sfi_kib13
  | 2,0,_,_=>exact sfi_kib20
  | 2,1,_,_=>exact sfi_kib21
  | 2,2,_,_=>exact sfi_kib22
  | 2,3,_,_=>exact sfi_kib23
  | 3,0,_,_=>exact sfi_kib30
  | 3,1,_,_=>exact sfi_kib31
  | 3,2,_,_=>exact sfi_kib32
  | 3,3,_,_=>exact sfi_kib33
theorem mulB_pos {sf:ByteArray} {u:Int} (h:Sfx sf u):1≤u:=by
 cases h with
 | one=>omega
 | low U hU=>exact (mulB_bd true (U + 1) (by omega)).1
 | up U hU=>exact (mulB_bd true (U + 1) (by omega)).1
 | kib U H hU hH=>exact (mulB_bd false (U + 1) (by omega)).1
end
end Go.Cf
