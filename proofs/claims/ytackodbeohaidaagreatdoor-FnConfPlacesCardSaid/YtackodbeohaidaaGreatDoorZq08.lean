/-
  Texts joined: Ly Ru Rg R9 Bk Ap Ae Sh2 Bl Ep Rx Db Lv Vr.
-/
import Derived.Test.YtackodbeohaidaaGreatDoorZq03
import Derived.Test.YtackodbeohaidaaGreatDoorZq04
import Derived.Test.YtackodbeohaidaaGreatDoorZq05
import Derived.Test.YtackodbeohaidaaGreatDoorZq06
import Derived.Test.YtackodbeohaidaaGreatDoorZq07
import Derived.Lib.QuoteBits
import Derived.BigRegion
import Derived.Shelf.Strings.OnBuilder
import Derived.Shelf.Strings.TrimSpace
import Derived.Shelf.Sort.Plain
import Derived.Shelf.Strings.Prefix
import Derived.Shelf.Slices.In.SortNone
import Derived.Shelf.Slices.In.SortNone2
import Derived.Defers
import Derived.Maps.OwnSet
import Derived.Maps.OwnOps
namespace Go.Cf
open Go.RowKit Go.Conc Go.Proofs
section
variable {s:ByteArray} {p st:Nat} {stk:List Nat} {L:LX}
theorem nxt_took (L:LX) (q:List It):L.nxt.took q=(L.took q).nxt:=by
 have h1:(L.took q).inp=L.inp:=rfl;have h2:(L.took q).pos=L.pos:=rfl;unfold LX.nxt;rw [h1,h2]
 split
 ·rfl
 ·split <;> rfl
theorem LX.Is0.gave (h:L.Is0 s p st stk) (ty:Nat):((L.emit ty L.txt).took []).Is0 s p p stk∧(L.emit ty L.txt).q=[⟨ty,s.extract st p,1 + (nlc s p:Nat),(L.pos:Int) - L.ilstart - L.txt.size⟩]:=by
 have k:=h.ok.emit ty L.txt;exact ⟨⟨⟨k.small,k.pos,k.start,k.width,k.lstart,k.ilstart,k.line,k.asc⟩,h.inp,h.pos,h.pos,h.stack,h.parts,rfl⟩,(h.emitted0 ty none).2⟩
theorem LX.Is0.stkd (h:L.Is0 s p st stk) (sk:List Nat):(L.stk sk).Is0 s p st sk:=⟨⟨h.ok.small,h.ok.pos,h.ok.start,h.ok.width,h.ok.lstart,h.ok.ilstart,h.ok.line,h.ok.asc⟩,h.inp,h.pos,h.start,rfl,h.parts,h.q⟩
theorem LX.Is0.gaveN (h:L.Is0 s p st stk) (hp:p < s.size) (ty:Nat) (t:Tag):(((L.emit ty L.txt).nxt.goes t).took []).Is s (p + 1) p stk t∧((L.emit ty L.txt).nxt.goes t).q=[⟨ty,s.extract st p,1 + (nlc s p:Nat),(L.pos:Int) - L.ilstart - L.txt.size⟩]:=by
 obtain ⟨h1,h2⟩:=h.gave ty;refine ⟨?_,(nxt_q _).trans h2⟩;have h3:=(h1.nxt hp).goes t;rw [← nxt_took] at h3;exact h3
theorem LX.Is0.gaveNI (h:L.Is0 s p st stk) (hp:p < s.size) (ty:Nat) (sk:List Nat) (t:Tag):((((L.emit ty L.txt).nxt.ign.stk sk).goes t).took []).Is s (p + 1) (p + 1) sk t∧(((L.emit ty L.txt).nxt.ign.stk sk).goes t).q=[⟨ty,s.extract st p,1 + (nlc s p:Nat),(L.pos:Int) - L.ilstart - L.txt.size⟩]:=by
 obtain ⟨h1,h2⟩:=h.gave ty;refine ⟨?_,(nxt_q _).trans h2⟩;have h3:=(((h1.nxt hp).ign).stkd sk).goes t;rw [← nxt_took] at h3;exact h3
theorem ld_top_hash (hp:p < s.size) (hl:stk.length≤1000000) (e:byteAt s p=35):Leads s p st stk (plainT 60) (p + 1) st (stk ++ [60]) (plainT 90):=by
 rintro L ⟨h,hs⟩;have hc:=h.chr hp;exact ⟨1,_,run1 hs enters60 h.q (top_hash h.ok (by rw [h.stack];exact hl) (by rw [hc,e];rfl) (by rw [hc];exact e)),((h.nxt hp).psh 60).goes _⟩
theorem ld_top_slash (hp:p + 1 < s.size) (hl:stk.length≤1000000) (e:byteAt s p=47) (e2:byteAt s (p + 1)=47):Leads s p st stk (plainT 60) (p + 1 + 1) st (stk ++ [60]) (plainT 90):=by
 rintro L ⟨h,hs⟩;have hc:=h.chr (show p < s.size by omega);have hn:=h.nxt (show p < s.size by omega);have hc2:L.nxt.chr=byteAt s (p + 1):=hn.chr hp;exact ⟨1,_,run1 hs enters60 h.q (top_slash h.ok (by rw [h.stack];exact hl) (by rw [hc,e];rfl) (by rw [hc];exact e) (by rw [hc2];exact e2)),((hn.nxt hp).psh 60).goes _⟩
theorem ld_tve_hash (hp:p < s.size) (hl:stk.length≤1000000) (e:byteAt s p=35):Leads s p st stk (plainT 94) (p + 1) st (stk ++ [60]) (plainT 90):=by
 rintro L ⟨h,hs⟩;have hc:=h.chr hp;exact ⟨1,_,run1 hs enters94 h.q (tve_hash h.ok (by rw [h.stack];exact hl) (by rw [hc];exact e)),((h.nxt hp).psh 60).goes _⟩
theorem ld_tve_slash (hp:p + 1 < s.size) (hl:stk.length≤1000000) (e:byteAt s p=47) (e2:byteAt s (p + 1)=47):Leads s p st stk (plainT 94) (p + 1 + 1) st (stk ++ [60]) (plainT 90):=by
 rintro L ⟨h,hs⟩;have hc:=h.chr (show p < s.size by omega);have hn:=h.nxt (show p < s.size by omega);have hc2:L.nxt.chr=byteAt s (p + 1):=hn.chr hp;exact ⟨1,_,run1 hs enters94 h.q (tve_slash h.ok (by rw [h.stack];exact hl) (by rw [hc];exact e) (by rw [hc2];exact e2)),((hn.nxt hp).psh 60).goes _⟩
theorem ld_tve_semi (hp:p < s.size) (e:byteAt s p=59):Leads s p st stk (plainT 94) (p + 1) (p + 1) stk (plainT 60):=by
 rintro L ⟨h,hs⟩;have hc:=h.chr hp;exact ⟨1,_,run1 hs enters94 h.q (tve_semi h.ok (by rw [hc];exact e)),((h.nxt hp).ign).goes _⟩
theorem enters90:Enters 90:=fun args w=>by kernel_rfl
theorem ld_cs_go (hst:st≤p) :Emits s p st stk (plainT 90) 14 (s.extract p p) (1 + (nlc s p:Nat)) p p stk (plainT 130):=by
 rintro L ⟨h,hs⟩
 skip
 obtain ⟨h1,h2⟩:=(h.ign).emitted0 14 (plainT 130);exact ⟨1,_,_,run1 hs enters90 h.q (cs_go h.ok (h.rdy hst)),h2,rfl,rfl,rfl,h1⟩
theorem enters130:Enters 130:=fun args w=>by kernel_rfl
theorem ld_cm_ch (hp:p < s.size) (e1:isNLb (byteAt s p)=false) (h1:byteAt s p ≠ 0):Leads s p st stk (plainT 130) (p + 1) st stk (plainT 130):=by
 rintro L ⟨h,hs⟩;have hc:=h.chr hp;exact ⟨1,_,run1 hs enters130 h.q (cm_ch h.ok (by rw [hc];exact e1) (by rw [hc];exact h1)),((h.pk).nxt hp).goes _⟩
theorem ld_cm_nl (hp:p < s.size) (hst:st≤p) (e:byteAt s p=10) (sk:List Nat) (n:Nat) (hk:stk=sk ++ [n]) (hl:sk.length≤1000000):Emits s p st stk (plainT 130) 4 (s.extract st p) (1 + (nlc s p:Nat)) p p sk (plainT n):=by
 rintro L ⟨h,hs⟩;have hc:=h.chr hp;have hst':=h.stack.trans hk;obtain ⟨h1,h2⟩:=(h.pk).emitted 4 sk (plainT n);exact ⟨1,_,_,run1 hs enters130 h.q (cm_nl h.ok (h.rdy hst) sk n hst' hl (by rw [hc];exact e)),h2,rfl,rfl,rfl,h1⟩
theorem ld_ks_dq (hp:p < s.size) (e:byteAt s p=34):Leads s p st stk (plainT 95) (p + 1) st stk (skipT 137):=by
 rintro L ⟨h,hs⟩;have hc:=h.chr hp;exact ⟨1,_,run1 hs enters95 h.q (ks_dq h.ok (by rw [hc];exact e)),((h.pk).nxt hp).goes _⟩
theorem ld_ks_sq (hp:p < s.size) (e:byteAt s p=39):Leads s p st stk (plainT 95) (p + 1) st stk (skipT 138):=by
 rintro L ⟨h,hs⟩;have hc:=h.chr hp;exact ⟨1,_,run1 hs enters95 h.q (ks_sq h.ok (by rw [hc];exact e)),((h.pk).nxt hp).goes _⟩
theorem enters137:Enters 137:=fun args w=>by kernel_rfl
theorem ld_dqk_ch (hp:p < s.size) (h1:byteAt s p ≠ 34) (h2:byteAt s p ≠ 0):Leads s p st stk (plainT 137) (p + 1) st stk (plainT 137):=by
 rintro L ⟨h,hs⟩;have hc:=h.chr hp;exact ⟨1,_,run1 hs enters137 h.q (dqk_ch h.ok (by rw [hc];exact h1) (by rw [hc];exact h2)),((h.pk).nxt hp).goes _⟩
theorem enters138:Enters 138:=fun args w=>by kernel_rfl
theorem ld_sqk_ch (hp:p < s.size) (h1:byteAt s p ≠ 39) (h2:byteAt s p ≠ 0):Leads s p st stk (plainT 138) (p + 1) st stk (plainT 138):=by
 rintro L ⟨h,hs⟩;have hc:=h.chr hp;exact ⟨1,_,run1 hs enters138 h.q (sqk_ch h.ok (by rw [hc];exact h1) (by rw [hc];exact h2)),((h.pk).nxt hp).goes _⟩
theorem ld_dqk_end (hp:p < s.size) (hst:st≤p) (e:byteAt s p=34):Emits s p st stk (plainT 137) 3 (s.extract st p) (1 + (nlc s p:Nat)) (p + 1) p stk (skipT 163):=by
 rintro L ⟨h,hs⟩;have hc:=h.chr hp;obtain ⟨h1,h2⟩:=(h.pk).gaveN hp 3 (skipT 163);exact ⟨1,_,_,run1 hs enters137 h.q (dqk_end h.ok (h.rdy hst) (by rw [hc];exact e)),h2,rfl,rfl,rfl,h1⟩
theorem ld_sqk_end (hp:p < s.size) (hst:st≤p) (e:byteAt s p=39):Emits s p st stk (plainT 138) 3 (s.extract st p) (1 + (nlc s p:Nat)) (p + 1) p stk (skipT 163):=by
 rintro L ⟨h,hs⟩;have hc:=h.chr hp;obtain ⟨h1,h2⟩:=(h.pk).gaveN hp 3 (skipT 163);exact ⟨1,_,_,run1 hs enters138 h.q (sqk_end h.ok (h.rdy hst) (by rw [hc];exact e)),h2,rfl,rfl,rfl,h1⟩
theorem ld_val_sq (hp:p < s.size) (e:byteAt s p=39):Leads s p st stk (plainT 174) (p + 1) (p + 1) stk (plainT 182):=by
 rintro L ⟨h,hs⟩;have hc:=h.chr hp;exact ⟨1,_,run1 hs enters174 h.q (val_sq h.ok (by rw [hc];exact e)),((h.nxt hp).ign).goes _⟩
theorem ld_val_map (hp:p < s.size) (hst:st≤p) (e:byteAt s p=123):Emits s p st stk (plainT 174) 12 (s.extract (p + 1) (p + 1)) (1 + (nlc s (p + 1):Nat)) (p + 1) (p + 1) stk (plainT 181):=by
 rintro L ⟨h,hs⟩;have hc:=h.chr hp;obtain ⟨h1,h2⟩:=((h.nxt hp).ign).emitted0 12 (plainT 181);exact ⟨1,_,_,run1 hs enters174 h.q (val_map h.ok (h.rdy hst) (by rw [hc];exact e)),h2,rfl,rfl,rfl,h1⟩
theorem enters182:Enters 182:=fun args w=>by kernel_rfl
theorem ld_sq_ch (hp:p < s.size) (h1:byteAt s p ≠ 39) (h2:byteAt s p ≠ 0):Leads s p st stk (plainT 182) (p + 1) st stk (plainT 182):=by
 rintro L ⟨h,hs⟩;have hc:=h.chr hp;exact ⟨1,_,run1 hs enters182 h.q (sq_ch h.ok (by rw [hc];exact h1) (by rw [hc];exact h2)),(h.nxt hp).goes _⟩
theorem ld_sq_end (hp:p < s.size) (hst:st≤p) (e:byteAt s p=39) (sk:List Nat) (n:Nat) (hk:stk=sk ++ [n]) (hl:sk.length≤1000000):Emits s p st stk (plainT 182) 5 (s.extract st p) (1 + (nlc s p:Nat)) (p + 1) (p + 1) sk (plainT n):=by
 rintro L ⟨h,hs⟩;have hc:=h.chr hp;have hst':=h.stack.trans hk;obtain ⟨h1,h2⟩:=(h.pk).gaveNI hp 5 sk (plainT n);exact ⟨1,_,_,run1 hs enters182 h.q (sq_end h.ok (h.rdy hst) sk n hst' hl (by rw [hc];exact e)),h2,rfl,rfl,rfl,h1⟩
theorem ld_neg_start (hp:p < s.size) (e2:isDig (byteAt s p)=true):Leads s p st stk (plainT 184) (p + 1) st stk (plainT 198):=by
 rintro L ⟨h,hs⟩;have hc:=h.chr hp;exact ⟨1,_,run1 hs enters184 h.q (neg_start h.ok (by rw [hc];exact e2)),(h.nxt hp).goes _⟩
theorem enters198:Enters 198:=fun args w=>by kernel_rfl
theorem ld_neg_dig (hp:p < s.size) (e2:isDig (byteAt s p)=true):Leads s p st stk (plainT 198) (p + 1) st stk (plainT 198):=by
 rintro L ⟨h,hs⟩;have hc:=h.chr hp;exact ⟨1,_,run1 hs enters198 h.q (neg_dig h.ok (by rw [hc];exact e2)),(h.nxt hp).goes _⟩
theorem ld_neg_suf (hp:p < s.size) (e2:isDig (byteAt s p)=false) (e3:isSuf (byteAt s p)=true) (h1:byteAt s p ≠ 46):Leads s p st stk (plainT 198) (p + 1) st stk (plainT 212):=by
 rintro L ⟨h,hs⟩;have hc:=h.chr hp;exact ⟨1,_,run1 hs enters198 h.q (neg_suf h.ok (by rw [hc];exact e2) (by rw [hc];exact e3) (by rw [hc];exact h1)),(h.nxt hp).goes _⟩
theorem ld_neg_end (hp:p < s.size) (hst:st≤p) (e2:isDig (byteAt s p)=false) (e3:isSuf (byteAt s p)=false) (h46:byteAt s p ≠ 46) (sk:List Nat) (n:Nat) (hk:stk=sk ++ [n]) (hl:sk.length≤1000000):Emits s p st stk (plainT 198) 7 (s.extract st p) (1 + (nlc s p:Nat)) p p sk (plainT n):=by
 rintro L ⟨h,hs⟩;have hc:=h.chr hp;have hst':=h.stack.trans hk;obtain ⟨h1,h2⟩:=(h.pk).emitted 7 sk (plainT n);exact ⟨1,_,_,run1 hs enters198 h.q (neg_end h.ok (h.rdy hst) sk n hst' hl (by rw [hc];exact e2) (by rw [hc];exact e3) (by rw [hc];exact h46)),h2,rfl,rfl,rfl,h1⟩
theorem ld_num_semi (hp:p < s.size) (hst:st≤p) (e:byteAt s p=59) (sk:List Nat) (n:Nat) (hk:stk=sk ++ [n]) (hl:sk.length≤1000000):Emits s p st stk (plainT 199) 7 (s.extract st p) (1 + (nlc s p:Nat)) p p sk (plainT n):=by
 rintro L ⟨h,hs⟩;have hc:=h.chr hp;have hst':=h.stack.trans hk;obtain ⟨h1,h2⟩:=(h.pk).emitted 7 sk (plainT n);exact ⟨1,_,_,run1 hs enters199 h.q (num_semi h.ok (h.rdy hst) sk n hst' hl (by rw [hc];exact e)),h2,rfl,rfl,rfl,h1⟩
theorem ld_suf_semi (hp:p < s.size) (hst:st≤p) (e:byteAt s p=59) (sk:List Nat) (n:Nat) (hk:stk=sk ++ [n]) (hl:sk.length≤1000000):Emits s p st stk (plainT 212) 7 (s.extract st p) (1 + (nlc s p:Nat)) p p sk (plainT n):=by
 rintro L ⟨h,hs⟩;have hc:=h.chr hp;have hst':=h.stack.trans hk;obtain ⟨h1,h2⟩:=(h.pk).emitted 7 sk (plainT n);exact ⟨1,_,_,run1 hs enters212 h.q (suf_semi h.ok (h.rdy hst) sk n hst' hl (by rw [hc];exact e)),h2,rfl,rfl,rfl,h1⟩
theorem ld_num_comma (hp:p < s.size) (hst:st≤p) (e:byteAt s p=44) (sk:List Nat) (n:Nat) (hk:stk=sk ++ [n]) (hl:sk.length≤1000000):Emits s p st stk (plainT 199) 7 (s.extract st p) (1 + (nlc s p:Nat)) p p sk (plainT n):=by
 rintro L ⟨h,hs⟩;have hc:=h.chr hp;have hst':=h.stack.trans hk;obtain ⟨h1,h2⟩:=(h.pk).emitted 7 sk (plainT n);exact ⟨1,_,_,run1 hs enters199 h.q (num_comma h.ok (h.rdy hst) sk n hst' hl (by rw [hc];exact e)),h2,rfl,rfl,rfl,h1⟩
theorem ld_suf_comma (hp:p < s.size) (hst:st≤p) (e:byteAt s p=44) (sk:List Nat) (n:Nat) (hk:stk=sk ++ [n]) (hl:sk.length≤1000000):Emits s p st stk (plainT 212) 7 (s.extract st p) (1 + (nlc s p:Nat)) p p sk (plainT n):=by
 rintro L ⟨h,hs⟩;have hc:=h.chr hp;have hst':=h.stack.trans hk;obtain ⟨h1,h2⟩:=(h.pk).emitted 7 sk (plainT n);exact ⟨1,_,_,run1 hs enters212 h.q (suf_comma h.ok (h.rdy hst) sk n hst' hl (by rw [hc];exact e)),h2,rfl,rfl,rfl,h1⟩
theorem ld_num_brace (hp:p < s.size) (hst:st≤p) (e:byteAt s p=125) (sk:List Nat) (n:Nat) (hk:stk=sk ++ [n]) (hl:sk.length≤1000000):Emits s p st stk (plainT 199) 7 (s.extract st p) (1 + (nlc s p:Nat)) p p sk (plainT n):=by
 rintro L ⟨h,hs⟩;have hc:=h.chr hp;have hst':=h.stack.trans hk;obtain ⟨h1,h2⟩:=(h.pk).emitted 7 sk (plainT n);exact ⟨1,_,_,run1 hs enters199 h.q (num_brace h.ok (h.rdy hst) sk n hst' hl (by rw [hc];exact e)),h2,rfl,rfl,rfl,h1⟩
theorem ld_suf_brace (hp:p < s.size) (hst:st≤p) (e:byteAt s p=125) (sk:List Nat) (n:Nat) (hk:stk=sk ++ [n]) (hl:sk.length≤1000000):Emits s p st stk (plainT 212) 7 (s.extract st p) (1 + (nlc s p:Nat)) p p sk (plainT n):=by
 rintro L ⟨h,hs⟩;have hc:=h.chr hp;have hst':=h.stack.trans hk;obtain ⟨h1,h2⟩:=(h.pk).emitted 7 sk (plainT n);exact ⟨1,_,_,run1 hs enters212 h.q (suf_brace h.ok (h.rdy hst) sk n hst' hl (by rw [hc];exact e)),h2,rfl,rfl,rfl,h1⟩
theorem ld_suf_ws (hp:p < s.size) (hst:st≤p) (e:byteAt s p=32) (sk:List Nat) (n:Nat) (hk:stk=sk ++ [n]) (hl:sk.length≤1000000):Emits s p st stk (plainT 212) 7 (s.extract st p) (1 + (nlc s p:Nat)) p p sk (plainT n):=by
 rintro L ⟨h,hs⟩;have hc:=h.chr hp;have hst':=h.stack.trans hk;obtain ⟨h1,h2⟩:=(h.pk).emitted 7 sk (plainT n);exact ⟨1,_,_,run1 hs enters212 h.q (suf_ws h.ok (h.rdy hst) sk n hst' hl (by rw [hc];exact e)),h2,rfl,rfl,rfl,h1⟩
theorem enters181:Enters 181:=fun args w=>by kernel_rfl
theorem ld_mks_sp (hp:p < s.size) (e1:isSp (byteAt s p)=true) (e2:isSep (byteAt s p)=false) (h1:byteAt s p ≠ 93):Leads s p st stk (plainT 181) (p + 1) st stk (skipT 181):=by
 rintro L ⟨h,hs⟩;have hc:=h.chr hp;exact ⟨1,_,run1 hs enters181 h.q (mks_sp h.ok (by rw [hc];exact e1) (by rw [hc];exact e2) (by rw [hc];exact h1)),((h.pk).nxt hp).goes _⟩
theorem ld_mks_end (hp:p < s.size) (e:byteAt s p=125):Leads s p st stk (plainT 181) (p + 1) st stk (skipT 191):=by
 rintro L ⟨h,hs⟩;have hc:=h.chr hp;exact ⟨1,_,run1 hs enters181 h.q (mks_end h.ok (by rw [hc];exact e)),((h.pk).nxt hp).goes _⟩
theorem ld_mks_key (hp:p < s.size) (e1:isSep (byteAt s p)=false) (e2:isSp (byteAt s p)=false) (h0:byteAt s p ≠ 0) (h1:byteAt s p ≠ 93) (h2:byteAt s p ≠ 125) (h3:byteAt s p ≠ 35) (h4:byteAt s p ≠ 47) (h5:byteAt s p ≠ 39) (h6:byteAt s p ≠ 34):Leads s p st stk (plainT 181) (p + 1) p stk (plainT 194):=by
 rintro L ⟨h,hs⟩;have hc:=h.chr hp;exact ⟨1,_,run1 hs enters181 h.q (mks_key h.ok (by rw [hc];exact e1) (by rw [hc];exact e2) (by rw [hc];exact h0) (by rw [hc];exact h1) (by rw [hc];exact h2) (by rw [hc];exact h3) (by rw [hc];exact h4) (by rw [hc];exact h5) (by rw [hc];exact h6)),((h.pk.ign).nxt hp).goes _⟩
theorem enters194:Enters 194:=fun args w=>by kernel_rfl
theorem ld_mk_more (hp:p < s.size) (e1:isSp (byteAt s p)=false) (e2:isSep (byteAt s p)=false) (h1:byteAt s p ≠ 0):Leads s p st stk (plainT 194) (p + 1) st stk (plainT 194):=by
 rintro L ⟨h,hs⟩;have hc:=h.chr hp;exact ⟨1,_,run1 hs enters194 h.q (mk_more h.ok (by rw [hc];exact e1) (by rw [hc];exact e2) (by rw [hc];exact h1)),((h.pk).nxt hp).goes _⟩
theorem ld_mk_sp (hp:p < s.size) (hst:st≤p) (e1:isSp (byteAt s p)=true) (hk:noKw (s.extract st p)) (h0:byteAt s p ≠ 0):Emits s p st stk (plainT 194) 3 (s.extract st p) (1 + (nlc s p:Nat)) p p stk (plainT 206):=by
 rintro L ⟨h,hs⟩;have hc:=h.chr hp;obtain ⟨h1,h2⟩:=(h.pk).emitted0 3 (plainT 206);exact ⟨1,_,_,run1 hs enters194 h.q (mk_sp h.ok (h.rdy hst) (by rw [hc];exact e1) (by rw [h.pk.txt];exact hk) (by rw [hc];exact h0)),h2,rfl,rfl,rfl,h1⟩
theorem ld_mk_sep (hp:p < s.size) (hst:st≤p) (e1:isSp (byteAt s p)=false) (e2:isSep (byteAt s p)=true) (h0:byteAt s p ≠ 0):Emits s p st stk (plainT 194) 3 (s.extract st p) (1 + (nlc s p:Nat)) p p stk (plainT 206):=by
 rintro L ⟨h,hs⟩;have hc:=h.chr hp;obtain ⟨h1,h2⟩:=(h.pk).emitted0 3 (plainT 206);exact ⟨1,_,_,run1 hs enters194 h.q (mk_sep h.ok (h.rdy hst) (by rw [hc];exact e1) (by rw [hc];exact e2) (by rw [hc];exact h0)),h2,rfl,rfl,rfl,h1⟩
theorem enters206:Enters 206:=fun args w=>by kernel_rfl
theorem ld_mke_sp (hp:p < s.size) (e1:isSp (byteAt s p)=true):Leads s p st stk (plainT 206) (p + 1) st stk (skipT 206):=by
 rintro L ⟨h,hs⟩;have hc:=h.chr hp;exact ⟨1,_,run1 hs enters206 h.q (mke_sp h.ok (by rw [hc];exact e1)),(h.nxt hp).goes _⟩
theorem ld_mke_sep (hp:p < s.size) (e1:isSp (byteAt s p)=false) (e2:isSep (byteAt s p)=true):Leads s p st stk (plainT 206) (p + 1) st stk (skipT 214):=by
 rintro L ⟨h,hs⟩;have hc:=h.chr hp;exact ⟨1,_,run1 hs enters206 h.q (mke_sep h.ok (by rw [hc];exact e1) (by rw [hc];exact e2)),(h.nxt hp).goes _⟩
theorem ld_mke_other (hp:p < s.size) (e1:isSp (byteAt s p)=false) (e2:isSep (byteAt s p)=false):Leads s p st stk (plainT 206) p st stk (plainT 214):=by
 rintro L ⟨h,hs⟩;have hc:=h.chr hp;exact ⟨1,_,run1 hs enters206 h.q (mke_other h.ok (by rw [hc];exact e1) (by rw [hc];exact e2)),(h.pk).goes _⟩
theorem enters214:Enters 214:=fun args w=>by kernel_rfl
theorem ld_mv_sp (hp:p < s.size) (e1:isSp (byteAt s p)=true):Leads s p st stk (plainT 214) (p + 1) st stk (skipT 214):=by
 rintro L ⟨h,hs⟩;have hc:=h.chr hp;exact ⟨1,_,run1 hs enters214 h.q (mv_sp h.ok (by rw [hc];exact e1)),(h.nxt hp).goes _⟩
theorem ld_mv_other (hp:p < s.size) (hl:stk.length≤1000000) (e1:isSp (byteAt s p)=false) (h1:byteAt s p ≠ 44) (h2:byteAt s p ≠ 125):Leads s p st stk (plainT 214) p st (stk ++ [207]) (plainT 174):=by
 rintro L ⟨h,hs⟩;have hc:=h.chr hp;exact ⟨1,_,run1 hs enters214 h.q (mv_other h.ok (by rw [h.stack];exact hl) (by rw [hc];exact e1) (by rw [hc];exact h1) (by rw [hc];exact h2)),((h.pk).psh 207).goes _⟩
theorem enters207:Enters 207:=fun args w=>by kernel_rfl
theorem ld_mve_ws (hp:p < s.size) (e1:isWS (byteAt s p)=true):Leads s p st stk (plainT 207) (p + 1) st stk (skipT 207):=by
 rintro L ⟨h,hs⟩;have hc:=h.chr hp;exact ⟨1,_,run1 hs enters207 h.q (mve_ws h.ok (by rw [hc];exact e1)),(h.nxt hp).goes _⟩
theorem ld_mve_nl (hp:p < s.size) (e:byteAt s p=10):Leads s p st stk (plainT 207) (p + 1) st stk (skipT 181):=by
 rintro L ⟨h,hs⟩;have hc:=h.chr hp;exact ⟨1,_,run1 hs enters207 h.q (mve_nl h.ok (by rw [hc];exact e)),(h.nxt hp).goes _⟩
theorem ld_mve_semi (hp:p < s.size) (e:byteAt s p=59):Leads s p st stk (plainT 207) (p + 1) st stk (skipT 181):=by
 rintro L ⟨h,hs⟩;have hc:=h.chr hp;exact ⟨1,_,run1 hs enters207 h.q (mve_semi h.ok (by rw [hc];exact e)),(h.nxt hp).goes _⟩
theorem ld_mve_comma (hp:p < s.size) (e:byteAt s p=44):Leads s p st stk (plainT 207) (p + 1) st stk (skipT 181):=by
 rintro L ⟨h,hs⟩;have hc:=h.chr hp;exact ⟨1,_,run1 hs enters207 h.q (mve_comma h.ok (by rw [hc];exact e)),(h.nxt hp).goes _⟩
theorem enters191:Enters 191:=fun args w=>by kernel_rfl
theorem ld_me_go (hst:st≤p)  (sk:List Nat) (n:Nat) (hk:stk=sk ++ [n]) (hl:sk.length≤1000000):Emits s p st stk (plainT 191) 13 (s.extract p p) (1 + (nlc s p:Nat)) p p sk (plainT n):=by
 rintro L ⟨h,hs⟩
 skip
 have hst':=h.stack.trans hk;obtain ⟨h1,h2⟩:=(h.ign).emitted 13 sk (plainT n);exact ⟨1,_,_,run1 hs enters191 h.q (me_go h.ok (h.rdy hst) sk n hst' hl),h2,rfl,rfl,rfl,h1⟩
theorem ld_av_sp (hp:p < s.size) (e1:isSp (byteAt s p)=true):Leads s p st stk (plainT 180) (p + 1) st stk (skipT 180):=by
 rintro L ⟨h,hs⟩;have hc:=h.chr hp;exact ⟨1,_,run1 hs enters180 h.q (av_sp h.ok (by rw [hc];exact e1)),(h.nxt hp).goes _⟩
theorem ld_av_end (hp:p < s.size) (e:byteAt s p=93):Leads s p st stk (plainT 180) (p + 1) st stk (plainT 189):=by
 rintro L ⟨h,hs⟩;have hc:=h.chr hp;exact ⟨1,_,run1 hs enters180 h.q (av_end h.ok (by rw [hc];exact e)),(h.nxt hp).goes _⟩
theorem ld_ae_comma (hp:p < s.size) (e:byteAt s p=44):Leads s p st stk (plainT 190) (p + 1) st stk (skipT 180):=by
 rintro L ⟨h,hs⟩;have hc:=h.chr hp;exact ⟨1,_,run1 hs enters190 h.q (ae_comma h.ok (by rw [hc];exact e)),(h.nxt hp).goes _⟩
theorem ld_ae_nl (hp:p < s.size) (e:byteAt s p=10):Leads s p st stk (plainT 190) (p + 1) st stk (skipT 180):=by
 rintro L ⟨h,hs⟩;have hc:=h.chr hp;exact ⟨1,_,run1 hs enters190 h.q (ae_nl h.ok (by rw [hc];exact e)),(h.nxt hp).goes _⟩
theorem ld_ae_end (hp:p < s.size) (e:byteAt s p=93):Leads s p st stk (plainT 190) (p + 1) st stk (plainT 189):=by
 rintro L ⟨h,hs⟩;have hc:=h.chr hp;exact ⟨1,_,run1 hs enters190 h.q (ae_end h.ok (by rw [hc];exact e)),(h.nxt hp).goes _⟩
theorem enters189:Enters 189:=fun args w=>by kernel_rfl
theorem ld_le_go (hst:st≤p)  (sk:List Nat) (n:Nat) (hk:stk=sk ++ [n]) (hl:sk.length≤1000000):Emits s p st stk (plainT 189) 11 (s.extract p p) (1 + (nlc s p:Nat)) p p sk (plainT n):=by
 rintro L ⟨h,hs⟩
 skip
 have hst':=h.stack.trans hk;obtain ⟨h1,h2⟩:=(h.ign).emitted 11 sk (plainT n);exact ⟨1,_,_,run1 hs enters189 h.q (le_go h.ok (h.rdy hst) sk n hst' hl),h2,rfl,rfl,rfl,h1⟩
end
section
variable {k sfx:ByteArray} {K:PK}
end
section
variable {K:PK} {X:PX} {lab:Lab} {w:World}
end
section
variable {k:ByteArray}
end
section
variable {L:LX} {s k:ByteArray} {p st:Nat} {stk:List Nat}
end
section
variable {base:Nat} {S0:Nat→Prop} {w0 w:World} {b:Nat} {L:LX}
@[irreducible] def AppX (ts:Array TypeId) (ty:TypeId) (args:Array Value):Sem Value:=Builtin.append_ ts ty args
theorem appX_eq (ts:Array TypeId) (ty:TypeId) (args:Array Value):Builtin.append_ ts ty args=AppX ts ty args:=by unfold AppX;rfl
attribute [local go_sem ↓] appX_eq
theorem grown_ne8 {S:Nat→Prop} {tv sv pv:Value} {w1:World} (h:LexAt base S w b L tv sv pv) (hg:w.grownBy w1 pv.ownBlock):w1.heap[b]?=w.heap[b]? :=
 hg.block b (lt_of_block h.blk) (fun e=>own_ne_blk h.parts h.blk (by decide) e.symm)
theorem LexAt.parted {S:Nat→Prop} {tv sv pv pv':Value} {w1:World} {x:ByteArray} (h:LexAt base S w b L tv sv pv) (hg:w.grownBy w1 pv.ownBlock) (hown:w1.ownsRow base 9 1 pv' (L.parts.length + 1) (L.parts.map Value.string ++ [.string x]))
  (hat:pv'.ownBlock=pv.ownBlock ∨ ∃ k,pv'.ownBlock=some k∧w.heap.size≤k) :
  LexAt base (fun k=>S k ∨ (w.heap.size≤k∧k < w1.heap.size)) (w1.setCell ⟨b,8,none⟩ pv') b { L with parts:=L.parts ++ [x] } tv sv pv' where
 blk:=by
  have h1:w1.heap[b]?=some (.cells (L.cells tv sv pv) 109 (0,0)):=(grown_ne8 h hg).trans h.blk;rw [blk_setCell h1];rfl
 chan:=by
  rw [Below.heap_setCell _ _ _ _ h.ne_chan];refine (hg.block L.ch (lt_of_block h.chan) ?_).trans h.chan;intro e;obtain ⟨_,⟨h0,_⟩ | ⟨g,cap,cur,hv,_,hblk,_⟩⟩:=h.parts
  ·rw [h0] at e;cases e
  ·rw [hv] at e;simp only [Value.ownBlock,Option.some.injEq] at e;subst e;rw [h.chan] at hblk;cases hblk
 parts:=by
  have h1:w1.heap[b]?=some (.cells (L.cells tv sv pv) 109 (0,0)):=(grown_ne8 h hg).trans h.blk;have h2:=ownsRow_setCell_other hown (a:=⟨b,8,none⟩) (own_ne_blk hown h1 (by decide)) pv';simpa using h2
 stack:=by
  have hne:∀ k,sv.ownBlock=some k→some k ≠ pv.ownBlock:=by
   intro k hk e;obtain ⟨_,⟨h0,_⟩ | ⟨g,cap,cur,hv,_,hblk,_⟩⟩:=h.parts
   ·rw [h0] at e;cases e
   ·rw [hv] at e;simp only [Value.ownBlock,Option.some.injEq] at e;subst e;exact own_ne_blk h.stack hblk (by decide) hk
  have hp1:=ownsRow_kept h.stack hg hne;have h1:w1.heap[b]?=some (.cells (L.cells tv sv pv) 109 (0,0)):=(grown_ne8 h hg).trans h.blk;exact ownsRow_setCell_other hp1 (a:=⟨b,8,none⟩) (own_ne_blk hp1 h1 (by decide)) pv'
 st:=by
  have h1:w1.heap[b]?=some (.cells (L.cells tv sv pv) 109 (0,0)):=(grown_ne8 h hg).trans h.blk;refine RepV.far ?_ h1 8 pv'
  match ht:L.state,h.st with
  | none,h=>exact h
  | some (false,n),h=>exact h
  | some (true,m),⟨g,hv,hgb,hs⟩ =>
   refine ⟨g,hv,(hg.block g (lt_of_block hgb) ?_).trans hgb,.inl hs⟩;intro e;exact own_ne_blk h.parts hgb (by decide) e.symm
 hb:=.inl h.hb
 hch:=.inl h.hch
 hpv:=by
  intro k hk;rcases hat with h1 | ⟨k',h1,h2⟩
  ·exact .inl (h.hpv k (by rw [← h1];exact hk))
  ·rw [hk] at h1;cases h1;refine .inr ⟨h2,?_⟩;obtain ⟨_,⟨h0,_⟩ | ⟨g,cap,cur,hv,_,hblk,_⟩⟩:=hown
   ·rw [h0] at hk;cases hk
   ·rw [hv] at hk;simp only [Value.ownBlock,Option.some.injEq] at hk;subst hk;exact lt_of_block hblk
 hsv:=fun k hk=>.inl (h.hsv k hk)
 base:=h.base
 stv:=h.stv
set_option maxRecDepth 100000 in
set_option maxHeartbeats 2000000 in
theorem addPart_c (h:At base S0 w0 w b L) (ok:L.Ok) (hs:L.start + 1≤L.pos) (hl:L.parts.length≤1000000) :
  Calls Tryz.prog 195 #[.pointer (some ⟨b,0,none⟩),i64 1] w fun e w'=>e=.returned (.tuple #[])∧At base S0 w0 w' b { L with parts:=L.parts ++ [L.inp.extract L.start (L.pos - 1)],start:=L.pos }:=by
 obtain ⟨S,tv,sv,pv,h1,h2,h3⟩:=h.drew;have hsm:=ok.small;have hpp:=ok.pos;have c8:w.cell? ⟨b,8,none⟩=some pv:=h1.c8;have c0:w.cell? ⟨b,0,none⟩=some (.string L.inp):=h1.c0;have c1:w.cell? ⟨b,1,none⟩=some (i64 L.start):=h1.c1;have c2:w.cell? ⟨b,2,none⟩=some (i64 L.pos):=h1.c2;have f8:=h1.free 8;have hbl:b < w.heap.size:=lt_of_block h1.blk;have hown:=h1.parts;have hbase:=h1.base;have hbs:=own_ne_blk h1.parts h1.blk (by decide);have hb0:base≤w.heap.size:=by omega
 have hlen:(L.parts.length + 1) * 16≤140737488355328:=by omega
 have hmx:L.parts.length + 1≤maxLen:=by simp only [maxLen];omega
 have hwr:IntKind.i64.wrap ((L.pos:Int) - 1)=((L.pos - 1:Nat):Int):=by
  rw [show (L.pos:Int) - 1=((L.pos - 1:Nat):Int) from by omega];exact Lib.wrap_i64_small _ (by omega)
 have hq1:L.start≤L.pos - 1:=by omega
 have hq2:L.pos≤L.inp.size + 1:=by omega
 have hownd:w.drew.ownsRow base 9 1 pv L.parts.length (L.parts.map Value.string):=hown;obtain ⟨i0,hi0,hz0,hz1,hz2⟩:=info_parts info9;obtain ⟨gg,cap2,w2,hrun,hown2,hg2,hat2,hlt2⟩:=run_append_lies (P:=Tryz.prog) (w.alloc (.cells #[.string (L.inp.extract L.start (L.pos - 1))] 9)).drew 23 23 base 9 i0 _ 1 16 Tryz.underlying23 hi0 hz0 hz1 hz2 rfl (by omega) pv L.parts.length (L.parts.map Value.string) (hownd.alloc _)
       ⟨w.heap.size,0,none⟩ 1 1 [.string (L.inp.extract L.start (L.pos - 1))] (by rfl) (World.news_of_block (cs:=#[.string (L.inp.extract L.start (L.pos - 1))]) (t:=9) (fr:=(0,0)) (heap_alloc_new w (.cells #[.string (L.inp.extract L.start (L.pos - 1))] 9))) (by simp;rfl)
       (by omega) hmx hlen (by show base≤(w.alloc _).heap.size;rw [World.size_alloc];omega) (w.heap.size + 1) (by show (w.alloc _).heap.size=_;rw [World.size_alloc])
 rw [appX_eq] at hrun;have hg3:=World.grownBy.trans (World.grownBy_alloc w.drew (.cells #[.string (L.inp.extract L.start (L.pos - 1))] 9) pv.ownBlock) hg2;have hbk:=(grown_ne8 h1 hg3).trans h1.blk;have r8:w2.cell? ⟨b,8,none⟩=some pv:=blk_cell hbk 8;have t8:=blk_free hbk 8;have HS:=Lib.hid (aI hown2 (aI hg3 hat2));have hat3:(Value.slice (some ⟨gg,0,none⟩) (L.parts.length + 1) cap2).ownBlock=pv.ownBlock ∨ ∃ k,(Value.slice (some ⟨gg,0,none⟩) (L.parts.length + 1) cap2).ownBlock=some k∧w.drew.heap.size≤k:=by
  rcases hat2 with e | e
  ·exact .inl e.symm
  ·exact .inr ⟨gg,rfl,by show w.heap.size≤_;omega⟩
 have K:=h1.parted hg3 hown2 hat3;have KF:Fr S0 w0 (w2.setCell ⟨b,8,none⟩ (Value.slice (some ⟨gg,0,none⟩) (L.parts.length + 1) cap2)):=by
  refine (h2.grown hg3 ?_).setCell ?_ _
  ·intro k hk;rcases h3 k (h1.hpv k hk) with h | h
   ·exact .inl h
   ·exact .inr h.1
  ·rcases h3 b h1.hb with h | h
   ·exact .inl h
   ·exact .inr h.1
 have KS:∀ k,(S k ∨ (w.drew.heap.size≤k∧k < w2.heap.size))→S0 k ∨ (w0.heap.size≤k∧k < (w2.setCell ⟨b,8,none⟩ (Value.slice (some ⟨gg,0,none⟩) (L.parts.length + 1) cap2)).heap.size):=by
  intro k hk;have:=hg3.size;have:=h2.size;rw [World.size_setCell];rcases hk with hk | hk
  ·rcases h3 k hk with h | h
   ·exact .inl h
   ·exact .inr ⟨h.1,by omega⟩
  ·exact .inr ⟨by omega,hk.2⟩
 have KK:=At.grow K KF KS;have HK:=Lib.hid KK;clear hbk hg3 hg2 hat2 hat3 hown2 hlt2 hownd hown hbs h1 h2 h3 hz0 hz1 hz2 hi0 h K KF KS KK;go_enter Tryz.func195,Tryz.ntmps195;go_wp2_with fail;go_region;have h4:=HK.out;clear HK r8 t8 hrun c8 c0 c1 c2 f8;generalize w2.setCell _ _=w4 at *;have c2:=h4.c2;have c1:=h4.c1;have f1:=h4.free 1;have h5:=fun n=>(h4.drewN n).set (L':={ L with parts:=L.parts ++ [L.inp.extract L.start (L.pos - 1)],start:=L.pos }) 1 (i64 L.pos) (fun _ _ _=>rfl) rfl rfl rfl rfl rfl rfl rfl
 go_wp2;go_end0;exact ⟨rfl,h5 0⟩
end
end Go.Cf
namespace Go.Cf
open Go.RowKit Go.Conc Go.Proofs
section
variable {base:Nat} {S0:Nat→Prop} {w0 w:World} {b:Nat} {L:LX}
attribute [local go_sem ↓] appX_eq
set_option maxRecDepth 100000 in
set_option maxHeartbeats 2000000 in
theorem addStr_c (h:At base S0 w0 w b L) (ok:L.Ok) (hl:L.parts.length≤1000000) (x:ByteArray) (n:Nat) (hf:L.ssf=some n) :
  Calls Tryz.prog 209 #[.pointer (some ⟨b,0,none⟩),.string x] w fun e w'=>e=.returned (fnV n)∧At base S0 w0 w' b { L with parts:=L.parts ++ [x],start:=L.pos }:=by
 obtain ⟨S,tv,sv,pv,h1,h2,h3⟩:=h;have hsm:=ok.small;have hpp:=ok.pos;have c8:w.cell? ⟨b,8,none⟩=some pv:=h1.c8;have c0:w.cell? ⟨b,0,none⟩=some (.string L.inp):=h1.c0;have c1:w.cell? ⟨b,1,none⟩=some (i64 L.start):=h1.c1;have c2:w.cell? ⟨b,2,none⟩=some (i64 L.pos):=h1.c2;have f8:=h1.free 8;have hbl:b < w.heap.size:=lt_of_block h1.blk;have hown:=h1.parts;have hbase:=h1.base;have hbs:=own_ne_blk h1.parts h1.blk (by decide);have hb0:base≤w.heap.size:=by omega
 have hlen:(L.parts.length + 1) * 16≤140737488355328:=by omega
 have hmx:L.parts.length + 1≤maxLen:=by simp only [maxLen];omega
 have hownd:w.ownsRow base 9 1 pv L.parts.length (L.parts.map Value.string):=hown;obtain ⟨i0,hi0,hz0,hz1,hz2⟩:=info_parts info9;obtain ⟨gg,cap2,w2,hrun,hown2,hg2,hat2,hlt2⟩:=run_append_lies (P:=Tryz.prog) (w.alloc (.cells #[.string (x)] 9)) 23 23 base 9 i0 _ 1 16 Tryz.underlying23 hi0 hz0 hz1 hz2 rfl (by omega) pv L.parts.length (L.parts.map Value.string) (hownd.alloc _)
       ⟨w.heap.size,0,none⟩ 1 1 [.string (x)] (by rfl) (World.news_of_block (cs:=#[.string (x)]) (t:=9) (fr:=(0,0)) (heap_alloc_new w (.cells #[.string (x)] 9))) (by simp;rfl)
       (by omega) hmx hlen (by show base≤(w.alloc _).heap.size;rw [World.size_alloc];omega) (w.heap.size + 1) (by show (w.alloc _).heap.size=_;rw [World.size_alloc])
 rw [appX_eq] at hrun;have hg3:=World.grownBy.trans (World.grownBy_alloc w (.cells #[.string (x)] 9) pv.ownBlock) hg2;have hbk:=(grown_ne8 h1 hg3).trans h1.blk;have r8:w2.cell? ⟨b,8,none⟩=some pv:=blk_cell hbk 8;have t8:=blk_free hbk 8;have HS:=Lib.hid (aI hown2 (aI hg3 hat2));have hat3:(Value.slice (some ⟨gg,0,none⟩) (L.parts.length + 1) cap2).ownBlock=pv.ownBlock ∨ ∃ k,(Value.slice (some ⟨gg,0,none⟩) (L.parts.length + 1) cap2).ownBlock=some k∧w.heap.size≤k:=by
  rcases hat2 with e | e
  ·exact .inl e.symm
  ·exact .inr ⟨gg,rfl,by show w.heap.size≤_;omega⟩
 have K:=h1.parted hg3 hown2 hat3;have KF:Fr S0 w0 (w2.setCell ⟨b,8,none⟩ (Value.slice (some ⟨gg,0,none⟩) (L.parts.length + 1) cap2)):=by
  refine (h2.grown hg3 ?_).setCell ?_ _
  ·intro k hk;rcases h3 k (h1.hpv k hk) with h | h
   ·exact .inl h
   ·exact .inr h.1
  ·rcases h3 b h1.hb with h | h
   ·exact .inl h
   ·exact .inr h.1
 have KS:∀ k,(S k ∨ (w.heap.size≤k∧k < w2.heap.size))→S0 k ∨ (w0.heap.size≤k∧k < (w2.setCell ⟨b,8,none⟩ (Value.slice (some ⟨gg,0,none⟩) (L.parts.length + 1) cap2)).heap.size):=by
  intro k hk;have:=hg3.size;have:=h2.size;rw [World.size_setCell];rcases hk with hk | hk
  ·rcases h3 k hk with h | h
   ·exact .inl h
   ·exact .inr ⟨h.1,by omega⟩
  ·exact .inr ⟨by omega,hk.2⟩
 have KK:=At.grow K KF KS;have HK:=Lib.hid KK;clear hbk hg3 hg2 hat2 hat3 hown2 hlt2 hownd hown hbs h1 h2 h3 hz0 hz1 hz2 hi0 K KF KS KK;have HF:=Lib.hid hf;clear hf;go_enter Tryz.func209,Tryz.ntmps209;go_upto_region 2 with fail
 have h4:=HK.out;clear HK r8 t8 hrun c8 c0 c1 c2 f8;generalize w2.setCell _ _=w4 at *;have c2:=h4.c2;have c1:=h4.c1;have f1:=h4.free 1;have h5:=h4.set (L':={ L with parts:=L.parts ++ [x],start:=L.pos }) 1 (i64 L.pos) (fun _ _ _=>rfl) rfl rfl rfl rfl rfl rfl rfl;have c9:=h5.c9;rw [show ({ L with parts:=L.parts ++ [x],start:=L.pos }:LX).ssfV=fnV n from by unfold LX.ssfV;rw [HF.out]] at c9;have H5:=Lib.hid h5;clear h5 h4;go_wp2;go_ret;exact ⟨rfl,H5.out⟩
end
end Go.Cf
namespace Go.Proofs
open Go.Shelf
def Tryz.lays156_ren:Go.Shelf.Ren:=⟨fun | 156=>132 | 165=>100 | 166=>101 | 169=>103 | 240=>143 | 241=>144 | 276=>165 | 277=>166 | n=>n,fun | 31=>23 | 9=>9 | 3=>3 | 4=>4 | 0=>0 | 20=>20 | 72=>153 | 76=>155 | 70=>151 | 37=>27 | 75=>63 | 127=>201 | 164=>217 | 5=>5 | 80=>148 | n=>n,fun | n=>n⟩
theorem Tryz.lays156:Go.Proofs.Lays.n156 Tryz.prog Tryz.lays156_ren:={
 mixed:=by kernel_rfl
 f156:=Tryz.func132.trans (congrArg some (by kernel_rfl))
 f165:=Tryz.func100.trans (congrArg some (by kernel_rfl))
 f166:=Tryz.func101.trans (congrArg some (by kernel_rfl))
 f169:=Tryz.func103.trans (congrArg some (by kernel_rfl))
 f240:=Tryz.func143.trans (congrArg some (by kernel_rfl))
 f241:=Tryz.func144.trans (congrArg some (by kernel_rfl))
 f276:=Tryz.func165.trans (congrArg some (by kernel_rfl))
 f277:=Tryz.func166.trans (congrArg some (by kernel_rfl))
 t0:=Tryz.underlying0
 a0:=Tryz.isAgg0
 z0:=Tryz.sizeOf0
 v0:=Tryz.zeroValue0
 t3:=Tryz.underlying3
 a3:=Tryz.isAgg3
 z3:=Tryz.sizeOf3
 v3:=Tryz.zeroValue3
 t4:=Tryz.underlying4
 a4:=Tryz.isAgg4
 z4:=Tryz.sizeOf4
 v4:=Tryz.zeroValue4
 t9:=Tryz.underlying9
 a9:=Tryz.isAgg9
 z9:=Tryz.sizeOf9
 v9:=Tryz.zeroValue9
 t20:=Tryz.underlying20
 a20:=Tryz.isAgg20
 z20:=Tryz.sizeOf20
 v20:=Tryz.zeroValue20
 t31:=Tryz.underlying23
 a31:=Tryz.isAgg23
 z31:=Tryz.sizeOf23
 v31:=Tryz.zeroValue23
 t37:=Tryz.underlying27
 a37:=Tryz.isAgg27
 z37:=Tryz.sizeOf27
 v37:=Tryz.zeroValue27
 t70:=Tryz.underlying151
 a70:=Tryz.isAgg151
 z70:=Tryz.sizeOf151
 v70:=Tryz.zeroValue151
 t72:=Tryz.underlying153
 a72:=Tryz.isAgg153
 z72:=Tryz.sizeOf153
 v72:=Tryz.zeroValue153
 t75:=Tryz.underlying63
 a75:=Tryz.isAgg63
 z75:=Tryz.sizeOf63
 v75:=Tryz.zeroValue63
 t76:=Tryz.underlying155
 a76:=Tryz.isAgg155
 z76:=Tryz.sizeOf155
 v76:=Tryz.zeroValue155
 t127:=Tryz.underlying201
 a127:=Tryz.isAgg201
 z127:=Tryz.sizeOf201
 v127:=Tryz.zeroValue201
 t164:=Tryz.underlying217
 a164:=Tryz.isAgg217
 z164:=Tryz.sizeOf217
 v164:=Tryz.zeroValue217 }
theorem Tryz.Builder_Extra_156:Builder.Extra Tryz.prog Tryz.lays156_ren:={
 sizeBuilder:=by kernel_rfl
 liesBuilder:=by kernel_rfl
 t5:=Tryz.underlying5
 a5:=Tryz.isAgg5
 z5:=Tryz.sizeOf5
 v5:=Tryz.zeroValue5
 infoByte:=by kernel_rfl
 cellsByte:=by kernel_rfl
 sizeByte:=by kernel_rfl
 neB5:=by decide }
open Go.RowKit in
theorem Tryz.strings_Join (bk o c:Nat) (xs:List ByteArray) (sep:ByteArray) (w:World) (hcells:∀ (j:Nat) x,xs[j]?=some x→w.cell? ⟨bk,o + j,none⟩=some (.string x)) (hbk:bk < w.heap.size) (hN:xs.length≤140737488355328) (hcap:xs.length≤c) (hlen:(Lib.join (xs.map (·.data.toList)) sep.data.toList).length≤140737488355328) :
  Calls Tryz.prog 132 #[.slice (some ⟨bk,o,none⟩) xs.length c,.string sep] w fun e w'=>e=.returned (.string ⟨(Lib.join (xs.map (·.data.toList)) sep.data.toList).toArray⟩)∧Below w.heap.size w w':=Any.strings_Join Tryz.lays156 Tryz.Builder_Extra_156 bk o c xs sep w hcells hbk hN hcap hlen
end Go.Proofs
namespace Go.Cf
open Go.RowKit Go.Conc Go.Proofs
section
variable {P:Program} {Q:Exit→Act→World→Prop}
structure BlAt (C:Nat→Value→Lab→World→Prop) (dst:Nat→Nat) (a0:Act) (w0:World) (lab0:Lab) (len:Nat) (L:Array Bool) (a:Act) (lab:Lab) (w:World):Prop where
 defers:a.defers=[]
 size:a.tmps.size=a0.tmps.size
 keep:∀ j,(∀ k,k < len→dst k ≠ j)→a.tmps.getD j undef=a0.tmps.getD j undef
 mv:Mv (fun _=>False) w0 lab0 w lab
 got:∀ k,k < len→L.getD k false=true→C k (a.tmps.getD (dst k) undef) lab w
theorem wp_region_frame {id:Nat} {l:List Oper} {a:Act} {w:World} (C:Nat→Value→Lab→World→Prop) (dst:Nat→Nat) (lab:Lab) (hm:P.follows .mixedOrders=true)
  (hdep:(List.range l.length).all (fun i=>((l[i]?).map fun o=>o.after.all fun e=>!Region.binds .any e || decide (e.on < i)).getD true)=true)
  (hdst:∀ i o,l[i]?=some o→o.dst=some (dst i)∧o.guard=none∧dst i < a.tmps.size∧∀ k,k < l.length→dst k=dst i→k=i)
  (hd0:a.defers=[])
  (hC:∀ k v lab w lab' w',C k v lab w→Mv (fun _=>False) w lab w' lab'→C k v lab' w')
  (hstep:∀ L a' lab' w' i o,l[i]?=some o→(∀ e ∈ o.after,Region.binds .any e=true→L.getD e.on false=true)→BlAt C dst a w lab l.length L a' lab' w'→Does P o a' lab' w' (C i))
  (hend:∀ a' lab' w',(∀ k,k < l.length→C k (a'.tmps.getD (dst k) undef) lab' w')→a'.defers=[]→a'.tmps.size=a.tmps.size→(∀ j,(∀ k,k < l.length→dst k ≠ j)→a'.tmps.getD j undef=a.tmps.getD j undef)→Mv (fun _=>False) w lab w' lab'→Q .normal a' w') :
  (Code.region id l.toArray true).wp P Q a w:=by
 refine wp_region_inv (fun L a' w'=>∃ lab',BlAt C dst a w lab l.length L a' lab' w') hm hdep ?_ ?_ ?_
 ·refine ⟨lab,hd0,rfl,fun _ _=>rfl,⟨rfl,rfl,rfl,Nat.le_refl _,fun _ _ _=>rfl,fun _ _ _=>rfl⟩,fun k hk h=>?_⟩;simp [Array.getD] at h
 ·rintro L a' w' i o hL ho hf hall ⟨lab',hb⟩;have hs:=hstep L a' lab' w' i o ho hall hb;obtain ⟨h1,h2,h3,h5⟩:=hdst i o ho;have hi:i < l.length:=(List.getElem?_eq_some_iff.1 ho).1;have key:∀ v lab2 w2,Mv (fun _=>False) w' lab' w2 lab2→C i v lab2 w2→∃ lab3,BlAt C dst a w lab l.length (L.setIfInBounds i true) (a'.put o.dst v) lab3 w2:=by
   intro v lab2 w2 m hc;rw [h1];have hsz:dst i < a'.tmps.size:=by rw [hb.size];exact h3
   refine ⟨lab2,hb.defers,by simpa [Act.put] using hb.size,fun j hj=>?_,hb.mv.trans m (fun _ h=>h),fun k hk hlk=>?_⟩
   ·rw [put_getD hsz,if_neg (fun e=>hj i hi e.symm)];exact hb.keep j hj
   ·rw [put_getD hsz];by_cases hki:k=i
    ·subst hki;rw [if_pos rfl];exact hc
    ·rw [if_neg (fun e=>hki (h5 k hk e))];refine hC k _ _ _ _ _ (hb.got k hk ?_) m;rw [gdg,Array.getElem?_setIfInBounds_ne (fun e=>hki e.symm),← gdg] at hlk;exact hlk
  have hw:Region.wanted o (yielded l.toArray a'.tmps)=true:=by simp [Region.wanted,h2]
  unfold wpOp;simp only [List.getElem?_toArray,ho,hw,if_true]
  left
  unfold Oper.wp;rcases hs with ⟨v,w2,lab2,hrun,m,hc⟩ | ⟨f,args,hrun,hcalls⟩
  ·rw [hrun];exact key v lab2 w2 m hc
  ·rw [hrun,Oper.upon_enter];refine hcalls.mono ?_;rintro e w2 ⟨v,lab2,rfl,m,hc⟩;exact key v lab2 w2 m hc
 ·rintro L a' w' hL hall ⟨lab',hb⟩;exact hend a' lab' w' (fun k hk=>hb.got k hk (hall k hk)) hb.defers hb.size hb.keep hb.mv
theorem frame_range (t t0:Array Value) (lo m:Nat) (hs:t.size=t0.size) (hlo:lo + m≤t0.size) (h:∀ j,¬ (lo≤j∧j < lo + m)→t.getD j undef=t0.getD j undef) :
  ∃ us:List Value,us.length=m∧t=(t0.toList.take lo ++ (us ++ t0.toList.drop (lo + m))).toArray:=by
 have hl:t.toList.length=t.size:=by simp
 have hl0:t0.toList.length=t0.size:=by simp
 have hget:∀ j,¬ (lo≤j∧j < lo + m)→t.toList[j]?=t0.toList[j]?:=by
  intro j hj;have hj':=h j hj;simp only [gdg] at hj';rw [Array.getElem?_toList,Array.getElem?_toList];rcases Nat.lt_or_ge j t.size with hlt | hge
  ·rw [Array.getElem?_eq_getElem hlt,Array.getElem?_eq_getElem (by omega)] at hj' ⊢;simpa using hj'
  ·rw [Array.getElem?_eq_none hge,Array.getElem?_eq_none (by omega)]
 refine ⟨(t.toList.drop lo).take m,by rw [List.length_take,List.length_drop];omega,?_⟩;apply Array.ext';rw [List.toList_toArray];apply List.ext_getElem?;intro j;rcases Nat.lt_or_ge j lo with h1 | h1
 ·rw [List.getElem?_append_left (by rw [List.length_take];omega),List.getElem?_take_of_lt h1];exact hget j (by omega)
 ·have hlen1:(t0.toList.take lo).length=lo:=by rw [List.length_take];omega
  rw [List.getElem?_append_right (by omega),hlen1];have hlen2:((t.toList.drop lo).take m).length=m:=by rw [List.length_take,List.length_drop];omega
  rcases Nat.lt_or_ge j (lo + m) with h2 | h2
  ·rw [List.getElem?_append_left (by omega),List.getElem?_take_of_lt (by omega),List.getElem?_drop]
   congr 1
   omega
  ·rw [List.getElem?_append_right (by omega),hlen2,List.getElem?_drop,hget j (by omega)]
   congr 1
   omega
def dstA (lo m r:Nat) (k:Nat):Nat:=if k=m then r else lo + k
theorem dstA_inj {lo m r k i:Nat} (hr:r < lo) (h:dstA lo m r k=dstA lo m r i) (_hk:k < m + 1) (_hi:i < m + 1):k=i:=by
 unfold dstA at h
 split at h <;> split at h <;> omega
theorem wp_region_assign {id:Nat} {l:List Oper} {a:Act} {w:World} (C:Nat→Value→Lab→World→Prop) (lo m r:Nat) (lab:Lab) (hm:P.follows .mixedOrders=true)
  (hdep:(List.range l.length).all (fun i=>((l[i]?).map fun o=>o.after.all fun e=>!Region.binds .any e || decide (e.on < i)).getD true)=true)
  (hlen:l.length=m + 1) (hr:r < lo) (hlo:lo + m≤a.tmps.size)
  (hdst:(List.range l.length).all (fun i=>((l[i]?).map fun o=>o.dst == some (dstA lo m r i) && o.guard.isNone).getD true)=true)
  (hd0:a.defers=[])
  (hC:∀ k v lab w lab' w',C k v lab w→Mv (fun _=>False) w lab w' lab'→C k v lab' w')
  (hstep:∀ L a' lab' w' i o,l[i]?=some o→(∀ e ∈ o.after,Region.binds .any e=true→L.getD e.on false=true)→BlAt C (dstA lo m r) a w lab l.length L a' lab' w'→Does P o a' lab' w' (C i))
  (hend:∀ us v lab' w',us.length=m→C m v lab' w'→Mv (fun _=>False) w lab w' lab'→Q .normal ⟨((a.tmps.setIfInBounds r v).toList.take lo ++ (us ++ (a.tmps.setIfInBounds r v).toList.drop (lo + m))).toArray,[]⟩ w') :
  (Code.region id l.toArray true).wp P Q a w:=by
 have hd:∀ i o,l[i]?=some o→o.dst=some (dstA lo m r i)∧o.guard=none:=by
  intro i o ho;have hi:i < l.length:=(List.getElem?_eq_some_iff.1 ho).1;have h1:=List.all_eq_true.1 hdst i (List.mem_range.2 hi);rw [ho] at h1;simpa using h1
 refine wp_region_frame C (dstA lo m r) lab hm hdep (fun i o ho=>?_) hd0 hC hstep ?_
 ·have hi:i < l.length:=(List.getElem?_eq_some_iff.1 ho).1;refine ⟨(hd i o ho).1,(hd i o ho).2,?_,fun k hk e=>dstA_inj hr e (by omega) (by omega)⟩;unfold dstA
  split <;> omega
 ·intro a' lab' w' hgot hdf hs hkeep mv;have hv:=hgot m (by omega);have hdm:dstA lo m r m=r:=if_pos rfl
  rw [hdm] at hv;obtain ⟨us,hl,ht⟩:=frame_range a'.tmps (a.tmps.setIfInBounds r (a'.tmps.getD r undef)) lo m (by simpa using hs) (by simpa using hlo) (fun j hj=>by
   by_cases hjr:j=r
   ·subst hjr;simp only [gdg];rw [Array.getElem?_setIfInBounds_self_of_lt (by omega)];rfl
   ·have:a'.tmps.getD j undef=a.tmps.getD j undef:=hkeep j (fun k hk e=>by
     unfold dstA at e
     split at e <;> omega)
    rw [this];simp only [gdg]
    rw [Array.getElem?_setIfInBounds_ne (fun e=>hjr e.symm)])
  have:=hend us _ lab' w' hl hv mv;obtain ⟨t,d⟩:=a';simp only at hdf ht this;subst hdf;rw [ht];exact this
end
def joinB (ps:List ByteArray):ByteArray:=⟨(Lib.join (ps.map (·.data.toList)) []).toArray⟩
def LX.emitP (L:LX):LX:={ L.emit 5 (joinB L.parts ++ L.txt) with parts:=[] }
section
variable {base:Nat} {S S0:Nat→Prop} {w0 w:World} {b:Nat} {L:LX} {tv sv pv:Value}
theorem LexAt.reparts {S':Nat→Prop} (h:LexAt base S w b L tv sv pv) (pv':Value) (hown:w.ownsRow base 9 1 pv' 0 []) (hS:∀ k,S k→S' k) (hg:∀ k,pv'.ownBlock=some k→S' k) :
  LexAt base S' (w.setCell ⟨b,8,none⟩ pv') b { L with parts:=[] } tv sv pv' where
 blk:=by rw [blk_setCell h.blk];rfl
 chan:=by rw [Below.heap_setCell _ _ _ _ h.ne_chan];exact h.chan
 stack:=ownsRow_setCell_other h.stack (own_ne_blk h.stack h.blk (by decide)) pv'
 parts:=ownsRow_setCell_other hown (own_ne_blk hown h.blk (by decide)) pv'
 st:=(h.st.far h.blk 8 pv').wide hS
 hb:=hS _ h.hb
 hch:=hS _ h.hch
 hsv:=fun k hk=>hS _ (h.hsv k hk)
 hpv:=hg
 base:=h.base
 stv:=h.stv
theorem At.reparts (h:At base S0 w0 w b L):At base S0 w0 ((w.alloc (.cells #[] 9)).setCell ⟨b,8,none⟩ (.slice (some ⟨w.heap.size,0,none⟩) 0 0)) b { L with parts:=[] }:=by
 have hbl:Below w.heap.size w (w.alloc (.cells #[] 9)):=(Below.refl _ _).alloc (Nat.le_refl _) _;obtain ⟨S,tv,sv,pv,h1,h2,h3⟩:=h;have k1:=h1.below hbl;have k2:=h2.trans (Fr.below hbl (fun _=>False)) (fun _ h=>h.elim);have hbw:base≤w.heap.size:=by have:=h1.base;have:=h1.blk_lt;omega
 have hown:(w.alloc (.cells #[] 9)).ownsRow base 9 1 (.slice (some ⟨w.heap.size,0,none⟩) 0 0) 0 []:=⟨by simp,.inr ⟨_,_,_,rfl,hbw,heap_alloc_new w _,Nat.zero_le _,by unfold maxLen;omega,rfl,by simp⟩⟩;have hsz:(w.alloc (.cells #[] 9)).heap.size=w.heap.size + 1:=World.size_alloc w _;refine ⟨fun k=>S k ∨ k=w.heap.size,tv,sv,_,k1.reparts _ hown (fun k hk=>.inl hk) (fun k hk=>?_),k2.setCell ?_ _,fun k hk=>?_⟩
 ·simp only [Value.ownBlock,Option.some.injEq] at hk;exact .inr hk.symm
 ·rcases h3 b h1.hb with h | h
  ·exact .inl h
  ·exact .inr h.1
 ·rw [World.size_setCell,hsz];have:=h2.size;rcases hk with hk | hk
  ·rcases h3 k hk with h | h
   ·exact .inl h
   ·exact .inr ⟨h.1,by omega⟩
  ·exact .inr ⟨by omega,by omega⟩
def CEp (b g n c:Nat) (inp:ByteArray) (st ps:Nat) (J V X:ByteArray):Nat→Value
 | 2=>.pointer (some ⟨b,8,none⟩)
 | 3=>.slice (some ⟨g,0,none⟩) n c
 | 4=>.string J
 | 7=>.pointer (some ⟨b,0,none⟩)
 | 8=>.string inp
 | 11=>.pointer (some ⟨b,1,none⟩)
 | 12=>i64 st
 | 15=>.pointer (some ⟨b,2,none⟩)
 | 16=>i64 ps
 | 17=>.string X
 | 18=>.string V
 | 19=>.string V
 | _=>.pointer (some ⟨b,0,none⟩)
set_option maxRecDepth 100000 in
set_option maxHeartbeats 4000000 in
theorem emitParts_c (h:At base S0 w0 w b L) (ok:L.Ok) (hp:L.parts ≠ []) (hpl:L.parts.length≤1000000) (hj:(joinB L.parts).size≤1000000) (hs:L.start≤L.pos) (hq:L.q.length < 10) :
  Calls Tryz.prog 197 #[.pointer (some ⟨b,0,none⟩)] w fun e w'=>e=.returned (.tuple #[])∧At base S0 w0 w' b L.emitP:=by
 obtain ⟨pv,g,n,cap,hpv,hpr,hrow,hn0,hn⟩:∃ pv g n cap,pv=Value.slice (some ⟨g,0,none⟩) n cap∧w.cell? ⟨b,8,none⟩=some pv∧(∀ (j:Nat) x,L.parts[j]?=some x→w.cell? ⟨g,j,none⟩=some (.string x))∧0 < n∧(n=L.parts.length∧n≤cap∧g < w.heap.size):=by
  obtain ⟨S,tv,sv,pv,h1,_⟩:=h;have hl:0 < L.parts.length:=List.length_pos_iff.2 hp;obtain ⟨g,cap,rfl,hcap,hmx,hcell,cur,hgb⟩:=own_open h1.parts hl;exact ⟨_,g,_,cap,rfl,h1.c8,fun j x hx=>hcell j _ (by rw [List.getElem?_map,hx];rfl),hl,rfl,hcap,lt_of_block hgb⟩
 subst hpv;obtain ⟨hn1,hcap,hg⟩:=hn;have c0:=h.c0;have c1:=h.c1;have c2:=h.c2;have f8:=h.free 8;have hb0:b < w.heap.size:=World.block_lt_of_cell? w _ c0;have hsm:=ok.small;have hpp:=ok.pos;have hil:=ok.ilstart;have hl0:=ok.line0;have hl1:=ok.line1;have hxs:(L.inp.extract L.start L.pos).size≤1000000:=by simp;omega
 obtain ⟨J,hJ⟩:∃ J,J=joinB L.parts:=⟨_,rfl⟩;obtain ⟨X,hX⟩:∃ X,X=L.inp.extract L.start L.pos:=⟨_,rfl⟩;obtain ⟨V,hV⟩:∃ V,V=J ++ X:=⟨_,rfl⟩;rw [← hJ] at hj;rw [← hX] at hxs;have hvb:V.size≤2000000:=by rw [hV,bsa];omega
 have hJV:LX.emitP L={ L.emit 5 V with parts:=[] }:=by unfold LX.emitP LX.txt;rw [hV,hJ,hX]
 have hjl:(Lib.join (L.parts.map (·.data.toList)) (ByteArray.empty).data.toList).length≤140737488355328:=by
  have:(joinB L.parts).size=(Lib.join (L.parts.map (·.data.toList)) []).length:=by unfold joinB;exact List.size_toArray
  rw [← hJ] at this;show (Lib.join (L.parts.map (·.data.toList)) []).length≤_;omega
 have hrd:∀ (w':World) (lab lab':Lab),Mv (fun _=>False) w lab w' lab'→∀ a:Addr,a.block < w.heap.size→w'.cell? a=w.cell? a:=fun w' lab lab' m a ha=>by
  unfold World.cell?;rw [m.block _ ha (fun h=>h)]
 have HQ:=Lib.hid hq;have HP:=Lib.hid hp;have HROW:=Lib.hid hrow;have HN:=Lib.hid hn1;have HJ:=Lib.hid hJ;have HX:=Lib.hid hX;have HV:=Lib.hid hV;have HJV:=Lib.hid hJV;have HJL:=Lib.hid hjl;have HRD:=Lib.hid hrd;clear hq hp hrow hn1 hJ hX hV hJV hjl hrd;have d1:decide ((0:Int) < (n:Int))=true:=decide_eq_true (by omega);refine calls_of_wpN Tryz.func197 rfl ?_;simp only [Tryz.ntmps197,List.size_toArray,List.length_cons,List.length_nil,Nat.reduceAdd,Nat.reduceSub,Array.replicate_succ,Array.replicate_zero,List.push_toArray,List.append_toArray,List.nil_append,List.cons_append];refine wpN_seq_k (fun K hK=>?_);go_wp2;refine wpN_seq_k (fun K hK=>?_);go_wp2;refine wp_region_assign (fun k v _ _=>v=CEp b g n cap L.inp L.start L.pos J V X k) 10 19 2 (fun _=>0) mixed (by kernel_rfl) rfl (by decide) (show 10 + 19≤83 by omega) (by kernel_rfl) rfl (fun _ _ _ _ _ _ h _=>h) ?_ ?_
 ·intro LB a' lab' w' i o ho hall hb;have kd:∀ j,j < 10→j ≠ 2→∀ k,k < 20→dstA 10 19 2 k ≠ j:=by
   intro j hj hj2 k hk e;unfold dstA at e
   split at e <;> omega
  have k0:a'.tmps.getD 0 undef=.pointer (some ⟨b,0,none⟩):=hb.keep 0 (kd 0 (by omega) (by omega))
  match i,ho with
  | 0,rfl=>exact .inl ⟨_,_,lab',rfl,Mv.refl _ _ _,k0⟩
  | 1,rfl =>
   have e0:a'.tmps.getD 10 undef=Value.pointer (some ⟨b,0,none⟩):=hb.got 0 (by decide) (hall ⟨0,.data⟩ (by simp) rfl);rw [gdg] at e0;exact .inl ⟨Value.pointer (some ⟨b,0,none⟩),w',lab',by simp [execOp,Act.eval,go_sem,e0],Mv.refl _ _ _,rfl⟩
  | 2,rfl =>
   have e0:a'.tmps.getD 11 undef=Value.pointer (some ⟨b,0,none⟩):=hb.got 1 (by decide) (hall ⟨1,.data⟩ (by simp) rfl);rw [gdg] at e0;exact .inl ⟨Value.pointer (some ⟨b,8,none⟩),w',lab',by simp [execOp,Act.eval,go_sem,e0],Mv.refl _ _ _,rfl⟩
  | 3,rfl =>
   have e0:a'.tmps.getD 12 undef=Value.pointer (some ⟨b,8,none⟩):=hb.got 2 (by decide) (hall ⟨2,.data⟩ (by simp) rfl);rw [gdg] at e0;have q:=(HRD.out w' _ _ hb.mv ⟨b,8,none⟩ hb0).trans hpr;exact .inl ⟨Value.slice (some ⟨g,0,none⟩) n cap,w',lab',by simp [execOp,Act.eval,go_sem,e0,q],Mv.refl _ _ _,rfl⟩
  | 4,rfl =>
   have e0:a'.tmps.getD 13 undef=Value.slice (some ⟨g,0,none⟩) n cap:=hb.got 3 (by decide) (hall ⟨3,.data⟩ (by simp) rfl);refine .inr ⟨132,#[a'.tmps.getD 13 undef,.string { data:=#[] }],by kernel_rfl,?_⟩;rw [e0,HN.out];have hlt:g < w'.heap.size:=Nat.lt_of_lt_of_le hg hb.mv.size;refine (Tryz.strings_Join g 0 cap L.parts ByteArray.empty w' (fun j x hx=>by rw [Nat.zero_add];exact (HRD.out w' _ _ hb.mv ⟨g,j,none⟩ hg).trans (HROW.out j x hx)) hlt (by omega) (by have:=HN.out;omega) HJL.out).mono ?_;rintro e w2 ⟨rfl,hb2⟩;exact ⟨_,lab'.ext w'.heap.size 33,rfl,Mv.below hb2 lab' 33,by rw [HJ.out];rfl⟩
  | 5,rfl=>exact .inl ⟨_,_,lab',rfl,Mv.refl _ _ _,k0⟩
  | 6,rfl =>
   have e0:a'.tmps.getD 15 undef=Value.pointer (some ⟨b,0,none⟩):=hb.got 5 (by decide) (hall ⟨5,.data⟩ (by simp) rfl);rw [gdg] at e0;exact .inl ⟨Value.pointer (some ⟨b,0,none⟩),w',lab',by simp [execOp,Act.eval,go_sem,e0],Mv.refl _ _ _,rfl⟩
  | 7,rfl =>
   have e0:a'.tmps.getD 16 undef=Value.pointer (some ⟨b,0,none⟩):=hb.got 6 (by decide) (hall ⟨6,.data⟩ (by simp) rfl);rw [gdg] at e0;exact .inl ⟨Value.pointer (some ⟨b,0,none⟩),w',lab',by simp [execOp,Act.eval,go_sem,e0],Mv.refl _ _ _,rfl⟩
  | 8,rfl =>
   have e0:a'.tmps.getD 17 undef=Value.pointer (some ⟨b,0,none⟩):=hb.got 7 (by decide) (hall ⟨7,.data⟩ (by simp) rfl);rw [gdg] at e0;have q:=(HRD.out w' _ _ hb.mv ⟨b,0,none⟩ hb0).trans c0;exact .inl ⟨.string L.inp,w',lab',by simp [execOp,Act.eval,go_sem,e0,q],Mv.refl _ _ _,rfl⟩
  | 9,rfl=>exact .inl ⟨_,_,lab',rfl,Mv.refl _ _ _,k0⟩
  | 10,rfl =>
   have e0:a'.tmps.getD 19 undef=Value.pointer (some ⟨b,0,none⟩):=hb.got 9 (by decide) (hall ⟨9,.data⟩ (by simp) rfl);rw [gdg] at e0;exact .inl ⟨Value.pointer (some ⟨b,0,none⟩),w',lab',by simp [execOp,Act.eval,go_sem,e0],Mv.refl _ _ _,rfl⟩
  | 11,rfl =>
   have e0:a'.tmps.getD 20 undef=Value.pointer (some ⟨b,0,none⟩):=hb.got 10 (by decide) (hall ⟨10,.data⟩ (by simp) rfl);rw [gdg] at e0;exact .inl ⟨Value.pointer (some ⟨b,1,none⟩),w',lab',by simp [execOp,Act.eval,go_sem,e0],Mv.refl _ _ _,rfl⟩
  | 12,rfl =>
   have e0:a'.tmps.getD 21 undef=Value.pointer (some ⟨b,1,none⟩):=hb.got 11 (by decide) (hall ⟨11,.data⟩ (by simp) rfl);rw [gdg] at e0;have q:=(HRD.out w' _ _ hb.mv ⟨b,1,none⟩ hb0).trans c1;exact .inl ⟨i64 L.start,w',lab',by simp [execOp,Act.eval,go_sem,e0,q],Mv.refl _ _ _,rfl⟩
  | 13,rfl=>exact .inl ⟨_,_,lab',rfl,Mv.refl _ _ _,k0⟩
  | 14,rfl =>
   have e0:a'.tmps.getD 23 undef=Value.pointer (some ⟨b,0,none⟩):=hb.got 13 (by decide) (hall ⟨13,.data⟩ (by simp) rfl);rw [gdg] at e0;exact .inl ⟨Value.pointer (some ⟨b,0,none⟩),w',lab',by simp [execOp,Act.eval,go_sem,e0],Mv.refl _ _ _,rfl⟩
  | 15,rfl =>
   have e0:a'.tmps.getD 24 undef=Value.pointer (some ⟨b,0,none⟩):=hb.got 14 (by decide) (hall ⟨14,.data⟩ (by simp) rfl);rw [gdg] at e0;exact .inl ⟨Value.pointer (some ⟨b,2,none⟩),w',lab',by simp [execOp,Act.eval,go_sem,e0],Mv.refl _ _ _,rfl⟩
  | 16,rfl =>
   have e0:a'.tmps.getD 25 undef=Value.pointer (some ⟨b,2,none⟩):=hb.got 15 (by decide) (hall ⟨15,.data⟩ (by simp) rfl);rw [gdg] at e0;have q:=(HRD.out w' _ _ hb.mv ⟨b,2,none⟩ hb0).trans c2;exact .inl ⟨i64 L.pos,w',lab',by simp [execOp,Act.eval,go_sem,e0,q],Mv.refl _ _ _,rfl⟩
  | 17,rfl =>
   have e0:a'.tmps.getD 18 undef=.string L.inp:=hb.got 8 (by decide) (hall ⟨8,.data⟩ (by simp) rfl);rw [gdg] at e0;have e1:a'.tmps.getD 22 undef=i64 L.start:=hb.got 12 (by decide) (hall ⟨12,.data⟩ (by simp) rfl);rw [gdg] at e1;have e2:a'.tmps.getD 26 undef=i64 L.pos:=hb.got 16 (by decide) (hall ⟨16,.data⟩ (by simp) rfl);rw [gdg] at e2;have hx2:=HX.out;exact .inl ⟨.string X,w',lab',by simp [execOp,Act.eval,go_sem,e0,e1,e2,hs,hpp,hx2],Mv.refl _ _ _,rfl⟩
  | 18,rfl =>
   have e0:a'.tmps.getD 14 undef=.string J:=hb.got 4 (by decide) (hall ⟨4,.data⟩ (by simp) rfl);rw [gdg] at e0;have e1:a'.tmps.getD 27 undef=.string X:=hb.got 17 (by decide) (hall ⟨17,.data⟩ (by simp) rfl);rw [gdg] at e1;have hv2:=HV.out;have g1:¬ 9223372036854775807 < J.size + X.size:=by omega
   exact .inl ⟨.string V,w',lab',by simp [execOp,Act.eval,go_sem,e0,e1,g1,hv2],Mv.refl _ _ _,rfl⟩
  | 19,rfl =>
   have e0:a'.tmps.getD 28 undef=.string V:=hb.got 18 (by decide) (hall ⟨18,.data⟩ (by simp) rfl);exact .inl ⟨_,_,lab',rfl,Mv.refl _ _ _,e0⟩
 ·intro us v lab' w' hl hv mv;change v=.string V at hv;subst hv
  match us,hl with
  | [v10,v11,v12,v13,v14,v15,v16,v17,v18,v19,v20,v21,v22,v23,v24,v25,v26,v27,v28],_ =>
   simp only [List.setIfInBounds_toArray,List.set_cons_succ,List.set_cons_zero,List.take_succ_cons,List.take_zero,List.drop_succ_cons,List.drop_zero,List.cons_append,List.nil_append];have h1:=h.below (mv.toBelow (Nat.le_refl _) (fun _ _ h=>h));have hal:=h1.below ((Below.refl _ _).alloc (Nat.le_refl _) (Obj.cells #[] 9));obtain ⟨pv2,c8⟩:∃ pv2,(w'.alloc (.cells #[] 9)).cell? ⟨b,8,none⟩=some pv2:=by
    obtain ⟨S,tv,sv,pv,k1,_⟩:=hal;exact ⟨_,k1.c8⟩
   have f8':=hal.free 8;have H2:=Lib.hid h1.reparts;clear c0 c1 c2 f8 hpr hal h1 h;go_wp2;generalize (w'.alloc (Obj.cells #[] 9)).setCell _ _=W2 at *;obtain ⟨LL,hLL⟩:∃ LL:LX,LL={ L with parts:=[] }:=⟨_,rfl⟩;have h2:=H2.out;rw [← hLL] at h2;have c2:W2.cell? ⟨b,2,none⟩=some (i64 L.pos):=by have:=h2.c2;rwa [show LL.pos=L.pos from by rw [hLL]] at this
   have c4:W2.cell? ⟨b,4,none⟩=some (i64 L.line):=by have:=h2.c4;rwa [show LL.line=L.line from by rw [hLL]] at this
   have c6:W2.cell? ⟨b,6,none⟩=some (.chan (some LL.ch)):=h2.c6;have c11:W2.cell? ⟨b,11,none⟩=some (i64 L.ilstart):=by have:=h2.c11;rwa [show LL.ilstart=L.ilstart from by rw [hLL]] at this
   have hqq:LL.q.length < 10:=by rw [hLL];exact HQ.out
   have hemit:({ LL with q:=LL.q ++ [⟨5,V,L.line,(L.pos:Int) - L.ilstart - V.size⟩],cs:=LL.cs + 1,start:=LL.pos,ilstart:=LL.lstart }:LX)=L.emitP:=by rw [hLL,HJV.out];rfl
   have HLL:=Lib.hid hLL;have HEM:=Lib.hid hemit;clear hLL hemit H2;refine wpN_seq_k (fun K hK=>?_);go_quiet (fail);go_wp2;refine wpN_seq (wpN_send 11 mixed (by kernel_rfl) ?_);simp only [unsent,List.modify_succ_cons,List.modify_zero_cons]
   repeat still_step
   refine wpStill_nil ?_;refine Lst.send (c:=LL.ch) (cap:=10) (buf:=(LL.q.map It.v).toArray) (s:=LL.cs) (r:=LL.cr) (tm:=false) (z:=.tuple #[]) (v:=.agg #[i64 5,.string V,i64 L.line,i64 ((L.pos:Int) - L.ilstart - (V.size:Int))]) rfl rfl rfl h2.heapCh (by simpa using hqq) ?_;refine Lst.nil ?_;have hC:=h2.chan (LL.q ++ [⟨5,V,L.line,(L.pos:Int) - L.ilstart - V.size⟩]) (LL.cs + 1) LL.cr;have hv:It.v ⟨5,V,L.line,(L.pos:Int) - L.ilstart - V.size⟩=.agg #[i64 5,.string V,i64 L.line,i64 ((L.pos:Int) - L.ilstart - (V.size:Int))]:=rfl;rw [List.map_append,List.map_singleton,hv,← List.push_toArray] at hC;simp only [Exit.then];refine wpN_of_wp (via (At.any hC rfl rfl rfl rfl) (fun W h3=>?_));clear c2 c4 c6 c11 hC hv h2;have c1:=h3.c1;have c2:=h3.c2;have c10:=h3.c10;have c11:=h3.c11;have f1:=h3.free 1;have f11:=h3.free 11;go_wp2;go_end0;refine ⟨rfl,?_⟩;rw [← HEM.out];exact At.any ((h3.set (L':={ LL with q:=LL.q ++ [⟨5,V,L.line,(L.pos:Int) - L.ilstart - V.size⟩],cs:=LL.cs + 1,start:=LL.pos }) 1 (i64 LL.pos) (fun _ _ _=>rfl) rfl rfl rfl rfl rfl rfl rfl).set (L':={ LL with q:=LL.q ++ [⟨5,V,L.line,(L.pos:Int) - L.ilstart - V.size⟩],cs:=LL.cs + 1,start:=LL.pos,ilstart:=LL.lstart }) 11 (i64 LL.lstart) (fun _ _ _=>rfl) rfl rfl rfl rfl rfl rfl rfl) rfl rfl rfl rfl
end
def LX.part (L:LX):LX:={ L with parts:=L.parts ++ [L.inp.extract L.start (L.pos - 1)],start:=L.pos }
theorem LX.Ok.part {L:LX} (ok:L.Ok):L.part.Ok:=⟨ok.small,ok.pos,ok.pos,ok.width,ok.lstart,ok.ilstart,ok.line,ok.asc⟩
section
variable {L:LX} {s k:ByteArray} {p st:Nat} {stk:List Nat}
theorem dq_esc (ok:L.Ok) (hc:L.chr=92) (hs:L.nxt.start + 1≤L.nxt.pos) (hl:L.nxt.parts.length≤1000000):Goes1 183 L L.nxt.part (plainT 196):=by
 have e_92:(((L.chr:Nat):Int) == 92)=true:=beq_iff_eq.2 (by omega);have HS:=Lib.hid hs;clear hc hs;intro base S0 w0 w b h0;go_enter Tryz.func183,Tryz.ntmps183;go_wp2_with fail;refine (next_c h0 ok).mono ?_;rintro e w1 ⟨rfl,h1⟩;go_wp2_with fail;refine (addPart_c h1 ok.nxt HS.out hl).mono ?_;rintro e w2 ⟨rfl,h2⟩;go_wp2_with fail;go_ret;exact ⟨_,rfl,At.plain (L:=L.nxt.part) h2 _⟩
theorem enters196:Enters 196:=fun args w=>by kernel_rfl
end
section
variable {P:Program}
theorem step_defer_b {fr:Frame} {cs:List Frame} {w w':World} {d:Deferred} {ds:List Deferred} {b:Builtin} {ats:Array TypeId} {ty:TypeId} {kk:Array Bool} {v:Value} (hm:fr.mode=.returning) (hd:fr.defers=d :: ds)
  (ht:d.target=.builtin b ats ty kk) (hi:(invoke d.target d.args).run P w=.ok (.value v) w'):step P (lone fr cs w)=.next (lone { fr with defers:=ds } cs w'):=by
 obtain ⟨t,a⟩:=d;simp only at ht hi;subst ht;refine step_lone_go ?_;simp [stepG,unwind,callDeferred,hm,hd,hi]
def LeavesB (P:Program) (fn:Func) (tmps:Array Value) (R:Ending→World→Prop):List Deferred→World→Prop
 | [],w=>∃ v,(results fn tmps).run P w=.ok v w∧R (.returned v) w
 | d :: ds,w=>∃ b ats ty kk v w',d.target=.builtin b ats ty kk∧(invoke d.target d.args).run P w=.ok (.value v) w'∧LeavesB P fn tmps R ds w'
theorem leavesB_steps {fn:Func} {tmps:Array Value} {R:Ending→World→Prop}:∀ (ds:List Deferred) (w:World) (fr:Frame) (cs:List Frame),fr.mode=.returning→fr.defers=ds→fr.tmps=tmps→P.funcs[fr.fn]?=some fn→fr.kind=.normal →
  LeavesB P fn tmps R ds w→∃ e w' fr',R e w'∧Comes P (lone fr cs w) (lone fr' cs w') e∧fr'.fn=fr.fn∧fr'.leaving P w' e:=by
 intro ds
 induction ds with
 | nil =>
  intro w fr cs hu hd ht hf hk h;obtain ⟨v,hr,hR⟩:=h;exact ⟨.returned v,w,fr,hR,Steps.refl P _,rfl,hu,hd,hk,fn,hf,ht ▸ hr⟩
 | cons d ds ih =>
  intro w fr cs hu hd ht hf hk h;obtain ⟨b,ats,ty,kk,v,w1,htar,hinv,hrest⟩:=h;have h1:=step_defer_b (cs:=cs) hu hd htar hinv;obtain ⟨e',w'',fr',hR',hs',hfn',hl'⟩:=ih w1 { fr with defers:=ds } cs hu rfl ht hf hk hrest;exact ⟨e',w'',fr',hR',Comes.of_steps (.one h1) hs',hfn',hl'⟩
def bodyPostB (P:Program) (fn:Func) (R:Ending→World→Prop):Exit→Act→World→Prop
 | .normal,a,w | .ret,a,w=>LeavesB P fn a.tmps R a.defers w
 | .outgrown,_,w=>R .outgrown w
 | _,_,_=>False
theorem calls_of_wp_b {f:FuncId} {fn:Func} {c:Code} {args:Array Value} {w:World} {R:Ending→World→Prop} (hf:P.funcs[f]?=some fn) (hb:fn.body=some c)
  (h:c.wp P (bodyPostB P fn R) { tmps:=args ++ Array.replicate (fn.ntmps - args.size) undef,defers:=[] } w):Calls P f args w R:=by
 intro cs
 let b:Frame:={ (default:Frame) with fn:=f,kind:=.normal }
 have henter:Frame.enter P f args .normal=b.at { tmps:=args ++ Array.replicate (fn.ntmps - args.size) undef,defers:=[] } [.code c]:=by
  simp [Frame.enter,Frame.at,hf,hb,b]
 obtain ⟨e,a',w',hq,harr⟩:=h b [] cs;rw [← henter] at harr
 cases e with
 | normal =>
  obtain ⟨e',w'',fr',hR,hs,hfn,hl⟩:=leavesB_steps a'.defers w' { b.at a' [] with mode:=.returning } cs rfl rfl rfl hf rfl hq;exact ⟨e',w'',fr',hR,Comes.of_steps (Steps.trans harr (.one step_end)) hs,hfn,hl⟩
 | ret =>
  obtain ⟨todo,hs₀⟩:=harr;obtain ⟨e',w'',fr',hR,hs,hfn,hl⟩:=leavesB_steps a'.defers w' { b.at a' todo with mode:=.returning } cs rfl rfl rfl hf rfl hq;exact ⟨e',w'',fr',hR,Comes.of_steps hs₀ hs,hfn,hl⟩
 | panic chain=>exact hq.elim
 | exit id=>exact hq.elim
 | goto l=>exact hq.elim
 | outgrown=>exact ⟨.outgrown,w',b,hq,harr.resolve_left (by simp [b]),rfl,trivial⟩
end
end Go.Cf
namespace Go.Cf
open Go.RowKit Go.Conc Go.Proofs Go.Maps
theorem zero20 (w:World):(zeroValue 20).run Tryz.prog w=.ok .nilIface w:=by kernel_rfl
section
variable {lab:Lab} {w:World} {K:PK} {L:LX} {ks:List ByteArray}
end
end Go.Cf
namespace Go.Cf
open Go.RowKit Go.Conc Go.Proofs
def LX.dlr (L:LX):LX:={ L with start:=L.start + 1 }
theorem LX.Ok.dlr {L:LX} (ok:L.Ok) (h:L.start < L.inp.size):L.dlr.Ok:=⟨ok.small,ok.pos,h,ok.width,ok.lstart,ok.ilstart,ok.line,ok.asc⟩
section
variable {base:Nat} {S0:Nat→Prop} {w0 w:World} {b:Nat} {L:LX} {s:ByteArray} {p st:Nat} {stk:List Nat}
set_option maxRecDepth 100000 in
theorem isVar_yes (h:At base S0 w0 w b L) (ok:L.Ok) (hs:L.start < L.inp.size) (hk:byteAt L.inp L.start=36) :
  Calls Tryz.prog 202 #[.pointer (some ⟨b,0,none⟩)] w fun e w'=>e=.returned (.bool true)∧At base S0 w0 w' b L.dlr:=by
 have c0:=h.c0;have c1:=h.c1;have f1:=h.free 1;have hsm:=ok.small;have h1:(L.start:Int) < (L.inp.size:Int):=by omega
 rw [← byteAt_get _ _ hs] at hk;have e1:(((L.inp[L.start]'hs).toNat:Int) == 36)=true:=beq_iff_eq.2 (by omega);have e2:decide ((L.inp.size:Int)≤(L.start:Int))=false:=decide_eq_false (by omega);go_enter Tryz.func202,Tryz.ntmps202;go_wp2_with fail;go_quiet (fail);go_wp2_with fail;go_quiet (fail);go_wp2;go_ret;exact ⟨rfl,At.set (L':=L.dlr) (h.drewN _) 1 (i64 ((L.start:Int) + 1)) (fun _ _ _=>rfl) rfl rfl rfl rfl rfl rfl rfl⟩
theorem LX.Is0.dlr (h:L.Is0 s p st stk) (hst:st < s.size):L.dlr.Is0 s p (st + 1) stk:=by
 refine ⟨h.ok.dlr (by rw [h.inp,h.start];exact hst),h.inp,h.pos,?_,h.stack,h.parts,h.q⟩;show L.start + 1=_;rw [h.start]
end
end Go.Cf
