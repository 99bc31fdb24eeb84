/-
  Texts joined: Pj Pk Pq Pm.
-/
import Derived.Test.YtackodbeohaidaaGreatDoorZq010
import Derived.Test.YtackodbeohaidaaGreatDoorZq011
import Derived.Test.YtackodbeohaidaaGreatDoorZq012
import Derived.Test.YtackodbeohaidaaGreatDoorZq016
import Derived.Test.YtackodbeohaidaaGreatDoorZq017
namespace Go.Cf
open Go.RowKit Go.Conc Go.Proofs Go.Maps
attribute [local go_sem ↓] nt_61_61b nt_75_61b ta_113_113
section
variable {B ℓ b:Nat} {lab lab1:Lab} {w w1:World} {K:PK} {X X':PQ} {s:ByteArray}
theorem mpv_any {t:List (ByteArray × Value)} {V:Value} (hr:(Instr.lookup 61 (.map (some b)) (.string s) true).run Tryz.prog w=.ok (.tuple #[V,.bool true]) w) (h:MpV ℓ lab w b t) (hs:s.size≤maxLen):∃ x ∈ t,x.1=s∧x.2=V:=by
 rcases mpv_look h hs with ⟨x,hx,hxs,h2⟩ | ⟨_,h2⟩
 ·rw [hr] at h2;simp only [Result.ok.injEq,Value.tuple.injEq,Array.mk.injEq,List.cons.injEq,and_true] at h2;exact ⟨x,hx,hxs,h2.symm⟩
 ·rw [hr] at h2;simp at h2
theorem QAtX.marked {top cv kv iv:Value} {vs:List Value} {i:TI} {g:Nat} (h:QAtX B lab w K X top cv kv iv vs) (hr:RootIn s i X.cx) (hg:∀ v,vs.getLast?=some v→∃ b,v=.iface 61 (.map (some b))∧∀ t:List (ByteArray × Value),MpV 20 lab w b t→∃ x ∈ t,x.1=s∧x.2=.iface 113 (.pointer (some ⟨g,0,none⟩))) (hl:lab g=9):QAt B lab (w.setCell ⟨g,5,none⟩ (.bool true)) K (X.mark s):=by
 have m:Mv (·=9) w lab (w.setCell ⟨g,5,none⟩ (.bool true)) lab:=Mv.setCell _ _ _ _ hl;exact ⟨top,cv,kv,iv,vs,h.ped,h.cl.mv m (by decide),h.lx.mv m (by decide),h.cv.mv m (by decide),h.kv.mv m (by decide),h.iv.mv m (by decide),h.cs.marked hr hg hl,h.top,h.root⟩
set_option maxRecDepth 100000 in
set_option maxHeartbeats 4000000 in
theorem lookupQ (h:QAt B lab w K X) (hn:X.cx.length≤1000000) (s:ByteArray) (hs:s.size≤1000000) (hp:Lib.hasPrefix s.data.toList [50,97,36]=false) (ti:TI) (hj:RootIn s ti X.cx) :
  Calls Tryz.prog 72 #[.pointer (some ⟨K.p,0,none⟩),.string s] w fun e w'=>(∃ g c0 c1 c3 u,e=.returned (.tuple #[.iface 113 (.pointer (some ⟨g,0,none⟩)),.bool true,.nilIface])∧Cl 9 lab w g (tkC c0 c1 c3 u ti.1) 115∧isV lab w ti.2 u∧QAt B lab (w.setCell ⟨g,5,none⟩ (.bool true)) K (X.mark s))∧w'=w:=by
 obtain ⟨top,cv,kv,iv,vs,h⟩:=h;have hlen:vs.length=X.cx.length:=h.cs.length;have hpos:0 < X.cx.length:=by
  cases hc:X.cx with
  | nil=>rw [hc] at hj;exact hj.elim
  | cons a r=>simp
 have HX:=Lib.hid h;obtain ⟨g,cap,rfl,hcap,hmx,hcell,cur,hgb⟩:=own_open h.cv.1 (by omega);obtain ⟨n,hnn⟩:∃ n,n=X.cx.length:=⟨_,rfl⟩;have c3:w.cell? ⟨K.p,3,none⟩=some (.slice (some ⟨g,0,none⟩) n cap):=by have:=h.cl.cell 3;rwa [hlen,← hnn] at this
 have hms:s.size≤maxLen:=by unfold maxLen;omega
 have HCS:=Lib.hid h.cs;have HCL:=Lib.hid hcell;have HL:=Lib.hid hlen;have HNN:=Lib.hid hnn;have hn0:0 < n:=by omega
 have hn6:n≤1000000:=by omega
 have hp2:(Lib.hasPrefix s.data.toList (⟨#[50,97,36]⟩:ByteArray).data.toList)=false:=hp;have HJ:=Lib.hid hj;clear hcell hgb hmx h hp hlen hn hj hpos hnn;refine calls_of_wp_b Tryz.func72 rfl ?_;simp only [Tryz.ntmps72,List.size_toArray,List.length_cons,List.length_nil,Nat.reduceAdd,Nat.reduceSub,Array.replicate_succ,Array.replicate_zero,List.push_toArray,List.append_toArray,List.nil_append,List.cons_append];go_wp2_with fail;refine (Tryz.strings_HasPrefix s _ _).mono ?_;rintro e w1 ⟨rfl,rfl⟩;rw [hp2];go_wp2_with fail;go_loopw [7] (fun i wr=>(∃ d:Nat,d < n∧i=.int .i64 ((n:Int) - 1 - d))∧wr=w1) (fun i _=>(RowKit.intOf i + 1).toNat)
 case atStart=>exact ⟨⟨0,hn0,by simp⟩,rfl⟩
 case round =>
  obtain ⟨⟨d,hdn,rfl⟩,hwr⟩:=hrel;have hwr':=hwr.symm;clear hwr;subst hwr';obtain ⟨c,hc⟩:∃ c,X.cx[d]?=some c:=⟨_,List.getElem?_eq_getElem (by have:=HNN.out;omega)⟩;obtain ⟨v,hv,hcat⟩:=CsAtQ.at d HCS.out hc;have hra:=HJ.out.at d hc;obtain ⟨i,hi⟩:∃ i:Nat,i=n - 1 - d:=⟨_,rfl⟩;have hii:(n:Int) - 1 - d=(i:Int):=by omega
  have q:w1.cell? ⟨g,i,none⟩=some v:=by
   refine HCL.out i v ?_;have hl:=HL.out;have hN:=HNN.out;rw [List.getElem?_reverse (by omega),show vs.length - 1 - i=d from by omega];exact hv
  have hin:(i:Int) < (n:Int):=by omega
  have hstep:(n:Int) - 1 - ((d + 1:Nat):Int)=(i:Int) - 1:=by omega
  rw [hii];have HST:=Lib.hid hstep;have HV:=Lib.hid hv;rcases hra with ⟨hd1,hnk⟩ | ⟨hd1,m,rfl,hm,hnd⟩
  ·have hd2:d + 1 < n:=by have:=HNN.out;omega
   have HDI:=Lib.hid (aI hi (aI hdn hd2));clear hi hii hv hstep hd1
   cases c with
   | arr l =>
    obtain ⟨s',xs,rfl,_⟩:=hcat;clear hnk;go_wp2;go_roundw
    case rel=>exact ⟨⟨d + 1,HDI.out.2.2,by rw [HST.out]⟩,trivial⟩
    case measure=>simp [RowKit.intOf]
   | map m =>
    obtain ⟨b,z,rfl,hmp,hz,_,_⟩:=hcat;rcases mpv_look hmp hms with ⟨x,hx,hxs,hr⟩ | ⟨_,hr⟩
    ·exfalso
     obtain ⟨y,hy,rfl⟩:=List.mem_map.1 hx;exact hnk (y.1,y.2.1) (by rw [← hz];exact List.mem_map_of_mem hy) hxs
    ·clear hnk hz hmp;go_wp2;go_roundw
     case rel=>exact ⟨⟨d + 1,HDI.out.2.2,by rw [HST.out]⟩,trivial⟩
     case measure=>simp [RowKit.intOf]
  ·have hdl:d + 1=X.cx.length:=hd1;obtain ⟨b,z,rfl,hmp,hz,ht,_⟩:=hcat;have e20:X.cx.length - 1 - d=0:=by omega
   rw [e20] at hmp ht;rcases mpv_look hmp hms with ⟨x,hx,hxs,hr⟩ | ⟨hno,_⟩
   ·obtain ⟨y,hy,rfl⟩:=List.mem_map.1 hx;have hys:y.1=s:=hxs;obtain ⟨g1,c0,c1,c3',u,e1,hc1,hu⟩:=ht y hy;have hti:y.2.1=ti:=by
     rw [← hz] at hm;obtain ⟨y',hy',e⟩:=List.mem_map.1 hm;have h1:y'.1=s:=congrArg Prod.fst e;have h2:y'.2.1=ti:=congrArg Prod.snd e;rw [← hz,List.map_map] at hnd;have:=nodup_inj hnd hy hy' (by show y.1=y'.1;rw [hys,h1]);rw [this,h2]
    simp only at hr;rw [e1] at hr;rw [hti] at hc1 hu;have hmk:QAt B lab (w1.setCell ⟨g1,5,none⟩ (.bool true)) K (X.mark s):=by
     refine HX.out.marked HJ.out (fun v' hv'=>?_) hc1.2;have hl:=HL.out;have hN:=HNN.out;rw [List.getLast?_eq_getElem?,show vs.length - 1=d from by omega,HV.out] at hv'
     cases hv'
     exact ⟨b,rfl,fun t h=>mpv_any hr h hms⟩
    have HF:=Lib.hid (aI hc1 (aI hu hmk));clear hmk hc1 hu hti e1 ht hz hmp hv hd1 hdl hm hnd hx hxs hys hi hii hstep e20;go_wp2_with fail;exact ⟨_,results_tmp3 rfl _ _ _,⟨g1,c0,c1,c3',u,rfl,HF.out.1,HF.out.2.1,HF.out.2.2⟩,rfl⟩
   ·exfalso
    rw [← hz] at hm;obtain ⟨y,hy,e⟩:=List.mem_map.1 hm;exact hno (y.1,y.2.2) (List.mem_map_of_mem hy) (congrArg Prod.fst e)
end
end Go.Cf
namespace Go.Cf
open Go.RowKit Go.Conc Go.Proofs Go.Maps
attribute [local go_sem ↓] ta_113_113
section
variable {B ℓ b:Nat} {lab lab1:Lab} {w w1:World} {K:PK} {X X':PQ} {s:ByteArray}
set_option maxRecDepth 100000 in
set_option maxHeartbeats 1000000 in
theorem tokVal_c {g ℓ:Nat} {c0 c1:Value} {c3:Int} {u:Value} {f:Int × Bool} (h:Cl ℓ lab w g (tkC c0 c1 c3 u f) 115):Calls Tryz.prog 73 #[.pointer (some ⟨g,0,none⟩)] w fun e w'=>e=.returned u∧w'=w:=by
 have c4:w.cell? ⟨g,4,none⟩=some u:=h.cell 4;clear h;go_enter Tryz.func73,Tryz.ntmps73;go_wp2;go_ret;exact ⟨rfl,rfl⟩
def CVa (kp g:Nat) (xv:ByteArray) (xl xp:Int) (u:Value):Nat→Value→Lab→World→Prop
 | 0,v,_,_=>v=.pointer (some ⟨kp,0,none⟩)
 | 1,v,_,_=>v=.agg #[i64 15,.string xv,i64 xl,i64 xp]
 | 2,v,_,_=>v=.pointer (some ⟨g,0,none⟩)
 | 3,v,_,_=>v=u
 | 4,v,_,_=>v=.string { data:=#[] }
 | 5,v,_,_=>v=.agg #[i64 15,.string xv,i64 xl,i64 xp,u,.bool false,.string { data:=#[] }]
 | 6,v,lab,w=>∃ b,v=.pointer (some ⟨b,0,none⟩)∧Cl 11 lab w b (tkC (i64 15) (.string xv) xp u (xl,false)) 115
 | 7,v,lab,w=>∃ b,v=.iface 113 (.pointer (some ⟨b,0,none⟩))∧Cl 11 lab w b (tkC (i64 15) (.string xv) xp u (xl,false)) 115
 | _,_,_,_=>False
theorem CVa.mv {kp g:Nat} {xv:ByteArray} {xl xp:Int} {u:Value} (k:Nat) (v:Value) (lab:Lab) (w:World) (lab':Lab) (w':World) (h:CVa kp g xv xl xp u k v lab w) (m:Mv (fun _=>False) w lab w' lab'):CVa kp g xv xl xp u k v lab' w':=by
 match k,h with
 | 0,h=>exact h
 | 1,h=>exact h
 | 2,h=>exact h
 | 3,h=>exact h
 | 4,h=>exact h
 | 5,h=>exact h
 | 6,⟨b,h1,h2⟩=>exact ⟨b,h1,h2.mv m (fun h=>h)⟩
 | 7,⟨b,h1,h2⟩=>exact ⟨b,h1,h2.mv m (fun h=>h)⟩
set_option maxRecDepth 100000 in
set_option maxHeartbeats 4000000 in
theorem itemQ_var (h:QAt B lab w K X) (hB:B≤w.heap.size) (hn:X.cx.length≤1000000) (xv:ByteArray) (xl xp:Int) (hsz:xv.size≤1000000) (hp:Lib.hasPrefix xv.data.toList [50,97,36]=false) (ti:TI) (hj:RootIn xv ti X.cx) (hs:(X.mark xv).Sets ti.2 X') :
  Calls Tryz.prog 57 #[.pointer (some ⟨K.p,0,none⟩),.agg #[i64 15,.string xv,i64 xl,i64 xp],.string { data:=#[] }] w fun e w'=>e=.returned .nilIface∧∃ lab',QAt B lab' w' K X'∧Mv PM w lab w' lab':=by
 obtain ⟨lab1,hb,m1⟩:=h.boxed hB 15 xv xl xp;have HL:=Lib.hid (lookupQ hb.pat hn xv hsz hp ti hj);have c7:(((w.alloc (.cells #[.pointer (some ⟨K.p,0,none⟩)] 71)).alloc (.cells #[i64 15,.string xv,i64 xl,i64 xp] 98)).alloc (.cells #[.string { data:=#[] }] 9)).cell? ⟨K.p,7,none⟩=some (.bool true):=hb.pat.ped;have d0:(((w.alloc (.cells #[.pointer (some ⟨K.p,0,none⟩)] 71)).alloc (.cells #[i64 15,.string xv,i64 xl,i64 xp] 98)).alloc (.cells #[.string { data:=#[] }] 9)).cell? ⟨w.heap.size,0,none⟩=some (.pointer (some ⟨K.p,0,none⟩)):=hb.b0.cell 0;have HB:=Lib.hid hb;have HM:=Lib.hid m1;clear hb m1 h hj;go_enter Tryz.func57,Tryz.ntmps57;go_wp2_with fail;refine HL.out.mono ?_;rintro e w5 ⟨⟨g,c0,c1,c3,u,rfl,hc,hu,hmk⟩,rfl⟩;have hsz3:(Boxed w K 15 xv xl xp).heap.size=w.heap.size + 1 + 1 + 1:=by unfold Boxed;simp [World.size_alloc]
 obtain ⟨W,hW⟩:∃ W,W=Boxed w K 15 xv xl xp:=⟨_,rfl⟩;have hW2:((w.alloc (.cells #[.pointer (some ⟨K.p,0,none⟩)] 71)).alloc (.cells #[i64 15,.string xv,i64 xl,i64 xp] 98)).alloc (.cells #[.string { data:=#[] }] 9)=W:=hW.symm;have hb:=HB.out;have hm1:=HM.out;rw [← hW] at hc hu hmk hb hsz3 hm1 ⊢;rw [hW2] at c7 d0;have m9:Mv (·=9) W lab1 (W.setCell ⟨g,5,none⟩ (.bool true)) lab1:=Mv.setCell _ _ _ _ hc.2;have k5:W.cell? ⟨g,5,none⟩=some (.bool ti.1.2):=hc.cell 5;have f5:W.frozen? ⟨g,5,none⟩=false:=hc.free 5;obtain ⟨W2,hW3⟩:∃ x,x=W.setCell ⟨g,5,none⟩ (.bool true):=⟨_,rfl⟩;have hcg:Cl 9 lab1 W2 g (tkC c0 c1 c3 u (ti.1.1,true)) 115:=by rw [hW3];exact hc.set 5 (.bool true)
 rw [← hW3] at m9 hmk;have hs2:W2.heap.size=w.heap.size + 1 + 1 + 1:=by rw [hW3,← hsz3];simp [World.setCell]
 have b0:=hb.b0.mv m9 (by decide);have b1:=hb.b1.mv m9 (by decide);have b2:=hb.b2.mv m9 (by decide);have hu2:=isV.mv m9 (by decide) _ _ hu;have hB2:B≤W2.heap.size:=Nat.le_trans hb.hB m9.size;have hm19:=hm1.trans m9 (by rintro x rfl;decide);obtain ⟨tu,uu,rfl⟩:∃ t x,u=.iface t x:=by
  cases htv:ti.2 with
  | leaf=>rw [htv] at hu2;simp only [isV] at hu2;obtain ⟨t,x,e,_⟩:=hu2;exact ⟨t,x,e⟩
  | map ks fs l=>rw [htv] at hu2;simp only [isV] at hu2;obtain ⟨b,t,e,_⟩:=hu2;exact ⟨_,_,e⟩
 have H2:=Lib.hid (aI hmk (aI hu2 (aI hB2 (aI hm19 (aI b0 (aI b1 (aI b2 hcg)))))));clear hmk hu2 hB2 hm19 b0 b1 b2 hcg hb m9 hu hc hW hW2 hsz3 hs2 HL hm1;go_upto_region 111 with fail
 rw [← hW3];clear hW3 k5 f5;refine wp_region_call (CVa K.p g xv xl xp (.iface tu uu)) (fun lab' w' w2=>∃ lab7,QAt B lab7 w2 K X'∧Mv PM w' lab' w2 lab7) 376 8 lab1 mixed (by kernel_rfl) rfl (show 376 + 8 < 391 by omega) (by kernel_rfl) (by kernel_rfl) (by kernel_rfl) rfl (fun k v l1 w1 l2 w2 h m=>CVa.mv k v l1 w1 l2 w2 h m) ?_ ?_ ?_
 ·intro L a' lab' w' i o hi ho hall hb;have kk:∀ j:Nat,j < 376→a'.tmps.getD j undef=_:=fun j hj=>hb.keep j (fun k hk e=>by have e':376 + k=j:=e;omega)
  have k3:a'.tmps.getD 3 undef=Value.pointer (some ⟨w.heap.size,0,none⟩):=kk 3 (by decide);have k4:a'.tmps.getD 4 undef=Value.pointer (some ⟨w.heap.size + 1,0,none⟩):=kk 4 (by decide);have k5:a'.tmps.getD 5 undef=Value.pointer (some ⟨w.heap.size + 1 + 1,0,none⟩):=kk 5 (by decide);have k27:a'.tmps.getD 27 undef=Value.pointer (some ⟨g,0,none⟩):=kk 27 (by decide);obtain ⟨-,-,-,-,b0,b1,b2,hcg⟩:=H2.out;have b0:=b0.mv hb.mv (fun h=>h);have b1:=b1.mv hb.mv (fun h=>h);have b2:=b2.mv hb.mv (fun h=>h);have hcg:=hcg.mv hb.mv (fun h=>h);rw [gdg] at k3 k4 k5
  match i,ho with
  | 0,rfl =>
   have q0:w'.cell? ⟨w.heap.size,0,none⟩=some (.pointer (some ⟨K.p,0,none⟩)):=b0.cell 0;exact .inl ⟨.pointer (some ⟨K.p,0,none⟩),w',lab',by simp [execOp,Act.eval,go_sem,k3,q0],Mv.refl _ _ _,rfl⟩
  | 1,rfl =>
   have q1:w'.cell? ⟨w.heap.size + 1,0,none⟩=some (i64 15):=b1.cell 0;have q2:w'.cell? ⟨w.heap.size + 1,1,none⟩=some (.string xv):=b1.cell 1;have q3:w'.cell? ⟨w.heap.size + 1,2,none⟩=some (i64 xl):=b1.cell 2;have q4:w'.cell? ⟨w.heap.size + 1,3,none⟩=some (i64 xp):=b1.cell 3;exact .inl ⟨.agg #[i64 15,.string xv,i64 xl,i64 xp],w',lab',by simp [execOp,Act.eval,go_sem,k4,q1,q2,q3,q4],Mv.refl _ _ _,rfl⟩
  | 2,rfl=>exact .inl ⟨_,_,lab',rfl,Mv.refl _ _ _,k27⟩
  | 3,rfl =>
   have e0:a'.tmps.getD 378 undef=Value.pointer (some ⟨g,0,none⟩):=hb.got 2 (by decide) (hall ⟨2,.data⟩ (by simp) rfl);refine .inr ⟨73,#[a'.tmps.getD 378 undef],by kernel_rfl,?_⟩;rw [e0];refine (tokVal_c hcg).mono ?_;rintro e w2 ⟨rfl,rfl⟩;exact ⟨_,lab',rfl,Mv.refl _ _ _,rfl⟩
  | 4,rfl =>
   have q5:w'.cell? ⟨w.heap.size + 1 + 1,0,none⟩=some (.string { data:=#[] }):=b2.cell 0;exact .inl ⟨.string { data:=#[] },w',lab',by simp [execOp,Act.eval,go_sem,k5,q5],Mv.refl _ _ _,rfl⟩
  | 5,rfl =>
   have e0:a'.tmps.getD 377 undef=.agg #[i64 15,.string xv,i64 xl,i64 xp]:=hb.got 1 (by decide) (hall ⟨1,.data⟩ (by simp) rfl);have e1:a'.tmps.getD 379 undef=.iface tu uu:=hb.got 3 (by decide) (hall ⟨3,.data⟩ (by simp) rfl);have e2:a'.tmps.getD 380 undef=.string { data:=#[] }:=hb.got 4 (by decide) (hall ⟨4,.data⟩ (by simp) rfl);rw [gdg] at e0 e1 e2;exact .inl ⟨.agg #[i64 15,.string xv,i64 xl,i64 xp,.iface tu uu,.bool false,.string { data:=#[] }],w',lab',by simp [execOp,Act.eval,go_sem,e0,e1,e2],Mv.refl _ _ _,rfl⟩
  | 6,rfl =>
   have e0:a'.tmps.getD 381 undef=.agg #[i64 15,.string xv,i64 xl,i64 xp,.iface tu uu,.bool false,.string { data:=#[] }]:=hb.got 5 (by decide) (hall ⟨5,.data⟩ (by simp) rfl);rw [gdg] at e0;exact .inl ⟨.pointer (some ⟨w'.heap.size,0,none⟩),w'.alloc (.cells (tkC (i64 15) (.string xv) xp (.iface tu uu) (xl,false)) 115),lab'.ext w'.heap.size 11,by simp [execOp,Act.eval,go_sem,e0,tkC],Mv.alloc _ _ _ _,_,rfl,Cl.alloc _ _ _ _ _⟩
  | 7,rfl =>
   obtain ⟨b,e0,hbk⟩:=hb.got 6 (by decide) (hall ⟨6,.data⟩ (by simp) rfl);have e0:a'.tmps.getD 382 undef=_:=e0;rw [gdg] at e0;exact .inl ⟨.iface 113 (.pointer (some ⟨b,0,none⟩)),w',lab',by simp [execOp,Act.eval,go_sem,e0],Mv.refl _ _ _,b,rfl,hbk⟩
 ·intro a' lab' w' o ho hall hkeep m;simp only [List.getElem?_cons_succ,List.getElem?_cons_zero,Option.some.injEq] at ho;subst ho;have e0:a'.tmps.getD 376 undef=_:=hall 0 (by decide);obtain ⟨b,e1,hbk⟩:=hall 7 (by decide);have e1:a'.tmps.getD 383 undef=_:=e1;refine ⟨63,#[a'.tmps.getD 376 undef,a'.tmps.getD 383 undef],by kernel_rfl,?_⟩;rw [e0,e1];obtain ⟨hmk,hu2,hB2,-⟩:=H2.out;refine (setTokQ (hmk.mv m (fun _ _ h=>h)) (Nat.le_trans hB2 m.size) hs b (i64 15) (.string xv) xl xp (.iface tu uu) hbk (isV.mv m (fun h=>h) _ _ hu2)).mono ?_;rintro e w2 ⟨rfl,lab7,h7,m7⟩;exact ⟨_,rfl,lab7,h7,m7⟩
 ·intro us lab' w' w2 hu m hR;obtain ⟨lab7,h7,m7⟩:=hR;have HF:=Lib.hid (aI h7 ((H2.out.2.2.2.1.trans m (fun _ h=>h.elim)).trans m7 (fun _ h=>h)));clear h7 m7 m
  match us,hu with
  | [u0,u1,u2,u3,u4,u5,u6,u7,u8],_ =>
   simp only [List.take_succ_cons,List.take_zero,List.drop_succ_cons,List.drop_zero,List.cons_append,List.nil_append];go_wp2;go_ret;exact ⟨rfl,lab7,HF.out.1,HF.out.2⟩
end
end Go.Cf
namespace Go.Cf
open Go.RowKit Go.Conc Go.Proofs
def FdQ (K:PK) (s:ByteArray) (p st:Nat) (stk:List Nat) (t:Tag) (cx:List CQ) (ks:List ByteArray) (ls:List Int) (pt:Nat) (fin:List CQ):Prop :=
 ∀ (L:LX) (prev:It),L.Is s p st stk t→prev.typ=pt→∃ X',FeedsQ K ⟨L,cx,ks,ls⟩ prev X'∧X'.cx=fin
section
variable {K:PK} {s:ByteArray} {p st p1 st1:Nat} {stk stk1:List Nat} {t t1:Tag} {cx cx1 fin:List CQ} {ks ks1:List ByteArray} {ls ls1:List Int} {pt ty:Nat} {val:ByteArray} {line:Int}
theorem FdQ.step (E:Emits s p st stk t ty val line p1 st1 stk1 t1) (hty:ty ≠ 2) (hw:∀ (L:LX) (x:It),x.typ=ty→x.val=val→x.line=line→WorksQ K ⟨L,cx,ks,ls⟩ x ⟨L,cx1,ks1,ls1⟩)
  (hn:FdQ K s p1 st1 stk1 t1 cx1 ks1 ls1 ty fin):FdQ K s p st stk t cx ks ls pt fin:=by
 intro L prev hL hp;obtain ⟨n,L',x,R,hq,h1,h2,h3,h4⟩:=E L hL;obtain ⟨X',hF,hc⟩:=hn _ x h4 h1;exact ⟨X',.step R hq (by rw [h1];exact hty) (hw _ x h1 h2 h3) hF,hc⟩
theorem FdQ.eof (E:Emits s p st stk t 2 val line p1 st1 stk1 t1) (hpt:pt ≠ 3):FdQ K s p st stk t cx ks ls pt cx:=by
 intro L prev hL hp;obtain ⟨n,L',x,R,hq,h1,h2,h3,h4⟩:=E L hL;exact ⟨_,.eof R hq h1 (by rw [hp];exact hpt),rfl⟩
theorem FeedsQ.pre {K:PK} {n:Nat} {L L1:LX} {cx:List CQ} {ks:List ByteArray} {prev:It} {X':PQ} (r:Run n L L1) (h:FeedsQ K ⟨L1,cx,ks,ls⟩ prev X'):FeedsQ K ⟨L,cx,ks,ls⟩ prev X':=by
 cases h with
 | eof R hx ht hp=>exact .eof (X:=⟨L,cx,ks,ls⟩) (r.trans R) hx ht hp
 | step R hx ht hw h=>exact .step (X:=⟨L,cx,ks,ls⟩) (r.trans R) hx ht hw h
theorem FdQ.lead {K:PK} {p1 st1:Nat} {stk1:List Nat} {t t1:Tag} {cx fin:List CQ} {ks:List ByteArray} {pt:Nat} (h:Leads s p st stk t p1 st1 stk1 t1) (k:FdQ K s p1 st1 stk1 t1 cx ks ls pt fin):FdQ K s p st stk t cx ks ls pt fin:=by
 intro L prev hL hp;obtain ⟨n,L1,r,h1⟩:=h L hL;obtain ⟨X',hF,hc⟩:=k L1 prev h1 hp;exact ⟨X',hF.pre r,hc⟩
theorem readQ_of {m:List (ByteArray × TI)} (hs:s.size≤1000000) (ha:∀ i,i < s.size→byteAt s i < 128) (h:∀ K:PK,FdQ K s 0 0 [] (plainT 60) [.map []] [] [] 0 [.map m]):ReadQ s m:=by
 intro K c;exact h K _ ⟨0,{ data:=#[] },0,0⟩ (new_is s c hs ha) rfl
theorem worksQ_key (L:LX) (x:It) (hx:x.typ=3) (hl:ks.length≤1000000) (hl2:ls.length≤1000000):WorksQ K ⟨L,cx,ks,ls⟩ x ⟨L,cx,ks ++ [x.val],ls ++ [x.line]⟩:=by
 intro B lab w hB hp _;obtain ⟨xt,xv,xl,xp⟩:=x;obtain rfl:xt=3:=hx;exact itemQ_key hp hB hl hl2 xv xl xp
theorem key_nl {k Kt:ByteArray} (hsp:KeySp k Kt) (h:Has s p Kt):∀ P,p≤P→P≤p + Kt.size→nlc s P=nlc s p:=by
 have hb:∀ i,i < Kt.size→byteAt Kt i ≠ 10:=by
  have hq:∀ (c:UInt8),c.toNat ≠ 10→Plain k q4→∀ i,i < ((⟨#[c]⟩:ByteArray) ++ k ++ ⟨#[c]⟩).size→byteAt ((⟨#[c]⟩:ByteArray) ++ k ++ ⟨#[c]⟩) i ≠ 10:=by
   intro c hc hP i hi;have hz:((⟨#[c]⟩:ByteArray) ++ k).size=k.size + 1:=by rw [bsa];show 1 + k.size=_;omega
   have hz2:((⟨#[c]⟩:ByteArray) ++ k ++ ⟨#[c]⟩).size=k.size + 2:=by rw [bsa,hz];rfl
   rw [hz2] at hi;rcases Nat.lt_or_ge i (k.size + 1) with h1 | h1
   ·rw [byteAt_app_left _ _ _ (by omega)];rcases Nat.eq_zero_or_pos i with rfl | h0
    ·rw [byteAt_app_left _ _ _ (by decide:0 < 1)];exact hc
    ·have:=byteAt_app_right (⟨#[c]⟩:ByteArray) k (i - 1);rw [show (⟨#[c]⟩:ByteArray).size + (i - 1)=i from by show 1 + (i - 1)=i;omega] at this;rw [this];have:=(hP (i - 1) (by omega)).1;omega
   ·have:=byteAt_app_right ((⟨#[c]⟩:ByteArray) ++ k) ⟨#[c]⟩ 0;rw [hz] at this;rw [show i=k.size + 1 + 0 from by omega,this];exact hc
  cases hsp with
  | dq hP=>exact hq 34 (by decide) hP
  | sq hP=>exact hq 39 (by decide) hP
  | bare hB =>
   intro i hi;have:=hB.bytes i hi;unfold bareB letB goodB at this;omega
 intro P h1 h2;obtain ⟨n,rfl⟩:∃ n,P=p + n:=⟨P - p,by omega⟩;have hle:=h.le
 induction n with
 | zero=>rfl
 | succ n ih =>
  rw [← Nat.add_assoc,nlc_succ _ _ (by omega),ih (by omega) (by omega),h.at n (by omega),if_neg (hb n (by omega))];rfl
end
section
variable {K:PK} {s:ByteArray} {p st:Nat} {stk sk:List Nat} {cx cx1 fin:List CQ} {ks ks1:List ByteArray} {ls ls1:List Int} {pt n:Nat} {T:ByteArray} {S E:Nat}
theorem worksQ_str (L:LX) (x:It) (hx:x.typ=5) (hs:(⟨L,cx,ks,ls⟩:PQ).Sets .leaf ⟨L,cx1,ks1,ls1⟩):WorksQ K ⟨L,cx,ks,ls⟩ x ⟨L,cx1,ks1,ls1⟩:=by
 intro B lab w hB hp _;obtain ⟨xt,xv,xl,xp⟩:=x;obtain rfl:xt=5:=hx;exact itemQ_str hp hB xv xl xp hs
theorem worksQ_cmt14 (L:LX) (x:It) (hx:x.typ=14):WorksQ K ⟨L,cx,ks,ls⟩ x ⟨L,cx,ks,ls⟩:=by
 intro B lab w hB hp _;obtain ⟨xt,xv,xl,xp⟩:=x;obtain rfl:xt=14:=hx;exact itemQ_cmt14 hp hB xv xl xp
theorem worksQ_cmt4 (L:LX) (x:It) (hx:x.typ=4):WorksQ K ⟨L,cx,ks,ls⟩ x ⟨L,cx,ks,ls⟩:=by
 intro B lab w hB hp _;obtain ⟨xt,xv,xl,xp⟩:=x;obtain rfl:xt=4:=hx;exact itemQ_cmt4 hp hB xv xl xp
theorem fq_cmt (k:Nat) (hst:st≤p) (hk:p + k < s.size) (hc:∀ i,i < k→isNLb (byteAt s (p + i))=false∧byteAt s (p + i) ≠ 0) (e:byteAt s (p + k)=10) (hl:sk.length≤1000000)
  (rest:FdQ K s (p + k) (p + k) sk (plainT n) cx ks ls 4 fin):FdQ K s p st (sk ++ [n]) (plainT 90) cx ks ls pt fin:=by
 refine FdQ.step (ld_cs_go hst) (by decide) (fun L x h1 _ _=>worksQ_cmt14 L x h1) ?_;have l1:=leads_run (s:=s) (p:=p) (st:=p) (stk:=sk ++ [n]) (f:=130) (Q:=fun c=>isNLb c=false∧c ≠ 0) (fun p hp hq=>ld_cm_ch hp hq.1 hq.2) k (by omega) hc;refine FdQ.lead l1 (FdQ.step (ld_cm_nl hk (by omega) e sk n rfl hl) (by decide) (fun L x h1 _ _=>worksQ_cmt4 L x h1) rest)
theorem worksQ_var (L:LX) (x:It) (hx:x.typ=15) (hsz:x.val.size≤1000000) (hp:Lib.hasPrefix x.val.data.toList [50,97,36]=false) (hn:cx.length≤1000000) {ti:TI} (hj:RootIn x.val ti cx) (hs:(⟨L,markCx x.val cx,ks,ls⟩:PQ).Sets ti.2 ⟨L,cx1,ks1,ls1⟩):WorksQ K ⟨L,cx,ks,ls⟩ x ⟨L,cx1,ks1,ls1⟩:=by
 intro B lab w hB h _;obtain ⟨xt,xv,xl,xp⟩:=x;obtain rfl:xt=15:=hx;exact itemQ_var h hB hn xv xl xp hsz hp ti hj hs
theorem worksQ_map (L:LX) (x:It) (hx:x.typ=12) (hl:cx.length≤1000000) (hne:cx ≠ []):WorksQ K ⟨L,cx,ks,ls⟩ x ⟨L,.map [] :: cx,ks,ls⟩:=by
 intro B lab w hB h _;obtain ⟨xt,xv,xl,xp⟩:=x;obtain rfl:xt=12:=hx;exact itemQ_map h hB hl hne xv xl xp
theorem worksQ_list (L:LX) (x:It) (hx:x.typ=10) (hl:cx.length≤1000000) (hne:cx ≠ []):WorksQ K ⟨L,cx,ks,ls⟩ x ⟨L,.arr 0 :: cx,ks,ls⟩:=by
 intro B lab w hB h _;obtain ⟨xt,xv,xl,xp⟩:=x;obtain rfl:xt=10:=hx;exact itemQ_list h hB hl hne xv xl xp
theorem worksQ_mapend {m:List (ByteArray × TI)} {c2:CQ} {cs:List CQ} (L:LX) (x:It) (hx:x.typ=13) (hl:cs.length≤1000000) (hs:(⟨L,c2 :: cs,ks,ls⟩:PQ).Sets (CQ.map m).tv ⟨L,cx1,ks1,ls1⟩):WorksQ K ⟨L,.map m :: c2 :: cs,ks,ls⟩ x ⟨L,cx1,ks1,ls1⟩:=by
 intro B lab w hB h _;obtain ⟨xt,xv,xl,xp⟩:=x;obtain rfl:xt=13:=hx;exact itemQ_mapend m h hB hl xv xl xp hs
theorem worksQ_listend {l:Nat} {c2:CQ} {cs:List CQ} (L:LX) (x:It) (hx:x.typ=11) (hl:cs.length≤1000000) (hs:(⟨L,c2 :: cs,ks,ls⟩:PQ).Sets (CQ.arr l).tv ⟨L,cx1,ks1,ls1⟩):WorksQ K ⟨L,.arr l :: c2 :: cs,ks,ls⟩ x ⟨L,cx1,ks1,ls1⟩:=by
 intro B lab w hB h _;obtain ⟨xt,xv,xl,xp⟩:=x;obtain rfl:xt=11:=hx;exact itemQ_listend l h hB hl xv xl xp hs
theorem worksQ_bool (L:LX) (x:It) (hx:x.typ=6) (b:Bool) (i:Nat) (hi:i < 6) (hv:x.val=trT b i) (hs:(⟨L,cx,ks,ls⟩:PQ).Sets .leaf ⟨L,cx1,ks1,ls1⟩):WorksQ K ⟨L,cx,ks,ls⟩ x ⟨L,cx1,ks1,ls1⟩:=by
 intro B lab w hB hp _;obtain ⟨xt,xv,xl,xp⟩:=x;obtain rfl:xt=6:=hx;obtain rfl:xv=trT b i:=hv;obtain ⟨h1,h2,h3,h4,h5⟩:=trT_ok b i hi;refine itemQ_bool hp hB _ xl xp b (by show (trT b i).size≤_;omega) (fun k c hk=>?_) h5 hs;have hlt:k < (trT b i).size:=by
  have:=(List.getElem?_eq_some_iff.1 hk).1;rwa [data_length] at this
 have h6:=(h4 k hlt).2.2;unfold byteAt at h6;rw [List.getD_eq_getElem?_getD,hk] at h6;exact h6
theorem worksQ_flt (L:LX) (x:It) (hx:x.typ=8) (f:Nat) (hv:FltGives f x.val) (hs:(⟨L,cx,ks,ls⟩:PQ).Sets .leaf ⟨L,cx1,ks1,ls1⟩):WorksQ K ⟨L,cx,ks,ls⟩ x ⟨L,cx1,ks1,ls1⟩:=by
 intro B lab w hB hp _;obtain ⟨xt,xv,xl,xp⟩:=x;obtain rfl:xt=8:=hx;exact itemQ_num hp hB xv xl xp f hv hs
theorem worksQ_ng {low:ByteArray} {f:Int→Int} (I:LowF low f) (L:LX) (x:It) (hx:x.typ=7) (sg:ByteArray) (m:Nat) (sf:ByteArray) (hv:x.val=sg ++ decB m ++ sf) (v n:Int)
  (hsv:(sg=⟨#[]⟩∧v=m) ∨ (sg=⟨#[45]⟩∧v=-(m:Int))) (hm:m≤4611686018427387904) (hs0:0 < sf.size) (hs3:sf.size≤3) (hd:isDig (byteAt sf 0)=false) (hd2:byteAt sf 0 ≠ 45) (hasc:∀ j,j < sf.size→byteAt sf j < 128)
  (htrim:Lib.trimSpace sf.data.toList=sf.data.toList) (hlow:(⟨(Lib.toLowerA sf.data.toList).toArray⟩:ByteArray)=low) (hn:f v=n) (hb1:-4611686018427387904≤n) (hb2:n≤4611686018427387904)
  (hs:(⟨L,cx,ks,ls⟩:PQ).Sets .leaf ⟨L,cx1,ks1,ls1⟩):WorksQ K ⟨L,cx,ks,ls⟩ x ⟨L,cx1,ks1,ls1⟩:=by
 intro B lab w hB hp htb;obtain ⟨xt,xv,xl,xp⟩:=x;obtain rfl:xt=7:=hx;obtain rfl:xv=sg ++ decB m ++ sf:=hv;have hz:=decB_small m (by omega);have hsgs:sg.size≤1:=by rcases hsv with ⟨rfl,_⟩ | ⟨rfl,_⟩ <;> decide
 have hsg:sg=⟨#[]⟩ ∨ sg=⟨#[45]⟩:=by rcases hsv with ⟨h,_⟩ | ⟨h,_⟩;exact .inl h;exact .inr h
 have hps:(sg ++ decB m).size≤20:=by rw [bsa];omega
 have hall:(sg ++ decB m ++ sf).size=(sg ++ decB m).size + sf.size:=bsa;have hat:∀ i,byteAt (sg ++ decB m ++ sf) ((sg ++ decB m).size + i)=byteAt sf i:=fun i=>byteAt_app_right _ _ _
 have hat0:=hat 0;rw [Nat.add_zero] at hat0;subst hn;refine itemQ_ng I B lab w K _ _ hp hB (sg ++ decB m ++ sf) xl xp (sg ++ decB m).size (by omega) (by omega) (fun i hi=>?_) (by rw [hat0];exact hd) (by rw [hat0];exact hd2) (fun i hi=>?_) v (fun w=>?_) sf ?_ (asc_list sf hasc) htrim hlow hb1 hb2 htb hs
 ·rw [byteAt_app_left _ _ _ hi];rcases sgdig sg m hsg i hi with h | h
  ·exact .inl (dig_true h)
  ·exact .inr h
 ·rcases Nat.lt_or_ge i (sg ++ decB m).size with h | h
  ·rw [byteAt_app_left _ _ _ h];have:=sgdig sg m hsg i h;omega
  ·obtain ⟨j,rfl⟩:=Nat.exists_eq_add_of_le h;rw [hat];exact hasc j (by omega)
 ·rw [show (sg ++ decB m ++ sf).extract 0 (sg ++ decB m).size=sg ++ decB m from ByteArray.extract_append_eq_left rfl];exact pi_c sg m v hsv hm w
 ·exact ByteArray.extract_append_eq_right rfl (by rw [bsa])
theorem worksQ_ng0 (L:LX) (x:It) (hx:x.typ=7) (sg:ByteArray) (m:Nat) (hv:x.val=sg ++ decB m) (v:Int)
  (hsv:(sg=⟨#[]⟩∧v=m) ∨ (sg=⟨#[45]⟩∧v=-(m:Int))) (hm:m≤4611686018427387904)
  (hs:(⟨L,cx,ks,ls⟩:PQ).Sets .leaf ⟨L,cx1,ks1,ls1⟩):WorksQ K ⟨L,cx,ks,ls⟩ x ⟨L,cx1,ks1,ls1⟩:=by
 intro B lab w hB hp htb;obtain ⟨xt,xv,xl,xp⟩:=x;obtain rfl:xt=7:=hx;obtain rfl:xv=sg ++ decB m:=hv;have hz:=decB_small m (by omega);have hsgs:sg.size≤1:=by rcases hsv with ⟨rfl,_⟩ | ⟨rfl,_⟩ <;> decide
 have hsg:sg=⟨#[]⟩ ∨ sg=⟨#[45]⟩:=by rcases hsv with ⟨h,_⟩ | ⟨h,_⟩;exact .inl h;exact .inr h
 have hps:(sg ++ decB m).size≤20:=by rw [bsa];omega
 refine itemQ_ng_plain hp hB (sg ++ decB m) xl xp (by omega) (fun i hi=>?_) (fun i hi=>?_) v (fun w=>pi_c sg m v hsv hm w) htb hs
 ·rcases sgdig sg m hsg i hi with h | h
  ·exact .inl (dig_true h)
  ·exact .inr h
 ·have:=sgdig sg m hsg i hi;omega
theorem worksQ_intsp (L:LX) (x:It) (hx:x.typ=7) (n:Int) (h:IntSp n x.val) (hs:(⟨L,cx,ks,ls⟩:PQ).Sets .leaf ⟨L,cx1,ks1,ls1⟩):WorksQ K ⟨L,cx,ks,ls⟩ x ⟨L,cx1,ks1,ls1⟩:=by
 obtain ⟨sg,m,sf,u,hv,hsf,hn,hb⟩:=h;have hu:=mulB_pos hsf;have hmu:(m:Int)≤m * u:=by
  have:=Int.mul_le_mul_of_nonneg_left hu (Int.natCast_nonneg m);omega
 have hmu0:(0:Int)≤m * u:=by omega
 have hm:m≤4611686018427387904:=by omega
 rcases hsf.item with ⟨rfl,rfl⟩ | hI
 ·have hv2:x.val=sg ++ decB m:=hv.trans ByteArray.append_empty;refine worksQ_ng0 L x hx sg m hv2 n ?_ hm hs;rcases hn with ⟨h1,h2⟩ | ⟨h1,h2⟩
  ·exact .inl ⟨h1,by omega⟩
  ·exact .inr ⟨h1,by omega⟩
 ·obtain ⟨low,f,I,hl,hf⟩:=hI.ex;rcases hn with ⟨h1,h2⟩ | ⟨h1,h2⟩
  ·exact worksQ_ng I L x hx sg m sf hv m n (.inl ⟨h1,rfl⟩) hm hI.s0 hI.s3 hI.d hI.d2 hI.asc hI.trim hl (by rw [hf];exact h2.symm) (by omega) (by omega) hs
  ·exact worksQ_ng I L x hx sg m sf hv (-(m:Int)) n (.inr ⟨h1,rfl⟩) hm hI.s0 hI.s3 hI.d hI.d2 hI.asc hI.trim hl (by rw [hf,h2,Int.neg_mul]) (by omega) (by omega) hs
theorem fq_keyG {S E:Nat} {k Kt:ByteArray} (tokey:∀ p,p < s.size→isSp (byteAt s p)=false→byteAt s p ≠ 123→byteAt s p ≠ 35→byteAt s p ≠ 47→byteAt s p ≠ 0→byteAt s p ≠ 125→Leads s p p stk (plainT S) p p (stk ++ [E]) (plainT 95)) (hsp:KeySp k Kt) (hkw:noKw k) (j:Nat) (hj:j < 6) (h:Has s p (Kt ++ sepT j)) (hlt:p + (Kt.size + (sepT j).size) < s.size) (hv:vsB (byteAt s (p + (Kt.size + (sepT j).size)))) (hlk:ks.length≤1000000) (hll:ls.length≤1000000)
  (rest:FdQ K s (p + (Kt.size + (sepT j).size)) (p + (Kt.size + (sepT j).size)) (stk ++ [E]) (plainT 174) cx (ks ++ [k]) (ls ++ [1 + ((nlc s p:Nat):Int)]) 3 fin):FdQ K s p p stk (plainT S) cx ks ls pt fin:=by
 have hK1:=h.left;have hS:=h.right;rw [← Nat.add_assoc] at hlt hv rest;have hwk:∀ (L:LX) (x:It),x.typ=3→x.val=k→x.line=1 + (nlc s p:Nat)→WorksQ K ⟨L,cx,ks,ls⟩ x ⟨L,cx,ks ++ [k],ls ++ [1 + ((nlc s p:Nat):Int)]⟩:=fun L x h1 h2 h3=>by
  have:=worksQ_key (K:=K) (cx:=cx) (ks:=ks) (ls:=ls) L x h1 hlk hll;rwa [h2,h3] at this
 have HN:=key_nl hsp hK1;have hsf:=sep_first j hj;have hls:=ld_sep (stk:=stk ++ [E]) j hj hS hlt hv
 cases hsp with
 | dq hP =>
  have h0:=hK1.left.left;have ht:Has s (p + 1) k:=hK1.left.right;have he:=hK1.right;have hz:((⟨#[34]⟩:ByteArray) ++ k).size=k.size + 1:=by rw [bsa];show 1 + k.size=_;omega
  have hz2:((⟨#[34]⟩:ByteArray) ++ k ++ ⟨#[34]⟩).size=k.size + 2:=by rw [bsa,hz];rfl
  rw [hz] at he;rw [hz2] at hlt hls rest;have e0:byteAt s p=34:=h0.at 0 (by decide);have e1:byteAt s (p + (k.size + 1))=34:=he.at 0 (by decide);have l0:Leads s p p stk (plainT S) p p (stk ++ [E]) (plainT 95):=tokey p (by omega) (by rw [e0];rfl) (by rw [e0];decide) (by rw [e0];decide) (by rw [e0];decide) (by rw [e0];decide) (by rw [e0];decide);have l1:Leads s p p (stk ++ [E]) (plainT 95) (p + 1) (p + 1) (stk ++ [E]) (plainT 137):=(ld_ks_dq (by omega) e0).trans (ld_skip 137)
  have l2:=leads_run (s:=s) (p:=p + 1) (st:=p + 1) (stk:=stk ++ [E]) (f:=137) (Q:=fun c=>c ≠ 34∧c ≠ 0) (fun p hp hq=>ld_dqk_ch hp hq.1 hq.2) k.size (by omega) (fun i hi=>by
   rw [ht.at i hi];have hq:=hP i hi;have h34:=hq.2.2 0 (by decide);rw [show byteAt q4 0=34 from rfl] at h34
   exact ⟨h34,by omega⟩)
  have E:=ld_dqk_end (s:=s) (p:=p + 1 + k.size) (st:=p + 1) (stk:=stk ++ [E]) (by omega) (by omega) (by rw [show p + 1 + k.size=p + (k.size + 1) from by omega];exact e1);rw [ht.ext] at E;refine FdQ.lead (l0.trans (l1.trans l2)) (FdQ.step E (by decide) (fun L x h1 h2 h3=>hwk L x h1 h2 (h3.trans (by rw [HN (p + 1 + k.size) (by omega) (by omega)]))) (FdQ.lead ((ld_skip 163).trans ?_) rest));rw [show p + 1 + k.size + 1=p + (k.size + 2) from by omega];exact hls
 | sq hP =>
  have h0:=hK1.left.left;have ht:Has s (p + 1) k:=hK1.left.right;have he:=hK1.right;have hz:((⟨#[39]⟩:ByteArray) ++ k).size=k.size + 1:=by rw [bsa];show 1 + k.size=_;omega
  have hz2:((⟨#[39]⟩:ByteArray) ++ k ++ ⟨#[39]⟩).size=k.size + 2:=by rw [bsa,hz];rfl
  rw [hz] at he;rw [hz2] at hlt hls rest;have e0:byteAt s p=39:=h0.at 0 (by decide);have e1:byteAt s (p + (k.size + 1))=39:=he.at 0 (by decide);have l0:Leads s p p stk (plainT S) p p (stk ++ [E]) (plainT 95):=tokey p (by omega) (by rw [e0];rfl) (by rw [e0];decide) (by rw [e0];decide) (by rw [e0];decide) (by rw [e0];decide) (by rw [e0];decide);have l1:Leads s p p (stk ++ [E]) (plainT 95) (p + 1) (p + 1) (stk ++ [E]) (plainT 138):=(ld_ks_sq (by omega) e0).trans (ld_skip 138)
  have l2:=leads_run (s:=s) (p:=p + 1) (st:=p + 1) (stk:=stk ++ [E]) (f:=138) (Q:=fun c=>c ≠ 39∧c ≠ 0) (fun p hp hq=>ld_sqk_ch hp hq.1 hq.2) k.size (by omega) (fun i hi=>by
   rw [ht.at i hi];have hq:=hP i hi;have h39:=hq.2.2 3 (by decide);rw [show byteAt q4 3=39 from rfl] at h39
   exact ⟨h39,by omega⟩)
  have E:=ld_sqk_end (s:=s) (p:=p + 1 + k.size) (st:=p + 1) (stk:=stk ++ [E]) (by omega) (by omega) (by rw [show p + 1 + k.size=p + (k.size + 1) from by omega];exact e1);rw [ht.ext] at E;refine FdQ.lead (l0.trans (l1.trans l2)) (FdQ.step E (by decide) (fun L x h1 h2 h3=>hwk L x h1 h2 (h3.trans (by rw [HN (p + 1 + k.size) (by omega) (by omega)]))) (FdQ.lead ((ld_skip 163).trans ?_) rest));rw [show p + 1 + k.size + 1=p + (k.size + 2) from by omega];exact hls
 | bare hB =>
  have hpos:=hB.pos;have e0:byteAt s p=byteAt k 0:=hK1.at 0 hpos;have hl0:letB (byteAt k 0):=by
   rcases hB.bytes 0 hpos with h | h
   ·exact h
   ·exact absurd rfl h.1
  have hcls:∀ c,letB c ∨ goodB c→isSp c=false∧isSep c=false∧c ≠ 0:=fun c hc=>by
   unfold letB goodB at hc;refine ⟨?_,?_,by omega⟩
   ·simp [isSp];omega
   ·simp [isSep];omega
  have hc0:=hcls _ (.inl hl0);have hne:byteAt k 0 ≠ 123∧byteAt k 0 ≠ 35∧byteAt k 0 ≠ 47∧byteAt k 0 ≠ 34∧byteAt k 0 ≠ 39∧byteAt k 0 ≠ 125:=by unfold letB at hl0;omega
  have l0:Leads s p p stk (plainT S) p p (stk ++ [E]) (plainT 95):=tokey p (by omega) (by rw [e0];exact hc0.1) (by rw [e0];exact hne.1) (by rw [e0];exact hne.2.1) (by rw [e0];exact hne.2.2.1) (by rw [e0];exact hc0.2.2) (by rw [e0];exact hne.2.2.2.2.2);have l1:Leads s p p (stk ++ [E]) (plainT 95) (p + 1) p (stk ++ [E]) (plainT 139):=ld_ks_key (by omega) (by rw [e0];exact hc0.2.1) (by rw [e0];exact hc0.1) (by rw [e0];exact hne.2.2.2.1) (by rw [e0];exact hne.2.2.2.2.1)
  have l2:=leads_run (s:=s) (p:=p + 1) (st:=p) (stk:=stk ++ [E]) (f:=139) (Q:=fun c=>isSp c=false∧isSep c=false∧c ≠ 0) (fun p hp hq=>ld_key_more hp hq.1 hq.2.1 hq.2.2) (k.size - 1) (by omega) (fun i hi=>by
   rw [show p + 1 + i=p + (i + 1) from by omega,hK1.at (i + 1) (by omega)];rcases hB.bytes (i + 1) (by omega) with h | h
   ·exact hcls _ (.inl h)
   ·exact hcls _ (.inr h.2))
  rw [show p + 1 + (k.size - 1)=p + k.size from by omega] at l2;have es:=hS.at 0 hsf.1;rw [Nat.add_zero] at es;have hx:=hK1.ext;refine FdQ.lead (l0.trans (l1.trans l2)) ?_;rcases hsf.2 with h1 | ⟨h1,h2⟩
  ·have E:=ld_key_sp (s:=s) (p:=p + k.size) (st:=p) (stk:=stk ++ [E]) (by omega) (by omega) (by rw [es];exact h1) (by rw [hx];exact hkw);rw [hx] at E;exact FdQ.step E (by decide) (fun L x h1 h2 h3=>hwk L x h1 h2 (h3.trans (by rw [HN (p + k.size) (by omega) (by omega)]))) (FdQ.lead hls rest)
  ·have E:=ld_key_sep (s:=s) (p:=p + k.size) (st:=p) (stk:=stk ++ [E]) (by omega) (by omega) (by rw [es];exact h1) (by rw [es];exact h2);rw [hx] at E;exact FdQ.step E (by decide) (fun L x h1 h2 h3=>hwk L x h1 h2 (h3.trans (by rw [HN (p + k.size) (by omega) (by omega)]))) (FdQ.lead hls rest)
theorem fq_keyM {k Kt:ByteArray} (hsp:KeySp k Kt) (hkw:noKw k) (j:Nat) (hj:j < 6) (h:Has s p (Kt ++ sepT j)) (hlt:p + (Kt.size + (sepT j).size) < s.size) (hv:vsB (byteAt s (p + (Kt.size + (sepT j).size)))) (hv2:byteAt s (p + (Kt.size + (sepT j).size)) ≠ 44∧byteAt s (p + (Kt.size + (sepT j).size)) ≠ 125) (hl:stk.length≤900000) (hlk:ks.length≤1000000) (hll:ls.length≤1000000)
  (rest:FdQ K s (p + (Kt.size + (sepT j).size)) (p + (Kt.size + (sepT j).size)) (stk ++ [207]) (plainT 174) cx (ks ++ [k]) (ls ++ [1 + ((nlc s p:Nat):Int)]) 3 fin):FdQ K s p p stk (plainT 181) cx ks ls pt fin:=by
 have hK1:=h.left;have hS:=h.right;rw [← Nat.add_assoc] at hlt hv hv2 rest;have hwk:∀ (L:LX) (x:It),x.typ=3→x.val=k→x.line=1 + (nlc s p:Nat)→WorksQ K ⟨L,cx,ks,ls⟩ x ⟨L,cx,ks ++ [k],ls ++ [1 + ((nlc s p:Nat):Int)]⟩:=fun L x h1 h2 h3=>by
  have:=worksQ_key (K:=K) (cx:=cx) (ks:=ks) (ls:=ls) L x h1 hlk hll;rwa [h2,h3] at this
 have HN:=key_nl hsp hK1;have hsf:=sep_first j hj;have hls:=ld_sepM (stk:=stk) j hj hS hlt hv hv2 (by omega)
 cases hsp with
 | dq hP =>
  have h0:=hK1.left.left;have ht:Has s (p + 1) k:=hK1.left.right;have he:=hK1.right;have hz:((⟨#[34]⟩:ByteArray) ++ k).size=k.size + 1:=by rw [bsa];show 1 + k.size=_;omega
  have hz2:((⟨#[34]⟩:ByteArray) ++ k ++ ⟨#[34]⟩).size=k.size + 2:=by rw [bsa,hz];rfl
  rw [hz] at he;rw [hz2] at hlt hls rest;have e0:byteAt s p=34:=h0.at 0 (by decide);have e1:byteAt s (p + (k.size + 1))=34:=he.at 0 (by decide);have l1:Leads s p p stk (plainT 181) (p + 1) (p + 1) stk (plainT 193):=(ld_mks_dq (by omega) e0).trans (ld_skip 193)
  have l2:=leads_run (s:=s) (p:=p + 1) (st:=p + 1) (stk:=stk) (f:=193) (Q:=fun c=>c ≠ 34∧c ≠ 0) (fun p hp hq=>ld_mdqk_ch hp hq.1 hq.2) k.size (by omega) (fun i hi=>by
   rw [ht.at i hi];have hq:=hP i hi;have h34:=hq.2.2 0 (by decide);rw [show byteAt q4 0=34 from rfl] at h34
   exact ⟨h34,by omega⟩)
  have E:=ld_mdqk_end (s:=s) (p:=p + 1 + k.size) (st:=p + 1) (stk:=stk) (by omega) (by omega) (by rw [show p + 1 + k.size=p + (k.size + 1) from by omega];exact e1);rw [ht.ext] at E;refine FdQ.lead (l1.trans l2) (FdQ.step E (by decide) (fun L x h1 h2 h3=>hwk L x h1 h2 (h3.trans (by rw [HN (p + 1 + k.size) (by omega) (by omega)]))) (FdQ.lead ((ld_skip 206).trans ?_) rest));rw [show p + 1 + k.size + 1=p + (k.size + 2) from by omega];exact hls
 | sq hP =>
  have h0:=hK1.left.left;have ht:Has s (p + 1) k:=hK1.left.right;have he:=hK1.right;have hz:((⟨#[39]⟩:ByteArray) ++ k).size=k.size + 1:=by rw [bsa];show 1 + k.size=_;omega
  have hz2:((⟨#[39]⟩:ByteArray) ++ k ++ ⟨#[39]⟩).size=k.size + 2:=by rw [bsa,hz];rfl
  rw [hz] at he;rw [hz2] at hlt hls rest;have e0:byteAt s p=39:=h0.at 0 (by decide);have e1:byteAt s (p + (k.size + 1))=39:=he.at 0 (by decide);have l1:Leads s p p stk (plainT 181) (p + 1) (p + 1) stk (plainT 192):=(ld_mks_sq (by omega) e0).trans (ld_skip 192)
  have l2:=leads_run (s:=s) (p:=p + 1) (st:=p + 1) (stk:=stk) (f:=192) (Q:=fun c=>c ≠ 39∧c ≠ 0) (fun p hp hq=>ld_msqk_ch hp hq.1 hq.2) k.size (by omega) (fun i hi=>by
   rw [ht.at i hi];have hq:=hP i hi;have h39:=hq.2.2 3 (by decide);rw [show byteAt q4 3=39 from rfl] at h39
   exact ⟨h39,by omega⟩)
  have E:=ld_msqk_end (s:=s) (p:=p + 1 + k.size) (st:=p + 1) (stk:=stk) (by omega) (by omega) (by rw [show p + 1 + k.size=p + (k.size + 1) from by omega];exact e1);rw [ht.ext] at E;refine FdQ.lead (l1.trans l2) (FdQ.step E (by decide) (fun L x h1 h2 h3=>hwk L x h1 h2 (h3.trans (by rw [HN (p + 1 + k.size) (by omega) (by omega)]))) (FdQ.lead ((ld_skip 206).trans ?_) rest));rw [show p + 1 + k.size + 1=p + (k.size + 2) from by omega];exact hls
 | bare hB =>
  have hpos:=hB.pos;have e0:byteAt s p=byteAt k 0:=hK1.at 0 hpos;have hl0:letB (byteAt k 0):=by
   rcases hB.bytes 0 hpos with h | h
   ·exact h
   ·exact absurd rfl h.1
  have hcls:∀ c,letB c ∨ goodB c→isSp c=false∧isSep c=false∧c ≠ 0:=fun c hc=>by
   unfold letB goodB at hc;refine ⟨?_,?_,by omega⟩
   ·simp [isSp];omega
   ·simp [isSep];omega
  have hc0:=hcls _ (.inl hl0);have hne:byteAt k 0 ≠ 123∧byteAt k 0 ≠ 35∧byteAt k 0 ≠ 47∧byteAt k 0 ≠ 34∧byteAt k 0 ≠ 39∧byteAt k 0 ≠ 93∧byteAt k 0 ≠ 125:=by unfold letB at hl0;omega
  have l1:Leads s p p stk (plainT 181) (p + 1) p stk (plainT 194):=ld_mks_key (by omega) (by rw [e0];exact hc0.2.1) (by rw [e0];exact hc0.1) (by rw [e0];exact hc0.2.2) (by rw [e0];exact hne.2.2.2.2.2.1) (by rw [e0];exact hne.2.2.2.2.2.2) (by rw [e0];exact hne.2.1) (by rw [e0];exact hne.2.2.1) (by rw [e0];exact hne.2.2.2.2.1) (by rw [e0];exact hne.2.2.2.1)
  have l2:=leads_run (s:=s) (p:=p + 1) (st:=p) (stk:=stk) (f:=194) (Q:=fun c=>isSp c=false∧isSep c=false∧c ≠ 0) (fun p hp hq=>ld_mk_more hp hq.1 hq.2.1 hq.2.2) (k.size - 1) (by omega) (fun i hi=>by
   rw [show p + 1 + i=p + (i + 1) from by omega,hK1.at (i + 1) (by omega)];rcases hB.bytes (i + 1) (by omega) with h | h
   ·exact hcls _ (.inl h)
   ·exact hcls _ (.inr h.2))
  rw [show p + 1 + (k.size - 1)=p + k.size from by omega] at l2;have es:=hS.at 0 hsf.1;rw [Nat.add_zero] at es;have hx:=hK1.ext;have hsf0:byteAt (sepT j) 0 ≠ 0:=by
   match j,hj with
   | 0,_ | 1,_ | 2,_ | 3,_ | 4,_ | 5,_=>decide
  refine FdQ.lead (l1.trans l2) ?_;rcases hsf.2 with h1 | ⟨h1,h2⟩
  ·have E:=ld_mk_sp (s:=s) (p:=p + k.size) (st:=p) (stk:=stk) (by omega) (by omega) (by rw [es];exact h1) (by rw [hx];exact hkw) (by rw [es];exact hsf0);rw [hx] at E;exact FdQ.step E (by decide) (fun L x h1 h2 h3=>hwk L x h1 h2 (h3.trans (by rw [HN (p + k.size) (by omega) (by omega)]))) (FdQ.lead hls rest)
  ·have E:=ld_mk_sep (s:=s) (p:=p + k.size) (st:=p) (stk:=stk) (by omega) (by omega) (by rw [es];exact h1) (by rw [es];exact h2) (by rw [es];exact hsf0);rw [hx] at E;exact FdQ.step E (by decide) (fun L x h1 h2 h3=>hwk L x h1 h2 (h3.trans (by rw [HN (p + k.size) (by omega) (by omega)]))) (FdQ.lead hls rest)
end
structure ModeQ (K:PK) (S E:Nat) (sk:List Nat):Prop where
 len:sk.length≤800000
 sp:∀ (s:ByteArray) (p st:Nat),p < s.size→isSp (byteAt s p)=true→Leads s p st sk (plainT S) (p + 1) (p + 1) sk (plainT S)
 hash:∀ (s:ByteArray) (p st:Nat),p < s.size→byteAt s p=35→Leads s p st sk (plainT S) (p + 1) st (sk ++ [S]) (plainT 90)
 slash:∀ (s:ByteArray) (p st:Nat),p + 1 < s.size→byteAt s p=47→byteAt s (p + 1)=47→Leads s p st sk (plainT S) (p + 1 + 1) st (sk ++ [S]) (plainT 90)
 nl:∀ (s:ByteArray) (p st:Nat),p < s.size→byteAt s p=10→Leads s p st sk (plainT E) (p + 1) (p + 1) sk (plainT S)
 semi:∀ (s:ByteArray) (p st:Nat),p < s.size→byteAt s p=59→Leads s p st sk (plainT E) (p + 1) (p + 1) sk (plainT S)
 comma:∀ (s:ByteArray) (p st:Nat),p < s.size→byteAt s p=44→Leads s p st sk (plainT E) (p + 1) (p + 1) sk (plainT S)
 ws:∀ (s:ByteArray) (p:Nat),p < s.size→byteAt s p=32→∃ st',st'≤p + 1∧Leads s p p sk (plainT E) (p + 1) st' sk (plainT E)
 ecmt:∃ n,(n=S ∨ n=E)∧(∀ (s:ByteArray) (p st:Nat),p < s.size→byteAt s p=35→Leads s p st sk (plainT E) (p + 1) st (sk ++ [n]) (plainT 90)) ∧
  (∀ (s:ByteArray) (p st:Nat),p + 1 < s.size→byteAt s p=47→byteAt s (p + 1)=47→Leads s p st sk (plainT E) (p + 1 + 1) st (sk ++ [n]) (plainT 90))
 key:∀ (s:ByteArray) (p:Nat) (cx fin:List CQ) (ks:List ByteArray) (ls:List Int) (pt:Nat) (k Kt:ByteArray) (j:Nat),KeySp k Kt→noKw k→j < 6→Has s p (Kt ++ sepT j)→p + (Kt.size + (sepT j).size) < s.size→vsB (byteAt s (p + (Kt.size + (sepT j).size))) →
  (byteAt s (p + (Kt.size + (sepT j).size)) ≠ 44∧byteAt s (p + (Kt.size + (sepT j).size)) ≠ 125)→ks.length≤1000000→ls.length≤1000000→FdQ K s (p + (Kt.size + (sepT j).size)) (p + (Kt.size + (sepT j).size)) (sk ++ [E]) (plainT 174) cx (ks ++ [k]) (ls ++ [1 + ((nlc s p:Nat):Int)]) 3 fin→FdQ K s p p sk (plainT S) cx ks ls pt fin
theorem modeQ_top {K:PK}:ModeQ K 60 94 [] where
 len:=by simp
 sp:=fun s p st hp e=>(ld_top_sp hp e).trans (ld_skip 60)
 hash:=fun s p st hp e=>ld_top_hash hp (by simp) e
 slash:=fun s p st hp e e2=>ld_top_slash hp (by simp) e e2
 nl:=fun s p st hp e=>ld_tve_nl hp e
 semi:=fun s p st hp e=>ld_tve_semi hp e
 comma:=fun s p st hp e=>ld_tve_comma hp e
 ws:=fun s p hp e=>⟨p,by omega,ld_tve_ws hp (by rw [e];rfl) (by rw [e];decide) (by rw [e];decide)⟩
 ecmt:=⟨60,.inl rfl,fun s p st hp e=>ld_tve_hash hp (by simp) e,fun s p st hp e e2=>ld_tve_slash hp (by simp) e e2⟩
 key:=fun s p cx fin ks ls pt k Kt j h1 h2 h3 h4 h5 h6 _ h8 h9 rest=>fq_keyG (fun p hp a b c d e f=>ld_top_key hp (by simp) a b c d e) h1 h2 j h3 h4 h5 h6 h8 h9 rest
theorem modeQ_blk {K:PK}:ModeQ K 89 129 [60] where
 len:=by simp
 sp:=fun s p st hp e=>(ld_bs_sp hp e).trans (ld_skip 89)
 hash:=fun s p st hp e=>ld_bs_hash hp (by simp) e
 slash:=fun s p st hp e e2=>ld_bs_slash hp (by simp) e e2
 nl:=fun s p st hp e=>ld_bve_nl hp e
 semi:=fun s p st hp e=>ld_bve_semi hp e
 comma:=fun s p st hp e=>ld_bve_comma hp e
 ws:=fun s p hp e=>⟨p,by omega,ld_bve_ws hp (by rw [e];rfl) (by rw [e];decide) (by rw [e];decide)⟩
 ecmt:=⟨129,.inr rfl,fun s p st hp e=>ld_bve_hash hp (by simp) e,fun s p st hp e e2=>ld_bve_slash hp (by simp) e e2⟩
 key:=fun s p cx fin ks ls pt k Kt j h1 h2 h3 h4 h5 h6 _ h8 h9 rest=>fq_keyG (fun p hp a b c d e f=>ld_bs_key hp (by simp) a b c d e f) h1 h2 j h3 h4 h5 h6 h8 h9 rest
theorem modeQ_map {K:PK} (sk:List Nat) (hl:sk.length≤800000):ModeQ K 181 207 sk where
 len:=hl
 sp:=fun s p st hp e=>(ld_mks_sp hp e (isSp_not e).1 (isSp_not e).2).trans (ld_skip 181)
 hash:=fun s p st hp e=>ld_mks_hash hp (by omega) e
 slash:=fun s p st hp e e2=>ld_mks_slash hp (by omega) e e2
 nl:=fun s p st hp e=>(ld_mve_nl hp e).trans (ld_skip 181)
 semi:=fun s p st hp e=>(ld_mve_semi hp e).trans (ld_skip 181)
 comma:=fun s p st hp e=>(ld_mve_comma hp e).trans (ld_skip 181)
 ws:=fun s p hp e=>⟨p + 1,by omega,(ld_mve_ws hp (by rw [e];rfl)).trans (ld_skip 207)⟩
 ecmt:=⟨207,.inr rfl,fun s p st hp e=>ld_mve_hash hp (by omega) e,fun s p st hp e e2=>ld_mve_slash hp (by omega) e e2⟩
 key:=fun s p cx fin ks ls pt k Kt j h1 h2 h3 h4 h5 h6 h7 h8 h9 rest=>fq_keyM h1 h2 j h3 h4 h5 h6 h7 (by omega) h8 h9 rest
section
variable {K:PK} {S E:Nat} {s:ByteArray} {p st:Nat} {sk stk:List Nat} {cx cx1 fin:List CQ} {ks ks1:List ByteArray} {ls ls1:List Int} {pt n:Nat} {T:ByteArray}
theorem ModeQ.fsp (M:ModeQ K S E sk) (hp:p < s.size) (e:isSp (byteAt s p)=true) (rest:FdQ K s (p + 1) (p + 1) sk (plainT S) cx ks ls pt fin):FdQ K s p st sk (plainT S) cx ks ls pt fin:=FdQ.lead (M.sp s p st hp e) rest
theorem ModeQ.blank (M:ModeQ K S E sk) (k:Nat) (h:Has s p (blankT k)) (hpt:pt ≠ 3) (rest:∀ pt',pt' ≠ 3→FdQ K s (p + (blankT k).size) (p + (blankT k).size) sk (plainT S) cx ks ls pt' fin):FdQ K s p p sk (plainT S) cx ks ls pt fin:=by
 have hl:=M.len
 match k with
 | 0=>exact rest _ hpt
 | 1 =>
  have b0:byteAt s p=32:=h.at 0 (by decide);have b1:byteAt s (p + 1)=32:=h.at 1 (by decide);have hle:p + 2≤s.size:=h.le;exact M.fsp (by omega) (by rw [b0];rfl) (M.fsp (by omega) (by rw [b1];rfl) (rest _ hpt))
 | 2 =>
  have hle:p + 16≤s.size:=h.le;have b0:byteAt s p=35:=h.at 0 (by decide);have b15:byteAt s (p + 15)=10:=h.at 15 (by decide);refine FdQ.lead (M.hash s p p (by omega) b0) (fq_cmt 14 (by omega) (by omega) (fun i hi=>?_) (by rw [show p + 1 + 14=p + 15 from rfl];exact b15) (by omega) (M.fsp (by omega) (by rw [show p + 1 + 14=p + 15 from rfl,b15];rfl) (rest 4 (by decide))));rw [show p + 1 + i=p + (i + 1) from by omega,h.at (i + 1) (show i + 1 < 16 by omega)];exact (show ∀ i,i < 14→isNLb (byteAt (blankT 2) (i + 1))=false∧byteAt (blankT 2) (i + 1) ≠ 0 by decide) i hi
 | 3 =>
  have hle:p + 12≤s.size:=h.le;have b0:byteAt s p=47:=h.at 0 (by decide);have b1:byteAt s (p + 1)=47:=h.at 1 (by decide);have b10:byteAt s (p + 10)=10:=h.at 10 (by decide);have b11:byteAt s (p + 11)=9:=h.at 11 (by decide);refine FdQ.lead (M.slash s p p (by omega) b0 b1) (fq_cmt 8 (by omega) (by omega) (fun i hi=>?_) (by rw [show p + 1 + 1 + 8=p + 10 from rfl];exact b10) (by omega) (M.fsp (by omega) (by rw [show p + 1 + 1 + 8=p + 10 from rfl,b10];rfl) (M.fsp (by omega) (by rw [show p + 1 + 1 + 8 + 1=p + 11 from rfl,b11];rfl) (rest 4 (by decide)))));rw [show p + 1 + 1 + i=p + (i + 2) from by omega,h.at (i + 2) (show i + 2 < 12 by omega)];exact (show ∀ i,i < 8→isNLb (byteAt (blankT 3) (i + 2))=false∧byteAt (blankT 3) (i + 2) ≠ 0 by decide) i hi
 | 4 =>
  have hle:p + 1≤s.size:=h.le;have b0:byteAt s p=10:=h.at 0 (by decide);exact M.fsp (by omega) (by rw [b0];rfl) (rest _ hpt)
 | k + 5=>exact rest _ hpt
theorem ModeQ.behind (M:ModeQ K S E sk) {n:Nat} (hn:n=S ∨ n=E) (hp:p < s.size) (e:byteAt s p=10) (rest:FdQ K s (p + 1) (p + 1) sk (plainT S) cx ks ls pt fin):FdQ K s p st sk (plainT n) cx ks ls pt fin:=by
 rcases hn with rfl | rfl
 ·exact M.fsp hp (by rw [e];rfl) rest
 ·exact FdQ.lead (M.nl s p st hp e) rest
theorem ModeQ.ends (M:ModeQ K S E sk) (e:Nat) (he:e < 7) (h:Has s p (endR e)) (hpt:pt ≠ 3) (rest:∀ pt',pt' ≠ 3→FdQ K s (p + (endR e).size) (p + (endR e).size) sk (plainT S) cx ks ls pt' fin):FdQ K s p p sk (plainT E) cx ks ls pt fin:=by
 have hl:=M.len
 match e,he with
 | 0,_ =>
  have hle:p + 1≤s.size:=h.le;have b0:byteAt s p=10:=h.at 0 (by decide);exact FdQ.lead (M.nl s p p (by omega) b0) (rest _ hpt)
 | 1,_ =>
  have hle:p + 2≤s.size:=h.le;have b0:byteAt s p=59:=h.at 0 (by decide);have b1:byteAt s (p + 1)=10:=h.at 1 (by decide);exact FdQ.lead (M.semi s p p (by omega) b0) (M.fsp (by omega) (by rw [b1];rfl) (rest _ hpt))
 | 2,_ =>
  have hle:p + 7≤s.size:=h.le;have b0:byteAt s p=32:=h.at 0 (by decide);have b1:byteAt s (p + 1)=35:=h.at 1 (by decide);have b6:byteAt s (p + 6)=10:=h.at 6 (by decide);obtain ⟨st',hst',l1⟩:=M.ws s p (by omega) b0;obtain ⟨n,hn,l2,_⟩:=M.ecmt;refine FdQ.lead (l1.trans (l2 s (p + 1) st' (by omega) b1)) (fq_cmt 4 (by omega) (by omega) (fun i hi=>?_) (by rw [show p + 1 + 1 + 4=p + 6 from rfl];exact b6) (by omega) (M.behind hn (by omega) (by rw [show p + 1 + 1 + 4=p + 6 from rfl];exact b6) (rest 4 (by decide))));rw [show p + 1 + 1 + i=p + (i + 2) from by omega,h.at (i + 2) (show i + 2 < 7 by omega)];exact (show ∀ i,i < 4→isNLb (byteAt (endR 2) (i + 2))=false∧byteAt (endR 2) (i + 2) ≠ 0 by decide) i hi
 | 3,_ =>
  have hle:p + 2≤s.size:=h.le;have b0:byteAt s p=10:=h.at 0 (by decide);have b1:byteAt s (p + 1)=10:=h.at 1 (by decide);exact FdQ.lead (M.nl s p p (by omega) b0) (M.fsp (by omega) (by rw [b1];rfl) (rest _ hpt))
 | 4,_ =>
  have hle:p + 8≤s.size:=h.le;have b0:byteAt s p=32:=h.at 0 (by decide);have b1:byteAt s (p + 1)=47:=h.at 1 (by decide);have b2:byteAt s (p + 1 + 1)=47:=h.at 2 (by decide);have b7:byteAt s (p + 7)=10:=h.at 7 (by decide);obtain ⟨st',hst',l1⟩:=M.ws s p (by omega) b0;obtain ⟨n,hn,_,l2⟩:=M.ecmt;refine FdQ.lead (l1.trans (l2 s (p + 1) st' (by omega) b1 b2)) (fq_cmt 4 (by omega) (by omega) (fun i hi=>?_) (by rw [show p + 1 + 1 + 1 + 4=p + 7 from rfl];exact b7) (by omega) (M.behind hn (by omega) (by rw [show p + 1 + 1 + 1 + 4=p + 7 from rfl];exact b7) (rest 4 (by decide))));rw [show p + 1 + 1 + 1 + i=p + (i + 3) from by omega,h.at (i + 3) (show i + 3 < 8 by omega)];exact (show ∀ i,i < 4→isNLb (byteAt (endR 4) (i + 3))=false∧byteAt (endR 4) (i + 3) ≠ 0 by decide) i hi
 | 5,_ =>
  have hle:p + 1≤s.size:=h.le;have b0:byteAt s p=59:=h.at 0 (by decide);exact FdQ.lead (M.semi s p p (by omega) b0) (rest _ hpt)
 | 6,_ =>
  have hle:p + 1≤s.size:=h.le;have b0:byteAt s p=44:=h.at 0 (by decide);exact FdQ.lead (M.comma s p p (by omega) b0) (rest _ hpt)
theorem fq_int {v:Int} (hsp:IntSp v T) (h:Has s p T) (hlt:p + T.size < s.size) (htm:tmB (byteAt s (p + T.size))) (hl:sk.length≤900000) (hs:∀ L,(⟨L,cx,ks,ls⟩:PQ).Sets .leaf ⟨L,cx1,ks1,ls1⟩)
  (rest:∀ pt',pt' ≠ 3→FdQ K s (p + T.size) (p + T.size) sk (plainT n) cx1 ks1 ls1 pt' fin):FdQ K s p p (sk ++ [n]) (plainT 174) cx ks ls pt fin:=by
 obtain ⟨line,E⟩:=rd_int hsp h hlt htm (stk:=sk ++ [n]) (sk:=sk) (n:=n) rfl (by omega);exact FdQ.step E (by decide) (fun L x h1 h2 _=>worksQ_intsp L x h1 v (by rw [h2];exact hsp) (hs L)) (rest 7 (by decide))
theorem fq_var {k:ByteArray} {i:Int × Bool} (hB:Bare k) (he:RootIn k (i,.leaf) cx) (hcx:cx.length≤1000000) (hss:s.size≤1000000) (h:Has s p (⟨#[36]⟩ ++ k)) (hlt:p + (⟨#[36]⟩ ++ k:ByteArray).size < s.size) (htm:tmB (byteAt s (p + (⟨#[36]⟩ ++ k:ByteArray).size))) (hl:sk.length≤900000) (hs:∀ L,(⟨L,markCx k cx,ks,ls⟩:PQ).Sets .leaf ⟨L,cx1,ks1,ls1⟩)
  (rest:∀ pt',pt' ≠ 3→FdQ K s (p + (⟨#[36]⟩ ++ k:ByteArray).size) (p + (⟨#[36]⟩ ++ k:ByteArray).size) sk (plainT n) cx1 ks1 ls1 pt' fin):FdQ K s p p (sk ++ [n]) (plainT 174) cx ks ls pt fin:=by
 have hz:((⟨#[36]⟩:ByteArray) ++ k).size=k.size + 1:=by rw [bsa];show 1 + k.size=_;omega
 rw [hz] at hlt htm rest;rw [← Nat.add_assoc] at hlt htm rest;obtain ⟨line,E⟩:=rd_var hB h hlt htm (stk:=sk ++ [n]) (sk:=sk) (n:=n) rfl (by omega);exact FdQ.step E (by decide) (fun L x h1 h2 _=>worksQ_var L x h1 (by rw [h2];omega) (by rw [h2];exact bare_pre hB) hcx (by rw [h2];exact he) (by rw [h2];exact hs L)) (rest 15 (by decide))
theorem fq_tr (b:Bool) (i:Nat) (hi:i < 6) (h:Has s p (trT b i)) (hlt:p + (trT b i).size < s.size) (htm:tmB (byteAt s (p + (trT b i).size))) (hl:sk.length≤900000) (hs:∀ L,(⟨L,cx,ks,ls⟩:PQ).Sets .leaf ⟨L,cx1,ks1,ls1⟩)
  (rest:∀ pt',pt' ≠ 3→FdQ K s (p + (trT b i).size) (p + (trT b i).size) sk (plainT n) cx1 ks1 ls1 pt' fin):FdQ K s p p (sk ++ [n]) (plainT 174) cx ks ls pt fin:=by
 obtain ⟨line,E⟩:=rd_bool b i hi h hlt htm (stk:=sk ++ [n]) (sk:=sk) (n:=n) rfl (by omega);exact FdQ.step E (by decide) (fun L x h1 h2 _=>worksQ_bool L x h1 b i hi h2 (hs L)) (rest 6 (by decide))
theorem fq_txt {t:ByteArray} {li nl:Bool} (hsp:TxtS t li nl T) (h:Has s p T) (hlt:p + T.size < s.size) (htm:tmB (byteAt s (p + T.size))) (hnl:nl=true→byteAt s (p + T.size)=10) (hl:sk.length≤900000) (hs:∀ L,(⟨L,cx,ks,ls⟩:PQ).Sets .leaf ⟨L,cx1,ks1,ls1⟩)
  (rest:∀ pt',pt' ≠ 3→FdQ K s (p + T.size) (p + T.size) sk (plainT n) cx1 ks1 ls1 pt' fin):FdQ K s p p (sk ++ [n]) (plainT 174) cx ks ls pt fin:=by
 have hw:∀ (L:LX) (x:It),x.typ=5→x.val=t→WorksQ K ⟨L,cx,ks,ls⟩ x ⟨L,cx1,ks1,ls1⟩:=fun L x h1 h2=>worksQ_str L x h1 (hs L)
 cases hsp with
 | blk hB _ =>
  have hz:((⟨#[40]⟩:ByteArray) ++ t ++ ⟨#[41]⟩).size=t.size + 2:=by rw [bsa,bsa];show 1 + t.size + 1=_;omega
  have h10:=hnl rfl;rw [hz] at hlt h10 rest;have h2:Has s p (⟨#[40]⟩ ++ t ++ ⟨#[41,10]⟩):=by
   have e:(⟨#[40]⟩ ++ t ++ ⟨#[41,10]⟩:ByteArray)=(⟨#[40]⟩ ++ t ++ ⟨#[41]⟩) ++ ⟨#[10]⟩:=by
    rw [show (⟨#[41,10]⟩:ByteArray)=⟨#[41]⟩ ++ ⟨#[10]⟩ from rfl];simp only [ByteArray.append_assoc]
   rw [e];refine ⟨by rw [bsa,hz];show p + (t.size + 2 + 1)≤_;omega,fun i hi=>?_⟩;rw [bsa,hz] at hi;have hi':i < t.size + 2 + 1:=hi;by_cases e:i < t.size + 2
   ·rw [byteAt_app_left _ _ _ (by rw [hz];exact e)];exact h.at i (by rw [hz];exact e)
   ·have e2:i=((⟨#[40]⟩:ByteArray) ++ t ++ ⟨#[41]⟩).size + 0:=by rw [hz];omega
    rw [e2,byteAt_app_right,hz];exact h10
  obtain ⟨line,E⟩:=rd_blk hB h2 (stk:=sk ++ [n]) (sk:=sk) (n:=n) rfl (by omega)
  exact FdQ.step E (by decide) (fun L x h1 h2 _=>hw L x h1 h2) (by
   rw [Nat.add_assoc];exact rest 5 (by decide))
 | sq hP =>
  have hz:((⟨#[39]⟩:ByteArray) ++ t ++ ⟨#[39]⟩).size=t.size + 2:=by rw [bsa,bsa];show 1 + t.size + 1=_;omega
  obtain ⟨line,E⟩:=rd_sq hP h (stk:=sk ++ [n]) (sk:=sk) (n:=n) rfl (by omega);rw [hz,← Nat.add_assoc] at rest;exact FdQ.step E (by decide) (fun L x h1 h2 _=>hw L x h1 h2) (rest 5 (by decide))
 | bare hB _ =>
  obtain ⟨line,E⟩:=rd_bare hB h hlt htm (stk:=sk ++ [n]) (sk:=sk) (n:=n) rfl (by omega);exact FdQ.step E (by decide) (fun L x h1 h2 _=>hw L x h1 h2) (rest 5 (by decide))
 | dq hP =>
  have hz:((⟨#[34]⟩:ByteArray) ++ escT t ++ ⟨#[34]⟩).size=(escT t).size + 2:=by rw [bsa,bsa];show 1 + (escT t).size + 1=_;omega
  obtain ⟨line,E⟩:=rd_dq hP h (stk:=sk ++ [n]) (sk:=sk) (n:=n) rfl (by omega);rw [hz,← Nat.add_assoc] at rest;exact FdQ.step E (by decide) (fun L x h1 h2 _=>hw L x h1 h2) (rest 5 (by decide))
theorem fq_flt {f:Nat} (hsp:FltSp f T) (h:Has s p T) (hlt:p + T.size < s.size) (htm:tmB (byteAt s (p + T.size))) (hl:sk.length≤900000) (hs:∀ L,(⟨L,cx,ks,ls⟩:PQ).Sets .leaf ⟨L,cx1,ks1,ls1⟩)
  (rest:∀ pt',pt' ≠ 3→FdQ K s (p + T.size) (p + T.size) sk (plainT n) cx1 ks1 ls1 pt' fin):FdQ K s p p (sk ++ [n]) (plainT 174) cx ks ls pt fin:=by
 obtain ⟨sg,m,F,hsg,hm,hF,hd,rfl,hg⟩:=hsp;obtain ⟨line,E⟩:=rd_flt sg m F hsg hm hF hd h hlt htm (stk:=sk ++ [n]) (sk:=sk) (n:=n) rfl (by omega);exact FdQ.step E (by decide) (fun L x h1 h2 _=>worksQ_flt L x h1 f (by rw [h2];exact hg) (hs L)) (rest 8 (by decide))
theorem fq_av3 (a:Nat) (h:Has s p (sp3 a)) (rest:FdQ K s (p + (sp3 a).size) (p + (sp3 a).size) stk (plainT 180) cx ks ls pt fin):FdQ K s p p stk (plainT 180) cx ks ls pt fin:=by
 match a with
 | 0=>exact rest
 | 1 =>
  have hle:p + 1≤s.size:=h.le;have b0:byteAt s p=32:=h.at 0 (by decide);exact FdQ.lead ((ld_av_sp (by omega) (by rw [b0];rfl)).trans (ld_skip 180)) rest
 | a + 2 =>
  have hle:p + 1≤s.size:=h.le;have b0:byteAt s p=10:=h.at 0 (show 0 < 1 by decide);exact FdQ.lead ((ld_av_sp (by omega) (by rw [b0];rfl)).trans (ld_skip 180)) rest
theorem ModeQ.sp3 {S E:Nat} (M:ModeQ K S E sk) (a:Nat) (h:Has s p (sp3 a)) (rest:FdQ K s (p + (Go.Cf.sp3 a).size) (p + (Go.Cf.sp3 a).size) sk (plainT S) cx ks ls pt fin):FdQ K s p p sk (plainT S) cx ks ls pt fin:=by
 match a with
 | 0=>exact rest
 | 1 =>
  have hle:p + 1≤s.size:=h.le;have b0:byteAt s p=32:=h.at 0 (by decide);exact M.fsp (by omega) (by rw [b0];rfl) rest
 | a + 2 =>
  have hle:p + 1≤s.size:=h.le;have b0:byteAt s p=10:=h.at 0 (show 0 < 1 by decide);exact M.fsp (by omega) (by rw [b0];rfl) rest
theorem fq_mark (mk:Nat) (h:Has s p (mkT mk)) (rest:FdQ K s (p + (mkT mk).size) (p + (mkT mk).size) stk (plainT 180) cx ks ls pt fin):FdQ K s p p stk (plainT 190) cx ks ls pt fin:=by
 match mk with
 | 0 =>
  have hle:p + 1≤s.size:=h.le;have b0:byteAt s p=44:=h.at 0 (by decide);exact FdQ.lead ((ld_ae_comma (by omega) b0).trans (ld_skip 180)) rest
 | 1 =>
  have hle:p + 2≤s.size:=h.le;have b0:byteAt s p=44:=h.at 0 (by decide);have b1:byteAt s (p + 1)=32:=h.at 1 (by decide);exact FdQ.lead (((ld_ae_comma (by omega) b0).trans (ld_skip 180)).trans ((ld_av_sp (by omega) (by rw [b1];rfl)).trans (ld_skip 180))) rest
 | 2 =>
  have hle:p + 1≤s.size:=h.le;have b0:byteAt s p=10:=h.at 0 (by decide);exact FdQ.lead ((ld_ae_nl (by omega) b0).trans (ld_skip 180)) rest
 | mk + 3 =>
  have hle:p + 5≤s.size:=h.le;have b0:byteAt s p=32:=h.at 0 (show 0 < 5 by decide);have b1:byteAt s (p + 1)=44:=h.at 1 (show 1 < 5 by decide);have b2:byteAt s (p + 1 + 1)=10:=h.at 2 (show 2 < 5 by decide);have b3:byteAt s (p + 1 + 1 + 1)=32:=h.at 3 (show 3 < 5 by decide);have b4:byteAt s (p + 1 + 1 + 1 + 1)=32:=h.at 4 (show 4 < 5 by decide);refine FdQ.lead (((ld_arrend_ws (by omega) (by rw [b0];rfl)).trans (ld_skip 190)).trans ((ld_ae_comma (by omega) b1).trans (ld_skip 180))) ?_;refine FdQ.lead ((ld_av_sp (by omega) (by rw [b2];rfl)).trans (ld_skip 180)) ?_;refine FdQ.lead ((ld_av_sp (by omega) (by rw [b3];rfl)).trans (ld_skip 180)) ?_;exact FdQ.lead ((ld_av_sp (by omega) (by rw [b4];rfl)).trans (ld_skip 180)) rest
theorem fq_av_close (b:Nat) (h:Has s p (sp3 b ++ ⟨#[93]⟩)) (rest:∀ st,st≤p + (sp3 b).size + 1→FdQ K s (p + (sp3 b).size + 1) st stk (plainT 189) cx ks ls pt fin):FdQ K s p p stk (plainT 180) cx ks ls pt fin:=by
 have hr:=h.right;have hle:p + (sp3 b).size + 1≤s.size:=hr.le;have b0:byteAt s (p + (sp3 b).size)=93:=hr.at 0 (by decide);exact fq_av3 b h.left (FdQ.lead (ld_av_end (by omega) b0) (rest _ (by omega)))
theorem fq_ae_close (b:Nat) (h:Has s p (sp3 b ++ ⟨#[93]⟩)) (rest:∀ st,st≤p + (sp3 b).size + 1→FdQ K s (p + (sp3 b).size + 1) st stk (plainT 189) cx ks ls pt fin):FdQ K s p p stk (plainT 190) cx ks ls pt fin:=by
 have hl:=h.left;have hr:=h.right;have hle:p + (sp3 b).size + 1≤s.size:=hr.le;have b1:byteAt s (p + (sp3 b).size)=93:=hr.at 0 (by decide)
 match b,hle,hl,b1,rest with
 | 0,hle,hl,b1,rest =>
  have hle:p + 1≤s.size:=hle;exact FdQ.lead (ld_ae_end (by omega) b1) (rest _ (by show p≤p + 0 + 1;omega))
 | 1,hle,hl,b1,rest =>
  have hle:p + 1 + 1≤s.size:=hle;have b0:byteAt s p=32:=hl.at 0 (by decide);exact FdQ.lead ((ld_arrend_ws (by omega) (by rw [b0];rfl)).trans ((ld_skip 190).trans (ld_ae_end (by omega) b1))) (rest _ (by show p + 1≤p + 1 + 1;omega))
 | b + 2,hle,hl,b1,rest =>
  have hle:p + 1 + 1≤s.size:=hle;have b0:byteAt s p=10:=hl.at 0 (show 0 < 1 by decide);exact FdQ.lead ((ld_ae_nl (by omega) b0).trans ((ld_skip 180).trans (ld_av_end (by omega) b1))) (rest _ (by show p + 1≤p + 1 + 1;omega))
theorem fq_tail (t b:Nat) (h:Has s p (tlT t ++ (sp3 b ++ ⟨#[93]⟩))) (rest:∀ st,st≤p + (tlT t).size + (sp3 b).size + 1→FdQ K s (p + (tlT t).size + (sp3 b).size + 1) st stk (plainT 189) cx ks ls pt fin):FdQ K s p p stk (plainT 190) cx ks ls pt fin:=by
 have hl:=h.left;have hr:=h.right
 match t,hl,hr,rest with
 | 0,hl,hr,rest =>
  have hle:p + 1≤s.size:=hl.le;have b0:byteAt s p=44:=hl.at 0 (by decide);exact FdQ.lead ((ld_ae_comma (by omega) b0).trans (ld_skip 180)) (fq_av_close b hr rest)
 | 1,hl,hr,rest =>
  have hle:p + 1≤s.size:=hl.le;have b0:byteAt s p=32:=hl.at 0 (by decide);exact FdQ.lead ((ld_arrend_ws (by omega) (by rw [b0];rfl)).trans (ld_skip 190)) (fq_ae_close b hr rest)
 | t + 2,hl,hr,rest =>
  have hle:p + 1≤s.size:=hl.le;have b0:byteAt s p=10:=hl.at 0 (show 0 < 1 by decide);exact FdQ.lead ((ld_ae_nl (by omega) b0).trans (ld_skip 180)) (fq_av_close b hr rest)
end
end Go.Cf
namespace Go.Cf
open Go.RowKit Go.Conc Go.Proofs Go.Maps
abbrev PE:=ByteArray × Int × Int × Bool
def flatO:List PE→List Value
 | []=>[]
 | x :: r=>[.string x.1,i64 x.2.1,i64 x.2.2.1,.bool x.2.2.2] ++ flatO r
def triO (x:PE):ByteArray × Int × Bool:=(x.1,x.2.1,x.2.2.2)
theorem flatO_app:∀ a b:List PE,flatO (a ++ b)=flatO a ++ flatO b
 | [],_=>rfl
 | x :: r,b=>by simp only [List.cons_append,flatO,flatO_app r b,List.append_assoc]
theorem flatO_len:∀ a:List PE,(flatO a).length=a.length * 4
 | []=>rfl
 | x :: r=>by simp only [flatO,List.length_append,flatO_len r,List.length_cons,List.length_nil];omega
theorem flatO_one:∀ {a:List PE} {u:Value},u ∈ flatO a→u.oneCell'=true
 | x :: r,u,h=>by
  simp only [flatO,List.mem_append,List.mem_cons,List.not_mem_nil,or_false] at h;rcases h with (rfl | rfl | rfl | rfl) | h
  ·rfl
  ·rfl
  ·rfl
  ·rfl
  ·exact flatO_one h
mutual
def plT (path:ByteArray):TV→List (ByteArray × Int × Bool)
 | .leaf=>[]
 | .map ks fs l=>plL path ks fs l
def plL (path:ByteArray):List ByteArray→List (Int × Bool)→List TV→List (ByteArray × Int × Bool)
 | k :: ks,f :: fs,j :: l=>(sla path k,f.1,f.2) :: (plT (sla path k) j ++ plL path ks fs l)
 | _,_,_=>[]
end
def TVb:Nat→TV→Prop
 | _,.leaf=>True
 | 0,.map _ _ _=>False
 | d + 1,.map ks fs l=>ks.length≤8∧fs.length=ks.length∧l.length=ks.length∧(∀ k ∈ ks,k.size≤20)∧∀ j ∈ l,TVb d j
def plB:Nat→Nat
 | 0=>0
 | d + 1=>8 * (plB d + 1)
mutual
theorem plT_len:∀ (j:TV) (d:Nat) (path:ByteArray),TVb d j→(plT path j).length≤plB d
 | .leaf,d,path,_=>by simp [plT]
 | .map _ _ _,0,_,h=>by simp only [TVb] at h
 | .map ks fs l,d + 1,path,h=>by
  simp only [TVb] at h;have h2:=plL_len l d path ks fs h.2.2.2.2;simp only [plT,plB];exact Nat.le_trans h2 (Nat.mul_le_mul_right _ h.1)
theorem plL_len:∀ (l:List TV) (d:Nat) (path:ByteArray) (ks:List ByteArray) (fs:List (Int × Bool)),(∀ j ∈ l,TVb d j)→(plL path ks fs l).length≤ks.length * (plB d + 1)
 | [],d,path,ks,fs,_=>by cases ks <;> cases fs <;> simp [plL]
 | j :: l,d,path,[],fs,_=>by cases fs <;> simp [plL]
 | j :: l,d,path,k :: ks,[],_=>by simp [plL]
 | j :: l,d,path,k :: ks,f :: fs,h=>by
  simp only [plL,List.length_cons,List.length_append];have h1:=plT_len j d (sla path k) (h j (List.mem_cons_self ..));have h2:=plL_len l d path ks fs fun x hx=>h x (List.mem_cons_of_mem _ hx)
  rw [Nat.add_mul];omega
end
theorem plL_take (path:ByteArray):∀ (i:Nat) (ks:List ByteArray) (fs:List (Int × Bool)) (l:List TV) {k:ByteArray} {f:Int × Bool} {j:TV},ks[i]?=some k→fs[i]?=some f→l[i]?=some j →
  plL path (ks.take (i + 1)) (fs.take (i + 1)) (l.take (i + 1))=plL path (ks.take i) (fs.take i) (l.take i) ++ ((sla path k,f.1,f.2) :: plT (sla path k) j)
 | 0,k :: ks,f :: fs,j :: l,_,_,_,h1,h2,h3=>by
  simp only [List.getElem?_cons_zero,Option.some.injEq] at h1 h2 h3;subst h1 h2 h3;simp [plL]
 | i + 1,k :: ks,f :: fs,j :: l,_,_,_,h1,h2,h3=>by
  have ih:=plL_take path i ks fs l (by simpa using h1) (by simpa using h2) (by simpa using h3);simp only [List.take_succ_cons,plL] at ih ⊢;rw [ih];simp
 | _,[],_,_,_,_,_,h,_,_=>by simp at h
 | _,_ :: _,[],_,_,_,_,_,h,_=>by simp at h
 | _,_ :: _,_ :: _,[],_,_,_,_,_,h=>by simp at h
theorem row_add' (g i:Nat):(⟨g,0,none⟩:Addr).add i=⟨g,i,none⟩:=by
 unfold Addr.add
 split
 ·rename_i e;rw [e]
 ·simp
section
variable {B ℓ ℓ2:Nat} {lab lab1:Lab} {w w1:World}
theorem app_none31 (c:Nat) (w:World):(Builtin.append_ #[31,31] 31 #[.slice none 0 0,.slice none 0 c]).run Tryz.prog w=.ok (.slice none 0 0) w:=by
 simp [Builtin.append_,go_sem]
theorem app_nil31 (g n cap:Nat) (hn:n≤cap) (c:Nat) (w:World):(Builtin.append_ #[31,31] 31 #[.slice (some ⟨g,0,none⟩) n cap,.slice none 0 c]).run Tryz.prog w=.ok (.slice (some ⟨g,0,none⟩) n cap) w:=by
 have h1:¬ cap < n:=by omega
 simp [Builtin.append_,go_sem,h1]
theorem app_pl {B2:Nat} {v:Value} {xs ys:List PE} {a:Option Addr} {c:Nat} (hB:B≤w.heap.size) (hr:Rw B ℓ lab w 60 4 v xs.length (flatO xs)) (hn:Rw B2 ℓ2 lab w 60 4 (.slice a ys.length c) ys.length (flatO ys)) (hmax:xs.length + ys.length≤1000000) :
  ∃ v' w',(AppX #[31,31] 31 #[v,.slice a ys.length c]).run Tryz.prog w=.ok v' w'∧Rw B ℓ (lab.ext w.heap.size ℓ) w' 60 4 v' (xs ++ ys).length (flatO (xs ++ ys))∧w.grownBy w' v.ownBlock:=by
 have hown:=hr.1;obtain ⟨i0,hi0,hz0,hz1,hz2⟩:=info_parts info60;rw [List.length_append,flatO_app]
 cases a with
 | some ad =>
  obtain ⟨g,cc,e,hlt⟩:∃ g cc,(Value.slice (some ad) ys.length c)=.slice (some ⟨g,0,none⟩) ys.length cc∧True:=by
   obtain ⟨⟨hx,⟨h0,_⟩ | ⟨g',cap',cur,hv,_⟩⟩,_⟩:=hn
   ·cases h0
   ·exact ⟨g',cap',hv,trivial⟩
  simp only [Value.slice.injEq,Option.some.injEq,true_and] at e
  obtain ⟨rfl,rfl⟩:=e;obtain ⟨v',w',hrun,ho,hg,_,hat⟩:=run_append_own_at (P:=Tryz.prog) w B 31 31 60 i0 _ 4 40 Tryz.underlying31 hi0 hz0 hz1 hz2 rfl (by omega) v xs.length (flatO xs) hown ⟨g,0,none⟩ ys.length c (flatO ys) (flatO_len ys) (fun j u hu=>by
   obtain ⟨g',hg',_,hc,_⟩:=rw_at hn hu
   cases hg'
   rw [row_add'];exact hc) (fun u hu=>flatO_one hu) (by unfold maxLen;omega) (by omega) hB
  rw [appX_eq] at hrun;exact ⟨v',w',hrun,hr.appended ho hg (by rcases hat with h | h;exact .inl h;exact .inr ⟨_,h,Nat.le_refl _⟩),hg⟩
 | none =>
  have hy:ys=[]:=by
   obtain ⟨⟨hx,⟨_,h0⟩ | ⟨g',cap',cur,hv,_⟩⟩,_⟩:=hn
   ·exact List.length_eq_zero_iff.1 h0
   ·cases hv
  subst hy;have m0:Mv (fun _=>False) w lab w (lab.ext w.heap.size ℓ):=⟨rfl,rfl,rfl,Nat.le_refl _,fun _ _ _=>rfl,fun k hk _=>Lab.ext_lt hk⟩;have hr2:=hr.mv m0 (fun h=>h);have hg:w.grownBy w v.ownBlock:=⟨rfl,rfl,rfl,Nat.le_refl _,fun _ _ _=>rfl⟩;obtain ⟨_,⟨h0,hn0⟩ | ⟨g,cap,cur,hv,_,_,hnc,_⟩⟩:=id hown
  ·subst h0;have hrun:=app_none31 c w;rw [appX_eq] at hrun;exact ⟨_,w,hrun,by simpa [flatO] using hr2,hg⟩
  ·subst hv;have hrun:=app_nil31 g xs.length cap hnc c w;rw [appX_eq] at hrun;exact ⟨_,w,hrun,by simpa [flatO] using hr2,hg⟩
end
end Go.Cf
