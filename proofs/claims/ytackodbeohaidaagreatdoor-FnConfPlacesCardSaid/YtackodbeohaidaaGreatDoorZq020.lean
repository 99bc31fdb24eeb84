/-
  Texts joined: Qb Sq Sc Qc Cy Sd Dx Dy.
-/
import Derived.Test.YtackodbeohaidaaGreatDoorZq02
import Derived.Test.YtackodbeohaidaaGreatDoorZq010
import Derived.Test.YtackodbeohaidaaGreatDoorZq012
import Derived.Test.YtackodbeohaidaaGreatDoorZq016
import Derived.Test.YtackodbeohaidaaGreatDoorZq019
import Derived.BigQuiet
namespace Go.Cf
open Go.RowKit Go.Conc Go.Proofs
attribute [local go_sem ↓] appX_eq
attribute [local go_sem] run_store_flt
section
variable {lab lab1:Lab} {w w1:World} {b:Nat} {W W1 W2:CW}
def WriQ (lab:Lab) (w:World) (ks:List ByteArray) (l:List JV) (e:Ending) (w':World):Prop :=
 ∃ T pv ok,e=.returned (.tuple #[.string T,pv,.bool ok])∧T.size≤1000000000∧∃ lab',Mv (fun y=>40≤y∧y≤48) w lab w' lab'∧(ok=true→∃ T0 U P envF,(T=T0 ∨ T=⟨#[123]⟩ ++ (T0 ++ ⟨#[125]⟩))∧T.size≤20000∧GE true [] ⟨#[]⟩ 0 ks l T0 U P envF∧ks.Pairwise ltB∧P.length≤100000∧Rw 0 46 lab' w' 60 4 pv P.length (flatO (wantO U P)))
theorem startOkQ {n:Nat} (hk:W.known=[]) (hn:W.nv=0) (hv:W.vals=[]) (hu:W.used=[]) (hi:W.inner.length≤400000) (ht:W.text.size≤10) (hl:W.line=1) (h:n≤100000):WOk W [] n :=
 ⟨⟨⟨[],by rw [hv];rfl,by simp only [KVs]⟩,by rw [hn];rfl,by rw [hk];rfl,fun k hk'=>by rw [hk] at hk';cases hk'⟩,by omega,by omega,by rw [hu];simp only [List.length_nil];omega,by omega,by rw [hk];simp,by omega⟩
set_option maxRecDepth 100000 in
set_option maxHeartbeats 16000000 in
theorem written_q (ks:List ByteArray) (l:List JV) {c:Array Value} {sv:Value} {style:List UInt8} (hv:NdV 0 lab w (.map ks l) c) (hjs:JS (.map ks l)) (hs:Sty lab w sv style) (hwl:wts l≤100000) (hil:(innKs l).length≤400000) :
  Calls Tryz.prog 14 #[.agg c,sv] w (WriQ lab w ks l):=by
 obtain ⟨hll,hkl,-,hjk⟩:=hjs.kids;have hll:l.length≤8:=hll;have hcl:=fun w2=>clean_c hv w2
 have hvv:=hv;simp only [NdV] at hvv;obtain ⟨f,a1,c1,a2,c2,hf,rfl,hkv,hlv⟩:=hvv;have hbg:=begG (bx:=ndC 6 0 f false { data:=#[] } (.slice a1 ks.length c1) (.slice a2 l.length c2)) hs;obtain ⟨ss,sl,sc,rfl⟩:∃ ss sl sc,sv=.slice ss sl sc:=by
  obtain ⟨a,c,h,_⟩:=hs;exact ⟨_,_,_,h⟩
 obtain ⟨bx,hbx⟩:∃ bx:Array Value,bx=ndC 6 0 f false { data:=#[] } (.slice a1 ks.length c1) (.slice a2 l.length c2):=⟨_,rfl⟩;rw [← hbx] at hbg;have HBG:=Lib.hid hbg;have HV:=Lib.hid (aI hv hlv);have HJ:=Lib.hid (aI hjs hjk);have HCL:=Lib.hid hcl;have hndc:ndC 6 0 f false { data:=#[] } (.slice a1 ks.length c1) (.slice a2 l.length c2)=#[.int .i64 6,.int .i64 0,.float .f64 f,.bool false,.string { data:=#[] },.slice a1 ks.length c1,.slice a2 l.length c2]:=rfl;rw [hndc] at hbx HCL ⊢;clear hv hjs hs hbg hkv hlv hjk hcl hndc hkl;go_enter Tryz.func14,Tryz.ntmps14;go_wp2_with fail;refine (HCL.out _).mono ?_;rintro e w1 ⟨rfl,hb1⟩;unfold wr0 at HBG;rw [hbx] at HBG;have m01:=Mv.below (M:=fun _=>False) hb1 (labG lab w.heap.size) 45;have B1:=HBG.out.1.mv m01 (fun _ _ h=>h);have M1:=HBG.out.2.trans m01 (fun _ h=>h);have q6:w1.cell? ⟨w.heap.size,6,none⟩=some (.slice a2 l.length c2):=B1.box.cell 6;obtain ⟨lab1,hlab1⟩:∃ x,x=(labG lab w.heap.size).ext (((w.alloc (.cells #[.int .i64 6,.int .i64 0,.float .f64 f,.bool false,.string { data:=#[] },.slice a1 ks.length c1,.slice a2 l.length c2] 26)).alloc (.cells #[.slice none 0 0] 31)).alloc (.cells #[.string ⟨#[]⟩,.int .i64 1,.slice ss sl sc,.bool false,.slice none 0 0,.slice none 0 0,.slice none 0 0,.slice none 0 0] 53)).heap.size 45:=⟨_,rfl⟩;rw [← hlab1] at B1 M1;rw [← hbx,← WI0 style l] at B1;have HB1:=Lib.hid (aI B1 (M1.mono (M':=IM) (fun _ h=>h.elim)));clear B1 M1 m01 hb1 HBG hlab1;go_wp2_with fail;go_loopw [29] (fun i wr=>∃ (q:Nat) (labr:Lab),i=.int .i64 q∧q≤l.length∧BegG labr wr w.heap.size bx (WI style l q)∧Mv IM w lab wr labr) (fun i _=>l.length - (RowKit.intOf i).toNat)
 case atStart=>exact ⟨0,lab1,rfl,Nat.zero_le _,HB1.out.1,HB1.out.2⟩
 case round =>
  obtain ⟨q,labr,rfl,hq,hB,hM⟩:=hrel;by_cases hlt:q < l.length
  ·have hq1:(q:Int) < (l.length:Int):=by omega
   have hq0:(0:Int)≤(q:Int):=Int.natCast_nonneg _;obtain ⟨x,hx⟩:∃ x,l[q]?=some x:=⟨_,List.getElem?_eq_getElem hlt⟩;obtain ⟨ad,cx,rfl,hl2,hc7,hxv⟩:=HV.out.2.get hx;rw [Nat.zero_add] at hc7;have hinl:=innKs_len hx;have hxr:=NdV.mv hM (by decide) x hxv;obtain ⟨kx,nx,fx,bxx,sx,ax,mx,ccx,ay,my,ccy,rfl⟩:=hxv.shape;have hc8:=cell7.mv hc7 hM (by rw [hl2];decide);obtain ⟨r0,r1,r2,r3,r4,r5,r6⟩:=hc8.facts;have mA:=Mv.alloc0 wr labr (.cells (ndC kx nx fx bxx sx (.slice ax mx ccx) (.slice ay my ccy)) 26) 45;have hA:=Cl.alloc wr labr (ndC kx nx fx bxx sx (.slice ax mx ccx) (.slice ay my ccy)) 26 45;have HIN:=Lib.hid (fun (w2:World) (lab2:Lab) (m:Mv IM wr labr w2 lab2)=>inner_c x 0 lab2 w2 _ (NdV.mv m (by decide) x hxr) (HJ.out.2 x (List.mem_of_getElem? hx)) (by omega));have HL:=Lib.hid (aI (hB.mv mA (fun _ _ h=>h)) (aI hA (hM.trans mA (fun _ h=>h.elim))));have HMA:=Lib.hid mA;have HX:=Lib.hid hx;clear hxr hc7 hc8 hxv mA hA hB hM hl2 hx;unfold ndC at *;go_wp2_with fail;obtain ⟨svx,kn,va,us,inn,hxx⟩:=HL.out.1.wr;refine inner_region hxx #[.int .i64 kx,.int .i64 nx,.float .f64 fx,.bool bxx,.string sx,.slice ax mx ccx,.slice ay my ccy] (innK x) mixed (by kernel_rfl) rfl rfl (show 43≤106 by omega) ?_ ?_
   ·intro L a' lab' w' i o hL ho hf hall hr;have k7:a'.tmps.getD 7 undef=Value.pointer (some ⟨w.heap.size + 2,0,none⟩):=hr.keep 7 (by omega);have k9:a'.tmps.getD 9 undef=Value.pointer (some ⟨wr.heap.size,0,none⟩):=hr.keep 9 (by omega);rw [gdg] at k7 k9
    match i,ho with
    | 0,rfl =>
     exact wpOp_run (v:=Value.pointer (some ⟨w.heap.size + 2,0,none⟩)) (w2:=w') rfl rfl (by simp [execOp,Act.eval,go_sem,k7]) ⟨lab',hr.plain hL (show 43≤106 by omega) 0 (by decide) _ rfl (fun e=>absurd e (by decide))⟩
    | 1,rfl =>
     exact wpOp_run (v:=Value.pointer (some ⟨w.heap.size + 2,0,none⟩)) (w2:=w') rfl rfl (by simp [execOp,Act.eval,go_sem,k7]) ⟨lab',hr.plain hL (show 43≤106 by omega) 1 (by decide) _ rfl (fun e=>absurd e (by decide))⟩
    | 2,rfl =>
     have e0:a'.tmps.getD 34 undef=Value.pointer (some ⟨w.heap.size + 2,0,none⟩):=hr.got 1 _ (by decide) (hall ⟨1,.data⟩ (by simp) rfl) rfl;rw [gdg] at e0;exact wpOp_run (v:=Value.pointer (some ⟨w.heap.size + 2,0,none⟩)) (w2:=w') rfl rfl (by simp [execOp,Act.eval,go_sem,e0]) ⟨lab',hr.plain hL (show 43≤106 by omega) 2 (by decide) _ rfl (fun e=>absurd e (by decide))⟩
    | 3,rfl =>
     have e0:a'.tmps.getD 35 undef=Value.pointer (some ⟨w.heap.size + 2,0,none⟩):=hr.got 2 _ (by decide) (hall ⟨2,.data⟩ (by simp) rfl) rfl;rw [gdg] at e0;exact wpOp_run (v:=Value.pointer (some ⟨w.heap.size + 2,7,none⟩)) (w2:=w') rfl rfl (by simp [execOp,Act.eval,go_sem,e0]) ⟨lab',hr.plain hL (show 43≤106 by omega) 3 (by decide) _ rfl (fun e=>absurd e (by decide))⟩
    | 4,rfl =>
     have e0:a'.tmps.getD 36 undef=Value.pointer (some ⟨w.heap.size + 2,7,none⟩):=hr.got 3 _ (by decide) (hall ⟨3,.data⟩ (by simp) rfl) rfl;rw [gdg] at e0;have h7f:L.getD 7 false=false:=by
      cases hc:L.getD 7 false with
      | false=>rfl
      | true=>rw [hr.ord.2 hc] at hf;cases hf
     have h10f:¬ L.getD 10 false=true:=fun e=>by rw [hr.ord.1 e] at h7f;cases h7f
     have q:=hr.cl.cell 7;rw [if_neg h10f] at q;have q':w'.cell? ⟨w.heap.size + 2,7,none⟩=some inn:=q;exact wpOp_run (v:=inn) (w2:=w') rfl rfl (by simp [execOp,Act.eval,go_sem,e0,q']) ⟨lab',hr.plain hL (show 43≤106 by omega) 4 (by decide) _ rfl (fun _=>h7f)⟩
    | 5,rfl =>
     have hlf:=HL.out.2.1.mv hr.mv (by decide);have q0:w'.cell? ⟨wr.heap.size,0,none⟩=some (.int .i64 kx):=hlf.cell 0;have q1:w'.cell? ⟨wr.heap.size,1,none⟩=some (.int .i64 nx):=hlf.cell 1;have q2:w'.cell? ⟨wr.heap.size,2,none⟩=some (.float .f64 fx):=hlf.cell 2;have q3:w'.cell? ⟨wr.heap.size,3,none⟩=some (.bool bxx):=hlf.cell 3;have q4:w'.cell? ⟨wr.heap.size,4,none⟩=some (.string sx):=hlf.cell 4;have q5:w'.cell? ⟨wr.heap.size,5,none⟩=some (.slice ax mx ccx):=hlf.cell 5;have q6:w'.cell? ⟨wr.heap.size,6,none⟩=some (.slice ay my ccy):=hlf.cell 6;exact wpOp_run (v:=Value.agg #[.int .i64 kx,.int .i64 nx,.float .f64 fx,.bool bxx,.string sx,.slice ax mx ccx,.slice ay my ccy]) (w2:=w') rfl rfl (by simp [execOp,Act.eval,go_sem,k9,q0,q1,q2,q3,q4,q5,q6]) ⟨lab',hr.plain hL (show 43≤106 by omega) 5 (by decide) _ rfl (fun e=>absurd e (by decide))⟩
    | 6,rfl =>
     have e0:a'.tmps.getD 38 undef=Value.agg #[.int .i64 kx,.int .i64 nx,.float .f64 fx,.bool bxx,.string sx,.slice ax mx ccx,.slice ay my ccy]:=hr.got 5 _ (by decide) (hall ⟨5,.data⟩ (by simp) rfl) rfl;refine wpOp_enter (f:=26) (args:=#[a'.tmps.getD 38 undef]) rfl rfl (by kernel_rfl) ?_;rw [e0];refine (HIN.out w' lab' ((HMA.out.mono (M':=IM) (fun _ h=>h.elim)).trans hr.mv (fun _ h=>h))).mono ?_;rintro e w2 ⟨v3,lab3,rfl,hr3,m3⟩;obtain ⟨A3,C3,rfl⟩:=own_slice hr3.1;exact ⟨_,rfl,lab3,hr.call hL (show 43≤106 by omega) m3 _ ⟨A3,C3,rfl,hr3⟩⟩
    | 7,rfl =>
     have h4t:L.getD 4 false=true:=hall ⟨4,.data⟩ (by simp) rfl;have h10f:L.getD 10 false=false:=by
      cases hc:L.getD 10 false with
      | false=>rfl
      | true=>rw [hr.ord.1 hc] at hf;cases hf
     obtain ⟨A3,C3,e1,h3⟩:=hr.g6 (hall ⟨6,.data⟩ (by simp) rfl);have e0:a'.tmps.getD 37 undef=inn:=hr.got 4 _ (by decide) h4t rfl;rw [gdg] at e0 e1;have hrw:=hr.r;rw [if_neg (by rw [hf];decide)] at hrw;obtain ⟨v',w2,hrun,hr4,hg,hat,A,C,hs⟩:=app_str (c:=C3) hrw (rowNews h3) (by show (innKs (l.take q)).length + _≤_;omega);have m1:Mv (·=44) w' lab' w2 (lab'.ext w'.heap.size 44):=Mv.grown hg lab' 44 (fun k hk=>hrw.2 k hk);exact wpOp_run (v:=v') (w2:=w2) rfl rfl (by simp [Act.eval,go_sem,e0,e1];rw [hrun];rfl) ⟨_,hr.app hL (show 43≤106 by omega) m1 h4t h10f _ (by rw [List.length_append,List.map_append];exact hr4)⟩
    | 8,rfl =>
     have e0:a'.tmps.getD 33 undef=Value.pointer (some ⟨w.heap.size + 2,0,none⟩):=hr.got 0 _ (by decide) (hall ⟨0,.data⟩ (by simp) rfl) rfl;rw [gdg] at e0;exact wpOp_run (v:=Value.pointer (some ⟨w.heap.size + 2,0,none⟩)) (w2:=w') rfl rfl (by simp [execOp,Act.eval,go_sem,e0]) ⟨lab',hr.plain hL (show 43≤106 by omega) 8 (by decide) _ rfl (fun e=>absurd e (by decide))⟩
    | 9,rfl =>
     have e0:a'.tmps.getD 41 undef=Value.pointer (some ⟨w.heap.size + 2,0,none⟩):=hr.got 8 _ (by decide) (hall ⟨8,.data⟩ (by simp) rfl) rfl;rw [gdg] at e0;exact wpOp_run (v:=Value.pointer (some ⟨w.heap.size + 2,7,none⟩)) (w2:=w') rfl rfl (by simp [execOp,Act.eval,go_sem,e0]) ⟨lab',hr.plain hL (show 43≤106 by omega) 9 (by decide) _ rfl (fun e=>absurd e (by decide))⟩
    | 10,rfl =>
     have h7t:L.getD 7 false=true:=hall ⟨7,.data⟩ (by simp) rfl;have e0:a'.tmps.getD 42 undef=Value.pointer (some ⟨w.heap.size + 2,7,none⟩):=hr.got 9 _ (by decide) (hall ⟨9,.data⟩ (by simp) rfl) rfl;rw [gdg] at e0;have hrw:=hr.r;rw [if_pos h7t] at hrw;obtain ⟨A,cc,e1⟩:=hrw.shape;have hst:=hr.store hL h7t undef;rw [e1] at hst;rw [gdg] at e1;have q:=hr.cl.cell 7;have fz:=hr.cl.free 7;obtain ⟨old,q'⟩:∃ old,w'.cell? ⟨w.heap.size + 2,7,none⟩=some old:=⟨_,q⟩;exact wpOp_skip (w2:=w'.setCell ⟨w.heap.size + 2,7,none⟩ _) rfl rfl (by simp [execOp,Act.eval,go_sem,e0,e1,q',fz]) ⟨lab',hst⟩
   ·intro u lab' w' hu hW hm
    match u,hu with
    | [y33,y34,y35,y36,y37,y38,y39,y40,y41,y42],_ =>
     have hn:BegG lab' w' w.heap.size bx (WI style l (q + 1)):=⟨HL.out.1.box.mv hm (by decide),HL.out.1.pl.mv hm (by decide),by rw [← WI_next HX.out];exact hW⟩;have HN:=Lib.hid (aI hn (HL.out.2.2.trans hm (fun _ h=>h)));clear hn hW hm hxx;simp only [List.take_succ_cons,List.take_zero,List.drop_succ_cons,List.drop_zero,List.cons_append,List.nil_append];go_wp2;go_roundw
     case rel=>exact ⟨q + 1,lab',by go_num,by omega,HN.out.1,HN.out.2⟩
     case measure=>simp [RowKit.intOf];omega
  ·have hq1:¬ ((q:Int) < (l.length:Int)):=by omega
   obtain rfl:q=l.length:=by omega
   have hpk:=Wrote.pick (WI style l l.length) 8;have hplt:=pick_lt (WI style l l.length) 8 (by decide);have hpb:=pick_bad (WI style l l.length) 8;have HB2:=Lib.hid (aI hB hM);clear hB hM HB1 q6;go_upto_region 9 with fail
   obtain ⟨b0,b1,b2,b3,b4,b5,b6⟩:wr.cell? ⟨w.heap.size,0,none⟩=some (.int .i64 6)∧wr.cell? ⟨w.heap.size,1,none⟩=some (.int .i64 0)∧wr.cell? ⟨w.heap.size,2,none⟩=some (.float .f64 f)∧wr.cell? ⟨w.heap.size,3,none⟩=some (.bool false)∧wr.cell? ⟨w.heap.size,4,none⟩=some (.string { data:=#[] })∧wr.cell? ⟨w.heap.size,5,none⟩=some (.slice a1 ks.length c1)∧wr.cell? ⟨w.heap.size,6,none⟩=some (.slice a2 l.length c2):=by
    have h:=HB2.out.1.box;rw [hbx] at h;exact ⟨h.cell 0,h.cell 1,h.cell 2,h.cell 3,h.cell 4,h.cell 5,h.cell 6⟩
   go_cut [10] from 44 to 54 (fun s10 wx=>∃ u:Bool,s10=.bool u∧∃ W3 lab3,WAt lab3 wx (w.heap.size + 2) W3∧W3.text=⟨#[]⟩∧W3.line=1∧W3.nv=0∧W3.vals=[]∧W3.used=[]∧W3.known=[]∧W3.inner=innKs l∧Cl 45 lab3 wx w.heap.size bx 26∧Cl 47 lab3 wx (w.heap.size + 1) #[.slice none 0 0] 31∧Mv IM w lab wx lab3)
   case first =>
    have b3':∀ o,(wr.alloc o).cell? ⟨w.heap.size,5,none⟩=(wr.alloc o).cell? ⟨w.heap.size,5,none⟩:=fun _=>rfl
    clear b3';go_wp2_with fail;refine (pick_c HB2.out.1.wr 8 (by decide) (by decide)).mono ?_;rintro e w3 ⟨rfl,h3,m3⟩;obtain ⟨u,W3,hj⟩:∃ u W3,(WI style l l.length).pick 8=(u,W3):=⟨_,_,rfl⟩;rw [hj] at h3 hpk hplt hpb ⊢;simp only at h3 hpk hplt hpb ⊢;have hi3:W3.inner=innKs l:=by rw [hpk.inner];show innKs (l.take l.length)=_;rw [List.take_length]
    have hB3:=HB2.out.1.box.mv m3 (by decide);have hP3:=HB2.out.1.pl.mv m3 (by decide);have hM3:=HB2.out.2.trans m3 (fun _ h=>.inl h);have HFIN:=Lib.hid (show ∃ W3 lab3,WAt lab3 w3 (w.heap.size + 2) W3∧W3.text=⟨#[]⟩∧W3.line=1∧W3.nv=0∧W3.vals=[]∧W3.used=[]∧W3.known=[]∧W3.inner=innKs l∧Cl 45 lab3 w3 w.heap.size bx 26∧Cl 47 lab3 w3 (w.heap.size + 1) #[.slice none 0 0] 31∧Mv IM w lab w3 lab3 from ⟨W3,_,h3,by rw [hpk.text];rfl,hpk.line,hpk.nv,hpk.vals,hpk.used,hpk.known,hi3,hB3,hP3,hM3⟩);have d5:w3.cell? ⟨w.heap.size,5,none⟩=some (.slice a1 ks.length c1):=by
     have h:=hB3;rw [hbx] at h;exact h.cell 5
    clear b0 b1 b2 b3 b4 b5 b6 hB3 hP3 hM3 m3 hj hpk hpb h3 hi3;by_cases hu:u=1
    ·have e1:((u:Int) == 1)=true:=beq_iff_eq.2 (by omega);clear hu;by_cases hk0:0 < ks.length
     ·have e2:decide ((0:Int) < (ks.length:Int))=true:=decide_eq_true (by omega);have e3:decide (0 < ks.length)=true:=decide_eq_true hk0;go_wp2_with fail;go_meet
      case rel=>exact ⟨_,rfl,HFIN.out⟩
     ·have e2:decide ((0:Int) < (ks.length:Int))=false:=decide_eq_false (by omega);have e3:decide (0 < ks.length)=false:=decide_eq_false hk0;have e4:¬ (0:Int) < (ks.length:Int):=by omega
      go_wp2_with fail
      go_meet
      case rel=>exact ⟨_,rfl,HFIN.out⟩
    ·have e1:((u:Int) == 1)=false:=bqf (by omega);clear hu;go_wp2_with fail;go_meet
     case rel=>exact ⟨_,rfl,HFIN.out⟩
   case rest =>
    obtain ⟨u,rfl,W3,lab3,h3,ht3,hl3,hn3,hv3,hu3,hk3,hi3,hB3,hP3,hM3⟩:=hcut;have hEnt:∀ (lab':Lab) (w':World) (W':CW),Mv IM w lab w' lab'→WAt lab' w' (w.heap.size + 2) W'→W'.known=[]→W'.nv=0→W'.vals=[]→W'.used=[]→W'.inner=innKs l→W'.text.size≤10→W'.line=1→Cl 47 lab' w' (w.heap.size + 1) #[.slice none 0 0] 31 →
      Calls Tryz.prog 29 #[.pointer (some ⟨w.heap.size + 2,0,none⟩),.agg #[.int .i64 6,.int .i64 0,.float .f64 f,.bool false,.string { data:=#[] },.slice a1 ks.length c1,.slice a2 l.length c2],.string { data:=#[] },.pointer (some ⟨w.heap.size + 1,0,none⟩),.int .i64 0] w' (EntP lab' w' (w.heap.size + 2) W' [] ks l ⟨#[]⟩ 0 (some (w.heap.size + 1)) [] true):=fun lab' w' W' m hw' e1 e2 e3 e4 e5 e6 e7 hp =>
     (val_ent (.map ks l)).2 ks l rfl lab' w' (w.heap.size + 2) W' [] _ ⟨#[]⟩ 0 (some (w.heap.size + 1)) [] 0 hw' (startOkQ e1 e2 e3 e4 (by rw [e5];exact hil) e6 e7 hwl) (NdV.mv m (by decide) (.map ks l) HV.out.1) HJ.out.1 (fun k hk=>by rw [e5];exact hk) (fun e=>absurd rfl e) (fun _=>e1) (by omega) (by omega) e7 (fun pc e=>by cases e;exact ⟨_,hp,Rw.none _ _ _ _ _⟩) (by simp only [List.length_nil];omega) (by show 0 + 30 * wts l≤_;omega)
    have HE:=Lib.hid hEnt;have H3:=Lib.hid (aI h3 (aI hB3 (aI hP3 hM3)));have HW3:=Lib.hid (aI ht3 (aI hl3 (aI hn3 (aI hv3 (aI hu3 (aI hk3 hi3))))));clear hEnt b0 b1 b2 b3 b4 b5 b6 hB3 hP3 hM3 h3 hpk hpb hplt ht3 hl3 hn3 hv3 hu3 hk3 hi3;go_upto_if 53 with fail
    go_cut [] from 54 to 56 (fun wx=>∃ W4 lab4,WAt lab4 wx (w.heap.size + 2) W4∧W4.text=(if u=true then ⟨#[123]⟩ else ⟨#[]⟩)∧W4.line=1∧W4.nv=0∧W4.vals=[]∧W4.used=[]∧W4.known=[]∧W4.inner=innKs l∧Cl 45 lab4 wx w.heap.size bx 26∧Cl 47 lab4 wx (w.heap.size + 1) #[.slice none 0 0] 31∧Mv IM w lab wx lab4)
    case first =>
     cases u with
     | true =>
      go_wp2_with fail
      refine (put_c H3.out.1 ⟨#[123]⟩ (by decide) (by rw [HW3.out.1];decide) (by rw [HW3.out.2.1];decide)).mono ?_
      rintro e w4 ⟨rfl,h4,m4⟩;have HF:=Lib.hid (show ∃ W4 lab4,WAt lab4 w4 (w.heap.size + 2) W4∧W4.text=(⟨#[123]⟩:ByteArray)∧W4.line=1∧W4.nv=0∧W4.vals=[]∧W4.used=[]∧W4.known=[]∧W4.inner=innKs l∧Cl 45 lab4 w4 w.heap.size bx 26∧Cl 47 lab4 w4 (w.heap.size + 1) #[.slice none 0 0] 31∧Mv IM w lab w4 lab4 from
       ⟨_,_,h4,by show W3.text ++ _=_;rw [HW3.out.1];rfl,by show W3.line + _=1;rw [HW3.out.2.1];rfl,HW3.out.2.2.1,HW3.out.2.2.2.1,HW3.out.2.2.2.2.1,HW3.out.2.2.2.2.2.1,HW3.out.2.2.2.2.2.2,H3.out.2.1.mv m4 (by decide),H3.out.2.2.1.mv m4 (by decide),H3.out.2.2.2.trans m4 (fun _ h=>.inl h)⟩)
      clear h4 m4;go_wp2_with fail;go_meet
      case rel=>exact HF.out
     | false =>
      go_wp2_with fail
      go_meet
      case rel=>exact ⟨W3,lab3,H3.out.1,HW3.out.1,HW3.out.2.1,HW3.out.2.2.1,HW3.out.2.2.2.1,HW3.out.2.2.2.2.1,HW3.out.2.2.2.2.2.1,HW3.out.2.2.2.2.2.2,H3.out.2.1,H3.out.2.2.1,H3.out.2.2.2⟩
    case rest =>
     obtain ⟨W4,lab4,h4,ht4,hl4,hn4,hv4,hu4,hk4,hi4,hB4,hP4,hM4⟩:=hcut;have hts:W4.text.size≤1:=by rw [ht4];split <;> decide
     have hE4:=HE.out _ wc W4 hM4 h4 hk4 hn4 hv4 hu4 hi4 (by omega) hl4 hP4;obtain ⟨d0,d1,d2,d3,d4,d5,d6⟩:wc.cell? ⟨w.heap.size,0,none⟩=some (.int .i64 6)∧wc.cell? ⟨w.heap.size,1,none⟩=some (.int .i64 0)∧wc.cell? ⟨w.heap.size,2,none⟩=some (.float .f64 f)∧wc.cell? ⟨w.heap.size,3,none⟩=some (.bool false)∧wc.cell? ⟨w.heap.size,4,none⟩=some (.string { data:=#[] })∧wc.cell? ⟨w.heap.size,5,none⟩=some (.slice a1 ks.length c1)∧wc.cell? ⟨w.heap.size,6,none⟩=some (.slice a2 l.length c2):=by
      have h:=hB4;rw [hbx] at h;exact ⟨h.cell 0,h.cell 1,h.cell 2,h.cell 3,h.cell 4,h.cell 5,h.cell 6⟩
     have HE4:=Lib.hid hE4;have H4:=Lib.hid (aI ht4 (aI hl4 (aI hk4 (aI hu4 hM4))));clear hE4 h4 ht4 hl4 hn4 hv4 hu4 hk4 hi4 hB4 hP4 hM4;go_wp2_with fail;refine HE4.out.mono ?_;rintro e w5 ⟨rfl,W5,k5,T5,U5,P5,P6,lab5,h5,hw5,hv5,-,hT5,hU5,hbd5,hpl5,hpn5,m5⟩;have H5:=Lib.hid (aI h5 (aI hw5 (aI hbd5 (aI hpl5 m5))));clear h5 hw5 hv5 hbd5 hpl5 m5 d0 d1 d2 d3 d4 d5 d6;go_upto_if 59 with fail
     go_cut [] from 60 to 62 (fun wx=>∃ Wx T0 U P P' envF labx,WAt labx wx (w.heap.size + 2) Wx∧Wx.used=U∧U.length≤100000∧(∀ k ∈ U,k.size≤20000000)∧Wx.line≤100000000∧Wx.text.size≤1000000000∧P'.length≤100000 ∧
      (Wx.bad=false→(Wx.text=T0 ∨ Wx.text=⟨#[123]⟩ ++ (T0 ++ ⟨#[125]⟩))∧Wx.text.size≤20000∧GE true [] ⟨#[]⟩ 0 ks l T0 U P envF∧ks.Pairwise ltB∧P'=P)∧PlsAt labx wx (w.heap.size + 1) P'∧Mv (fun y=>40≤y∧y≤48) w lab wx labx)
     case first =>
      have hsz:=H5.out.2.1.size;have hln:=H5.out.2.1.line_le;have hl4:=H4.out.2.1;have hus:W5.used=U5:=by rw [H5.out.2.1.used,H4.out.2.2.2.1];rfl
      have hM5:Mv (fun y=>40≤y∧y≤48) w lab w5 lab5:=(H4.out.2.2.2.2.mono (M':=fun y=>40≤y∧y≤48) (fun y h=>by rcases h with h | h <;> omega)).trans H5.out.2.2.2.2 (fun y h=>by unfold EMg at h;omega);have HM5:=Lib.hid hM5;have hin:envW W4.known [] W4.inner=[]:=by rw [H4.out.2.2.1];rfl
      have HN:=Lib.hid (aI hin hus);clear hM5 hin hus
      cases u with
      | true =>
       have ht4:W4.text=⟨#[123]⟩:=H4.out.1;have ht5:W5.text=⟨#[123]⟩ ++ T5:=by rw [H5.out.2.1.text,ht4]
       have HT5:=Lib.hid ht5;clear ht4 ht5;go_wp2_with fail;refine (put_c H5.out.1 ⟨#[125]⟩ (by decide) (by omega) (by omega)).mono ?_;rintro e w6 ⟨rfl,h6,m6⟩;have hfin:∃ Wx T0 U P P' envF labx,WAt labx w6 (w.heap.size + 2) Wx∧Wx.used=U∧U.length≤100000∧(∀ k ∈ U,k.size≤20000000)∧Wx.line≤100000000∧Wx.text.size≤1000000000∧P'.length≤100000 ∧
        (Wx.bad=false→(Wx.text=T0 ∨ Wx.text=⟨#[123]⟩ ++ (T0 ++ ⟨#[125]⟩))∧Wx.text.size≤20000∧GE true [] ⟨#[]⟩ 0 ks l T0 U P envF∧ks.Pairwise ltB∧P'=P)∧PlsAt labx w6 (w.heap.size + 1) P'∧Mv (fun y=>40≤y∧y≤48) w lab w6 labx:=by
        have hl6:=(Wrote.put W5 ⟨#[125]⟩).line_le;have hs6:=(Wrote.put W5 ⟨#[125]⟩).size;have hz:(⟨#[125]⟩:ByteArray).size=1:=rfl;refine ⟨_,T5,U5,P5,P6,envW W5.known k5 W5.inner,lab5,h6,HN.out.2,by omega,(fun k hk=>by have:=H5.out.2.1.ub k hk;omega),by omega,by omega,by omega,fun e=>?_,(H5.out.2.2.2.1 _ rfl).mv m6 (by decide) (by decide),HM5.out.trans m6 (fun y h=>by omega)⟩;have e5:=(Wrote.put W5 ⟨#[125]⟩).bad e;obtain ⟨g1,g2,g3,g4⟩:=H5.out.2.2.1 e5;rw [HN.out.1] at g1;refine ⟨.inr ?_,?_,g1,g2,g3⟩
        ·show W5.text ++ _=_
         rw [HT5.out,ByteArray.append_assoc]
        ·have hb:=e;simp only [CW.put,Bool.or_eq_false_iff,decide_eq_false_iff_not] at hb;show (W5.text ++ ⟨#[125]⟩).size≤_;omega
       have HFIN:=Lib.hid hfin;clear hfin h6 m6;go_wp2_with fail;go_meet
       case rel=>exact HFIN.out
      | false =>
       have ht4:W4.text=⟨#[]⟩:=H4.out.1;have ht5:W5.text=T5:=by rw [H5.out.2.1.text,ht4];exact ByteArray.empty_append
       have hfin:∃ Wx T0 U P P' envF labx,WAt labx w5 (w.heap.size + 2) Wx∧Wx.used=U∧U.length≤100000∧(∀ k ∈ U,k.size≤20000000)∧Wx.line≤100000000∧Wx.text.size≤1000000000∧P'.length≤100000 ∧
        (Wx.bad=false→(Wx.text=T0 ∨ Wx.text=⟨#[123]⟩ ++ (T0 ++ ⟨#[125]⟩))∧Wx.text.size≤20000∧GE true [] ⟨#[]⟩ 0 ks l T0 U P envF∧ks.Pairwise ltB∧P'=P)∧PlsAt labx w5 (w.heap.size + 1) P'∧Mv (fun y=>40≤y∧y≤48) w lab w5 labx:=by
        refine ⟨W5,T5,U5,P5,P6,envW W5.known k5 W5.inner,lab5,H5.out.1,HN.out.2,by omega,(fun k hk=>by have:=H5.out.2.1.ub k hk;omega),by omega,by omega,by omega,fun e=>?_,H5.out.2.2.2.1 _ rfl,HM5.out⟩;obtain ⟨g1,g2,g3,g4⟩:=H5.out.2.2.1 e;rw [HN.out.1] at g1;refine ⟨.inl ht5,?_,g1,g2,g3⟩
        cases l with
        | nil =>
         simp only [wts] at hT5;rw [ht5];omega
        | cons x r=>exact g4 (by simp)
       have HFIN:=Lib.hid hfin;clear hfin ht4 ht5;go_wp2_with fail;go_meet
       case rel=>exact HFIN.out
     case rest =>
      obtain ⟨Wx,T0,U,P,P',envF,labx,hx,hux,hul,hub,hlx,htx,hpn,hbd,hpl,mx⟩:=hcut;obtain ⟨A,c,hplu⟩:=hpl.pw Wx.used;have HR:=Lib.hid hbd;obtain ⟨svx,kn,va,us,inn,hxx⟩:=hx;have p0:wc.cell? ⟨w.heap.size + 1,0,none⟩=some (.slice A P'.length c):=by
       obtain ⟨us',_,h1,_⟩:=hplu;exact h1.cell 0
      have HX:=Lib.hid (show ∃ svx kn va us inn labr,WAtX labr wc (w.heap.size + 2) Wx svx kn va us inn∧PlW Wx.used P' 0 0 labr wc (w.heap.size + 1) A c∧Mv (fun y=>40≤y∧y≤48) w lab wc labr from ⟨svx,kn,va,us,inn,labx,hxx,hplu,mx⟩);rw [← hux] at hub;have HUX:=Lib.hid (aI hux hub);clear hux hub hxx hplu mx hbd hpl H5 HE4 H4 HE HW3 H3 HB2;go_wp2_with fail;go_loopw [64] (fun i wr=>∃ (q:Nat),i=.int .i64 q∧q≤P'.length∧∃ svx kn va us inn labr,WAtX labr wr (w.heap.size + 2) Wx svx kn va us inn∧PlW Wx.used P' q 0 labr wr (w.heap.size + 1) A c∧Mv (fun y=>40≤y∧y≤48) w lab wr labr) (fun i _=>P'.length - (RowKit.intOf i).toNat)
      case atStart=>exact ⟨0,rfl,Nat.zero_le _,HX.out⟩
      case round =>
       obtain ⟨q,rfl,hq,svx,kn,va,us,inn,labr,hxx,hplu,mx⟩:=hrel;by_cases hlt:q < P'.length
       ·have hq1:(q:Int) < (P'.length:Int):=by omega
        have hq0:(0:Int)≤(q:Int):=Int.natCast_nonneg _;obtain ⟨x,hxq⟩:∃ x,P'[q]?=some x:=⟨_,List.getElem?_eq_getElem hlt⟩;obtain ⟨g,u0,rfl,s0,sf,z0,z1,z2,z3,zf,-⟩:=hplu.open hxq;obtain ⟨UA,cU,rfl⟩:=hxx.us.shape;obtain ⟨sz,hsz⟩:∃ m,m=wr.heap.size:=⟨_,rfl⟩;obtain ⟨labA,hlA⟩:∃ m,m=labr.ext wr.heap.size 45:=⟨_,rfl⟩;have mA:Mv (fun _=>False) wr labr (wr.alloc (.cells #[.string x.1,.int .i64 (x.2:Int),.int .i64 0,.bool u0] 60)) labA:=by rw [hlA];exact Mv.alloc0 wr labr _ 45
        have hA:Cl 45 labA (wr.alloc (.cells #[.string x.1,.int .i64 (x.2:Int),.int .i64 0,.bool u0] 60)) sz #[.string x.1,.int .i64 (x.2:Int),.int .i64 0,.bool u0] 60:=by rw [hlA,hsz];exact Cl.alloc wr labr _ 60 45
        have v6:∀ o,(wr.alloc o).cell? ⟨w.heap.size + 1 + 1,6,none⟩=some (.slice UA Wx.used.length cU):=fun o=>(hxx.mv (Mv.alloc0 wr labr o 45) (fun _ _ h=>h)).cl.cell 6
        have HZ:=Lib.hid (aI (hxx.mv mA (fun _ _ h=>h)) (aI (hplu.mv mA (fun h=>h) (fun h=>h)) (aI hA (mx.trans mA (fun _ h=>h.elim)))));clear hxx hplu mx mA hA HX hlA;go_wp2_with fail;rw [← hsz];clear hsz;go_loopw [74] (fun i wz=>∃ (n:Nat),i=.int .i64 n∧n≤Wx.used.length∧∃ labz,WAtX labz wz (w.heap.size + 2) Wx svx kn va (.slice UA Wx.used.length cU) inn∧PlW Wx.used P' q n labz wz (w.heap.size + 1) (some ⟨g,0,none⟩) c∧Cl 45 labz wz sz #[.string x.1,.int .i64 (x.2:Int),.int .i64 0,.bool u0] 60∧Mv (fun y=>40≤y∧y≤48) w lab wz labz) (fun i _=>Wx.used.length - (RowKit.intOf i).toNat)
        case atStart=>exact ⟨0,rfl,Nat.zero_le _,_,HZ.out⟩
        case round =>
         obtain ⟨n,rfl,hn,labz,hxz,hpz,hcz,mz⟩:=hrel;by_cases hnlt:n < Wx.used.length
         ·have hn1:(n:Int) < (Wx.used.length:Int):=by omega
          have hn0:(0:Int)≤(n:Int):=Int.natCast_nonneg _;obtain ⟨k,hkn⟩:∃ k,Wx.used[n]?=some k:=⟨_,List.getElem?_eq_getElem hnlt⟩;have hksz:=HUX.out.2 k (List.mem_of_getElem? hkn);obtain ⟨ug,rfl,_,rk,_⟩:=rw_at (i:=n) (y:=.string k) hxz.us (by simp [hkn]);obtain ⟨g',u1,hg',s0z,sfz,y0,y1,y2,y3,yf,hset⟩:=hpz.open hxq
          cases hg'
          have t0:wr.cell? ⟨sz,0,none⟩=some (.string x.1):=hcz.cell 0;have hset:=hset k hkn;have HZ2:=Lib.hid (fun bb (hbb:bb=(u1 || decide (x.1=sla ⟨#[]⟩ k)))=>(⟨(hxz.mv (hset bb hbb).2 (fun _ h=>by omega)).mv (Mv.aDraw (fun _=>False) _ _) (fun _ _ h=>h),(hset bb hbb).1.mv (Mv.aDraw (fun _=>False) _ _) (fun h=>h) (fun h=>h),(hcz.mv (hset bb hbb).2 (by decide)).mv (Mv.aDraw (fun _=>False) _ _) (fun h=>h),(mz.trans (hset bb hbb).2 (fun _ h=>by omega)).trans (Mv.aDraw _ _ _) (fun _ h=>h)⟩:WAtX labz (wr.setCell ⟨g,q * 4 + 3,none⟩ (.bool bb)).drew (w.heap.size + 2) Wx svx kn va _ inn∧PlW Wx.used P' q (n + 1) labz (wr.setCell ⟨g,q * 4 + 3,none⟩ (.bool bb)).drew (w.heap.size + 1) (some ⟨g,0,none⟩) c∧Cl 45 labz (wr.setCell ⟨g,q * 4 + 3,none⟩ (.bool bb)).drew sz #[.string x.1,.int .i64 (x.2:Int),.int .i64 0,.bool u0] 60∧Mv (fun y=>40≤y∧y≤48) w lab (wr.setCell ⟨g,q * 4 + 3,none⟩ (.bool bb)).drew labz));have hul2:Wx.used.length=U.length:=by rw [HUX.out.1]
          have hn2:(n:Int)≤100000:=by omega
          have hk0:(1:Int) + (k.size:Int)≤9223372036854775807:=by omega
          clear hul2;clear hxz hpz hcz mz hset hkn hksz
          cases u1 with
          | true =>
           go_wp2;go_region;go_wp2;go_roundw
           case rel=>exact ⟨n + 1,by go_num,by omega,labz,HZ2.out true rfl⟩
           case measure=>simp [RowKit.intOf];omega
          | false =>
           go_wp2;go_region;go_wp2;go_roundw
           case rel=>exact ⟨n + 1,by go_num,by omega,labz,HZ2.out _ (eq_sla _ _)⟩
           case measure=>simp [RowKit.intOf];omega
         ·have hn1:¬ ((n:Int) < (Wx.used.length:Int)):=by omega
          have HE2:=Lib.hid (aI hxz (aI (hpz.next (by omega)) mz));clear hxz hpz hcz mz;go_wp2;go_roundw
          case rel=>exact ⟨q + 1,by go_num,by omega,_,_,_,_,_,_,HE2.out⟩
          case measure=>simp [RowKit.intOf];omega
       ·have hq1:¬ ((q:Int) < (P'.length:Int)):=by omega
        have e0:wr.cell? ⟨w.heap.size + 1 + 1,0,none⟩=some (.string Wx.text):=hxx.cl.cell 0;have e3:wr.cell? ⟨w.heap.size + 1 + 1,3,none⟩=some (.bool Wx.bad):=hxx.cl.cell 3;have r0:wr.cell? ⟨w.heap.size + 1,0,none⟩=some (.slice A P'.length c):=by
         obtain ⟨us',_,h1,_⟩:=hplu;exact h1.cell 0
        have rf:wr.frozen? ⟨w.heap.size + 1,0,none⟩=false:=by
         obtain ⟨us',_,h1,_⟩:=hplu;exact h1.free 0
        have HY:=Lib.hid (aI hplu mx);clear hplu mx hxx HX;go_wp2_with fail;go_region;have hfin:Mv (fun y=>40≤y∧y≤48) w lab (wr.setCell ⟨w.heap.size + 1,0,none⟩ (.slice A P'.length c)).drew labr∧Rw 0 46 labr (wr.setCell ⟨w.heap.size + 1,0,none⟩ (.slice A P'.length c)).drew 60 4 (.slice A P'.length c) P'.length (flatO (wantO Wx.used P')):=by
         have m:Mv (·=47) wr labr (wr.setCell ⟨w.heap.size + 1,0,none⟩ (.slice A P'.length c)) labr:=by
          obtain ⟨us',_,h1,_⟩:=HY.out.1;exact Mv.setCell _ _ _ _ h1.2
         exact ⟨(HY.out.2.trans m (fun _ h=>by omega)).trans (Mv.aDraw _ _ _) (fun _ h=>h),((HY.out.1.fin (by omega)).mv m (by decide)).mv (Mv.aDraw (fun _=>False) _ _) (fun h=>h)⟩
        have HFI:=Lib.hid hfin;clear hfin;have hv:((wr.setCell ⟨w.heap.size + 1,0,none⟩ (.slice A P'.length c)).drew).cell? ⟨w.heap.size + 1,0,none⟩=some (.slice A P'.length c):=by
         obtain ⟨us',_,h1,_⟩:=HY.out.1;exact (h1.set 0 (.slice A P'.length c)).cell 0
        go_wp2;refine bodyPost_ret (results_tct rfl rfl (v:=.slice A P'.length c) (by simp [go_sem,hv])) rfl ?_
        exact ⟨Wx.text,_,!Wx.bad,rfl,htx,labr,HFI.out.1,fun e=>by
         obtain ⟨g0,g1,g2,g3,g4⟩:=HR.out (by simpa using e);refine ⟨T0,U,P,envF,g0,g1,g2,g3,?_,?_⟩
         ·rw [← g4];exact hpn
         ·rw [← g4,← HUX.out.1]
          exact HFI.out.2⟩
end
end Go.Cf
namespace Go.Cf
open Go.RowKit Go.Conc Go.Proofs
attribute [local go_sem] run_store_flt
section
variable {w w1:World} {k n:Int} {f g:Nat} {is:Bool} {t:ByteArray} {a1 a2 b1 b2:Option Addr} {m1 m2 e1 e2 e3 e4:Nat}
theorem _root_.Go.RowKit.Below.mvL (b:Below w.heap.size w w1):Mv (fun _=>False) w L0 w1 L0:=⟨b.os,b.tape,b.output,b.size,fun k hk _=>b.block k hk,fun _ _ _=>rfl⟩
end
end Go.Cf
namespace Go.Cf
open Go.RowKit Go.Conc Go.Proofs
attribute [local go_sem] run_store_flt
section
variable {w w1:World} {a b:Option Addr}
def PlsIn (w:World) (a:Option Addr) (xs:List PE):Prop:=∀ (q:Nat) (x:PE),xs[q]?=some x→∃ g,a=some ⟨g,0,none⟩∧w.cell? ⟨g,q * 4,none⟩=some (.string x.1)∧w.cell? ⟨g,q * 4 + 1,none⟩=some (.int .i64 x.2.1)∧w.cell? ⟨g,q * 4 + 3,none⟩=some (.bool x.2.2.2)
theorem flatO_get:∀ {P:List PE} {q:Nat} {x:PE},P[q]?=some x →
  (flatO P)[q * 4]?=some (.string x.1)∧(flatO P)[q * 4 + 1]?=some (.int .i64 x.2.1)∧(flatO P)[q * 4 + 3]?=some (.bool x.2.2.2)
 | [],_,_,h=>by simp at h
 | y :: P,0,x,h1=>by
  simp only [List.getElem?_cons_zero,Option.some.injEq] at h1;subst h1;exact ⟨rfl,rfl,rfl⟩
 | y :: P,q + 1,x,h1=>by
  simp only [List.getElem?_cons_succ] at h1;have ih:=flatO_get h1;have e:∀ j,(flatO (y :: P))[(q + 1) * 4 + j]?=(flatO P)[q * 4 + j]?:=fun j=>by
   rw [show (q + 1) * 4 + j=q * 4 + j + 1 + 1 + 1 + 1 from by omega];rfl
  have e0:=e 0;rw [Nat.add_zero,Nat.add_zero] at e0;rw [e0,e 1,e 3];exact ih
theorem Rw.plsIn {B ℓ n c:Nat} {lab:Lab} {P:List PE} (h:Rw B ℓ lab w 60 4 (.slice a n c) n (flatO P)):PlsIn w a P:=fun q x hq=>by
 obtain ⟨e0,e1,e3⟩:=flatO_get hq;obtain ⟨g,rfl,_,r0,_⟩:=rw_at h e0;obtain ⟨g1,hg1,_,r1,_⟩:=rw_at h e1;obtain ⟨g3,hg3,_,r3,_⟩:=rw_at h e3
 cases hg1;cases hg3
 exact ⟨g,rfl,r0,r1,r3⟩
theorem PlsIn.below {xs:List PE} (h:PlsIn w a xs) (hb:Below w.heap.size w w1):PlsIn w1 a xs:=fun q x hq=>by
 obtain ⟨g,h1,h2,h3,h4⟩:=h q x hq;exact ⟨g,h1,hb.cellB h2,hb.cellB h3,hb.cellB h4⟩
set_option maxRecDepth 100000 in
set_option maxHeartbeats 8000000 in
theorem same21 {xs ys:List PE} {n c d:Nat} (hx:PlsIn w a xs) (hy:PlsIn w b ys) (hxy:xs.map triO=ys.map triO) (hn:xs.length=n) (hn2:n≤100000) :
  Calls Tryz.prog 21 #[.slice a n c,.slice b n d] w fun e w'=>e=.returned (.bool true)∧Below w.heap.size w w':=by
 have hlen:ys.length=n:=by
  have:=congrArg List.length hxy;simp only [List.length_map] at this;omega
 have hn3:(n:Int)≤100000:=by omega
 have HX:=Lib.hid hx;have HY:=Lib.hid hy;have HXY:=Lib.hid hxy;have HN:=Lib.hid (aI hn hlen);clear hx hy hxy hn hlen hn2;go_enter Tryz.func21,Tryz.ntmps21;go_wp2;go_loopw [13] (fun i wr=>∃ j:Nat,i=.int .i64 (j:Int)∧j≤n∧Below w.heap.size w wr) (fun i _=>n - (RowKit.intOf i).toNat)
 case atStart=>exact ⟨0,rfl,Nat.zero_le _,Below.refl _ _⟩
 case round =>
  obtain ⟨j,rfl,hj,hbr⟩:=hrel;have hj0:(0:Int)≤(j:Int):=Int.natCast_nonneg _;by_cases hlt:j < n
  ·have hlt':(j:Int) < (n:Int):=by omega
   obtain ⟨x,hxj⟩:∃ x,xs[j]?=some x:=⟨_,List.getElem?_eq_getElem (by rw [HN.out.1];exact hlt)⟩;obtain ⟨y,hyj⟩:∃ y,ys[j]?=some y:=⟨_,List.getElem?_eq_getElem (by rw [HN.out.2];exact hlt)⟩;have he:triO x=triO y:=by
    have:=congrArg (fun l=>l[j]?) HXY.out;simp only [List.getElem?_map,hxj,hyj,Option.map_some,Option.some.injEq] at this;exact this
   obtain ⟨g,rfl,x0,x1,x3⟩:=HX.out j x hxj;obtain ⟨g2,rfl,y0,y1,y3⟩:=HY.out j y hyj;obtain ⟨px,lx,cx,ux⟩:=x;obtain ⟨py,ly,cy,uy⟩:=y;simp only [triO,Prod.mk.injEq] at he;obtain ⟨rfl,rfl,rfl⟩:=he;simp only at x0 x1 x3 y0 y1 y3;have x0:=hbr.cellB x0;have x1:=hbr.cellB x1;have x3:=hbr.cellB x3;have y0:=hbr.cellB y0;have y1:=hbr.cellB y1;have y3:=hbr.cellB y3;have HBR:=Lib.hid hbr;clear hbr hxj hyj;go_wp2;go_quiet (fail);have hbq:Below wr.heap.size wr (wr.drewN nq):=⟨rfl,rfl,rfl,Nat.le_refl _,fun _ _=>rfl⟩;have HQ:=Lib.hid (HBR.out.trans (hbq.mono HBR.out.size));clear hbq;go_wp2;go_roundw
   case rel=>exact ⟨j + 1,by go_num,by omega,HQ.out⟩
   case measure=>simp [RowKit.intOf];omega
  ·have hlt':¬ (j:Int) < (n:Int):=by omega
   have HE:=Lib.hid hbr;clear hbr;go_wp2;go_ret;exact ⟨rfl,HE.out⟩
end
end Go.Cf
namespace Go.Cf
open Go.RowKit Go.Conc Go.Proofs
attribute [local go_sem ↓] appX_eq
attribute [local go_sem] run_store_flt
section
variable {lab lab1:Lab} {w w1:World} {b:Nat} {W W1 W2:CW}
end
end Go.Cf
namespace Go.Cf
open Go.RowKit Go.Conc Go.Proofs
section
variable {B:Nat} {w w1:World} {lab lab1:Lab}
end
end Go.Cf
namespace Go.Cf
def dv (l:List Nat):Nat:=l.foldl (fun a d=>10 * a + d) 0
theorem dv_snoc (l:List Nat) (d:Nat):dv (l ++ [d])=10 * dv l + d:=by simp [dv,List.foldl_append]
theorem dv_nil:dv []=0:=rfl
theorem snoc_ind {p:List Nat→Prop} (h0:p []) (hs:∀ l d,p l→p (l ++ [d])) (l:List Nat):p l:=by
 have:∀ l:List Nat,p l.reverse:=fun l=>by
  induction l with
  | nil=>exact h0
  | cons d r ih=>rw [List.reverse_cons];exact hs _ _ ih
 have h:=this l.reverse;rwa [List.reverse_reverse] at h
theorem dv_append (a b:List Nat):dv (a ++ b)=dv a * 10 ^ b.length + dv b:=by
 refine snoc_ind (p:=fun b=>dv (a ++ b)=dv a * 10 ^ b.length + dv b) ?_ (fun l d ih=>?_) b
 ·simp [dv_nil]
 ·rw [← List.append_assoc,dv_snoc,dv_snoc,ih,List.length_append,List.length_singleton,Nat.pow_succ,Nat.mul_add,← Nat.mul_assoc,Nat.add_assoc]
  congr 1
  simp only [Nat.mul_assoc,Nat.mul_comm,Nat.mul_left_comm]
theorem dv_cons (d:Nat) (l:List Nat):dv (d :: l)=d * 10 ^ l.length + dv l:=by
 have:=dv_append [d] l;simpa [dv] using this
def Dg (l:List Nat):Prop:=∀ d ∈ l,d < 10
theorem Dg.snoc {l:List Nat} (h:Dg l) {d:Nat} (hd:d < 10):Dg (l ++ [d]):=fun x hx=>by
 rcases List.mem_append.1 hx with hx | hx
 ·exact h x hx
 ·rw [List.mem_singleton.1 hx];exact hd
theorem Dg.nil:Dg []:=fun _ h=>nomatch h
theorem dv_lt {l:List Nat} (h:Dg l):dv l < 10 ^ l.length:=by
 revert h
 refine snoc_ind (p:=fun l=>Dg l→dv l < 10 ^ l.length) (fun _=>by decide) (fun l d ih h=>?_) l;have h1:=ih fun x hx=>h x (List.mem_append_left _ hx)
 have h2:=h d (List.mem_append_right _ (List.mem_singleton.2 rfl));rw [dv_snoc,List.length_append,List.length_singleton,Nat.pow_succ];omega
theorem dv_ge {l:List Nat} (h0:l ≠ []) (h1:l.getD 0 0 ≠ 0):10 ^ (l.length - 1)≤dv l:=by
 cases l with
 | nil=>exact absurd rfl h0
 | cons d r =>
  rw [dv_cons];have hd:1≤d:=by
   have:d ≠ 0:=by simpa using h1
   omega
  have:=Nat.mul_le_mul_right (10 ^ r.length) hd;simp only [List.length_cons,Nat.add_sub_cancel];omega
def pv (l:List Nat):Nat→Nat
 | 0=>0
 | i + 1=>10 * pv l i + l.getD i 0
theorem pv_take (l:List Nat):∀ i,i≤l.length→pv l i=dv (l.take i)
 | 0,_=>by simp [pv,dv_nil]
 | i + 1,h=>by
  rw [pv,pv_take l i (by omega),List.take_add_one,List.getElem?_eq_getElem (by omega),Option.toList_some,dv_snoc,List.getD_eq_getElem?_getD,List.getElem?_eq_getElem (by omega),Option.getD_some]
theorem pv_len (l:List Nat):pv l l.length=dv l:=by rw [pv_take l _ (Nat.le_refl _),List.take_length]
theorem pv_more (l:List Nat):∀ z,pv l (l.length + z)=dv l * 10 ^ z
 | 0=>by rw [Nat.add_zero,pv_len,Nat.pow_zero,Nat.mul_one]
 | z + 1=>by
  rw [← Nat.add_assoc,pv,pv_more l z,List.getD_eq_getElem?_getD,List.getElem?_eq_none (by omega),Option.getD_none,Nat.pow_succ,Nat.add_zero];simp only [Nat.mul_assoc,Nat.mul_comm]
theorem pv_ge {l:List Nat} {i:Nat} (h:l.length≤i):pv l i=dv l * 10 ^ (i - l.length):=by
 have:=pv_more l (i - l.length);rwa [show l.length + (i - l.length)=i from by omega] at this
structure Dec (ds:List Nat) (dp p e:Nat):Prop where
 dg:Dg ds
 ne:ds ≠ []
 hd:ds.getD 0 0 ≠ 0
 la:ds.getLast? ≠ some 0
 eq:dv ds * 10 ^ dp * 2 ^ e=p * 10 ^ ds.length
section
variable {ds:List Nat} {dp p e M:Nat}
theorem p10 (n:Nat):0 < 10 ^ n:=Nat.pow_pos (by decide)
theorem p2 (n:Nat):0 < 2 ^ n:=Nat.pow_pos (by decide)
theorem Dec.hi (h:Dec ds dp p e):p < 10 ^ dp * 2 ^ e:=by
 have h1:=dv_lt h.dg;have h2:dv ds * (10 ^ dp * 2 ^ e) < 10 ^ ds.length * (10 ^ dp * 2 ^ e):=Nat.mul_lt_mul_of_pos_right h1 (Nat.mul_pos (p10 _) (p2 _));rw [← Nat.mul_assoc,h.eq,Nat.mul_comm p] at h2;exact Nat.lt_of_mul_lt_mul_left h2
theorem Dec.lo (h:Dec ds dp p e):10 ^ dp * 2 ^ e≤10 * p:=by
 have h1:=dv_ge h.ne h.hd;have hl:ds.length ≠ 0:=fun e=>h.ne (List.eq_nil_of_length_eq_zero e)
 have h2:10 ^ (ds.length - 1) * (10 ^ dp * 2 ^ e)≤dv ds * (10 ^ dp * 2 ^ e):=Nat.mul_le_mul_right _ h1;rw [← Nat.mul_assoc (dv ds),h.eq,show ds.length=ds.length - 1 + 1 from by omega,Nat.pow_succ,Nat.add_sub_cancel] at h2;have h3:10 ^ (ds.length - 1) * (10 ^ dp * 2 ^ e)≤10 ^ (ds.length - 1) * (10 * p):=by
  refine Nat.le_trans h2 (Nat.le_of_eq ?_);rw [Nat.mul_comm p,Nat.mul_assoc]
 exact Nat.le_of_mul_le_mul_left h3 (p10 _)
theorem Dec.pos (h:Dec ds dp p e):0 < p:=by
 have:=h.lo;have h1:=Nat.mul_pos (p10 dp) (p2 e);omega
def Trim (ds ds':List Nat):Prop:=∃ z,ds=ds' ++ List.replicate z 0∧ds'.getLast? ≠ some 0
theorem dv_zeros (z:Nat):dv (List.replicate z 0)=0:=by
 induction z with
 | zero=>rfl
 | succ z ih=>rw [List.replicate_succ,dv_cons,ih];simp
theorem Dec.of_trim {ds ds':List Nat} (ht:Trim ds ds') (hg:Dg ds) (hn:ds ≠ []) (hh:ds.getD 0 0 ≠ 0) (he:dv ds * 10 ^ dp * 2 ^ e=p * 10 ^ ds.length):Dec ds' dp p e:=by
 obtain ⟨z,rfl,hl⟩:=ht;have hne:ds' ≠ []:=by
  rintro rfl;rw [List.nil_append] at hh
  cases z with
  | zero=>exact hh rfl
  | succ z=>rw [List.replicate_succ] at hh;exact hh rfl
 refine ⟨fun d hd=>hg d (List.mem_append_left _ hd),hne,?_,hl,?_⟩
 ·cases ds' with
  | nil=>exact absurd rfl hne
  | cons d r=>simpa using hh
 ·rw [dv_append,dv_zeros,Nat.add_zero,List.length_append,List.length_replicate,Nat.pow_add,← Nat.mul_assoc] at he;refine Nat.eq_of_mul_eq_mul_right (p10 z) ?_;rw [← he];simp only [Nat.mul_comm,Nat.mul_left_comm]
theorem Dec.whole (h:Dec ds dp M 0):ds.length≤dp∧pv ds dp=M:=by
 have h1:=h.eq;rw [Nat.pow_zero,Nat.mul_one] at h1;have hle:ds.length≤dp:=by
  rcases Nat.lt_or_ge dp ds.length with hlt | hge
  ·exfalso
   obtain ⟨l,d,hl⟩:∃ l d,ds=l ++ [d]:=⟨ds.dropLast,ds.getLast h.ne,(List.dropLast_concat_getLast h.ne).symm⟩;have hd:d ≠ 0:=fun e=>h.la (by rw [hl,e];simp)
   have hd10:d < 10:=h.dg d (by rw [hl];simp);have h2:dv ds=M * 10 ^ (ds.length - dp):=by
    refine Nat.eq_of_mul_eq_mul_right (p10 dp) ?_;rw [h1,Nat.mul_assoc,← Nat.pow_add,show ds.length - dp + dp=ds.length from by omega]
   rw [show ds.length - dp=ds.length - dp - 1 + 1 from by omega,Nat.pow_succ,← Nat.mul_assoc] at h2;have h3:dv ds=10 * dv l + d:=by rw [hl,dv_snoc]
   omega
  ·exact hge
 refine ⟨hle,?_⟩;rw [pv_ge hle];refine Nat.eq_of_mul_eq_mul_right (p10 ds.length) ?_;rw [Nat.mul_assoc,← Nat.pow_add,show dp - ds.length + ds.length=dp from by omega,h1]
theorem Dec.lower (h:Dec ds dp (p * 2) (e + 1)):Dec ds dp p e:=by
 refine ⟨h.dg,h.ne,h.hd,h.la,?_⟩;have:=h.eq;rw [Nat.pow_succ] at this;refine Nat.eq_of_mul_eq_mul_right (show 0 < 2 by decide) ?_;rw [Nat.mul_assoc _ _ 2,this,Nat.mul_right_comm]
theorem Dec.lowers:∀ (k:Nat) {p e:Nat},Dec ds dp (p * 2 ^ k) (e + k)→Dec ds dp p e
 | 0,p,e,h=>by simpa using h
 | k + 1,p,e,h=>Dec.lowers k (Dec.lower (by rwa [Nat.pow_succ,← Nat.mul_assoc,← Nat.add_assoc] at h))
theorem half_eq {ds out:List Nat} {dp k i0 p e:Nat} (h:Dec ds dp p e) (hk:2 ^ (e + k)≤8 * p) (hi:ds.length≤i0 + out.length) (ho:dv out * (2 ^ k * 10)=pv ds (i0 + out.length)) (hg:Dg out) :
  i0≤dp + 1∧dv out * 10 ^ (dp + 1 - i0) * 2 ^ (e + k)=p * 10 ^ out.length:=by
 rw [pv_ge hi] at ho;have h1:=h.eq;have h2:dv out * 10 ^ (dp + 1) * 2 ^ (e + k)=p * 10 ^ (i0 + out.length):=by
  have e1:dv out * 10 ^ (dp + 1) * 2 ^ (e + k)=dv out * (2 ^ k * 10) * 10 ^ dp * 2 ^ e:=by
   rw [Nat.pow_succ,Nat.pow_add];simp only [Nat.mul_assoc,Nat.mul_comm,Nat.mul_left_comm]
  have e2:dv ds * 10 ^ (i0 + out.length - ds.length) * 10 ^ dp * 2 ^ e=dv ds * 10 ^ dp * 2 ^ e * 10 ^ (i0 + out.length - ds.length):=by
   simp only [Nat.mul_comm,Nat.mul_left_comm]
  rw [e1,ho,e2,h1,Nat.mul_assoc,← Nat.pow_add,show ds.length + (i0 + out.length - ds.length)=i0 + out.length from by omega]
 have h3:p * 10 ^ i0 < 10 ^ (dp + 1) * 2 ^ (e + k):=by
  refine Nat.lt_of_mul_lt_mul_left (a:=10 ^ out.length) ?_;have:=Nat.mul_lt_mul_of_pos_right (dv_lt hg) (Nat.mul_pos (p10 (dp + 1)) (p2 (e + k)));rw [← Nat.mul_assoc,h2,Nat.pow_add] at this;rw [Nat.mul_comm,Nat.mul_assoc];exact this
 have h4:i0≤dp + 1:=by
  rcases Nat.lt_or_ge (dp + 1) i0 with hlt | hge
  ·exfalso
   have a1:10 ^ (dp + 2)≤10 ^ i0:=Nat.pow_le_pow_right (by decide) (by omega);have a2:p * 10 ^ (dp + 2)≤p * 10 ^ i0:=Nat.mul_le_mul_left _ a1;have a3:10 ^ (dp + 1) * 2 ^ (e + k)≤10 ^ (dp + 1) * (8 * p):=Nat.mul_le_mul_left _ hk;have a4:p * 10 ^ (dp + 2)=10 ^ (dp + 1) * (10 * p):=by
    rw [show dp + 2=dp + 1 + 1 from rfl,Nat.pow_succ 10 (dp + 1)];simp only [Nat.mul_assoc,Nat.mul_comm]
   have a5:10 ^ (dp + 1) * (8 * p)≤10 ^ (dp + 1) * (10 * p):=Nat.mul_le_mul_left _ (by omega);omega
  ·exact hge
 refine ⟨h4,Nat.eq_of_mul_eq_mul_right (p10 i0) ?_⟩;have e3:dv out * 10 ^ (dp + 1 - i0) * 2 ^ (e + k) * 10 ^ i0=dv out * 10 ^ (dp + 1) * 2 ^ (e + k):=by
  have:10 ^ (dp + 1)=10 ^ (dp + 1 - i0) * 10 ^ i0:=by rw [← Nat.pow_add,show dp + 1 - i0 + i0=dp + 1 from by omega]
  rw [this];simp only [Nat.mul_assoc,Nat.mul_comm,Nat.mul_left_comm]
 rw [e3,h2,Nat.pow_add];simp only [Nat.mul_comm,Nat.mul_left_comm]
theorem dbl_eq {ds o:List Nat} {dp k p e:Nat} (h:Dec ds dp p e) (hl:ds.length≤o.length) (ho:dv o=dv ds * 2 ^ k):dv o * 10 ^ (dp + o.length - ds.length) * 2 ^ e=p * 2 ^ k * 10 ^ o.length:=by
 rw [ho,show dp + o.length - ds.length=dp + (o.length - ds.length) from by omega,Nat.pow_add];have e1:dv ds * 2 ^ k * (10 ^ dp * 10 ^ (o.length - ds.length)) * 2 ^ e=dv ds * 10 ^ dp * 2 ^ e * (10 ^ (o.length - ds.length) * 2 ^ k):=by
  simp only [Nat.mul_assoc,Nat.mul_comm,Nat.mul_left_comm]
 have e2:p * 2 ^ k * 10 ^ o.length=p * 10 ^ ds.length * (10 ^ (o.length - ds.length) * 2 ^ k):=by
  rw [show o.length=ds.length + (o.length - ds.length) from by omega,Nat.pow_add,show ds.length + (o.length - ds.length) - ds.length=o.length - ds.length from by omega];simp only [Nat.mul_assoc,Nat.mul_comm,Nat.mul_left_comm]
 rw [e1,h.eq,e2]
theorem ten8 (dp:Nat):10 * 8 ^ (dp + 1)≤8 * 10 ^ (dp + 1):=by
 have:=Nat.pow_le_pow_left (show 8≤10 by decide) dp;rw [Nat.pow_succ,Nat.pow_succ];omega
theorem Dec.half3 (h:Dec ds (dp + 1) p e):2 ^ (e + 3 * (dp + 1))≤8 * p:=by
 have h1:=h.lo;rw [Nat.pow_add,Nat.pow_mul,show (2:Nat) ^ 3=8 from rfl];have h2:=Nat.mul_le_mul_right (2 ^ e) (ten8 dp);have h3:10 * 8 ^ (dp + 1) * 2 ^ e=10 * (2 ^ e * 8 ^ (dp + 1)):=by simp only [Nat.mul_assoc,Nat.mul_comm]
 have h4:8 * 10 ^ (dp + 1) * 2 ^ e=8 * (10 ^ (dp + 1) * 2 ^ e):=by simp only [Nat.mul_assoc]
 omega
theorem hd_dv {d:Nat} {r:List Nat} (hg:Dg (d :: r)):d * 10 ^ r.length≤dv (d :: r)∧dv (d :: r) < (d + 1) * 10 ^ r.length:=by
 have:=dv_lt (l:=r) fun x hx=>hg x (List.mem_cons_of_mem _ hx)
 rw [dv_cons,Nat.add_mul,Nat.one_mul];omega
theorem Dec.first (h:Dec ds 0 p e):(ds.getD 0 0 < 5→2 * p < 2 ^ e)∧(5≤ds.getD 0 0→2 ^ e≤2 * p):=by
 have he:=h.eq;rw [Nat.pow_zero,Nat.mul_one] at he
 cases hds:ds with
 | nil=>exact absurd hds h.ne
 | cons d r =>
  subst hds;obtain ⟨h1,h2⟩:=hd_dv h.dg;rw [List.length_cons,Nat.pow_succ] at he;have hp:=p10 r.length;have hx:(d :: r).getD 0 0=d:=rfl;rw [hx];refine ⟨fun hd=>?_,fun hd=>?_⟩
  ·have h3:dv (d :: r) < 5 * 10 ^ r.length:=Nat.lt_of_lt_of_le h2 (Nat.mul_le_mul_right _ hd);have h4:=Nat.mul_lt_mul_of_pos_right h3 (p2 e);rw [he] at h4;refine Nat.lt_of_mul_lt_mul_left (a:=5 * 10 ^ r.length) ?_;have e1:5 * 10 ^ r.length * (2 * p)=p * (10 ^ r.length * 10):=by
    rw [show (10:Nat)=5 * 2 from rfl];generalize (5 * 2) ^ r.length=z;simp only [Nat.mul_assoc,Nat.mul_comm,Nat.mul_left_comm]
   rw [e1];exact h4
  ·have h3:5 * 10 ^ r.length≤dv (d :: r):=Nat.le_trans (Nat.mul_le_mul_right _ hd) h1;have h4:=Nat.mul_le_mul_right (2 ^ e) h3;rw [he] at h4;refine Nat.le_of_mul_le_mul_left ?_ (show 0 < 5 * 10 ^ r.length by omega);have e1:5 * 10 ^ r.length * (2 * p)=p * (10 ^ r.length * 10):=by
    rw [show (10:Nat)=5 * 2 from rfl];generalize (5 * 2) ^ r.length=z;simp only [Nat.mul_assoc,Nat.mul_comm,Nat.mul_left_comm]
   rw [e1];exact h4
theorem Dec.dbl1 (h:Dec ds dp (p * 2) e) (hp:2 * p < 2 ^ e) (hq:2 ^ e≤20 * p):dp=0∧∃ e',e=e' + 1∧Dec ds 0 p e':=by
 have h1:=h.lo;have hd:dp=0:=by
  cases dp with
  | zero=>rfl
  | succ dp =>
   exfalso
   rw [Nat.pow_succ] at h1;have h2:10 ^ dp * 10 * 2 ^ e=10 * (10 ^ dp * 2 ^ e):=by simp only [Nat.mul_comm,Nat.mul_left_comm]
   rw [h2] at h1;have h3:=Nat.mul_le_mul_right (2 ^ e) (p10 dp);have h4:=Nat.le_of_mul_le_mul_left h1 (by decide);omega
 subst hd;refine ⟨rfl,?_⟩
 cases e with
 | zero =>
  have:=h.pos;simp at hp;omega
 | succ e=>exact ⟨e,rfl,h.lower⟩
theorem Dec.at53 (h:Dec ds dp (p * 2 ^ 53) e) (he:e≤53):Dec ds dp (p * 2 ^ (53 - e)) 0:=by
 refine Dec.lowers e ?_;rwa [Nat.zero_add,Nat.mul_assoc,← Nat.pow_add,show 53 - e + e=53 from by omega]
theorem dec_of_read {ds ds':List Nat} {Q:Nat} (hg:Dg ds) (hv:dv ds=125 * Q) (hQ:0 < Q) (hd:ds=[] ∨ ds.getD 0 0 ≠ 0) (ht:Trim ds ds'):3≤ds.length∧Dec ds' (ds.length - 3) Q 3:=by
 have hne:ds ≠ []:=by
  rintro rfl;rw [dv_nil] at hv;omega
 have hl:3≤ds.length:=by
  rcases Nat.lt_or_ge ds.length 3 with h | h
  ·exfalso
   have h1:=dv_lt hg;have h2:10 ^ ds.length≤10 ^ 2:=Nat.pow_le_pow_right (by decide) (by omega);omega
  ·exact h
 refine ⟨hl,Dec.of_trim ht hg hne (hd.resolve_left hne) ?_⟩;rw [hv];obtain ⟨n,hn⟩:∃ n,ds.length=n + 3:=⟨ds.length - 3,by omega⟩;rw [hn,Nat.add_sub_cancel,Nat.pow_add,show (10:Nat) ^ 3=125 * 2 ^ 3 from rfl];simp only [Nat.mul_comm,Nat.mul_left_comm]
end
end Go.Cf
namespace Go.Cf
open Go.RowKit Go.Conc Go.Proofs
def dig (ds:List Nat):List Value:=ds.map fun (d:Nat)=>Value.int .u8 (d:Int)
theorem dig_len (ds:List Nat):(dig ds).length=ds.length:=by simp [dig]
theorem dig_get {ds:List Nat} {i d:Nat} (h:ds[i]?=some d):(dig ds)[i]?=some (.int .u8 (d:Int)):=by simp [dig,h]
section
variable {lab lab1:Lab} {w w1:World} {b ℓ:Nat} {ds:List Nat} {dp:Int}
def DgR (ℓ:Nat) (lab:Lab) (w:World) (A:Option Addr) (ds:List Nat) (c:Nat):Prop:=Rw 0 ℓ lab w 5 1 (.slice A ds.length c) ds.length (dig ds)
def DAt (lab:Lab) (w:World) (b:Nat) (ds:List Nat) (dp:Int):Prop:=∃ ℓ A c,(ℓ=61 ∨ ℓ=62)∧Cl 60 lab w b #[.slice A ds.length c,.int .i64 dp] 207∧DgR ℓ lab w A ds c
abbrev DM (x:Nat):Prop:=x=60 ∨ x=61 ∨ x=62
theorem DgR.mv {M:Nat→Prop} {A:Option Addr} {c:Nat} (h:DgR ℓ lab w A ds c) (m:Mv M w lab w1 lab1) (h61:¬ M ℓ):DgR ℓ lab1 w1 A ds c:=Rw.mv h m h61
theorem DgR.at {A:Option Addr} {c i d:Nat} (h:DgR ℓ lab w A ds c) (hi:ds[i]?=some d):∃ g,A=some ⟨g,0,none⟩∧w.cell? ⟨g,i,none⟩=some (.int .u8 (d:Int)):=by
 obtain ⟨⟨hx,⟨h0,hn⟩ | ⟨g,cap',cur,hv,hb,hblk,h1,h2,h3,h4⟩⟩,_⟩:=h
 ·have:ds=[]:=List.eq_nil_of_length_eq_zero hn;rw [this] at hi;cases hi
 ·simp only [Value.slice.injEq] at hv;obtain ⟨rfl,_,rfl⟩:=hv;refine ⟨g,rfl,?_⟩;rw [blk_cell hblk,← Array.getElem?_toList];have:=dig_get hi;rw [← h4,List.getElem?_take] at this
  split at this
  ·exact this
  ·cases this
theorem DgR.cap {A:Option Addr} {c:Nat} (h:DgR ℓ lab w A ds c):ds.length≤c∧c≤maxLen:=by
 obtain ⟨⟨hx,⟨h0,hn⟩ | ⟨g,cap',cur,hv,hb,hblk,h1,h2,h3,h4⟩⟩,_⟩:=h
 ·simp only [Value.slice.injEq] at h0;obtain ⟨_,h1,rfl⟩:=h0;exact ⟨by omega,Nat.zero_le _⟩
 ·simp only [Value.slice.injEq] at hv;obtain ⟨_,_,rfl⟩:=hv;exact ⟨h1,h2⟩
theorem DgR.pop {A:Option Addr} {c d:Nat} (h:DgR ℓ lab w A (ds ++ [d]) c):DgR ℓ lab w A ds c:=by
 obtain ⟨⟨hx,⟨h0,hn⟩ | ⟨g,cap',cur,hv,hb,hblk,h1,h2,h3,h4⟩⟩,hl⟩:=h
 ·simp at hn
 ·simp only [Value.slice.injEq] at hv;obtain ⟨rfl,_,rfl⟩:=hv;rw [List.length_append,List.length_singleton] at h1 h4;refine ⟨⟨by rw [dig_len,Nat.mul_one],.inr ⟨g,c,cur,rfl,hb,hblk,by omega,h2,h3,?_⟩⟩,fun k hk=>hl k hk⟩;have:=congrArg (List.take ds.length) h4;rw [List.take_take,show min ds.length ((ds.length + 1) * 1)=ds.length * 1 from by omega] at this;rw [this];unfold dig;rw [List.map_append,List.take_append_of_le_length (by simp),List.take_of_length_le (by simp)]
theorem snoc_or (l:List Nat):l=[] ∨ ∃ r d,l=r ++ [d]:=by
 rcases Decidable.em (l=[]) with h | h
 ·exact .inl h
 ·exact .inr ⟨l.dropLast,l.getLast h,(List.dropLast_concat_getLast h).symm⟩
set_option maxRecDepth 100000 in
set_option maxHeartbeats 4000000 in
theorem trim_c (h:DAt lab w b ds dp) (hl:ds.length≤1000000):Calls Tryz.prog 153 #[.pointer (some ⟨b,0,none⟩)] w fun e w' =>
  e=.returned (.pointer (some ⟨b,0,none⟩))∧∃ ds',Trim ds ds'∧DAt lab w' b ds' (if ds'=[] then 0 else dp)∧Mv (·=60) w lab w' lab:=by
 have H:=Lib.hid h;clear h;go_enter Tryz.func153,Tryz.ntmps153;go_wp2;go_loopw [] (fun wr=>∃ z ds1 ℓ A c,ds=ds1 ++ List.replicate z 0∧(ℓ=61 ∨ ℓ=62)∧Cl 60 lab wr b #[.slice A ds1.length c,.int .i64 dp] 207∧DgR ℓ lab wr A ds1 c∧Mv (·=60) w lab wr lab) (fun wr=>match wr.cell? ⟨b,0,none⟩ with | some (.slice _ n _)=>n | _=>0)
 case atStart =>
  obtain ⟨ℓ,A,c,hℓ,h1,h2⟩:=H.out;exact ⟨0,ds,ℓ,A,c,by simp,hℓ,h1,h2,Mv.refl _ _ _⟩
 case round =>
  obtain ⟨z,ds1,ℓ,A,c,hds,hℓ,h1,h2,m⟩:=hrel;have hℓ0:¬ ℓ=60:=by omega
  have q0:wr.cell? ⟨b,0,none⟩=some (.slice A ds1.length c):=h1.cell 0;have f0:wr.frozen? ⟨b,0,none⟩=false:=h1.free 0;have f1:wr.frozen? ⟨b,1,none⟩=false:=h1.free 1;have q1:wr.cell? ⟨b,1,none⟩=some (.int .i64 dp):=h1.cell 1;have hcap:=h2.cap;have hl1:ds1.length≤1000000:=by
   have:=congrArg List.length hds;rw [List.length_append] at this;omega
  have HX:=Lib.hid (aI hds (aI h1 (aI h2 m)));rcases snoc_or ds1 with rfl | ⟨r,d,rfl⟩
  ·have hd:decide ((0:Int) < ((([]:List Nat).length:Nat):Int))=false:=rfl;clear hds h1 h2 m hl1 hcap;go_wp2;go_quiet (fail);go_wp2;go_ret;refine ⟨rfl,[],⟨z,HX.out.1,by simp⟩,?_,?_⟩
   ·rw [if_pos rfl];have m0:Mv (fun _=>False) wr lab (wr.drewN nq) lab:=(Mv.refl _ _ _).drewN nq;have hc:=HX.out.2.1.mv m0 (fun h=>h);exact ⟨ℓ,A,c,hℓ,hc.set 1 (.int .i64 0),(HX.out.2.2.1.mv m0 (fun h=>h)).mv (Mv.setCell (M:=(·=60)) _ _ _ _ hc.2) hℓ0⟩
   ·have m0:Mv (fun _=>False) wr lab (wr.drewN nq) lab:=(Mv.refl _ _ _).drewN nq;have hc:=HX.out.2.1.mv m0 (fun h=>h);exact (HX.out.2.2.2.trans m0 (fun _ h=>h.elim)).trans (Mv.setCell (M:=(·=60)) _ _ _ _ hc.2) (fun _ h=>h)
  ·obtain ⟨g,rfl,hcell⟩:=h2.at (i:=r.length) (d:=d) (by simp);have hln:(r ++ [d]).length=r.length + 1:=by simp
   rw [hln] at q0 hcap hl1;have hlt:(0:Int) < ((r.length + 1:Nat):Int):=by omega
   by_cases hd0:d=0
   ·subst hd0;have h2p:=h2.pop;have HP:=Lib.hid h2p;clear hds h1 h2 m h2p;go_wp2;go_quiet (fail);go_wp2;go_region;go_wp2;go_roundw
    case rel =>
     have m0:Mv (fun _=>False) wr lab (wr.drewN (nq + 1)) lab:=(Mv.refl _ _ _).drewN (nq + 1);have hc:=HX.out.2.1.mv m0 (fun h=>h);refine ⟨z + 1,r,ℓ,some ⟨g,0,none⟩,c,?_,hℓ,hc.set 0 _,(HP.out.mv m0 (fun h=>h)).mv (Mv.setCell (M:=(·=60)) _ _ _ _ hc.2) hℓ0,(HX.out.2.2.2.trans m0 (fun _ h=>h.elim)).trans (Mv.setCell (M:=(·=60)) _ _ _ _ hc.2) (fun _ h=>h)⟩;rw [HX.out.1,List.append_assoc,List.replicate_succ];rfl
    case measure =>
     have m0:Mv (fun _=>False) wr lab (wr.drewN (nq + 1)) lab:=(Mv.refl _ _ _).drewN (nq + 1);have hc:=((HX.out.2.1.mv m0 (fun h=>h)).set 0 (.slice (some ⟨g,0,none⟩) r.length c)).cell 0;have hc':((wr.drewN (nq + 1)).setCell ⟨b,0,none⟩ (.slice (some ⟨g,0,none⟩) r.length c)).cell? ⟨b,0,none⟩=some (.slice (some ⟨g,0,none⟩) r.length c):=hc;have hc2:wr.cell? ⟨b,0,none⟩=some (.slice (some ⟨g,0,none⟩) (r.length + 1) c):=q0;rw [hc',hc2];exact Nat.lt_succ_self _
   ·have hd:decide ((d:Int)=0)=false:=decide_eq_false (by omega);clear hds h1 h2 m;go_wp2;go_quiet (fail);go_wp2;have e1:¬ ((r.length:Int) + 1=0):=by omega
    go_ret;have hne:r ++ [d] ≠ []:=by simp
    have m0:Mv (fun _=>False) wr lab (wr.drewN nq) lab:=(Mv.refl _ _ _).drewN nq;refine ⟨rfl,r ++ [d],⟨z,HX.out.1,by simp;omega⟩,?_,HX.out.2.2.2.trans m0 (fun _ h=>h.elim)⟩;rw [if_neg hne];exact ⟨ℓ,_,c,hℓ,HX.out.2.1.mv m0 (fun h=>h),HX.out.2.2.1.mv m0 (fun h=>h)⟩
end
end Go.Cf
