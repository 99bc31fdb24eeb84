/-
  Texts joined: Eg.
-/
import Derived.Test.YtackodbeohaidaaGreatDoorZq014
namespace Go.Cf
open Go.RowKit Go.Conc Go.Proofs
attribute [local go_sem ↓] appX_eq
attribute [local go_sem] run_store_flt
section
variable {lab lab1:Lab} {w w1:World} {b:Nat} {W W1 W2:CW} {T T2:ByteArray}
set_option maxRecDepth 100000 in
set_option maxHeartbeats 16000000 in
theorem entries_at (ks:List ByteArray) (l:List JV) (ih:∀ x ∈ l,ValC x∧EntC x):EntC (.map ks l):=by
 intro ks' l' hkl lab w b W kj c path ln pl P0 deep h hw hv hjs hin hink htop hd0 hd1 hln hpl hpl0 hpath;obtain ⟨rfl,rfl⟩:ks=ks'∧l=l':=by cases hkl;exact ⟨rfl,rfl⟩
 clear hkl;obtain ⟨hll,hkl,hks20,hjk⟩:=hjs.kids;have hll:l.length≤8:=hll;have hkl:ks.length≤8:=hkl;have hks20:∀ k ∈ ks,k.size≤20:=hks20;have hjk:∀ x ∈ l,JS x:=hjk;obtain ⟨top,htp⟩:∃ top,(deep == 0)=top:=⟨_,rfl⟩;rw [htp];have hcl:=fun w2=>clean_c hv w2
 simp only [NdV] at hv;obtain ⟨f,a1,c1,a2,c2,hf,rfl,hkv,hlv⟩:=hv;have hmv:∀ o,Mv (fun _=>False) w lab (w.alloc o) (lab.ext w.heap.size 45):=fun o=>Mv.alloc _ _ _ _
 have HMV:=Lib.hid hmv;have HK:=Lib.hid h;have h3:∀ o,(w.alloc o).cell? ⟨b,3,none⟩=some (.bool W.bad):=fun o=>(h.mv (hmv o) (fun _ _ h=>h)).c3
 have f3:∀ o,(w.alloc o).frozen? ⟨b,3,none⟩=false:=fun o=>(h.mv (hmv o) (fun _ _ h=>h)).f3
 have HW:=Lib.hid hw;have HV:=Lib.hid (aI hkv hlv);have HI:=Lib.hid (aI ih (aI hjk (aI hin (aI hink (aI htop hks20)))));have HP:=Lib.hid (aI hpl htp);have HCL:=Lib.hid hcl;clear hmv h hw hkv hlv ih hjs hin hink hjk hpl htp hcl htop hks20;unfold ndC at *;go_enter Tryz.func29,Tryz.ntmps29;go_upto_region 1 with fail
 obtain ⟨bx,hbx⟩:∃ bx:Array Value,bx=#[.int .i64 6,.int .i64 0,.float .f64 f,.bool false,.string { data:=#[] },.slice a1 ks.length c1,.slice a2 l.length c2]:=⟨_,rfl⟩;go_cut [6] from 15 to 36 (fun s6 wx=>s6=.pointer (some ⟨w.heap.size,0,none⟩)∧∃ x lab0,(x=false→W.bad=false∧ks.length=l.length)∧WAt lab0 wx b (W.flag x)∧Cl 45 lab0 wx w.heap.size bx 26∧Mv (·=40) w lab wx lab0)
 case first =>
  have key:∀ x:Bool,WAt (lab.ext w.heap.size 45) ((w.alloc (.cells bx 26)).setCell ⟨b,3,none⟩ (.bool x)) b (W.flag x)∧Cl 45 (lab.ext w.heap.size 45) ((w.alloc (.cells bx 26)).setCell ⟨b,3,none⟩ (.bool x)) w.heap.size bx 26∧Mv (·=40) w lab ((w.alloc (.cells bx 26)).setCell ⟨b,3,none⟩ (.bool x)) (lab.ext w.heap.size 45):=fun x=>by
   have h1:=(HK.out.mv (HMV.out (.cells bx 26)) (fun _ _ h=>h)).flag x;exact ⟨h1.1,(Cl.alloc w lab bx 26 45).mv h1.2 (by decide),((HMV.out (.cells bx 26)).mono (fun _ h=>h.elim)).trans h1.2 (fun _ h=>h)⟩
  have KEY:=Lib.hid key;clear key
  cases hb:W.bad with
  | true =>
   rw [hb] at h3;go_wp2_with fail;go_meet
   case rel=>exact ⟨rfl,true,_,(fun e=>by cases e),by have:=KEY.out true;subst hbx;exact this⟩
  | false =>
   have HB:=Lib.hid hb;rw [hb] at h3;by_cases hne:ks.length=l.length
   case neg =>
    have d1:(((ks.length:Nat):Int) != ((l.length:Nat):Int))=true:=bne_iff_ne.2 (by omega);have d2:¬ (((ks.length:Nat):Int)=((l.length:Nat):Int)):=by omega
    go_wp2_with fail
    go_meet
    case rel=>exact ⟨rfl,true,_,(fun e=>by cases e),by have:=KEY.out true;subst hbx;exact this⟩
   have d1:(((ks.length:Nat):Int) != ((l.length:Nat):Int))=false:=by rw [hne];simp
   have HNE:=Lib.hid hne;clear hne;go_wp2_with fail;refine (HCL.out _).mono ?_;rintro e w1 ⟨rfl,hb1⟩;have m01:Mv (fun _=>False) w lab w1 ((lab.ext w.heap.size 45).ext (w.alloc (.cells bx 26)).heap.size 45):=(HMV.out (.cells bx 26)).trans (Mv.below (M:=fun _=>False) (by subst hbx;exact hb1) (lab.ext w.heap.size 45) 45) (fun _ h=>h);have hbx1:Cl 45 ((lab.ext w.heap.size 45).ext (w.alloc (.cells bx 26)).heap.size 45) w1 w.heap.size bx 26:=(Cl.alloc w lab bx 26 45).mv (Mv.below (M:=fun _=>False) (by subst hbx;exact hb1) (lab.ext w.heap.size 45) 45) (fun h=>h);have h1:=HK.out.mv m01 (fun _ _ h=>h);have c3:=h1.c3;have fr3:=h1.f3;rw [hb] at c3;have h1f:=h1.flag false;have HX:=Lib.hid (aI h1f.1 (aI (hbx1.mv h1f.2 (by decide)) ((m01.mono (M':=(·=40)) (fun _ h=>h.elim)).trans h1f.2 (fun _ h=>h))));clear h1 h1f m01 hbx1 hb1;go_wp2_with fail;go_meet
   case rel=>exact ⟨rfl,false,_,(fun _=>⟨HB.out,HNE.out⟩),HX.out⟩
 case rest =>
  obtain ⟨rfl,x,lab0,hx,h1,hbx1,m1⟩:=hcut;have c3:=h1.c3;have hwk:=HW.out
  cases x with
  | true =>
   have hfin:EntP lab w b W kj ks l path ln pl P0 top (.returned (.tuple #[])) wc:=by
    have hwf:Wrote W (W.flag true) ⟨#[]⟩:=Wrote.flag W true (fun e=>by cases e);exact ⟨rfl,_,kj,⟨#[]⟩,[],[],[],_,h1,hwf.toU.toE,hwk.var.same rfl rfl rfl,(fun _=>⟨hwf.toU,rfl⟩),Nat.zero_le _,by simp,(fun e=>by cases e),(by rw [List.append_nil];exact HP.out.1.mv m1 (by decide) (by decide)),by simp,m1.mono (fun _ h=>.inl h)⟩
   have HF:=Lib.hid hfin;clear hfin h1 m1 hx hbx1 hwk h3 f3;go_wp2;refine bodyPost_ret (results_none rfl _ _ _) rfl ?_;exact HF.out
  | false =>
   obtain ⟨hb,hkll⟩:=hx rfl;have q5:wc.cell? ⟨w.heap.size,5,none⟩=some (.slice a1 ks.length c1):=by subst hbx;exact hbx1.cell 5
   have hI0:EntI lab w b w.heap.size bx W kj ks l path ln pl P0 top 0 wc:=by
    have hwf:Wrote W (W.flag false) ⟨#[]⟩:=Wrote.flag W false (fun _=>hb);refine ⟨_,kj,⟨#[]⟩,[],[],[],_,h1,hwf.toU.toE,hwk.var.same rfl rfl rfl,by show W.known.length≤_;omega,(fun _=>⟨hwf.toU,rfl⟩),Nat.zero_le _,by simp,fun _=>⟨?_,by simp,rfl,fun e k hk=>?_,fun e=>absurd rfl e⟩,(by rw [List.append_nil];exact HP.out.1.mv m1 (by decide) (by decide)),by simp,hbx1,m1.mono (fun _ h=>.inl h)⟩
    ·simp only [List.take_zero,GE];exact ⟨trivial,trivial,trivial,trivial,rfl⟩
    ·exfalso
     have h0:W.known=[]:=HI.out.2.2.2.2.1 (by rw [← HP.out.2] at e;simpa using e);have hk':k ∈ W.known:=hk;rw [h0] at hk'
     cases hk'
   have HI0:=Lib.hid hI0;have hm0:∀ x:Nat,EMg top pl x→x ≠ 0∧x ≠ 45:=fun x hx=>⟨by rintro rfl;exact EMg0 _ _ hx,by rintro rfl;exact EMg45 _ _ hx⟩
   have HM0:=Lib.hid hm0;have c3':wc.cell? ⟨b,3,none⟩=some (.bool false):=h1.c3;have HKL:=Lib.hid hkll;clear hI0 h1 m1 hx hbx1 hb h3 f3 hm0 c3 hkll;go_wp2_with fail;go_loopw [43] (fun i wr=>∃ q:Nat,i=.int .i64 q∧q≤ks.length∧EntI lab w b w.heap.size bx W kj ks l path ln pl P0 top q wr) (fun i _=>ks.length - (RowKit.intOf i).toNat)
   case atStart=>exact ⟨0,rfl,Nat.zero_le _,HI0.out⟩
   case round =>
    obtain ⟨q,rfl,hq,hI⟩:=hrel;by_cases hlt:q < ks.length
    case neg =>
     have hq1:¬ ((q:Int) < (ks.length:Int)):=by omega
     obtain rfl:q=ks.length:=by omega
     have hfin:EntP lab w b W kj ks l path ln pl P0 top (.returned (.tuple #[])) wr:=by
      obtain ⟨Wq,kq,Tq,Uq,Pq,P',labq,hwq,hwr,hvo,-,htf,hT,hU,hbd,hpl,hpn,-,mq⟩:=hI;rw [HKL.out,List.take_length] at hT hU hpn;refine ⟨rfl,Wq,kq,Tq,Uq,Pq,P',labq,hwq,hwr,hvo,htf,hT,hU,fun e=>?_,hpl,hpn,mq⟩;obtain ⟨g1,g2,g3,_,g5⟩:=hbd e;rw [List.take_length] at g1 g2;rw [HKL.out,List.take_length] at g1;exact ⟨g1,g2,g3,fun hne=>g5 (by rw [HKL.out];intro h0;exact hne (List.eq_nil_of_length_eq_zero h0))⟩
     have HF:=Lib.hid hfin;clear hfin hI;go_wp2;go_end0;exact HF.out
    have hq1:(q:Int) < (ks.length:Int):=by omega
    have hq0:(0:Int)≤(q:Int):=Int.natCast_nonneg _;obtain ⟨k,hk⟩:∃ k,ks[q]?=some k:=⟨_,List.getElem?_eq_getElem hlt⟩;obtain ⟨x,hx⟩:∃ x,l[q]?=some x:=⟨_,List.getElem?_eq_getElem (by have:=HKL.out;omega)⟩;obtain ⟨Wq,kq,Tq,Uq,Pq,P',labq,hwq,hwr,hvo,hknl,htf,hT,hU,hbd,hpl,hpn,hbq,mq⟩:=hI;obtain ⟨adk,ha1,hl0,hck⟩:=HV.out.1 q k hk;obtain ⟨adl,cx,ha2,hl2,hc7,hxv⟩:=HV.out.2.get hx;subst ha1 ha2;rw [Nat.zero_add] at hc7;have rk:wr.cell? (adk.add q)=some (.string k):=cell_mv mq (by rw [add_block,hl0];exact EMg0 _ _) hck;have hk20:k.size≤20:=HI.out.2.2.2.2.2 k (List.mem_of_getElem? hk);have hkn1000:Wq.known.length≤1000:=by
     cases htop:top with
     | false=>rw [(htf htop).1.known];exact hwk.known
     | true =>
      have h0:W.known=[]:=HI.out.2.2.2.2.1 (by have:=HP.out.2;rw [htop] at this;simpa using this);rw [h0,List.length_nil] at hknl;omega
    have hszq:=hwr.size;have hlnq:=hwr.line_le;have hwt:=wts_take hx;have hwl:wts (l.take (q + 1))≤wts l:=wts_take_le;have htx:=hwk.text;have hlx:=hwk.line;have b3:=hwq.c3;have fb3:=hwq.f3;go_upto_region 6 with fail
    have HQ:=Lib.hid (aI hwq (aI hwr (aI hvo (aI htf (aI hbd (aI hpl (aI hbq mq)))))));have hFl:∀ x,WAt labq (wr.setCell ⟨b,3,none⟩ (.bool x)) b (Wq.flag x)∧Mv (·=40) wr labq (wr.setCell ⟨b,3,none⟩ (.bool x)) labq:=fun x=>hwq.flag x
    have HFL:=Lib.hid hFl;have s5:wr.cell? ⟨w.heap.size,5,none⟩=some (.slice (some adk) ks.length c1):=by subst hbx;exact hbq.cell 5
    have hkpc:∀ p kp,ks[p]?=some kp→wr.cell? (adk.add p)=some (.string kp):=fun p kp hp=>by
     obtain ⟨ad,e,hl,hc⟩:=HV.out.1 p kp hp;cases e;exact cell_mv mq (by rw [add_block,hl];exact EMg0 _ _) hc
    have HKP:=Lib.hid hkpc;clear hkpc hwq hwr hvo htf hbd hpl hbq mq hFl;go_cut [] from 44 to 69 (fun wx=>∃ xb,(xb=false→Wq.bad=false∧(∀ kp,q ≠ 0→ks[q - 1]?=some kp→ltB kp k))∧WAt labq wx b (Wq.flag xb)∧Mv (·=40) wr labq wx labq)
    case first =>
     cases hb:Wq.bad with
     | true =>
      rw [hb] at b3;go_wp2_with fail;go_meet
      case rel=>exact ⟨true,(fun e=>by cases e),HFL.out true⟩
     | false =>
      have HB:=Lib.hid hb;rw [hb] at b3;clear hb;by_cases hq00:q=0
      ·have d1:decide ((0:Int) < (q:Int))=false:=decide_eq_false (by omega);have d2:decide (0 < q)=false:=decide_eq_false (by omega);have d3:¬ ((0:Int) < (q:Int)):=by omega
       have d4:¬ 0 < q:=by omega
       have HQ0:=Lib.hid hq00;clear hq00;go_wp2_with fail;go_meet
       case rel=>exact ⟨false,(fun _=>⟨HB.out,fun _ h=>absurd HQ0.out h⟩),HFL.out false⟩
      ·have d1:decide ((0:Int) < (q:Int))=true:=decide_eq_true (by omega);have d2:decide (0 < q)=true:=decide_eq_true (by omega);obtain ⟨kp,hkp⟩:∃ kp,ks[q - 1]?=some kp:=⟨_,List.getElem?_eq_getElem (by omega)⟩;have rkp:=HKP.out (q - 1) kp hkp;have hqm:IntKind.i64.wrap ((q:Int) - 1)=((q - 1:Nat):Int):=by
        rw [show (q:Int) - 1=((q - 1:Nat):Int) from by omega];exact Lib.wrap_i64_small _ (by omega)
       have hqm2:wrap64 ((q:Int) - 1)=((q - 1:Nat):Int):=by rw [wrap64];omega
       have hqm3:((q - 1:Nat):Int) < (ks.length:Int):=by omega
       have hqm4:q - 1 < ks.length:=by omega
       have HKQ:=Lib.hid (aI hkp hq00);clear hq00 hkp
       cases hbl:Op.bytesLess kp.toList k.toList with
       | false =>
        go_wp2_with fail
        go_meet
        case rel=>exact ⟨true,(fun e=>by cases e),HFL.out true⟩
       | true =>
        have HBL:=Lib.hid hbl;go_wp2_with fail;go_meet
        case rel=>exact ⟨false,(fun _=>⟨HB.out,fun kp' _ h=>by
         have e:=HKQ.out.1.symm.trans h;cases e;have:=HBL.out
         rw [less_before,Lib.toList_data,Lib.toList_data] at this;exact this⟩),HFL.out false⟩
    case rest =>
     obtain ⟨xb,hxb,h6,m6⟩:=hcut;have hwf:Wrote Wq (Wq.flag xb) ⟨#[]⟩:=Wrote.flag Wq xb (fun e=>(hxb e).1);have H6:=Lib.hid (aI hwf hxb);have hft:(Wq.flag xb).text.size=Wq.text.size:=rfl;have hfl:(Wq.flag xb).line=Wq.line:=rfl;have HMQ:=Lib.hid (m6);clear hwf hxb m6;go_wp2_with fail;refine (blank_c h6 (by omega) (by omega)).mono ?_;rintro e w7 ⟨rfl,W7,kb,h7,hw7,m7⟩;have hsz7:=hw7.size;have hln7:=hw7.line_le;have hbl:(blankT kb).size≤20:=by unfold blankT;split <;> decide
     have cl1:=h7.cLine;have hm67:Mv (·=40) wr labq w7 labq:=HMQ.out.trans m7 (fun _ h=>h);have hQpl:PlO labq w7 pl (P0 ++ P'):=HQ.out.2.2.2.2.2.1.mv hm67 (by decide) (by decide);have H7:=Lib.hid (aI h7 (aI hw7 (aI hm67 hQpl)));have hpl0':(P0 ++ P').length≤1000000:=by rw [List.length_append];omega
     clear h7 hw7 m7 hm67 h6 hQpl;have hneq:=plV_neq pl;have hneg:=fun w=>plV_guard pl 75 w
     have hneg2:=fun w=>plV_guard pl 107 w
     go_upto_region 9 with fail
     go_upto_if 76 with fail
     go_cut [3] from 69 to 90 (fun s3 wx=>s3=plV pl∧∃ lab8,PlO lab8 wx pl (P0 ++ P' ++ [(sla path k,W7.line)])∧Mv (fun y=>pl.isSome=true∧(y=46 ∨ y=47)) w7 labq wx lab8)
     case first =>
      cases pl with
      | none =>
       unfold plV at *;go_wp2_with fail;go_meet
       case rel=>exact ⟨rfl,labq,(fun pc e=>by cases e),Mv.refl _ _ _⟩
      | some pc =>
       obtain ⟨pv,hclp,hrwp⟩:=H7.out.2.2.2 pc rfl;obtain ⟨Ap,Cp,hpv⟩:=hrwp.shape;subst hpv;have p0:w7.cell? ⟨pc,0,none⟩=some (.slice Ap (P0 ++ P').length Cp):=hclp.cell 0;have mA:Mv (fun _=>False) w7 labq (w7.alloc (.cells #[.string (path ++ { data:=#[47] } ++ k),.int .i64 (W7.line:Int),.int .i64 0,.bool false] 60)) (labq.ext w7.heap.size 45):=Mv.alloc0 _ _ _ _;obtain ⟨gg,C4,w4,hrun,hrw4,mg⟩:=app_place (hrwp.mv mA (fun h=>h)) (heap_alloc_new w7 (.cells #[.string (path ++ { data:=#[47] } ++ k),.int .i64 (W7.line:Int),.int .i64 0,.bool false] 60)) hpl0';have hcl4:=(hclp.mv mA (fun h=>h)).mv mg (by decide);have p4:w4.cell? ⟨pc,0,none⟩=some (.slice Ap (P0 ++ P').length Cp):=hcl4.cell 0;have pf4:=hcl4.free 0;have ms:Mv (fun y=>y=47) w4 ((labq.ext w7.heap.size 45).ext (w7.alloc (.cells #[.string (path ++ { data:=#[47] } ++ k),.int .i64 (W7.line:Int),.int .i64 0,.bool false] 60)).heap.size 46) (w4.setCell ⟨pc,0,none⟩ (.slice (some ⟨gg,0,none⟩) ((P0 ++ P').length + 1) C4)) ((labq.ext w7.heap.size 45).ext (w7.alloc (.cells #[.string (path ++ { data:=#[47] } ++ k),.int .i64 (W7.line:Int),.int .i64 0,.bool false] 60)).heap.size 46):=Mv.setCell _ _ _ _ hcl4.2;have hfin:∃ lab8,PlO lab8 (w4.setCell ⟨pc,0,none⟩ (.slice (some ⟨gg,0,none⟩) ((P0 ++ P').length + 1) C4)) (some pc) (P0 ++ P' ++ [(sla path k,W7.line)])∧Mv (fun y=>(some pc).isSome=true∧(y=46 ∨ y=47)) w7 labq (w4.setCell ⟨pc,0,none⟩ (.slice (some ⟨gg,0,none⟩) ((P0 ++ P').length + 1) C4)) lab8 :=
        ⟨_,fun pc' e=>by cases e;exact ⟨_,hcl4.set 0 _,hrw4.mv ms (by decide)⟩,((mA.mono (fun _ h=>h.elim)).trans mg (fun _ h=>⟨rfl,.inl h⟩)).trans ms (fun _ h=>⟨rfl,.inr h⟩)⟩
       have HFIN:=Lib.hid hfin;have hn1:¬ 9223372036854775807 < path.size + 1:=by omega
       have hn2:¬ 9223372036854775807 < path.size + 1 + k.size:=by omega
       have hn3:¬ 9223372036854775807 < path.size + (1 + k.size):=by omega
       obtain ⟨m4,hm4⟩:∃ m,m=(P0 ++ P').length + 1:=⟨_,rfl⟩;obtain ⟨m5,hm5⟩:∃ m,m=(P0 ++ P').length:=⟨_,rfl⟩;rw [← hm4] at hrun HFIN;rw [← hm5] at hrun p0 p4;clear hfin ms hcl4 hrw4 mg mA hclp hrwp hm4 hm5;unfold plV at *;go_wp2_with fail;go_meet
       case rel=>exact ⟨rfl,HFIN.out⟩
     case rest =>
      obtain ⟨rfl,lab8,hpl8,m8⟩:=hcut;have hv0:∀ y:Nat,(pl.isSome=true∧(y=46 ∨ y=47))→y=46 ∨ y=47:=fun y h=>h.2
      have h8:=H7.out.1.mv m8 (fun y hy h=>by have:=hv0 y h;omega);have m08:Mv (EMg top pl) w lab wc lab8:=((HQ.out.2.2.2.2.2.2.2.trans (H7.out.2.2.1.mono (M':=EMg top pl) (fun _ h=>.inl h)) (fun _ h=>h))).trans (m8.mono (M':=EMg top pl) (fun _ h=>.inr (.inr (.inr h)))) (fun _ h=>h);have hbx8:Cl 45 lab8 wc w.heap.size bx 26:=(HQ.out.2.2.2.2.2.2.1.mv H7.out.2.2.1 (by decide)).mv m8 (fun h=>by have:=hv0 _ h;omega);have q6:wc.cell? ⟨w.heap.size,6,none⟩=some (.slice (some adl) l.length c2):=by subst hbx;exact hbx8.cell 6
      have hxr:=NdV.mv m08 (EMg0 _ _) x hxv;obtain ⟨nx,fx,bxx,sx,ax,ccx,ay,ccy,hcx,-,-⟩:=hxv.view;obtain ⟨kx,hkx⟩:∃ kx,x.kind=kx:=⟨_,rfl⟩;obtain ⟨mx,hmx⟩:∃ mx,x.keys.length=mx:=⟨_,rfl⟩;obtain ⟨my,hmy⟩:∃ my,x.kids.length=my:=⟨_,rfl⟩;rw [hkx,hmx,hmy] at hcx;subst hcx;clear hmx hmy;have hc8:=cell7.mv hc7 m08 (by rw [hl2];exact EMg0 _ _);obtain ⟨r0,r1,r2,r3,r4,r5,r6⟩:=hc8.facts;have hq1l:(q:Int) < (l.length:Int):=by have:=HKL.out;omega
      have hq1l2:q < l.length:=by have:=HKL.out;omega
      have H8:=Lib.hid (aI h8 (aI m08 (aI hbx8 (aI hxr (aI hc8 hpl8)))));have HC7:=Lib.hid hc7;clear hpl8 m8 h8 m08 hbx8 hxr hc8 hc7 hxv hneg rk hck b3 fb3 s5;go_wp2_with fail;refine (key_c H8.out.1 k _ (by omega) (by omega) (by omega)).mono ?_;rintro e w9 ⟨rfl,W9,Kt,qs,lab9,h9,hw9,hqs,hKs,hbad9,m9⟩;have hsz9:=hw9.size;have hln9:=hw9.line_le;have hseps:(sepT qs).size≤3:=by match qs,hqs with | 0,_=>decide | 1,_=>decide | 2,_=>decide | 3,_=>decide | 4,_=>decide | 5,_=>decide
      have hksz:(Kt ++ sepT qs).size≤k.size + 5:=by rw [bsa];omega
      have hwE:WroteE W W9 (Tq ++ (blankT kb ++ (Kt ++ sepT qs))) Uq:=by
       have:=HQ.out.2.1.trans (((H6.out.1.trans H7.out.2.1).trans hw9).toU.toE);simp only [empty_app,List.append_nil] at this ⊢;exact this
      have hwU:Wrote Wq W9 (blankT kb ++ (Kt ++ sepT qs)):=by
       have:=(H6.out.1.trans H7.out.2.1).trans hw9;simp only [empty_app] at this ⊢;exact this
      have hvo9:VarOk W9 kq:=HQ.out.2.2.1.same hwU.known hwU.nv hwU.vals;have hwok9:WOk W9 kq (wt x):=by
       have e1:W9.used.length=W.used.length + Uq.length:=by rw [hwE.used,List.length_append]
       have e2:=hwk.used;exact ⟨hvo9,by omega,by omega,by omega,by rw [hwE.inner];exact hwk.inner,by rw [hwU.known];exact hkn1000,by rw [hwE.line,hln];omega⟩
      have hpl9:PlO lab9 w9 pl (P0 ++ P' ++ [(sla path k,W7.line)]):=H8.out.2.2.2.2.2.mv m9 (by decide) (by decide);have m09:Mv (EMg top pl) w lab w9 lab9:=H8.out.2.1.trans m9 (fun _ h=>.inl h);have hxr9:=NdV.mv m9 (by decide) x H8.out.2.2.2.1
      have hc9:=cell7.mv H8.out.2.2.2.2.1 m9 (by rw [H8.out.2.1.lab adl.block (by
       have:=World.block_lt_of_cell? w _ (show w.cell? (adl.add (q * 7 + 0))=some (.int .i64 kx) from by
        have h0:=HC7.out 0 (by decide)
        exact h0)
       rwa [add_block] at this) (by rw [hl2];exact EMg0 _ _),hl2];decide)
      have hbx9:=H8.out.2.2.1.mv m9 (by decide);have s6:w9.cell? ⟨w.heap.size,6,none⟩=some (.slice (some adl) l.length c2):=by subst hbx;exact hbx9.cell 6
      obtain ⟨r0',r1',r2',r3',r4',r5',r6'⟩:=hc9.facts;have H9:=Lib.hid (aI h9 (aI hwE (aI hwU (aI hwok9 (aI hpl9 (aI m09 (aI hbx9 (aI hxr9 hc9))))))));have HB9:=Lib.hid hbad9;have HK9:=Lib.hid hkx;have HS9:=Lib.hid hw9;clear h9 hwE hwU hwok9 hpl9 m09 hbx9 hxr9 hc9 hbad9 hvo9 m9 hw9 r0 r1 r2 r3 r4 r5 r6 q6 hkx cl1;go_upto_region 12 with fail
      go_cut [109] from 90 to 110 (fun s109 wx=>s109=.bool (kx == 6 && pl.isSome)∧wx=w9)
      case first =>
       cases hk6:(kx == 6) with
       | false =>
        go_wp2_with fail
        go_meet
        case rel=>exact ⟨by rw [hk6];rfl,rfl⟩
       | true =>
        go_wp2_with fail
        go_meet
        case rel=>exact ⟨by rw [hk6];rfl,rfl⟩
      case rest =>
       obtain ⟨rfl,hwc⟩:=hcut;have hwc':=hwc.symm;clear hwc;subst hwc';obtain ⟨zb,hzb⟩:∃ zb,(kx == 6 && pl.isSome)=zb:=⟨_,rfl⟩;rw [hzb];go_upto_if 109 with fail
       go_cut [3] from 110 to 143 (fun s3 wx=>s3=plV pl∧∃ W10 V U1 P1 lab10,WAt lab10 wx b W10∧WroteU W9 W10 V U1∧V.size≤200 * wt x∧U1.length≤wt x∧P1.length≤wts x.kids ∧
        (W10.bad=false→∃ nl V' P1',V=V' ++ nlS nl∧GV (envW W9.known kq W9.inner) false (sla path k) (ln + nlT Tq + nlT (blankT kb ++ (Kt ++ sepT qs))) x nl V' U1 P1'∧(pl.isSome=true→P1=P1')) ∧
        PlO lab10 wx pl (P0 ++ P' ++ [(sla path k,W7.line)] ++ P1)∧Mv (EMg false pl) w9 lab9 wx lab10)
       case first =>
        have HBR:=Lib.hid hzb;clear hzb
        cases zb with
        | false =>
         have HC:=Lib.hid ((HI.out.1 x (List.mem_of_getElem? hx)).1 lab9 w9 b W9 kq _ false (deep + 1) H9.out.1 H9.out.2.2.2.1 H9.out.2.2.2.2.2.2.2.1 (HI.out.2.1 x (List.mem_of_getElem? hx)) (fun kk hkk=>by
          rw [H9.out.2.1.inner];refine HI.out.2.2.1 kk ?_;have:∀ (l:List JV) (q:Nat),l[q]?=some x→kk ∈ innKs l:=by
           intro l
           induction l with
           | nil=>intro q h;simp at h
           | cons y r ihr =>
            intro q h;simp only [innKs,List.mem_append]
            cases q with
            | zero=>simp only [List.getElem?_cons_zero,Option.some.injEq] at h;subst h;exact .inl hkk
            | succ q=>exact .inr (ihr q (by simpa using h))
          exact this l q hx) (by omega) (by omega))
         have hdw:deep + 1≤9223372036854775807:=by omega
         unfold ndC at *;go_wp2_with fail;refine HC.out.mono ?_;rintro e w10 ⟨rfl,W10,V,U1,lab10,h10,hw10,hV10,hU10,hbd10,m10⟩;have hfin:∃ W10 V U1 P1 lab10,WAt lab10 w10 b W10∧WroteU W9 W10 V U1∧V.size≤200 * wt x∧U1.length≤wt x∧P1.length≤wts x.kids ∧
           (W10.bad=false→∃ nl V' P1',V=V' ++ nlS nl∧GV (envW W9.known kq W9.inner) false (sla path k) (ln + nlT Tq + nlT (blankT kb ++ (Kt ++ sepT qs))) x nl V' U1 P1'∧(pl.isSome=true→P1=P1')) ∧
           PlO lab10 w10 pl (P0 ++ P' ++ [(sla path k,W7.line)] ++ P1)∧Mv (EMg false pl) w9 lab9 w10 lab10:=by
          refine ⟨W10,V,U1,[],lab10,h10,hw10,hV10,hU10,by simp,fun e=>?_,?_,m10.mono (fun y h=>by rcases h with h | h;exact .inl h;exact .inr (.inl h))⟩
          ·obtain ⟨nl,V',P,hG,hVV⟩:=hbd10 e;obtain ⟨P1',hG'⟩:=GV.move (sla path k) (ln + nlT Tq + nlT (blankT kb ++ (Kt ++ sepT qs))) x hG;refine ⟨nl,V',P1',hVV,hG',fun hps=>?_⟩;have hk6:kx ≠ 6:=by
            intro h6;have:=HBR.out;rw [h6,hps] at this;cases this
           have hkx:=HK9.out
           cases x with
           | map ks l=>exact absurd hkx.symm hk6
           | int n=>simp only [GV] at hG';exact hG'.2.1.symm
           | num n=>simp only [GV] at hG';exact hG'.2.1.symm
           | tr n=>simp only [GV] at hG';exact hG'.2.1.symm
           | txt n=>simp only [GV] at hG';exact hG'.1.symm
           | arr n=>simp only [GV] at hG';exact hG'.2.1.symm
          ·rw [List.append_nil];exact H9.out.2.2.2.2.1.mv m10 (by decide) (by decide)
         have HFIN:=Lib.hid hfin;clear hfin h10 hw10 hbd10 m10;go_wp2_with fail;go_meet
         case rel=>exact ⟨rfl,HFIN.out⟩
        | true =>
         have hk6:kx=6:=by
          have:=HBR.out;rw [Bool.and_eq_true,beq_iff_eq] at this;exact this.1
         obtain ⟨ks2,l2,hxm⟩:∃ ks2 l2,x=.map ks2 l2:=by
          have hkx:=HK9.out
          cases x with
          | map ks l=>exact ⟨_,_,rfl⟩
          | int n=>rw [hk6] at hkx;cases hkx
          | num n=>rw [hk6] at hkx;cases hkx
          | tr n=>rw [hk6] at hkx;cases hkx
          | txt n=>rw [hk6] at hkx;cases hkx
          | arr n=>rw [hk6] at hkx;cases hkx
         have hwtx:wt x=1 + wts l2:=by rw [hxm];simp only [wt]
         have hinx:innK x=ks2 ++ innKs l2:=by rw [hxm];simp only [innK]
         have hinn:∀ kk ∈ innK x,kk ∈ W9.inner:=fun kk hkk=>by
          rw [H9.out.2.1.inner];refine HI.out.2.2.1 kk ?_;have:∀ (l:List JV) (q:Nat),l[q]?=some x→kk ∈ innKs l:=by
           intro l
           induction l with
           | nil=>intro q h;simp at h
           | cons y r ihr =>
            intro q h;simp only [innKs,List.mem_append]
            cases q with
            | zero=>simp only [List.getElem?_cons_zero,Option.some.injEq] at h;subst h;exact .inl hkk
            | succ q=>exact .inr (ihr q (by simpa using h))
          exact this l q hx
         rw [hinx] at hinn
         -- what opens
         have mB:Mv (fun _=>False) w9 lab9 (w9.alloc (.cells spRow 9)) (lab9.ext w9.heap.size 45):=Mv.alloc0 _ _ _ _;have HB:=Lib.hid (aI (H9.out.1.mv mB (fun _ _ h=>h)) mB);have hpk:=Wrote.pick W9 3;have hplt:=pick_lt W9 3 (by decide);have hbn:∀ o,(w9.alloc o).heap.size=w9.heap.size + 1:=fun o=>World.size_alloc _ _
         have hrl:(lab9.ext w9.heap.size 45) w9.heap.size=45:=Lab.ext_ge (Nat.le_refl _);clear mB hk6;go_wp2_with fail;refine (pick_c HB.out.1 3 (by decide) (by decide)).mono ?_;rintro e wa ⟨rfl,ha,ma⟩;obtain ⟨a,Wa,hja⟩:∃ u W3,W9.pick 3=(u,W3):=⟨_,_,rfl⟩;rw [hja] at ha hpk hplt ⊢;simp only at ha hpk hplt ⊢;have hrow:wa.heap[w9.heap.size]?=some (.cells spRow 9 (0,0)):=by
          rw [ma.block w9.heap.size (by rw [hbn];omega) (by rw [hrl];decide)];exact heap_alloc_new w9 _
         have qa:wa.cell? ⟨w9.heap.size,a,none⟩=some (.string (sp3 a)):=(blk_cell hrow a).trans (sp_get a hplt);have ha3:(a:Int) < 3:=by omega
         have hsa:=sp_size a;have hsza:=hpk.size;have hlna:=hpk.line_le;have hz0:(⟨#[]⟩:ByteArray).size=0:=rfl;have HA:=Lib.hid (aI ha (aI (HB.out.2.mono (M':=VM) (fun _ h=>h.elim) |>.trans ma (fun _ h=>.inl h)) hpk));have hnb:¬ 9223372036854775807 < 1 + (sp3 a).size:=by omega
         have hs1:(({ data:=#[123] }:ByteArray) ++ sp3 a).size=1 + (sp3 a).size:=by rw [bsa];rfl
         clear ha ma hrow hpk hrl hbn;go_wp2_with fail;refine (put_c HA.out.1 (({ data:=#[123] }:ByteArray) ++ sp3 a) (by omega) (by omega) (by omega)).mono ?_;rintro e wb ⟨rfl,hb',mb⟩;have hwb:=HA.out.2.2.trans (Wrote.put Wa (({ data:=#[123] }:ByteArray) ++ sp3 a));rw [empty_app] at hwb;obtain ⟨Wb,hWb⟩:∃ x,x=Wa.put (({ data:=#[123] }:ByteArray) ++ sp3 a):=⟨_,rfl⟩;rw [← hWb] at hb' hwb;clear hWb;have mvb:Mv VM w9 lab9 wb _:=HA.out.2.1.trans mb (fun _ h=>.inl h);have hplb:=H9.out.2.2.2.2.1.mv mvb (by decide) (by decide);have hxrb:=NdV.mv mvb (by decide) x H9.out.2.2.2.2.2.2.2.1
         have hcb:=cell7.mv H9.out.2.2.2.2.2.2.2.2 mvb (by
          have hlt:=World.block_lt_of_cell? w _ (show w.cell? (adl.add (q * 7 + 0))=some (.int .i64 kx) from HC7.out 0 (by decide));rw [add_block] at hlt;rw [H9.out.2.2.2.2.2.1.lab adl.block hlt (by rw [hl2];exact EMg0 _ _),hl2]
          decide)
         obtain ⟨t0,t1,t2,t3,t4,t5,t6⟩:=hcb.facts;have hbxb:=H9.out.2.2.2.2.2.2.1.mv mvb (by decide);have u6:wb.cell? ⟨w.heap.size,6,none⟩=some (.slice (some adl) l.length c2):=by subst hbx;exact hbxb.cell 6
         have hszb:=hwb.size;have hlnb:=hwb.line_le;have hwokb:WOk Wb kq (wts l2):=by
          have:=H9.out.2.2.2.1.text;have:=H9.out.2.2.2.1.line;have:=H9.out.2.2.2.1.used;refine ⟨H9.out.2.2.2.1.var.same hwb.known hwb.nv hwb.vals,by omega,by omega,by rw [hwb.used];omega,by rw [hwb.inner];exact H9.out.2.2.2.1.inner,by rw [hwb.known];exact H9.out.2.2.2.1.known,by rw [hwb.line];have:=H9.out.2.2.2.1.pos;omega⟩
         have hlnb2:Wb.line=(ln + nlT Tq + nlT (blankT kb ++ (Kt ++ sepT qs)) + nlT (sp3 a)) + 1:=by
          rw [hwb.line,H9.out.2.1.line,hln];have e1:=nlT_app Tq (blankT kb ++ (Kt ++ sepT qs));have e2:=nlT_app (⟨#[123]⟩:ByteArray) (sp3 a);have e3:nlT (⟨#[123]⟩:ByteArray)=0:=by decide
          unfold nlT at *;omega
         have hsla:sla path k=path ++ ({ data:=#[47] }:ByteArray) ++ k:=rfl;have hslz:(path ++ ({ data:=#[47] }:ByteArray) ++ k).size=path.size + 1 + k.size:=by rw [bsa,bsa];rfl
         have hEC:=(HI.out.1 x (List.mem_of_getElem? hx)).2 ks2 l2 hxm _ wb b Wb kq _ (path ++ ({ data:=#[47] }:ByteArray) ++ k) (ln + nlT Tq + nlT (blankT kb ++ (Kt ++ sepT qs)) + nlT (sp3 a)) pl (P0 ++ P' ++ [(sla path k,W7.line)]) (deep + 1) hb' hwokb hxrb (HI.out.2.1 x (List.mem_of_getElem? hx))
          (fun kk hkk=>by rw [hwb.inner];exact hinn kk (List.mem_append_right _ hkk)) (fun _ kk hkk=>by rw [hwb.inner];exact hinn kk (List.mem_append_left _ hkk)) (fun e=>by omega) (by omega) (by omega) hlnb2 hplb (by simp only [List.length_append,List.length_cons,List.length_nil];omega) (by rw [hslz];omega)
         have HEC:=Lib.hid hEC;have HWB:=Lib.hid (aI hwb mvb);have hdw:deep + 1≤9223372036854775807:=by omega
         have hn1:¬ 9223372036854775807 < path.size + 1:=by omega
         have hn2:¬ 9223372036854775807 < path.size + 1 + k.size:=by omega
         have hn3:¬ 9223372036854775807 < path.size + (1 + k.size):=by omega
         clear hb' hwb mb mvb hplb hxrb hcb hbxb hwokb hEC hsla;unfold ndC at *;go_wp2_with fail;refine HEC.out.mono ?_;rintro e wd ⟨rfl,Wd,kd,Td,Ud,Pd,Pd',labd,hd,hwd,hvd,htd,hTd,hUd,hbdd,hpld,hpnd,md⟩;have hnt:(deep + 1 == 0)=false:=bqf (by omega);rw [hnt] at htd hbdd md;obtain ⟨hwdu,hkd⟩:=htd rfl;subst hkd;have hszd:=hwdu.size;have hlnd:=hwdu.line_le;have HD:=Lib.hid (aI hd (aI hwdu (aI hbdd (aI hpld md))));clear hd hwd hvd hwdu hbdd hpld md htd;go_wp2_with fail;refine (put_c HD.out.1 ⟨#[125]⟩ (by decide) (by omega) (by omega)).mono ?_;rintro e we ⟨rfl,he,me⟩;have hfin:∃ W10 V U1 P1 lab10,WAt lab10 we b W10∧WroteU W9 W10 V U1∧V.size≤200 * wt x∧U1.length≤wt x∧P1.length≤wts x.kids ∧
           (W10.bad=false→∃ nl V' P1',V=V' ++ nlS nl∧GV (envW W9.known kd W9.inner) false (sla path k) (ln + nlT Tq + nlT (blankT kb ++ (Kt ++ sepT qs))) x nl V' U1 P1'∧(pl.isSome=true→P1=P1')) ∧
           PlO lab10 we pl (P0 ++ P' ++ [(sla path k,W7.line)] ++ P1)∧Mv (EMg false pl) w9 lab9 we lab10:=by
          have hwall:=(HWB.out.1.toU.trans HD.out.2.1).trans (Wrote.put Wd ⟨#[125]⟩).toU;refine ⟨_,_,_,Pd',labd,he,hwall,?_,?_,by rw [hxm];exact hpnd,fun e=>?_,HD.out.2.2.2.1.mv me (by decide) (by decide),?_⟩
          ·rw [bsa,bsa,hs1];show 1 + (sp3 a).size + Td.size + 1≤_;omega
          ·simp only [List.append_nil,List.nil_append];omega
          ·have ed:=(Wrote.put Wd ⟨#[125]⟩).bad e;obtain ⟨g1,g2,g3,_⟩:=HD.out.2.2.1 ed;refine ⟨false,_,Pd,by unfold nlS;rw [if_neg (by decide)];exact ByteArray.append_empty.symm,?_,fun _=>g3⟩;rw [hxm];simp only [GV,List.append_nil,List.nil_append];have g1':GE false (envW W9.known kd W9.inner) (sla path k) (ln + nlT Tq + nlT (blankT kb ++ (Kt ++ sepT qs)) + nlT (sp3 a)) ks2 l2 Td Ud Pd (envW W9.known kd W9.inner):=by
            have e1:Wb.known=W9.known:=HWB.out.1.known;have e2:Wb.inner=W9.inner:=HWB.out.1.inner;have e3:Wd.known=W9.known:=HD.out.2.1.known.trans e1;have e4:Wd.inner=W9.inner:=HD.out.2.1.inner.trans e2;rw [e1,e2,e3,e4] at g1;exact g1
           exact ⟨trivial,a,Td,g1',asc_of g2,by simp only [ByteArray.append_assoc]⟩
          ·exact ((HWB.out.2.mono (M':=EMg false pl) (fun y h=>by rcases h with h | h;exact .inl h;exact .inr (.inl h))).trans HD.out.2.2.2.2 (fun _ h=>h)).trans me (fun _ h=>.inl h)
         have HFIN:=Lib.hid hfin;clear hfin he me;go_wp2_with fail;go_meet
         case rel=>exact ⟨rfl,HFIN.out⟩
       case rest =>
        obtain ⟨rfl,W10,V,U1,P1,lab10,h10,hw10,hV10,hU10,hP10,hbd10,hpl10,m10⟩:=hcut;have hmvT:Mv (EMg top pl) w9 lab9 wc lab10:=m10.mono (fun y h=>by
         rcases h with h | h | ⟨h,-⟩ | h
         ·exact .inl h
         ·exact .inr (.inl h)
         ·cases h
         ·exact .inr (.inr (.inr h)))
        have hq1l3:¬ l.length≤q:=by have:=HKL.out;omega
        have hkn10:W10.known.length≤1000:=by rw [hw10.known];exact H9.out.2.2.2.1.known
        have hv9:=H9.out.2.2.2.1.var;have hv10:VarOk W10 kq:=hv9.same hw10.known hw10.nv hw10.vals;have hnv10:W10.nv≤1000:=by rw [hv10.nv,← hv10.kn];exact hkn10
        have hsz10:=hw10.size;have hln10:=hw10.line_le;have hgrow:∀ w' lab',Mv (fun _=>False) wc lab10 w' lab'→WAt lab' w' b W10∧PlO lab' w' pl (P0 ++ P' ++ [(sla path k,W7.line)] ++ P1)∧Mv (EMg top pl) w9 lab9 w' lab':=fun w' lab' m =>
         ⟨h10.mv m (fun _ _ h=>h),hpl10.mv m (fun h=>h) (fun h=>h),hmvT.trans m (fun _ h=>h.elim)⟩
        have HG:=Lib.hid hgrow;have H10:=Lib.hid (aI hw10 (aI hbd10 hv10));have hn10:∀ (M:Prop),M→M:=fun _ h=>h
        clear h10 hw10 hbd10 hpl10 m10 hmvT hgrow hv9 hv10 hn10 hzb;clear r0' r1' r2' r3' r4' r5' r6' s6 hneq hneg2;go_upto_region 17 with fail
        go_cut [152] from 143 to 153 (fun s152 wx=>∃ z,s152=.bool z∧(z=true→top=true∧Bare k)∧∃ lab11,WAt lab11 wx b W10∧PlO lab11 wx pl (P0 ++ P' ++ [(sla path k,W7.line)] ++ P1)∧Mv (EMg top pl) w9 lab9 wx lab11)
        case first =>
         by_cases htop:top=true
         case neg =>
          have d2:¬ deep=0:=fun e=>by
           have:=HP.out.2;rw [e] at this;exact htop this.symm
          have d1:(deep == 0)=false:=bqf d2;go_wp2_with fail;go_meet
          case rel=>exact ⟨_,rfl,(fun e=>by cases e),_,HG.out _ _ (Mv.refl _ _ _)⟩
         case pos =>
          have HTOP:=Lib.hid htop;have d2:deep=0:=by
           have:=HP.out.2;rw [htop] at this;exact eq_of_beq this
          have d1:(deep == 0)=true:=HP.out.2.trans htop;have d3:decide (deep=0)=true:=decide_eq_true d2;clear htop d2;go_wp2_with fail;refine (confBare_c k (by omega) _).mono ?_;rintro e w11 ⟨⟨ok,rfl,hok⟩,hb11⟩;have m11:Mv (fun _=>False) wc lab10 w11 (lab10.ext wc.heap.size 45):=Mv.below hb11 lab10 45;have HX:=Lib.hid (aI hok m11);clear m11 hb11 hok
          cases ok with
          | false =>
           go_wp2_with fail
           go_meet
           case rel=>exact ⟨false,rfl,(fun e=>by cases e),_,HG.out _ _ HX.out.2⟩
          | true =>
           go_wp2_with fail
           refine (confPlain_c k qd (by omega) (by decide)).mono ?_;rintro e w12 ⟨⟨ok,rfl,_⟩,nn,rfl⟩;have m12:Mv (fun _=>False) wc lab10 (w11.drewN nn) (lab10.ext wc.heap.size 45):=HX.out.2.trans ((Mv.refl (fun _=>False) _ _).drewN nn) (fun _ h=>h);have HX2:=Lib.hid m12;clear m12;go_wp2_with fail;go_meet
           case rel=>exact ⟨ok,rfl,(fun _=>⟨HTOP.out,HX.out.1 trivial⟩),_,HG.out _ _ HX2.out⟩
        case rest =>
         obtain ⟨z,rfl,hz,lab11,h11,hpl11,m11⟩:=hcut;have HZ:=Lib.hid hz;have H11:=Lib.hid (aI h11 (aI hpl11 m11));clear hz h11 hpl11 m11 HG;go_upto_if 152 with fail
         go_cut [] from 153 to 177 (fun wx=>∃ W11 k11 lab11,WAt lab11 wx b W11∧Same W10 W11∧W11.inner=W10.inner∧VarOk W11 k11∧((W11.known=W10.known∧k11=kq∧W11.nv=W10.nv∧W11.vals=W10.vals) ∨ (top=true∧W11.known=W10.known ++ [k]∧k11=kq ++ [x])) ∧
          PlO lab11 wx pl (P0 ++ P' ++ [(sla path k,W7.line)] ++ P1)∧Mv (EMg top pl) w9 lab9 wx lab11)
         case first =>
          cases z with
          | false =>
           go_wp2_with fail
           go_meet
           case rel=>exact ⟨W10,kq,lab11,H11.out.1,⟨rfl,rfl,rfl,rfl⟩,rfl,H10.out.2.2,.inl ⟨rfl,rfl,rfl,rfl⟩,H11.out.2.1,H11.out.2.2⟩
          | true =>
           obtain ⟨htop,hbare⟩:=HZ.out rfl;have HTB:=Lib.hid (aI htop hbare);clear htop hbare;obtain ⟨sv,kn,va,us,inn,hx11⟩:=H11.out.1;have HB11:∀ lab' w',Mv KM wc lab11 w' lab'→w'.cell? ⟨w.heap.size,6,none⟩=some (.slice (some adl) l.length c2):=fun lab' w' m=>by
            have h1:=((H9.out.2.2.2.2.2.2.1.mv H11.out.2.2 (EMg45 _ _)).mv m (by decide)).cell 6;subst hbx;exact h1
           have HC11:∀ lab' w',Mv KM wc lab11 w' lab'→cell7 w' adl q (ndC kx nx fx bxx sx (.slice ax mx ccx) (.slice ay my ccy)):=fun lab' w' m=>by
            have hlt:=World.block_lt_of_cell? w _ (show w.cell? (adl.add (q * 7 + 0))=some (.int .i64 kx) from HC7.out 0 (by decide));rw [add_block] at hlt;have hl9:lab9 adl.block=0:=by rw [H9.out.2.2.2.2.2.1.lab adl.block hlt (by rw [hl2];exact EMg0 _ _),hl2]
            have hc1:=cell7.mv H9.out.2.2.2.2.2.2.2.2 H11.out.2.2 (by rw [hl9];exact EMg0 _ _);refine cell7.mv hc1 m ?_;have hlt9:=World.block_lt_of_cell? w9 _ (H9.out.2.2.2.2.2.2.2.2 0 (by decide));rw [add_block] at hlt9;rw [H11.out.2.2.lab adl.block hlt9 (by rw [hl9];exact EMg0 _ _),hl9]
            decide
           go_wp2_with fail
           refine know_regionG (xs:=[.int .i64 kx,.int .i64 nx,.float .f64 fx,.bool bxx,.string sx,.slice ax mx ccx,.slice ay my ccy]) (lv:=.slice (some adl) l.length c2) (ix:=.int .i64 (q:Int)) (px:=.pointer (some (adl.add (q * 7)))) hx11 k (nb:=w.heap.size) mixed (by kernel_rfl) rfl rfl (show 200≤211 by omega) ?_ ?_
           ·intro L a' lab' w' i o hL ho hf hall hr
            match i,ho with
            | 0,rfl =>
             have e0:a'.tmps.getD 0 undef=Value.pointer (some ⟨b,0,none⟩):=hr.keep 0 (by omega);rw [gdg] at e0;exact wpOp_run (v:=Value.pointer (some ⟨b,0,none⟩)) (w2:=w') rfl rfl (by simp [execOp,Act.eval,go_sem,e0]) ⟨lab',hr.plain hL (show 200≤211 by omega) 0 (by decide) _ rfl (fun e=>absurd e (by decide)) (fun e=>absurd e (by decide))⟩
            | 1,rfl =>
             have e0:a'.tmps.getD 0 undef=Value.pointer (some ⟨b,0,none⟩):=hr.keep 0 (by omega);rw [gdg] at e0;exact wpOp_run (v:=Value.pointer (some ⟨b,0,none⟩)) (w2:=w') rfl rfl (by simp [execOp,Act.eval,go_sem,e0]) ⟨lab',hr.plain hL (show 200≤211 by omega) 1 (by decide) _ rfl (fun e=>absurd e (by decide)) (fun e=>absurd e (by decide))⟩
            | 2,rfl =>
             have e0:a'.tmps.getD 0 undef=Value.pointer (some ⟨b,0,none⟩):=hr.keep 0 (by omega);rw [gdg] at e0;exact wpOp_run (v:=Value.pointer (some ⟨b,0,none⟩)) (w2:=w') rfl rfl (by simp [execOp,Act.eval,go_sem,e0]) ⟨lab',hr.plain hL (show 200≤211 by omega) 2 (by decide) _ rfl (fun e=>absurd e (by decide)) (fun e=>absurd e (by decide))⟩
            | 3,rfl =>
             have e0:a'.tmps.getD 155 undef=Value.pointer (some ⟨b,0,none⟩):=hr.got 2 _ (by decide) (hall ⟨2,.data⟩ (by simp) rfl) rfl;rw [gdg] at e0;exact wpOp_run (v:=Value.pointer (some ⟨b,0,none⟩)) (w2:=w') rfl rfl (by simp [execOp,Act.eval,go_sem,e0]) ⟨lab',hr.plain hL (show 200≤211 by omega) 3 (by decide) _ rfl (fun e=>absurd e (by decide)) (fun e=>absurd e (by decide))⟩
            | 4,rfl =>
             have e0:a'.tmps.getD 156 undef=Value.pointer (some ⟨b,0,none⟩):=hr.got 3 _ (by decide) (hall ⟨3,.data⟩ (by simp) rfl) rfl;rw [gdg] at e0;exact wpOp_run (v:=Value.pointer (some ⟨b,4,none⟩)) (w2:=w') rfl rfl (by simp [execOp,Act.eval,go_sem,e0]) ⟨lab',hr.plain hL (show 200≤211 by omega) 4 (by decide) _ rfl (fun e=>absurd e (by decide)) (fun e=>absurd e (by decide))⟩
            | 5,rfl =>
             have h8f:L.getD 8 false=false:=by
              cases hc:L.getD 8 false with
              | false=>rfl
              | true=>rw [hr.ord.2.1 hc] at hf;cases hf
             have h22f:¬ L.getD 22 false=true:=fun e=>by rw [hr.ord.1 e] at h8f;cases h8f
             have q:=hr.cl.cell 4;rw [if_neg h22f] at q;have q':w'.cell? ⟨b,4,none⟩=some kn:=q;have e0:a'.tmps.getD 157 undef=Value.pointer (some ⟨b,4,none⟩):=hr.got 4 _ (by decide) (hall ⟨4,.data⟩ (by simp) rfl) rfl;rw [gdg] at e0;exact wpOp_run (v:=kn) (w2:=w') rfl rfl (by simp [execOp,Act.eval,go_sem,e0,q']) ⟨lab',hr.plain hL (show 200≤211 by omega) 5 (by decide) _ rfl (fun _=>h8f) (fun e=>absurd e (by decide))⟩
            | 6,rfl =>
             have e0:a'.tmps.getD 11 undef=.string k:=hr.keep 11 (by omega);rw [gdg] at e0;exact wpOp_run (v:=.string k) (w2:=w') rfl rfl (by simp [execOp,Act.eval,go_sem,e0]) ⟨lab',hr.plain hL (show 200≤211 by omega) 6 (by decide) _ rfl (fun e=>absurd e (by decide)) (fun e=>absurd e (by decide))⟩
            | 7,rfl =>
             have e0:a'.tmps.getD 159 undef=.string k:=hr.got 6 _ (by decide) (hall ⟨6,.data⟩ (by simp) rfl) rfl;rw [gdg] at e0;exact wpOp_run (v:=.slice (some ⟨w'.heap.size,0,none⟩) 1 1) (w2:=w'.alloc (.cells #[.string k] 9)) rfl rfl (by simp [execOp,Act.eval,go_sem,e0]) ⟨lab'.ext w'.heap.size 45,(hr.grow (Mv.alloc _ _ _ _)).slot hL (show 200≤211 by omega) 7 (by decide) _ hf (fun _=>⟨_,rfl,heap_alloc_new w' _,Lab.ext_ge (Nat.le_refl _)⟩) (fun e=>absurd e (by decide)) (fun e=>absurd e (by decide)) (fun e=>absurd e (by decide))⟩
            | 8,rfl =>
             have h7:=hall ⟨7,.data⟩ (by simp) rfl;have h5t:L.getD 5 false=true:=hall ⟨5,.data⟩ (by simp) rfl;have hsf:L.getD 22 false=false:=by
              cases hc:L.getD 22 false with
              | false=>rfl
              | true=>rw [hr.ord.1 hc] at hf;cases hf
             obtain ⟨g,e0,hg⟩:=hr.g7 h7;rw [gdg] at e0;have e1:a'.tmps.getD 158 undef=kn:=hr.got 5 _ (by decide) (hall ⟨5,.data⟩ (by simp) rfl) rfl;rw [gdg] at e1;have hrw:=hr.r1;rw [if_neg (by rw [hf];decide)] at hrw;obtain ⟨i0,hi0,hz0,hz1,hz2⟩:=info_parts info9;obtain ⟨gg,cap2,w2,hrun,hown2,hg2,hat2,hlt2⟩:=run_append_lies (P:=Tryz.prog) w' 23 23 0 9 i0 _ 1 16 Tryz.underlying23 hi0 hz0 hz1 hz2 rfl (by omega) kn W10.known.length (W10.known.map Value.string) hrw.1
              ⟨g,0,none⟩ 1 1 [.string k] (by rfl) (World.news_of_block (cs:=#[.string k]) (t:=9) (fr:=(0,0)) hg.1) (by simp;rfl)
              (by omega) (by simp only [maxLen];omega) (by omega) (Nat.zero_le _) w'.heap.size rfl
             rw [appX_eq] at hrun;have m1:Mv (·=41) w' lab' w2 (lab'.ext w'.heap.size 41):=Mv.grown hg2 lab' 41 (fun x hx=>hrw.2 x hx);have hrw2:Rw 0 41 (lab'.ext w'.heap.size 41) w2 9 1 (.slice (some ⟨gg,0,none⟩) (W10.known.length + 1) cap2) (W10.known.length + 1) (W10.known.map Value.string ++ [.string k]):=by
              refine ⟨hown2,fun x hx=>?_⟩;simp only [Value.ownBlock,Option.some.injEq] at hx;subst hx;rcases hat2 with e | e
              ·have:=hrw.own_lab gg e;rw [Lab.ext_lt this.2.2];exact this.1
              ·rw [e];exact Lab.ext_ge (Nat.le_refl _)
             exact wpOp_run (v:=.slice (some ⟨gg,0,none⟩) (W10.known.length + 1) cap2) (w2:=w2) rfl rfl (by simp [Act.eval,go_sem,e0,e1];rw [hrun];rfl) ⟨_,hr.app1 hL (show 200≤211 by omega) m1 h5t hsf _ hrw2⟩
            | 9,rfl =>
             have e0:a'.tmps.getD 0 undef=Value.pointer (some ⟨b,0,none⟩):=hr.keep 0 (by omega);rw [gdg] at e0;exact wpOp_run (v:=Value.pointer (some ⟨b,0,none⟩)) (w2:=w') rfl rfl (by simp [execOp,Act.eval,go_sem,e0]) ⟨lab',hr.plain hL (show 200≤211 by omega) 9 (by decide) _ rfl (fun e=>absurd e (by decide)) (fun e=>absurd e (by decide))⟩
            | 10,rfl =>
             have e0:a'.tmps.getD 162 undef=Value.pointer (some ⟨b,0,none⟩):=hr.got 9 _ (by decide) (hall ⟨9,.data⟩ (by simp) rfl) rfl;rw [gdg] at e0;exact wpOp_run (v:=Value.pointer (some ⟨b,0,none⟩)) (w2:=w') rfl rfl (by simp [execOp,Act.eval,go_sem,e0]) ⟨lab',hr.plain hL (show 200≤211 by omega) 10 (by decide) _ rfl (fun e=>absurd e (by decide)) (fun e=>absurd e (by decide))⟩
            | 11,rfl =>
             have e0:a'.tmps.getD 163 undef=Value.pointer (some ⟨b,0,none⟩):=hr.got 10 _ (by decide) (hall ⟨10,.data⟩ (by simp) rfl) rfl;rw [gdg] at e0;exact wpOp_run (v:=Value.pointer (some ⟨b,5,none⟩)) (w2:=w') rfl rfl (by simp [execOp,Act.eval,go_sem,e0]) ⟨lab',hr.plain hL (show 200≤211 by omega) 11 (by decide) _ rfl (fun e=>absurd e (by decide)) (fun e=>absurd e (by decide))⟩
            | 12,rfl =>
             have h8f:L.getD 19 false=false:=by
              cases hc:L.getD 19 false with
              | false=>rfl
              | true=>rw [hr.ord.2.2.2 hc] at hf;cases hf
             have h22f:¬ L.getD 25 false=true:=fun e=>by rw [hr.ord.2.2.1 e] at h8f;cases h8f
             have q:=hr.cl.cell 5;rw [if_neg h22f] at q;have q':w'.cell? ⟨b,5,none⟩=some va:=q;have e0:a'.tmps.getD 164 undef=Value.pointer (some ⟨b,5,none⟩):=hr.got 11 _ (by decide) (hall ⟨11,.data⟩ (by simp) rfl) rfl;rw [gdg] at e0;exact wpOp_run (v:=va) (w2:=w') rfl rfl (by simp [execOp,Act.eval,go_sem,e0,q']) ⟨lab',hr.plain hL (show 200≤211 by omega) 12 (by decide) _ rfl (fun e=>absurd e (by decide)) (fun _=>h8f)⟩
            | 13,rfl =>
             have e0:a'.tmps.getD 6 undef=.pointer (some ⟨w.heap.size,0,none⟩):=hr.keep 6 (by omega);rw [gdg] at e0;exact wpOp_run (v:=Value.pointer (some ⟨w.heap.size,6,none⟩)) (w2:=w') rfl rfl (by simp [execOp,Act.eval,go_sem,e0]) ⟨lab',hr.plain hL (show 200≤211 by omega) 13 (by decide) _ rfl (fun e=>absurd e (by decide)) (fun e=>absurd e (by decide))⟩
            | 14,rfl =>
             have e0:a'.tmps.getD 166 undef=Value.pointer (some ⟨w.heap.size,6,none⟩):=hr.got 13 _ (by decide) (hall ⟨13,.data⟩ (by simp) rfl) rfl;rw [gdg] at e0;have q:w'.cell? ⟨w.heap.size,6,none⟩=some (.slice (some adl) l.length c2):=HB11 lab' w' hr.mv;exact wpOp_run (v:=Value.slice (some adl) l.length c2) (w2:=w') rfl rfl (by simp [execOp,Act.eval,go_sem,e0,q]) ⟨lab',hr.plain hL (show 200≤211 by omega) 14 (by decide) _ rfl (fun e=>absurd e (by decide)) (fun e=>absurd e (by decide))⟩
            | 15,rfl =>
             have e0:a'.tmps.getD 10 undef=.int .i64 (q:Int):=hr.keep 10 (by omega);rw [gdg] at e0;exact wpOp_run (v:=.int .i64 (q:Int)) (w2:=w') rfl rfl (by simp [execOp,Act.eval,go_sem,e0]) ⟨lab',hr.plain hL (show 200≤211 by omega) 15 (by decide) _ rfl (fun e=>absurd e (by decide)) (fun e=>absurd e (by decide))⟩
            | 16,rfl =>
             have e0:a'.tmps.getD 167 undef=Value.slice (some adl) l.length c2:=hr.got 14 _ (by decide) (hall ⟨14,.data⟩ (by simp) rfl) rfl;rw [gdg] at e0;have e1:a'.tmps.getD 168 undef=Value.int .i64 (q:Int):=hr.got 15 _ (by decide) (hall ⟨15,.data⟩ (by simp) rfl) rfl;rw [gdg] at e1;exact wpOp_run (v:=Value.pointer (some (adl.add (q * 7)))) (w2:=w') rfl rfl (by simp [execOp,Act.eval,go_sem,e0,e1,hq1l]) ⟨lab',hr.plain hL (show 200≤211 by omega) 16 (by decide) _ rfl (fun e=>absurd e (by decide)) (fun e=>absurd e (by decide))⟩
            | 17,rfl =>
             have e0:a'.tmps.getD 169 undef=Value.pointer (some (adl.add (q * 7))):=hr.got 16 _ (by decide) (hall ⟨16,.data⟩ (by simp) rfl) rfl;rw [gdg] at e0;obtain ⟨q0,q1,q2,q3,q4,q5,q6⟩:=(HC11 lab' w' hr.mv).facts;exact wpOp_run (v:=Value.agg #[.int .i64 kx,.int .i64 nx,.float .f64 fx,.bool bxx,.string sx,.slice ax mx ccx,.slice ay my ccy]) (w2:=w') rfl rfl (by simp [execOp,Act.eval,go_sem,e0,q0,q1,q2,q3,q4,q5,q6]) ⟨lab',hr.plain hL (show 200≤211 by omega) 17 (by decide) _ rfl (fun e=>absurd e (by decide)) (fun e=>absurd e (by decide))⟩
            | 18,rfl =>
             have e0:a'.tmps.getD 170 undef=Value.agg #[.int .i64 kx,.int .i64 nx,.float .f64 fx,.bool bxx,.string sx,.slice ax mx ccx,.slice ay my ccy]:=hr.got 17 _ (by decide) (hall ⟨17,.data⟩ (by simp) rfl) rfl;rw [gdg] at e0;exact wpOp_run (v:=.slice (some ⟨w'.heap.size,0,none⟩) 1 1) (w2:=w'.alloc (.cells #[.int .i64 kx,.int .i64 nx,.float .f64 fx,.bool bxx,.string sx,.slice ax mx ccx,.slice ay my ccy] 26)) rfl rfl (by simp [execOp,Act.eval,go_sem,e0]) ⟨lab'.ext w'.heap.size 45,(hr.grow (Mv.alloc _ _ _ _)).slot hL (show 200≤211 by omega) 18 (by decide) _ hf (fun e=>absurd e (by decide)) (fun _=>⟨_,rfl,heap_alloc_new w' _,Lab.ext_ge (Nat.le_refl _)⟩) (fun e=>absurd e (by decide)) (fun e=>absurd e (by decide))⟩
            | 19,rfl =>
             have h7:=hall ⟨18,.data⟩ (by simp) rfl;have h5t:L.getD 12 false=true:=hall ⟨12,.data⟩ (by simp) rfl;have hsf:L.getD 25 false=false:=by
              cases hc:L.getD 25 false with
              | false=>rfl
              | true=>rw [hr.ord.2.2.1 hc] at hf;cases hf
             obtain ⟨g,e0,hg⟩:=hr.g18 h7;rw [gdg] at e0;have e1:a'.tmps.getD 165 undef=va:=hr.got 12 _ (by decide) (hall ⟨12,.data⟩ (by simp) rfl) rfl;rw [gdg] at e1;have hrw:=hr.r2;rw [if_neg (by rw [hf];decide)] at hrw;obtain ⟨i0,hi0,hz0,hz1,hz2⟩:=info_parts info26z;obtain ⟨gg,cap2,w2,hrun,hown2,hg2,hat2,hlt2⟩:=run_append_lies (P:=Tryz.prog) w' 24 24 0 26 i0 _ 7 96 Tryz.underlying24 hi0 hz0 hz1 hz2 rfl (by omega) va W10.nv (W10.vals) hrw.1
              ⟨g,0,none⟩ 1 1 [.int .i64 kx,.int .i64 nx,.float .f64 fx,.bool bxx,.string sx,.slice ax mx ccx,.slice ay my ccy] (by rfl) (World.news_of_block (cs:=#[.int .i64 kx,.int .i64 nx,.float .f64 fx,.bool bxx,.string sx,.slice ax mx ccx,.slice ay my ccy]) (t:=26) (fr:=(0,0)) hg.1) (by simp;exact ⟨rfl,rfl,rfl,rfl,rfl,rfl,rfl⟩)
              (by omega) (by simp only [maxLen];omega) (by omega) (Nat.zero_le _) w'.heap.size rfl
             rw [appX_eq] at hrun;have m1:Mv (·=42) w' lab' w2 (lab'.ext w'.heap.size 42):=Mv.grown hg2 lab' 42 (fun x hx=>hrw.2 x hx);have hrw2:Rw 0 42 (lab'.ext w'.heap.size 42) w2 26 7 (.slice (some ⟨gg,0,none⟩) (W10.nv + 1) cap2) (W10.nv + 1) (W10.vals ++ [.int .i64 kx,.int .i64 nx,.float .f64 fx,.bool bxx,.string sx,.slice ax mx ccx,.slice ay my ccy]):=by
              refine ⟨hown2,fun x hx=>?_⟩;simp only [Value.ownBlock,Option.some.injEq] at hx;subst hx;rcases hat2 with e | e
              ·have:=hrw.own_lab gg e;rw [Lab.ext_lt this.2.2];exact this.1
              ·rw [e];exact Lab.ext_ge (Nat.le_refl _)
             exact wpOp_run (v:=.slice (some ⟨gg,0,none⟩) (W10.nv + 1) cap2) (w2:=w2) rfl rfl (by simp [Act.eval,go_sem,e0,e1];rw [hrun];rfl) ⟨_,hr.app2 hL (show 200≤211 by omega) m1 h5t hsf _ hrw2⟩
            | 20,rfl =>
             have e0:a'.tmps.getD 153 undef=Value.pointer (some ⟨b,0,none⟩):=hr.got 0 _ (by decide) (hall ⟨0,.data⟩ (by simp) rfl) rfl;rw [gdg] at e0;exact wpOp_run (v:=Value.pointer (some ⟨b,0,none⟩)) (w2:=w') rfl rfl (by simp [execOp,Act.eval,go_sem,e0]) ⟨lab',hr.plain hL (show 200≤211 by omega) 20 (by decide) _ rfl (fun e=>absurd e (by decide)) (fun e=>absurd e (by decide))⟩
            | 21,rfl =>
             have e0:a'.tmps.getD 173 undef=Value.pointer (some ⟨b,0,none⟩):=hr.got 20 _ (by decide) (hall ⟨20,.data⟩ (by simp) rfl) rfl;rw [gdg] at e0;exact wpOp_run (v:=Value.pointer (some ⟨b,4,none⟩)) (w2:=w') rfl rfl (by simp [execOp,Act.eval,go_sem,e0]) ⟨lab',hr.plain hL (show 200≤211 by omega) 21 (by decide) _ rfl (fun e=>absurd e (by decide)) (fun e=>absurd e (by decide))⟩
            | 22,rfl =>
             have h8t:L.getD 8 false=true:=hall ⟨8,.data⟩ (by simp) rfl;have e0:a'.tmps.getD 174 undef=Value.pointer (some ⟨b,4,none⟩):=hr.got 21 _ (by decide) (hall ⟨21,.data⟩ (by simp) rfl) rfl;rw [gdg] at e0;have hrw:=hr.r1;rw [if_pos h8t] at hrw;obtain ⟨A,cc,e1⟩:=hrw.shape;have hst:=hr.store4 hL h8t undef;rw [e1] at hst;rw [gdg] at e1;have q:=hr.cl.cell 4;have fz:=hr.cl.free 4;obtain ⟨old,q'⟩:∃ old,w'.cell? ⟨b,4,none⟩=some old:=⟨_,q⟩;exact wpOp_skip (w2:=w'.setCell ⟨b,4,none⟩ _) rfl rfl (by simp [execOp,Act.eval,go_sem,e0,e1,q',fz]) ⟨lab',hst⟩
            | 23,rfl =>
             have e0:a'.tmps.getD 154 undef=Value.pointer (some ⟨b,0,none⟩):=hr.got 1 _ (by decide) (hall ⟨1,.data⟩ (by simp) rfl) rfl;rw [gdg] at e0;exact wpOp_run (v:=Value.pointer (some ⟨b,0,none⟩)) (w2:=w') rfl rfl (by simp [execOp,Act.eval,go_sem,e0]) ⟨lab',hr.plain hL (show 200≤211 by omega) 23 (by decide) _ rfl (fun e=>absurd e (by decide)) (fun e=>absurd e (by decide))⟩
            | 24,rfl =>
             have e0:a'.tmps.getD 175 undef=Value.pointer (some ⟨b,0,none⟩):=hr.got 23 _ (by decide) (hall ⟨23,.data⟩ (by simp) rfl) rfl;rw [gdg] at e0;exact wpOp_run (v:=Value.pointer (some ⟨b,5,none⟩)) (w2:=w') rfl rfl (by simp [execOp,Act.eval,go_sem,e0]) ⟨lab',hr.plain hL (show 200≤211 by omega) 24 (by decide) _ rfl (fun e=>absurd e (by decide)) (fun e=>absurd e (by decide))⟩
            | 25,rfl =>
             have h8t:L.getD 19 false=true:=hall ⟨19,.data⟩ (by simp) rfl;have e0:a'.tmps.getD 176 undef=Value.pointer (some ⟨b,5,none⟩):=hr.got 24 _ (by decide) (hall ⟨24,.data⟩ (by simp) rfl) rfl;rw [gdg] at e0;have hrw:=hr.r2;rw [if_pos h8t] at hrw;obtain ⟨A,cc,e1⟩:=hrw.shape;have hst:=hr.store5 hL h8t undef;rw [e1] at hst;rw [gdg] at e1;have q:=hr.cl.cell 5;have fz:=hr.cl.free 5;obtain ⟨old,q'⟩:∃ old,w'.cell? ⟨b,5,none⟩=some old:=⟨_,q⟩;exact wpOp_skip (w2:=w'.setCell ⟨b,5,none⟩ _) rfl rfl (by simp [execOp,Act.eval,go_sem,e0,e1,q',fz]) ⟨lab',hst⟩
           ·intro u lab' w' hu hW hm
            match u,hu with
            | [y153,y154,y155,y156,y157,y158,y159,y160,y161,y162,y163,y164,y165,y166,y167,y168,y169,y170,y171,y172,y173,y174,y175,y176],_ =>
             have hvo:VarOk { W10 with known:=W10.known ++ [k],nv:=W10.nv + 1,vals:=W10.vals ++ [.int .i64 kx,.int .i64 nx,.float .f64 fx,.bool bxx,.string sx,.slice ax mx ccx,.slice ay my ccy] } (kq ++ [x]):=by
              obtain ⟨⟨cs,hcs,hkv⟩,hvn,hvk,hvb⟩:=H10.out.2.2;refine ⟨⟨cs ++ [ndC kx nx fx bxx sx (.slice ax mx ccx) (.slice ay my ccy)],?_,hkv.app (NdV.kvc H9.out.2.2.2.2.2.2.2.1)⟩,?_,?_,?_⟩
              ·show W10.vals ++ _=_
               rw [hcs];simp [flat,ndC]
              ·show W10.nv + 1=_
               rw [hvn,List.length_append];rfl
              ·show (W10.known ++ [k]).length=_
               rw [List.length_append,List.length_append,hvk];rfl
              ·intro y hy;have hy':y ∈ W10.known ++ [k]:=hy;rcases List.mem_append.1 hy' with hy' | hy'
               ·exact hvb y hy'
               ·rw [List.mem_singleton.1 hy'];exact ⟨HTB.out.2,hk20⟩
             have HX9:=Lib.hid (aI hW (aI hvo (aI (H11.out.2.1.mv hm (by decide) (by decide)) (H11.out.2.2.trans hm (fun y h=>by
              rcases h with h | h | h
              ·exact .inl h
              ·exact .inr (.inr (.inl ⟨HTB.out.1,.inl h⟩))
              ·exact .inr (.inr (.inl ⟨HTB.out.1,.inr h⟩)))))))
             simp only [List.take_succ_cons,List.take_zero,List.drop_succ_cons,List.drop_zero,List.cons_append,List.nil_append];clear hx11 hW hm hvo HB11 HC11;go_wp2_with fail;go_meet
             case rel=>exact ⟨_,kq ++ [x],lab',HX9.out.1,⟨rfl,rfl,rfl,rfl⟩,rfl,HX9.out.2.1,.inr ⟨HTB.out.1,rfl,rfl⟩,HX9.out.2.2.1,HX9.out.2.2.2⟩
         case rest =>
          obtain ⟨W11,k11,lab12,h12,hsm,hi11,hv11,hk11,hpl12,m12⟩:=hcut;have mA:Mv (fun _=>False) wc lab12 (wc.alloc (.cells endRow 9)) (lab12.ext wc.heap.size 45):=Mv.alloc0 _ _ _ _;obtain ⟨lab13,hlab13⟩:∃ x,x=lab12.ext wc.heap.size 45:=⟨_,rfl⟩;rw [← hlab13] at mA;have hrl:lab13 wc.heap.size=45:=by rw [hlab13];exact Lab.ext_ge (Nat.le_refl _)
          have hA:=Lib.hid (aI (h12.mv mA (fun _ _ h=>h)) (aI (hpl12.mv mA (fun h=>h) (fun h=>h)) (m12.trans mA (fun _ h=>h.elim))));have hpk:=Wrote.pick W11 7;have hplt:=pick_lt W11 7 (by decide);have hbn:∀ o,(wc.alloc o).heap.size=wc.heap.size + 1:=fun o=>World.size_alloc _ _
          have htt:W11.text=W10.text:=hsm.text;have hlnx:W11.line=W10.line:=hsm.line;have H12:=Lib.hid (aI hsm (aI hi11 (aI hv11 hk11)));clear h12 hpl12 mA hlab13 hsm hi11 hv11 hk11 m12;go_wp2_with fail;refine (pick_c hA.out.1 7 (by decide) (by decide)).mono ?_;rintro e w13 ⟨rfl,h13,m13⟩;obtain ⟨a7,W12,hj7⟩:∃ a7 W12,W11.pick 7=(a7,W12):=⟨_,_,rfl⟩;rw [hj7] at h13 hpk hplt ⊢;simp only at h13 hpk hplt ⊢;have hrow:w13.heap[wc.heap.size]?=some (.cells endRow 9 (0,0)):=by
           rw [m13.block wc.heap.size (by rw [hbn];omega) (by rw [hrl];decide)];exact heap_alloc_new wc _
          have ct:=h13.cText;have ht13:W12.text=W10.text:=by rw [hpk.text,htt];exact ByteArray.append_empty
          rw [ht13] at ct;have htpos:0 < W10.text.size:=by
           have h1:=(sep_first qs hqs).1;have h2:(Kt ++ sepT qs).size=Kt.size + (sepT qs).size:=bsa;omega
          obtain ⟨mz,hmz⟩:∃ mz,W10.text.size=mz + 1:=⟨W10.text.size - 1,by omega⟩;have hmlt:mz < W10.text.size:=by omega
          obtain ⟨lb,hlb⟩:∃ lb,(W10.text[mz]'hmlt)=lb:=⟨_,rfl⟩;have hidx:(mz:Int) < (W10.text.size:Int):=by omega
          have hln12:W12.line≤W10.line:=by have:=hpk.line_le;have h0:(⟨#[]⟩:ByteArray).size=0:=rfl;omega
          have hlast:0 < V.size→byteAt V (V.size - 1)=lb.toNat:=fun hv=>by
           have ht:=H10.out.1.text;rw [← hlb,byteAt_get,ht];have:=byteAt_app_right W9.text V (V.size - 1);rw [← this,show W9.text.size + (V.size - 1)=mz from by omega]
          have HLB:=Lib.hid hlast;have b5:∀ nq,(w13.drewN nq).cell? ⟨w.heap.size,5,none⟩=some (.slice (some adk) ks.length c1):=fun nq=>by
           have h1:=(((H9.out.2.2.2.2.2.2.1.mv hA.out.2.2 (EMg45 _ _)).mv m13 (by decide)).mv ((Mv.refl (fun _=>False) w13 lab13).drewN nq) (fun h=>h)).cell 5;subst hbx;exact h1
          have hin:top=false→k ∈ W.inner:=fun e=>by
           refine HI.out.2.2.2.1 (fun e2=>?_) k (List.mem_of_getElem? hk);have:=HP.out.2;rw [e,e2] at this;cases this
          have hfin:∀ (E:ByteArray),E.size≤8→(∀ nl V',V=V' ++ nlS nl→∃ e,e < 7∧(nl=true→e=3)∧V ++ E=V' ++ endR e)→∀ nq w',WAt lab13 w' b (W12.put E)→Mv (·=40) (w13.drewN nq) lab13 w' lab13→EntI lab w b w.heap.size bx W kj ks l path ln pl P0 top (q + 1) w':=fun E hE hVE nq w' hw' m'=>by
           have mD:Mv (fun y=>y=40) (wc.alloc (.cells endRow 9)) lab13 w' lab13:=(m13.drewN nq).trans m' (fun _ h=>h);have mE:=hA.out.2.2.trans mD (M:=EMg top pl) (fun _ h=>.inl h);exact EntI.next hk hx hln hqs hk20 hbl hksz hE HQ.out.2.1 hknl HQ.out.2.2.2.1 hT hU hpn HQ.out.2.2.1.kn HQ.out.2.2.2.2.1 H6.out.1 H6.out.2 H7.out.2.1 HS9.out HB9.out H10.out.1 hV10 hU10 hP10 H10.out.2.1 H12.out.1 H12.out.2.1 H12.out.2.2.1 H12.out.2.2.2 hpk hin hVE hw' (hA.out.2.1.mv mD (by decide) (by decide)) (H9.out.2.2.2.2.2.2.1.mv mE (EMg45 _ _)) (H9.out.2.2.2.2.2.1.trans mE (fun _ h=>h))
          have HFI:=Lib.hid hfin;have HD:Hid (∀ nq,WAt lab13 (w13.drewN nq) b W12):=Lib.hid fun nq=>h13.mv ((Mv.refl (fun _=>False) w13 lab13).drewN nq) (fun _ _ h=>h)
          have c00:∀ nq,(w13.drewN nq).cell? ⟨b,0,none⟩=some (.string W10.text):=fun _=>ct
          have hszT:W12.text.size=W10.text.size:=by rw [ht13]
          have htb:W10.text.size≤800000000:=by omega
          have hlb12:W12.line≤800000000:=by omega
          have hEs:∀ e,e < 7→(endS e).size≤8:=fun e he=>by
           match e,he with
           | 0,_=>decide
           | 1,_=>decide
           | 2,_=>decide
           | 3,_=>decide
           | 4,_=>decide
           | 5,_=>decide
           | 6,_=>decide
          have hmeas:ks.length - (q + 1) < ks.length - q:=by omega
          have hq2:q + 1≤ks.length:=by omega
          have hqw:IntKind.i64.wrap ((q:Int) + 1)=((q + 1:Nat):Int):=wrapP q (by clear htpos;omega);obtain ⟨ml,hml⟩:∃ m,ks.length=m + 1:=⟨ks.length - 1,by omega⟩;obtain ⟨hlw2,hlw⟩:=wrapM ks.length ml (by omega) hml;have hmzb:mz≤1000000000:=by omega
          have hmzc:W10.text.size≤1000000000:=by omega
          have hT12:W12.text.size≤1000000000:=by omega
          have hL12:W12.line≤1000000000:=by omega
          clear hfin h13 m13 hA hlast hin hml hszT hsz10 hsz9 hsz7 hszq htpos hft hfl hlnx htt ht13 hln12 hln10 hln9 hln7 hlnq htb hlb12;clear hks20 hjk hf hwk c3' hk hx hknl hT hU hpn hl0 hl2 q5 hk20 hkn1000 hwt hwl htx hlx hbl hpl0' hv0 hqs hKs hseps hksz hV10 hU10 hP10 hkn10 hnv10 hpath hpl0 hd1 hd0 hln hpk hj7 hbn hrl ct hq1l3 hmeas;by_cases hl10:lb.toNat=10
          ·have e10:((lb.toNat:Int) == 10)=true:=beq_iff_eq.2 (by omega);go_wp2_with fail;go_quiet (fail);have q7:(w13.drewN nq).cell? ⟨wc.heap.size,0,none⟩=some (.string (endS 0)):=(blk_cell hrow 0).trans (end_get 0 (by decide));have hes:(endS 0).size≤8:=hEs 0 (by decide);go_wp2_with fail;refine (put_c (HD.out nq) (endS 0) (by omega) hT12 hL12).mono ?_;rintro e w14 ⟨rfl,h14,m14⟩;have hF:=HFI.out (endS 0) hes (endVE0 V) nq w14 h14 m14;have HF:=Lib.hid hF;clear hF h14 m14;go_wp2;go_roundw
           case rel=>exact ⟨q + 1,by go_num,hq2,HF.out⟩
           case measure=>simp [RowKit.intOf];omega
          ·have e10:((lb.toNat:Int) == 10)=false:=bqf (by omega);have HNE:Hid (0 < V.size→byteAt V (V.size - 1) ≠ 10):=Lib.hid fun h e=>hl10 ((HLB.out h).symm.trans e)
           by_cases hql:q=ml
           ·have d1:((q:Int) == (ml:Int))=true:=beq_iff_eq.2 (by omega);have d2:(q == ml)=true:=beq_iff_eq.2 hql;have d3:decide (q=ml)=true:=decide_eq_true hql;clear hql;by_cases ha6:a7=6
            ·have e6:((a7:Int) == 6)=true:=beq_iff_eq.2 (by omega);clear ha6;go_wp2_with fail;go_quiet (fail);have b5':=b5 nq;have q7:(w13.drewN nq).cell? ⟨wc.heap.size,5,none⟩=some (.string (endS 5)):=(blk_cell hrow 5).trans (end_get 5 (by decide));have hes:(endS 5).size≤8:=hEs 5 (by decide);go_wp2_with fail;refine (put_c (HD.out nq) (endS 5) (by omega) hT12 hL12).mono ?_;rintro e w14 ⟨rfl,h14,m14⟩;have hF:=HFI.out (endS 5) hes (endVE 5 (by decide) V HNE.out) nq w14 h14 m14;have HF:=Lib.hid hF;clear hF h14 m14;go_wp2;go_roundw
             case rel=>exact ⟨q + 1,by go_num,hq2,HF.out⟩
             case measure=>simp [RowKit.intOf];omega
            ·have e6:((a7:Int) == 6)=false:=bqf (by omega);have ha7:(a7:Int) < 7:=by omega
             clear ha6;go_wp2_with fail;go_quiet (fail);have b5':=b5 nq;have q7:(w13.drewN nq).cell? ⟨wc.heap.size,a7,none⟩=some (.string (endS a7)):=(blk_cell hrow a7).trans (end_get a7 hplt);have hes:(endS a7).size≤8:=hEs a7 hplt;go_wp2_with fail;refine (put_c (HD.out nq) (endS a7) (by omega) hT12 hL12).mono ?_;rintro e w14 ⟨rfl,h14,m14⟩;have hF:=HFI.out (endS a7) hes (endVE a7 hplt V HNE.out) nq w14 h14 m14;have HF:=Lib.hid hF;clear hF h14 m14;go_wp2;go_roundw
             case rel=>exact ⟨q + 1,by go_num,hq2,HF.out⟩
             case measure=>simp [RowKit.intOf];omega
           ·have d1:((q:Int) == (ml:Int))=false:=bqf (by omega);have d2:(q == ml)=false:=bqf hql;have d3:decide (q=ml)=false:=decide_eq_false hql;have ha7:(a7:Int) < 7:=by omega
            clear hql;go_wp2_with fail;go_quiet (fail);have b5':=b5 nq;have q7:(w13.drewN nq).cell? ⟨wc.heap.size,a7,none⟩=some (.string (endS a7)):=(blk_cell hrow a7).trans (end_get a7 hplt);have hes:(endS a7).size≤8:=hEs a7 hplt;go_wp2_with fail;refine (put_c (HD.out nq) (endS a7) (by omega) hT12 hL12).mono ?_;rintro e w14 ⟨rfl,h14,m14⟩;have hF:=HFI.out (endS a7) hes (endVE a7 hplt V HNE.out) nq w14 h14 m14;have HF:=Lib.hid hF;clear hF h14 m14;go_wp2;go_roundw
            case rel=>exact ⟨q + 1,by go_num,hq2,HF.out⟩
            case measure=>simp [RowKit.intOf];omega
end
end Go.Cf
