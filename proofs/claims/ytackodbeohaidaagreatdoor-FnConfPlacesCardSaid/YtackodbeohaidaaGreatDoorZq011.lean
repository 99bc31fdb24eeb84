/-
  Texts joined: Il Ib Lg Lh Ra Mo Gd Gr Gv Iu Gm.
-/
import Derived.Test.YtackodbeohaidaaGreatDoorZq07
import Derived.Test.YtackodbeohaidaaGreatDoorZq08
import Derived.Test.YtackodbeohaidaaGreatDoorZq09
import Derived.Test.YtackodbeohaidaaGreatDoorZq010
namespace Go.Cf
open Go.RowKit Go.Conc Go.Proofs
attribute [local go_sem ↓] appX_eq
attribute [local go_sem] run_store_flt
def JV.kids:JV→List JV
 | .arr l=>l
 | .map _ l=>l
 | _=>[]
def JV.keys:JV→List ByteArray
 | .map ks _=>ks
 | _=>[]
def JV.kind:JV→Int
 | .int _=>1
 | .num _=>2
 | .tr _=>3
 | .txt _=>4
 | .arr _=>5
 | .map _ _=>6
mutual
theorem JV.induct {P:JV→Prop} (h:∀ j:JV,(∀ x ∈ j.kids,P x)→P j):∀ j:JV,P j
 | .int n=>h (.int n) (fun x hx=>by cases hx)
 | .num n=>h (.num n) (fun x hx=>by cases hx)
 | .tr n=>h (.tr n) (fun x hx=>by cases hx)
 | .txt n=>h (.txt n) (fun x hx=>by cases hx)
 | .arr l=>h (.arr l) (JV.inducts h l)
 | .map ks l=>h (.map ks l) (JV.inducts h l)
theorem JV.inducts {P:JV→Prop} (h:∀ j:JV,(∀ x ∈ j.kids,P x)→P j):∀ l:List JV,∀ x ∈ l,P x
 | [],x,hx=>by cases hx
 | y :: r,x,hx=>by
  rcases List.mem_cons.1 hx with e | hx
  ·rw [e];exact JV.induct h y
  ·exact JV.inducts h r x hx
end
theorem innK_eq (j:JV):innK j=j.keys ++ innKs j.kids:=by
 cases j <;> simp [innK,innKs,JV.keys,JV.kids]
section
variable {ℓ ℓ2:Nat} {M:Nat→Prop} {lab lab1:Lab} {w w1:World} {j:JV} {c:Array Value}
theorem NdV.view (h:NdV ℓ lab w j c):∃ n f b s a1 c1 a2 c2,c=ndC j.kind n f b s (.slice a1 j.keys.length c1) (.slice a2 j.kids.length c2)∧KsIn ℓ lab w a1 j.keys∧NdVs ℓ lab w a2 0 j.kids:=by
 have k0:∀ a,KsIn ℓ lab w a []:=fun a i k hk=>by simp at hk
 cases j with
 | int n =>
  simp only [NdV] at h;obtain ⟨f,a1,c1,a2,c2,hf,rfl⟩:=h;exact ⟨_,_,_,_,_,_,_,_,rfl,k0 _,by simp only [JV.kids,NdVs]⟩
 | num f =>
  simp only [NdV] at h;obtain ⟨a1,c1,a2,c2,rfl⟩:=h;exact ⟨_,_,_,_,_,_,_,_,rfl,k0 _,by simp only [JV.kids,NdVs]⟩
 | tr b =>
  simp only [NdV] at h;obtain ⟨f,a1,c1,a2,c2,hf,rfl⟩:=h;exact ⟨_,_,_,_,_,_,_,_,rfl,k0 _,by simp only [JV.kids,NdVs]⟩
 | txt t =>
  simp only [NdV] at h;obtain ⟨f,a1,c1,a2,c2,hf,rfl⟩:=h;exact ⟨_,_,_,_,_,_,_,_,rfl,k0 _,by simp only [JV.kids,NdVs]⟩
 | arr l =>
  simp only [NdV] at h;obtain ⟨f,a1,c1,a2,c2,hf,rfl,hl⟩:=h;exact ⟨_,_,_,_,_,_,_,_,rfl,k0 _,hl⟩
 | map ks l =>
  simp only [NdV] at h;obtain ⟨f,a1,c1,a2,c2,hf,rfl,hk,hl⟩:=h;exact ⟨_,_,_,_,_,_,_,_,rfl,hk,hl⟩
theorem rowNews {a:Option Addr} {n c:Nat} {ks:List ByteArray} (h:Rw 0 ℓ lab w 9 1 (.slice a n c) ks.length (ks.map .string)):NewsIn w a ks:=by
 intro i k hk;have hi:=(List.getElem?_eq_some_iff.1 hk).1;have hx:=h.1;obtain ⟨_,⟨h0,hn0⟩ | ⟨g,cap,cur,hv,_⟩⟩:=h.1
 ·omega
 ·cases hv
  refine ⟨_,rfl,?_⟩;have h2:=hx.cellAt i (by omega);rw [List.getElem?_map,hk] at h2;have e:(⟨g,0,none⟩:Addr).add i=⟨g,i,none⟩:=by
   unfold Addr.add
   split
   ·rename_i h;subst h;rfl
   ·simp
  rw [e,h2];rfl
theorem KsIn.news {a:Option Addr} {ks:List ByteArray} (h:KsIn ℓ lab w a ks):NewsIn w a ks:=fun i k hk=>by
 obtain ⟨ad,h1,_,h2⟩:=h i k hk;exact ⟨ad,h1,h2⟩
def JS (j:JV):Prop:=∃ d,JT d j
theorem JS.kids (h:JS j):j.kids.length≤8∧j.keys.length≤8∧(∀ k ∈ j.keys,k.size≤20)∧∀ x ∈ j.kids,JS x:=by
 obtain ⟨d,h⟩:=h
 cases d with
 | zero=>simp only [JT] at h
 | succ d =>
  cases j with
  | arr l =>
   simp only [JT] at h;exact ⟨h.1,by simp [JV.keys],by simp [JV.keys],fun x hx=>⟨d,h.2 x hx⟩⟩
  | map ks l =>
   simp only [JT] at h;exact ⟨h.2.1,h.1,h.2.2.1,fun x hx=>⟨d,h.2.2.2 x hx⟩⟩
  | _=>exact ⟨by simp [JV.kids],by simp [JV.keys],by simp [JV.keys],by simp [JV.kids]⟩
def InnP (lab:Lab) (w:World) (ks:List ByteArray) (e:Ending) (w':World):Prop:=∃ v lab',e=.returned v∧Rw 0 48 lab' w' 9 1 v ks.length (ks.map .string)∧Mv (fun _=>False) w lab w' lab'
def InnC (j:JV):Prop:=∀ (ℓ:Nat) (lab:Lab) (w:World) (c:Array Value),NdV ℓ lab w j c→JS j→(innK j).length≤1000000→Calls Tryz.prog 26 #[.agg c] w (InnP lab w (innK j))
theorem innKs_len {l:List JV} {q:Nat} {x:JV} (h:l[q]?=some x):(innKs (l.take q)).length + (innK x).length≤(innKs l).length:=by
 have h1:=innKs_take h;have h2:∀ (a b:List JV),(innKs (a ++ b)).length=(innKs a).length + (innKs b).length:=by
  intro a
  induction a with
  | nil=>intro b;simp [innKs]
  | cons x r ih=>intro b;simp [innKs,ih];omega
 have h3:=h2 (l.take (q + 1)) (l.drop (q + 1));rw [List.take_append_drop,h1,List.length_append] at h3;omega
structure InnI (w:World) (lab:Lab) (s:Value) (ks:List ByteArray) (wr:World) (labr:Lab):Prop where
 row:Rw 0 48 labr wr 9 1 s ks.length (ks.map .string)
 mv:Mv (fun _=>False) w lab wr labr
 own:∀ k,s.ownBlock=some k→w.heap.size≤k
theorem Mv.alloc0 (w:World) (lab:Lab) (o:Obj) (ℓ:Nat):Mv (fun _=>False) w lab (w.alloc o) (lab.ext w.heap.size ℓ):=Mv.alloc _ _ _ _
theorem InnI.app {s:Value} {ks ks2:List ByteArray} {wr:World} {labr:Lab} {a:Option Addr} {c:Nat} (h:InnI w lab s ks wr labr) (hn:NewsIn wr a ks2) (hmax:ks.length + ks2.length≤100000000) :
  ∃ v' w' lab' A m C,(AppX #[23,23] 23 #[s,.slice a ks2.length c]).run Tryz.prog wr=.ok v' w'∧InnI w lab v' (ks ++ ks2) w' lab'∧v'=.slice A m C:=by
 obtain ⟨v',w',hrun,hr,hg,hat,A,C,hs⟩:=app_str (c:=c) h.row hn hmax;refine ⟨v',w',_,A,_,C,hrun,⟨by rw [List.length_append,List.map_append];exact hr,?_,fun k hk=>?_⟩,hs⟩
 ·cases ho:s.ownBlock with
  | none =>
   rw [ho] at hg;exact h.mv.trans (Mv.grown hg labr 48 (fun k hk=>by cases hk)) (fun _ h=>h)
  | some r =>
   rw [ho] at hg;exact h.mv.grown_new hg (h.own r ho) 48
 ·rcases hat with e | e
  ·exact h.own k (by rw [← e];exact hk)
  ·rw [e] at hk
   cases hk
   exact h.mv.size
theorem InnI.more {s:Value} {ks:List ByteArray} {wr w2:World} {labr lab2:Lab} (h:InnI w lab s ks wr labr) (m:Mv (fun _=>False) wr labr w2 lab2):InnI w lab s ks w2 lab2:=⟨h.row.mv m (fun h=>h),h.mv.trans m (fun _ h=>h),h.own⟩
set_option maxRecDepth 100000 in
set_option maxHeartbeats 4000000 in
theorem inner_at (j:JV) (ih:∀ x ∈ j.kids,InnC x):InnC j:=by
 intro ℓ lab w c h hjs hmax;rw [innK_eq] at hmax ⊢;obtain ⟨hlen,hkl,-,hjk⟩:=hjs.kids;clear hjs;obtain ⟨n,f,b,s,a1,c1,a2,c2,rfl,hk,hv⟩:=h.view;clear h;rw [List.length_append] at hmax;generalize j.kind=kd at *;generalize j.keys=keys at *;generalize j.kids=kids at *;obtain ⟨wb,hwb⟩:∃ x,x=w.alloc (.cells (ndC kd n f b s (.slice a1 keys.length c1) (.slice a2 kids.length c2)) 26):=⟨_,rfl⟩;have mb:Mv (fun _=>False) w lab wb (lab.ext w.heap.size 45):=by rw [hwb];exact Mv.alloc0 _ _ _ _
 have hbx:Cl 45 (lab.ext w.heap.size 45) wb w.heap.size (ndC kd n f b s (.slice a1 keys.length c1) (.slice a2 kids.length c2)) 26:=by rw [hwb];exact Cl.alloc _ _ _ _ _
 obtain ⟨labb,hlabb⟩:∃ x,x=lab.ext w.heap.size 45:=⟨_,rfl⟩;rw [← hlabb] at mb hbx;have h0:InnI wb labb (.slice none 0 0) [] wb labb:=⟨Rw.none _ _ _ _ _,Mv.refl _ _ _,fun k hk=>by cases hk⟩;obtain ⟨v1,w1,lab1,A1,m1,C1,hrun1,hI1,rfl⟩:=h0.app (c:=c1) (hk.mv mb (fun h=>h)).news (by simp;omega);simp only [List.nil_append] at hI1;have q5:wb.cell? ⟨w.heap.size,5,none⟩=some (.slice a1 keys.length c1):=hbx.cell 5;have q6:w1.cell? ⟨w.heap.size,6,none⟩=some (.slice a2 kids.length c2):=(hbx.mv hI1.mv (fun h=>h)).cell 6;have HK:=Lib.hid hk;have HV:=Lib.hid hv;have HI:=Lib.hid ih;have HI1:=Lib.hid hI1;have HM:=Lib.hid mb;clear hk hv ih h0 hI1 mb hbx hlabb;unfold ndC at *;go_enter Tryz.func26,Tryz.ntmps26;go_upto_region 1 with fail
 rw [← hwb];clear hwb;go_wp2_with fail;go_loopw [3,12] (fun s i wr=>∃ (q:Nat) (labr:Lab) (A:Option Addr) (m C:Nat),i=.int .i64 q∧q≤kids.length∧s=.slice A m C∧InnI wb labb s (keys ++ innKs (kids.take q)) wr labr) (fun _ i _=>kids.length - (RowKit.intOf i).toNat)
 case atStart=>exact ⟨0,lab1,A1,m1,C1,rfl,Nat.zero_le _,rfl,by simpa [innKs] using HI1.out⟩
 case round =>
  obtain ⟨q,labr,A,m,C,rfl,hq,rfl,hI⟩:=hrel;by_cases hlt:q < kids.length
  ·have hq1:(q:Int) < (kids.length:Int):=by omega
   have hq0:(0:Int)≤(q:Int):=Int.natCast_nonneg _;obtain ⟨x,hx⟩:∃ x,kids[q]?=some x:=⟨_,List.getElem?_eq_getElem hlt⟩;obtain ⟨ad,cx,rfl,hl,hc7,hxv⟩:=HV.out.get hx;rw [Nat.zero_add] at hc7;have hil:=innKs_len hx;have hM0:=HM.out.trans hI.mv (fun _ h=>h);have hxr:=NdV.mv hM0 (fun h=>h) x hxv;obtain ⟨kx,nx,fx,bx,sx,ax,mx,ccx,ay,my,ccy,rfl⟩:=hxv.shape;have hc8:=cell7.mv hc7 hM0 (fun h=>h);obtain ⟨r0,r1,r2,r3,r4,r5,r6⟩:=hc8.facts;have mA:=Mv.alloc0 wr labr (.cells (ndC kx nx fx bx sx (.slice ax mx ccx) (.slice ay my ccy)) 26) 45;have HC:=Lib.hid (HI.out x (List.mem_of_getElem? hx) ℓ _ _ _ (NdV.mv mA (fun h=>h) x hxr) (hjk x (List.mem_of_getElem? hx)) (by omega));have HJ:=Lib.hid (hI.more mA);clear hxr hM0 hc7 hc8 hxv mA hI;unfold ndC at *;go_wp2_with fail;refine HC.out.mono ?_;rintro e w3 ⟨v3,lab3,rfl,hr3,m3⟩;obtain ⟨A3,C3,rfl⟩:=own_slice hr3.1;obtain ⟨v4,w4,lab4,A4,m4,C4,hrun4,hI4,rfl⟩:=(HJ.out.more m3).app (c:=C3) (rowNews hr3) (by rw [List.length_append];omega);rw [List.append_assoc,← innKs_take hx] at hI4;have HI4:=Lib.hid hI4;clear hI4 hr3 m3;go_wp2;go_roundw
   case rel=>exact ⟨q + 1,lab4,A4,m4,C4,by go_num,by omega,rfl,HI4.out⟩
   case measure=>simp [RowKit.intOf];omega
  ·have hq1:¬ ((q:Int) < (kids.length:Int)):=by omega
   obtain rfl:q=kids.length:=by omega
   rw [List.take_length] at *;have HI4:=Lib.hid hI;clear hI;go_wp2;go_ret;exact ⟨_,labr,rfl,HI4.out.row,HM.out.trans HI4.out.mv (fun _ h=>h)⟩
theorem inner_c:∀ j:JV,InnC j:=JV.induct inner_at
end
end Go.Cf
namespace Go.Cf
open Go.RowKit Go.Conc Go.Proofs
attribute [local go_sem ↓] mk75z mk61
def trueW (l:List UInt8):Prop:=l=[116,114,117,101] ∨ l=[121,101,115] ∨ l=[111,110]
def falseW (l:List UInt8):Prop:=l=[102,97,108,115,101] ∨ l=[110,111] ∨ l=[111,102,102]
section
variable {B:Nat} {lab lab1:Lab} {w w1:World} {K:PK} {X X':PX} {M:Nat→Prop}
end
end Go.Cf
namespace Go.Cf
open Go.RowKit Go.Conc Go.Proofs
section
variable {base:Nat} {S0:Nat→Prop} {w0 w w1:World} {b:Nat} {L L':LX}
set_option maxRecDepth 100000 in
theorem isBool_t (h:At base S0 w0 w b L) (ok:L.Ok) (rdy:L.Rdy) (hk:boolWord L.txt=true) :
  Calls Tryz.prog 201 #[.pointer (some ⟨b,0,none⟩)] w fun e w'=>e=.returned (.bool true)∧At base S0 w0 w' b L:=by
 have c0:=h.c0;have c1:=h.c1;have c2:=h.c2;have hsm:=ok.small;have hpp:=ok.pos;have hst:=rdy.start;have ha:=toList_txt L ok;simp only [boolWord,Bool.or_eq_true,beq_iff_eq] at hk;have hsz:L.txt.size≤140737488355328:=by unfold LX.txt;simp;omega
 obtain ⟨t,ht⟩:∃ t,t=L.txt:=⟨_,rfl⟩;have ht2:L.inp.extract L.start L.pos=t:=ht.symm;rw [← ht] at ha hk hsz;have HA:=Lib.hid ha;have HK:=Lib.hid hk;clear ha ht hk;go_enter Tryz.func201,Tryz.ntmps201;go_wp2;refine wp_still_tail 13 mixed (by kernel_rfl) ?_;simp only [List.take_succ_cons,List.take_zero,List.drop_succ_cons,List.drop_zero]
 repeat still_step
 refine wpStill_nil ?_;go_wp2_with fail;refine (Tryz.strings_ToLower_ascii t _ hsz HA.out).mono ?_;rintro e w1 ⟨rfl,hb⟩;have h1:=At.below (h.drewN 1) hb;clear c0 c1 c2 hb;have hk:=HK.out;rcases hk with ((((hk | hk) | hk) | hk) | hk) | hk
 all_goals rw [hk]
 all_goals go_wp2
 all_goals go_ret
 all_goals exact ⟨rfl,h1⟩
end
section
variable {L:LX}
theorem tve_comma (ok:L.Ok) (hc:L.chr=44):Goes1 94 L L.nxt.ign (plainT 60):=by
 have e_35_831:(((L.chr:Nat):Int) == 35)=false:=bqf (by omega);have e_47_831:(((L.chr:Nat):Int) == 47)=false:=bqf (by omega);have e_0_831:(((L.chr:Nat):Int) == 0)=false:=bqf (by omega);have e_59_831:(((L.chr:Nat):Int) == 59)=false:=bqf (by omega);have e_44_831:(((L.chr:Nat):Int) == 44)=true:=beq_iff_eq.2 (by omega);have e_a:isWS L.chr=false:=by rw [hc];rfl
 have e_b:isNLb L.chr=false:=by rw [hc];rfl
 clear hc;intro base S0 w0 w b h0;go_enter Tryz.func94,Tryz.ntmps94;go_wp2_with fail;refine (next_c h0 ok).mono ?_;rintro e w1 ⟨rfl,h1⟩;go_wp2_with fail;refine (isWS_c _ (chr_lt ok) _).mono ?_;rintro e w' ⟨rfl,rfl⟩;go_wp2_with fail;refine (isNLb_c _ (chr_lt ok) _).mono ?_;rintro e w' ⟨rfl,rfl⟩;go_wp2_with fail;refine (ign_c h1).mono ?_;rintro e w2 ⟨rfl,h2⟩;go_wp2_with fail;go_ret;exact ⟨_,rfl,h2.plain _⟩
theorem bs_sp (ok:L.Ok) (hs:isSp L.chr=true):Goes1 89 L L.nxt (skipT 89):=by
 intro base S0 w0 w b h0;go_enter Tryz.func89,Tryz.ntmps89;go_wp2_with fail;refine (next_c h0 ok).mono ?_;rintro e w1 ⟨rfl,h1⟩;go_wp2_with fail;refine (isSp_c _ (chr_lt ok) _).mono ?_;rintro e w' ⟨rfl,rfl⟩;go_wp2_with fail;refine (skipV_c h1 89).mono ?_;rintro e w2 ⟨rfl,hv⟩;go_wp2_with fail;go_ret;exact ⟨_,rfl,hv⟩
theorem bs_end (ok:L.Ok) (st:List Nat) (n:Nat) (hst:L.stack=st ++ [n]) (hl:st.length≤1000000) (hc:L.chr=125):Goes1 89 L (L.nxt.ign.stk st) (plainT n):=by
 have e_123_831:(((L.chr:Nat):Int) == 123)=false:=bqf (by omega);have e_125_831:(((L.chr:Nat):Int) == 125)=true:=beq_iff_eq.2 (by omega);have e_a:isSp L.chr=false:=by rw [hc];rfl
 clear hc;intro base S0 w0 w b h0;go_enter Tryz.func89,Tryz.ntmps89;go_wp2_with fail;refine (next_c h0 ok).mono ?_;rintro e w1 ⟨rfl,h1⟩;go_wp2_with fail;refine (isSp_c _ (chr_lt ok) _).mono ?_;rintro e w' ⟨rfl,rfl⟩;go_wp2_with fail;refine (ign_c h1).mono ?_;rintro e w2 ⟨rfl,h2⟩;go_wp2_with fail;refine (pop_c st n h2 (by show L.nxt.stack=_;rw [nxt_stack];exact hst) hl).mono ?_;rintro e w3 ⟨rfl,h3⟩;go_wp2_with fail;go_ret;exact ⟨_,rfl,h3.plain _⟩
theorem bs_hash (ok:L.Ok) (hst:L.stack.length≤1000000) (hc:L.chr=35):Goes1 89 L (L.nxt.psh 89) (plainT 90):=by
 have e_123_831:(((L.chr:Nat):Int) == 123)=false:=bqf (by omega);have e_125_831:(((L.chr:Nat):Int) == 125)=false:=bqf (by omega);have e_35_831:(((L.chr:Nat):Int) == 35)=true:=beq_iff_eq.2 (by omega);have e_a:isSp L.chr=false:=by rw [hc];rfl
 clear hc;intro base S0 w0 w b h0;go_enter Tryz.func89,Tryz.ntmps89;go_wp2_with fail;refine (next_c h0 ok).mono ?_;rintro e w1 ⟨rfl,h1⟩;go_wp2_with fail;refine (isSp_c _ (chr_lt ok) _).mono ?_;rintro e w' ⟨rfl,rfl⟩;go_wp2_with fail;refine (push_c h1 89 (by rw [nxt_stack];exact hst)).mono ?_;rintro e w2 ⟨rfl,h2⟩;go_wp2_with fail;go_ret;exact ⟨_,rfl,h2.plain _⟩
theorem bs_slash (ok:L.Ok) (hst:L.stack.length≤1000000) (hc:L.chr=47) (hd:L.nxt.chr=47):Goes1 89 L (L.nxt.nxt.psh 89) (plainT 90):=by
 have e_123_831:(((L.chr:Nat):Int) == 123)=false:=bqf (by omega);have e_125_831:(((L.chr:Nat):Int) == 125)=false:=bqf (by omega);have e_35_831:(((L.chr:Nat):Int) == 35)=false:=bqf (by omega);have e_47_831:(((L.chr:Nat):Int) == 47)=true:=beq_iff_eq.2 (by omega);have e_47_647:(((L.nxt.chr:Nat):Int) == 47)=true:=beq_iff_eq.2 (by omega);have e_a:isSp L.chr=false:=by rw [hc];rfl
 clear hc hd;intro base S0 w0 w b h0;go_enter Tryz.func89,Tryz.ntmps89;go_wp2_with fail;refine (next_c h0 ok).mono ?_;rintro e w1 ⟨rfl,h1⟩;go_wp2_with fail;refine (isSp_c _ (chr_lt ok) _).mono ?_;rintro e w' ⟨rfl,rfl⟩;go_wp2_with fail;refine (next_c h1 ok.nxt).mono ?_;rintro e w2 ⟨rfl,h2⟩;go_wp2_with fail;refine (push_c h2 89 (by rw [nxt_stack,nxt_stack];exact hst)).mono ?_;rintro e w3 ⟨rfl,h3⟩;go_wp2_with fail;go_ret;exact ⟨_,rfl,h3.plain _⟩
theorem bs_key (ok:L.Ok) (hst:L.stack.length≤1000000) (hs:isSp L.chr=false) (h1:L.chr ≠ 123) (h2:L.chr ≠ 35) (h3:L.chr ≠ 47) (h4:L.chr ≠ 0) (h5:L.chr ≠ 125):Goes1 89 L (L.pk.psh 129) (plainT 95):=by
 have e_123_831:(((L.chr:Nat):Int) == 123)=false:=bqf (by omega);have e_35_831:(((L.chr:Nat):Int) == 35)=false:=bqf (by omega);have e_47_831:(((L.chr:Nat):Int) == 47)=false:=bqf (by omega);have e_0_831:(((L.chr:Nat):Int) == 0)=false:=bqf (by omega);have e_125_831:(((L.chr:Nat):Int) == 125)=false:=bqf (by omega);clear h1 h2 h3 h4 h5;intro base S0 w0 w b h0;go_enter Tryz.func89,Tryz.ntmps89;go_wp2_with fail;refine (next_c h0 ok).mono ?_;rintro e w1 ⟨rfl,h1⟩;go_wp2_with fail;refine (isSp_c _ (chr_lt ok) _).mono ?_;rintro e w' ⟨rfl,rfl⟩;go_wp2_with fail;refine (back_c h1 ok.nxt (nxt_width _)).mono ?_;rintro e w2 ⟨rfl,h2⟩;rw [nxt_back] at h2;go_wp2_with fail;refine (push_c h2 129 (by rw [pk_stack];exact hst)).mono ?_;rintro e w3 ⟨rfl,h3⟩;go_wp2_with fail;go_ret;exact ⟨_,rfl,h3.plain _⟩
theorem bve_hash (ok:L.Ok) (hst:L.stack.length≤1000000) (hc:L.chr=35):Goes1 129 L (L.nxt.psh 129) (plainT 90):=by
 have e_35_831:(((L.chr:Nat):Int) == 35)=true:=beq_iff_eq.2 (by omega);clear hc;intro base S0 w0 w b h0;go_enter Tryz.func129,Tryz.ntmps129;go_wp2_with fail;refine (next_c h0 ok).mono ?_;rintro e w1 ⟨rfl,h1⟩;go_wp2_with fail;refine (push_c h1 129 (by rw [nxt_stack];exact hst)).mono ?_;rintro e w2 ⟨rfl,h2⟩;go_wp2_with fail;go_ret;exact ⟨_,rfl,h2.plain _⟩
theorem bve_slash (ok:L.Ok) (hst:L.stack.length≤1000000) (hc:L.chr=47) (hd:L.nxt.chr=47):Goes1 129 L (L.nxt.nxt.psh 129) (plainT 90):=by
 have e_35_831:(((L.chr:Nat):Int) == 35)=false:=bqf (by omega);have e_47_831:(((L.chr:Nat):Int) == 47)=true:=beq_iff_eq.2 (by omega);have e_47_647:(((L.nxt.chr:Nat):Int) == 47)=true:=beq_iff_eq.2 (by omega);clear hc hd;intro base S0 w0 w b h0;go_enter Tryz.func129,Tryz.ntmps129;go_wp2_with fail;refine (next_c h0 ok).mono ?_;rintro e w1 ⟨rfl,h1⟩;go_wp2_with fail;refine (next_c h1 ok.nxt).mono ?_;rintro e w2 ⟨rfl,h2⟩;go_wp2_with fail;refine (push_c h2 129 (by rw [nxt_stack,nxt_stack];exact hst)).mono ?_;rintro e w3 ⟨rfl,h3⟩;go_wp2_with fail;go_ret;exact ⟨_,rfl,h3.plain _⟩
theorem bve_ws (ok:L.Ok) (h1:L.chr ≠ 35) (h2:L.chr ≠ 47) (hw:isWS L.chr=true):Goes1 129 L L.nxt (plainT 129):=by
 have e_35_831:(((L.chr:Nat):Int) == 35)=false:=bqf (by omega);have e_47_831:(((L.chr:Nat):Int) == 47)=false:=bqf (by omega);clear h1 h2;intro base S0 w0 w b h0;go_enter Tryz.func129,Tryz.ntmps129;go_wp2_with fail;refine (next_c h0 ok).mono ?_;rintro e w1 ⟨rfl,h1⟩;go_wp2_with fail;refine (isWS_c _ (chr_lt ok) _).mono ?_;rintro e w' ⟨rfl,rfl⟩;go_wp2_with fail;go_ret;exact ⟨_,rfl,h1.plain _⟩
theorem bve_nl (ok:L.Ok) (hc:L.chr=10):Goes1 129 L L.nxt.ign (plainT 89):=by
 have e_35_831:(((L.chr:Nat):Int) == 35)=false:=bqf (by omega);have e_47_831:(((L.chr:Nat):Int) == 47)=false:=bqf (by omega);have e_a:isWS L.chr=false:=by rw [hc];rfl
 have e_b:isNLb L.chr=true:=by rw [hc];rfl
 clear hc;intro base S0 w0 w b h0;go_enter Tryz.func129,Tryz.ntmps129;go_wp2_with fail;refine (next_c h0 ok).mono ?_;rintro e w1 ⟨rfl,h1⟩;go_wp2_with fail;refine (isWS_c _ (chr_lt ok) _).mono ?_;rintro e w' ⟨rfl,rfl⟩;go_wp2_with fail;refine (isNLb_c _ (chr_lt ok) _).mono ?_;rintro e w' ⟨rfl,rfl⟩;go_wp2_with fail;refine (ign_c h1).mono ?_;rintro e w2 ⟨rfl,h2⟩;go_wp2_with fail;go_ret;exact ⟨_,rfl,h2.plain _⟩
theorem bve_semi (ok:L.Ok) (hc:L.chr=59):Goes1 129 L L.nxt.ign (plainT 89):=by
 have e_35_831:(((L.chr:Nat):Int) == 35)=false:=bqf (by omega);have e_47_831:(((L.chr:Nat):Int) == 47)=false:=bqf (by omega);have e_59_831:(((L.chr:Nat):Int) == 59)=true:=beq_iff_eq.2 (by omega);have e_a:isWS L.chr=false:=by rw [hc];rfl
 have e_b:isNLb L.chr=false:=by rw [hc];rfl
 clear hc;intro base S0 w0 w b h0;go_enter Tryz.func129,Tryz.ntmps129;go_wp2_with fail;refine (next_c h0 ok).mono ?_;rintro e w1 ⟨rfl,h1⟩;go_wp2_with fail;refine (isWS_c _ (chr_lt ok) _).mono ?_;rintro e w' ⟨rfl,rfl⟩;go_wp2_with fail;refine (isNLb_c _ (chr_lt ok) _).mono ?_;rintro e w' ⟨rfl,rfl⟩;go_wp2_with fail;refine (ign_c h1).mono ?_;rintro e w2 ⟨rfl,h2⟩;go_wp2_with fail;go_ret;exact ⟨_,rfl,h2.plain _⟩
theorem bve_comma (ok:L.Ok) (hc:L.chr=44):Goes1 129 L L.nxt.ign (plainT 89):=by
 have e_35_831:(((L.chr:Nat):Int) == 35)=false:=bqf (by omega);have e_47_831:(((L.chr:Nat):Int) == 47)=false:=bqf (by omega);have e_59_831:(((L.chr:Nat):Int) == 59)=false:=bqf (by omega);have e_44_831:(((L.chr:Nat):Int) == 44)=true:=beq_iff_eq.2 (by omega);have e_a:isWS L.chr=false:=by rw [hc];rfl
 have e_b:isNLb L.chr=false:=by rw [hc];rfl
 clear hc;intro base S0 w0 w b h0;go_enter Tryz.func129,Tryz.ntmps129;go_wp2_with fail;refine (next_c h0 ok).mono ?_;rintro e w1 ⟨rfl,h1⟩;go_wp2_with fail;refine (isWS_c _ (chr_lt ok) _).mono ?_;rintro e w' ⟨rfl,rfl⟩;go_wp2_with fail;refine (isNLb_c _ (chr_lt ok) _).mono ?_;rintro e w' ⟨rfl,rfl⟩;go_wp2_with fail;refine (ign_c h1).mono ?_;rintro e w2 ⟨rfl,h2⟩;go_wp2_with fail;go_ret;exact ⟨_,rfl,h2.plain _⟩
theorem mks_hash (ok:L.Ok) (hst:L.stack.length≤1000000) (hc:L.chr=35):Goes1 181 L (L.pk.nxt.psh 181) (plainT 90):=by
 have e_93_831:(((L.chr:Nat):Int) == 93)=false:=bqf (by omega);have e_125_831:(((L.chr:Nat):Int) == 125)=false:=bqf (by omega);have e_35_831:(((L.chr:Nat):Int) == 35)=true:=beq_iff_eq.2 (by omega);have e_a:isSep L.chr=false:=by rw [hc];rfl
 have e_b:isSp L.chr=false:=by rw [hc];rfl
 clear hc;intro base S0 w0 w b h0;go_enter Tryz.func181,Tryz.ntmps181;go_wp2_with fail;refine (peek_c h0 ok).mono ?_;rintro e w1 ⟨rfl,h1⟩;go_wp2_with fail;refine (isSep_c _ (chr_lt ok) _).mono ?_;rintro e w' ⟨rfl,rfl⟩;go_wp2_with fail;refine (isSp_c _ (chr_lt ok) _).mono ?_;rintro e w' ⟨rfl,rfl⟩;go_wp2_with fail;refine (next_c h1 ok.pk).mono ?_;rintro e w2 ⟨rfl,h2⟩;go_wp2_with fail;refine (push_c h2 181 (by rw [nxt_stack,pk_stack];exact hst)).mono ?_;rintro e w3 ⟨rfl,h3⟩;go_wp2_with fail;go_ret;exact ⟨_,rfl,h3.plain _⟩
theorem mks_slash (ok:L.Ok) (hst:L.stack.length≤1000000) (hc:L.chr=47) (hd:L.pk.nxt.chr=47):Goes1 181 L (L.pk.nxt.nxt.psh 181) (plainT 90):=by
 have e_93_831:(((L.chr:Nat):Int) == 93)=false:=bqf (by omega);have e_125_831:(((L.chr:Nat):Int) == 125)=false:=bqf (by omega);have e_35_831:(((L.chr:Nat):Int) == 35)=false:=bqf (by omega);have e_47_831:(((L.chr:Nat):Int) == 47)=true:=beq_iff_eq.2 (by omega);have e_47_606:(((L.pk.nxt.chr:Nat):Int) == 47)=true:=beq_iff_eq.2 (by omega);have e_a:isSep L.chr=false:=by rw [hc];rfl
 have e_b:isSp L.chr=false:=by rw [hc];rfl
 clear hc hd;intro base S0 w0 w b h0;go_enter Tryz.func181,Tryz.ntmps181;go_wp2_with fail;refine (peek_c h0 ok).mono ?_;rintro e w1 ⟨rfl,h1⟩;go_wp2_with fail;refine (isSep_c _ (chr_lt ok) _).mono ?_;rintro e w' ⟨rfl,rfl⟩;go_wp2_with fail;refine (isSp_c _ (chr_lt ok) _).mono ?_;rintro e w' ⟨rfl,rfl⟩;go_wp2_with fail;refine (next_c h1 ok.pk).mono ?_;rintro e w2 ⟨rfl,h2⟩;go_wp2_with fail;refine (next_c h2 ok.pk.nxt).mono ?_;rintro e w3 ⟨rfl,h3⟩;go_wp2_with fail;refine (push_c h3 181 (by rw [nxt_stack,nxt_stack,pk_stack];exact hst)).mono ?_;rintro e w4 ⟨rfl,h4⟩;go_wp2_with fail;go_ret;exact ⟨_,rfl,h4.plain _⟩
theorem mks_sq (ok:L.Ok) (hc:L.chr=39):Goes1 181 L L.pk.nxt (skipT 192):=by
 have e_93_831:(((L.chr:Nat):Int) == 93)=false:=bqf (by omega);have e_125_831:(((L.chr:Nat):Int) == 125)=false:=bqf (by omega);have e_35_831:(((L.chr:Nat):Int) == 35)=false:=bqf (by omega);have e_47_831:(((L.chr:Nat):Int) == 47)=false:=bqf (by omega);have e_39_831:(((L.chr:Nat):Int) == 39)=true:=beq_iff_eq.2 (by omega);have e_a:isSep L.chr=false:=by rw [hc];rfl
 have e_b:isSp L.chr=false:=by rw [hc];rfl
 clear hc;intro base S0 w0 w b h0;go_enter Tryz.func181,Tryz.ntmps181;go_wp2_with fail;refine (peek_c h0 ok).mono ?_;rintro e w1 ⟨rfl,h1⟩;go_wp2_with fail;refine (isSep_c _ (chr_lt ok) _).mono ?_;rintro e w' ⟨rfl,rfl⟩;go_wp2_with fail;refine (isSp_c _ (chr_lt ok) _).mono ?_;rintro e w' ⟨rfl,rfl⟩;go_wp2_with fail;refine (next_c h1 ok.pk).mono ?_;rintro e w2 ⟨rfl,h2⟩;go_wp2_with fail;refine (skipV_c h2 192).mono ?_;rintro e w3 ⟨rfl,hv⟩;go_wp2_with fail;go_ret;exact ⟨_,rfl,hv⟩
theorem msqk_end (ok:L.Ok) (rdy:L.Rdy) (hc:L.chr=39):Goes1 192 L (L.pk.emit 3 L.pk.txt).nxt (skipT 206):=by
 have e_0_831:(((L.chr:Nat):Int) == 0)=false:=bqf (by omega);have e_39_831:(((L.chr:Nat):Int) == 39)=true:=beq_iff_eq.2 (by omega);clear hc;intro base S0 w0 w b h0;go_enter Tryz.func192,Tryz.ntmps192;go_wp2_with fail;refine (peek_c h0 ok).mono ?_;rintro e w1 ⟨rfl,h1⟩;go_wp2_with fail;refine (emit_c 3 h1 ok.pk (by simpa [nxt_parts,pk_parts] using rdy.parts) (by have:=rdy.start;simp only [pk_start,pk_pos];omega) (by simpa [nxt_q,pk_q] using rdy.q)).mono ?_;rintro e w2 ⟨rfl,h2⟩;go_wp2_with fail;refine (next_c h2 ((ok.pk.emit 3 _))).mono ?_;rintro e w3 ⟨rfl,h3⟩;go_wp2_with fail;refine (skipV_c h3 206).mono ?_;rintro e w4 ⟨rfl,hv⟩;go_wp2_with fail;go_ret;exact ⟨_,rfl,hv⟩
theorem msqk_ch (ok:L.Ok) (h1:L.chr ≠ 39) (h2:L.chr ≠ 0):Goes1 192 L L.pk.nxt (plainT 192):=by
 have e_39_831:(((L.chr:Nat):Int) == 39)=false:=bqf (by omega);have e_0_831:(((L.chr:Nat):Int) == 0)=false:=bqf (by omega);clear h1 h2;intro base S0 w0 w b h0;go_enter Tryz.func192,Tryz.ntmps192;go_wp2_with fail;refine (peek_c h0 ok).mono ?_;rintro e w1 ⟨rfl,h1⟩;go_wp2_with fail;refine (next_c h1 ok.pk).mono ?_;rintro e w2 ⟨rfl,h2⟩;go_wp2_with fail;go_ret;exact ⟨_,rfl,h2.plain _⟩
theorem mks_dq (ok:L.Ok) (hc:L.chr=34):Goes1 181 L L.pk.nxt (skipT 193):=by
 have e_93_831:(((L.chr:Nat):Int) == 93)=false:=bqf (by omega);have e_125_831:(((L.chr:Nat):Int) == 125)=false:=bqf (by omega);have e_35_831:(((L.chr:Nat):Int) == 35)=false:=bqf (by omega);have e_47_831:(((L.chr:Nat):Int) == 47)=false:=bqf (by omega);have e_39_831:(((L.chr:Nat):Int) == 39)=false:=bqf (by omega);have e_34_831:(((L.chr:Nat):Int) == 34)=true:=beq_iff_eq.2 (by omega);have e_a:isSep L.chr=false:=by rw [hc];rfl
 have e_b:isSp L.chr=false:=by rw [hc];rfl
 clear hc;intro base S0 w0 w b h0;go_enter Tryz.func181,Tryz.ntmps181;go_wp2_with fail;refine (peek_c h0 ok).mono ?_;rintro e w1 ⟨rfl,h1⟩;go_wp2_with fail;refine (isSep_c _ (chr_lt ok) _).mono ?_;rintro e w' ⟨rfl,rfl⟩;go_wp2_with fail;refine (isSp_c _ (chr_lt ok) _).mono ?_;rintro e w' ⟨rfl,rfl⟩;go_wp2_with fail;refine (next_c h1 ok.pk).mono ?_;rintro e w2 ⟨rfl,h2⟩;go_wp2_with fail;refine (skipV_c h2 193).mono ?_;rintro e w3 ⟨rfl,hv⟩;go_wp2_with fail;go_ret;exact ⟨_,rfl,hv⟩
theorem mdqk_end (ok:L.Ok) (rdy:L.Rdy) (hc:L.chr=34):Goes1 193 L (L.pk.emit 3 L.pk.txt).nxt (skipT 206):=by
 have e_0_831:(((L.chr:Nat):Int) == 0)=false:=bqf (by omega);have e_34_831:(((L.chr:Nat):Int) == 34)=true:=beq_iff_eq.2 (by omega);clear hc;intro base S0 w0 w b h0;go_enter Tryz.func193,Tryz.ntmps193;go_wp2_with fail;refine (peek_c h0 ok).mono ?_;rintro e w1 ⟨rfl,h1⟩;go_wp2_with fail;refine (emit_c 3 h1 ok.pk (by simpa [nxt_parts,pk_parts] using rdy.parts) (by have:=rdy.start;simp only [pk_start,pk_pos];omega) (by simpa [nxt_q,pk_q] using rdy.q)).mono ?_;rintro e w2 ⟨rfl,h2⟩;go_wp2_with fail;refine (next_c h2 ((ok.pk.emit 3 _))).mono ?_;rintro e w3 ⟨rfl,h3⟩;go_wp2_with fail;refine (skipV_c h3 206).mono ?_;rintro e w4 ⟨rfl,hv⟩;go_wp2_with fail;go_ret;exact ⟨_,rfl,hv⟩
theorem mdqk_ch (ok:L.Ok) (h1:L.chr ≠ 34) (h2:L.chr ≠ 0):Goes1 193 L L.pk.nxt (plainT 193):=by
 have e_34_831:(((L.chr:Nat):Int) == 34)=false:=bqf (by omega);have e_0_831:(((L.chr:Nat):Int) == 0)=false:=bqf (by omega);clear h1 h2;intro base S0 w0 w b h0;go_enter Tryz.func193,Tryz.ntmps193;go_wp2_with fail;refine (peek_c h0 ok).mono ?_;rintro e w1 ⟨rfl,h1⟩;go_wp2_with fail;refine (next_c h1 ok.pk).mono ?_;rintro e w2 ⟨rfl,h2⟩;go_wp2_with fail;go_ret;exact ⟨_,rfl,h2.plain _⟩
theorem mve_hash (ok:L.Ok) (hst:L.stack.length≤1000000) (hc:L.chr=35):Goes1 207 L (L.nxt.psh 207) (plainT 90):=by
 have e_35_831:(((L.chr:Nat):Int) == 35)=true:=beq_iff_eq.2 (by omega);have e_a:isWS L.chr=false:=by rw [hc];rfl
 clear hc;intro base S0 w0 w b h0;go_enter Tryz.func207,Tryz.ntmps207;go_wp2_with fail;refine (next_c h0 ok).mono ?_;rintro e w1 ⟨rfl,h1⟩;go_wp2_with fail;refine (isWS_c _ (chr_lt ok) _).mono ?_;rintro e w' ⟨rfl,rfl⟩;go_wp2_with fail;refine (push_c h1 207 (by rw [nxt_stack];exact hst)).mono ?_;rintro e w2 ⟨rfl,h2⟩;go_wp2_with fail;go_ret;exact ⟨_,rfl,h2.plain _⟩
theorem mve_slash (ok:L.Ok) (hst:L.stack.length≤1000000) (hc:L.chr=47) (hd:L.nxt.chr=47):Goes1 207 L (L.nxt.nxt.psh 207) (plainT 90):=by
 have e_35_831:(((L.chr:Nat):Int) == 35)=false:=bqf (by omega);have e_47_831:(((L.chr:Nat):Int) == 47)=true:=beq_iff_eq.2 (by omega);have e_47_647:(((L.nxt.chr:Nat):Int) == 47)=true:=beq_iff_eq.2 (by omega);have e_a:isWS L.chr=false:=by rw [hc];rfl
 clear hc hd;intro base S0 w0 w b h0;go_enter Tryz.func207,Tryz.ntmps207;go_wp2_with fail;refine (next_c h0 ok).mono ?_;rintro e w1 ⟨rfl,h1⟩;go_wp2_with fail;refine (isWS_c _ (chr_lt ok) _).mono ?_;rintro e w' ⟨rfl,rfl⟩;go_wp2_with fail;refine (next_c h1 ok.nxt).mono ?_;rintro e w2 ⟨rfl,h2⟩;go_wp2_with fail;refine (push_c h2 207 (by rw [nxt_stack,nxt_stack];exact hst)).mono ?_;rintro e w3 ⟨rfl,h3⟩;go_wp2_with fail;go_ret;exact ⟨_,rfl,h3.plain _⟩
theorem num_dot (ok:L.Ok) (hc:L.chr=46):Goes1 199 L L.nxt (plainT 210):=by
 have e_45_831:(((L.chr:Nat):Int) == 45)=false:=bqf (by omega);have e_46_831:(((L.chr:Nat):Int) == 46)=true:=beq_iff_eq.2 (by omega);have e_a:isDig L.chr=false:=by rw [hc];rfl
 clear hc;intro base S0 w0 w b h0;go_enter Tryz.func199,Tryz.ntmps199;go_wp2_with fail;refine (next_c h0 ok).mono ?_;rintro e w1 ⟨rfl,h1⟩;go_wp2_with fail;refine (isDig_c _ (chr_lt ok) _).mono ?_;rintro e w' ⟨rfl,rfl⟩;go_wp2_with fail;go_ret;exact ⟨_,rfl,h1.plain _⟩
theorem neg_dot (ok:L.Ok) (hc:L.chr=46):Goes1 198 L L.nxt (plainT 210):=by
 have e_46_831:(((L.chr:Nat):Int) == 46)=true:=beq_iff_eq.2 (by omega);have e_a:isDig L.chr=false:=by rw [hc];rfl
 clear hc;intro base S0 w0 w b h0;go_enter Tryz.func198,Tryz.ntmps198;go_wp2_with fail;refine (next_c h0 ok).mono ?_;rintro e w1 ⟨rfl,h1⟩;go_wp2_with fail;refine (isDig_c _ (chr_lt ok) _).mono ?_;rintro e w' ⟨rfl,rfl⟩;go_wp2_with fail;go_ret;exact ⟨_,rfl,h1.plain _⟩
theorem fls_dig (ok:L.Ok) (e2:isDig L.chr=true):Goes1 210 L L.nxt (plainT 216):=by
 intro base S0 w0 w b h0;go_enter Tryz.func210,Tryz.ntmps210;go_wp2_with fail;refine (next_c h0 ok).mono ?_;rintro e w1 ⟨rfl,h1⟩;go_wp2_with fail;refine (isDig_c _ (chr_lt ok) _).mono ?_;rintro e w' ⟨rfl,rfl⟩;go_wp2_with fail;go_ret;exact ⟨_,rfl,h1.plain _⟩
theorem fl_dig (ok:L.Ok) (e2:isDig L.chr=true):Goes1 216 L L.nxt (plainT 216):=by
 intro base S0 w0 w b h0;go_enter Tryz.func216,Tryz.ntmps216;go_wp2_with fail;refine (next_c h0 ok).mono ?_;rintro e w1 ⟨rfl,h1⟩;go_wp2_with fail;refine (isDig_c _ (chr_lt ok) _).mono ?_;rintro e w' ⟨rfl,rfl⟩;go_wp2_with fail;go_ret;exact ⟨_,rfl,h1.plain _⟩
theorem fl_end (ok:L.Ok) (rdy:L.Rdy) (st:List Nat) (n:Nat) (hst:L.stack=st ++ [n]) (hl:st.length≤1000000) (e2:isDig L.chr=false) (h1:L.chr ≠ 46):Goes1 216 L ((L.pk.emit 8 L.pk.txt).stk st) (plainT n):=by
 have e_46_831:(((L.chr:Nat):Int) == 46)=false:=bqf (by omega);clear h1;intro base S0 w0 w b h0;go_enter Tryz.func216,Tryz.ntmps216;go_wp2_with fail;refine (next_c h0 ok).mono ?_;rintro e w1 ⟨rfl,h1⟩;go_wp2_with fail;refine (isDig_c _ (chr_lt ok) _).mono ?_;rintro e w' ⟨rfl,rfl⟩;go_wp2_with fail;refine (back_c h1 ok.nxt (nxt_width _)).mono ?_;rintro e w2 ⟨rfl,h2⟩;rw [nxt_back] at h2;go_wp2_with fail;refine (emit_c 8 h2 ok.pk (by simpa [nxt_parts,pk_parts] using rdy.parts) (by have:=rdy.start;simp only [pk_start,pk_pos];omega) (by simpa [nxt_q,pk_q] using rdy.q)).mono ?_;rintro e w3 ⟨rfl,h3⟩;go_wp2_with fail;refine (pop_c st n h3 (by show L.pk.stack=_;rw [pk_stack];exact hst) hl).mono ?_;rintro e w4 ⟨rfl,h4⟩;go_wp2_with fail;go_ret;exact ⟨_,rfl,h4.plain _⟩
theorem bool_nl (ok:L.Ok) (rdy:L.Rdy) (st:List Nat) (n:Nat) (hst:L.stack=st ++ [n]) (hl:st.length≤1000000) (hb:boolWord L.pk.txt=true) (hc:L.chr=10):Goes1 187 L ((L.pk.emit 6 L.pk.txt).stk st) (plainT n):=by
 have e_92_831:(((L.chr:Nat):Int) == 92)=false:=bqf (by omega);have e_nl:isNLb L.chr=true:=by rw [hc];rfl
 have HB:=Lib.hid hb;clear hc hb;intro base S0 w0 w b h0;go_enter Tryz.func187,Tryz.ntmps187;go_wp2_with fail;refine (next_c h0 ok).mono ?_;rintro e w1 ⟨rfl,h1⟩;go_wp2_with fail;refine (isNLb_c _ (chr_lt ok) _).mono ?_;rintro e w' ⟨rfl,rfl⟩;go_wp2_with fail;refine (back_c h1 ok.nxt (nxt_width _)).mono ?_;rintro e w2 ⟨rfl,h2⟩;rw [nxt_back] at h2;go_wp2_with fail;refine (hasEsc_c h2 (by simpa [pk_parts] using rdy.parts)).mono ?_;rintro e w3 ⟨rfl,h3⟩;go_wp2_with fail;refine (isBool_t h3 ok.pk ⟨(by simpa [pk_parts] using rdy.parts),(by have:=rdy.start;simp only [pk_start,pk_pos];omega),(by simpa [pk_q] using rdy.q)⟩ HB.out).mono ?_;rintro e w4 ⟨rfl,h4⟩;go_wp2_with fail;refine (emit_c 6 h4 ok.pk (by simpa [nxt_parts,pk_parts] using rdy.parts) (by have:=rdy.start;simp only [pk_start,pk_pos];omega) (by simpa [nxt_q,pk_q] using rdy.q)).mono ?_;rintro e w5 ⟨rfl,h5⟩;go_wp2_with fail;refine (pop_c st n h5 (by show L.pk.stack=_;rw [pk_stack];exact hst) hl).mono ?_;rintro e w6 ⟨rfl,h6⟩;go_wp2_with fail;go_ret;exact ⟨_,rfl,h6.plain _⟩
theorem bool_ws (ok:L.Ok) (rdy:L.Rdy) (st:List Nat) (n:Nat) (hst:L.stack=st ++ [n]) (hl:st.length≤1000000) (hb:boolWord L.pk.txt=true) (hc:L.chr=32):Goes1 187 L ((L.pk.emit 6 L.pk.txt).stk st) (plainT n):=by
 have e_92_831:(((L.chr:Nat):Int) == 92)=false:=bqf (by omega);have e_0_831:(((L.chr:Nat):Int) == 0)=false:=bqf (by omega);have e_59_831:(((L.chr:Nat):Int) == 59)=false:=bqf (by omega);have e_44_831:(((L.chr:Nat):Int) == 44)=false:=bqf (by omega);have e_93_831:(((L.chr:Nat):Int) == 93)=false:=bqf (by omega);have e_125_831:(((L.chr:Nat):Int) == 125)=false:=bqf (by omega);have e_nl:isNLb L.chr=false:=by rw [hc];rfl
 have e_ws:isWS L.chr=true:=by rw [hc];rfl
 have HB:=Lib.hid hb;clear hc hb;intro base S0 w0 w b h0;go_enter Tryz.func187,Tryz.ntmps187;go_wp2_with fail;refine (next_c h0 ok).mono ?_;rintro e w1 ⟨rfl,h1⟩;go_wp2_with fail;refine (isNLb_c _ (chr_lt ok) _).mono ?_;rintro e w' ⟨rfl,rfl⟩;go_wp2_with fail;refine (isWS_c _ (chr_lt ok) _).mono ?_;rintro e w' ⟨rfl,rfl⟩;go_wp2_with fail;refine (back_c h1 ok.nxt (nxt_width _)).mono ?_;rintro e w2 ⟨rfl,h2⟩;rw [nxt_back] at h2;go_wp2_with fail;refine (hasEsc_c h2 (by simpa [pk_parts] using rdy.parts)).mono ?_;rintro e w3 ⟨rfl,h3⟩;go_wp2_with fail;refine (isBool_t h3 ok.pk ⟨(by simpa [pk_parts] using rdy.parts),(by have:=rdy.start;simp only [pk_start,pk_pos];omega),(by simpa [pk_q] using rdy.q)⟩ HB.out).mono ?_;rintro e w4 ⟨rfl,h4⟩;go_wp2_with fail;refine (emit_c 6 h4 ok.pk (by simpa [nxt_parts,pk_parts] using rdy.parts) (by have:=rdy.start;simp only [pk_start,pk_pos];omega) (by simpa [nxt_q,pk_q] using rdy.q)).mono ?_;rintro e w5 ⟨rfl,h5⟩;go_wp2_with fail;refine (pop_c st n h5 (by show L.pk.stack=_;rw [pk_stack];exact hst) hl).mono ?_;rintro e w6 ⟨rfl,h6⟩;go_wp2_with fail;go_ret;exact ⟨_,rfl,h6.plain _⟩
theorem bool_semi (ok:L.Ok) (rdy:L.Rdy) (st:List Nat) (n:Nat) (hst:L.stack=st ++ [n]) (hl:st.length≤1000000) (hb:boolWord L.pk.txt=true) (hc:L.chr=59):Goes1 187 L ((L.pk.emit 6 L.pk.txt).stk st) (plainT n):=by
 have e_92_831:(((L.chr:Nat):Int) == 92)=false:=bqf (by omega);have e_0_831:(((L.chr:Nat):Int) == 0)=false:=bqf (by omega);have e_59_831:(((L.chr:Nat):Int) == 59)=true:=beq_iff_eq.2 (by omega);have e_nl:isNLb L.chr=false:=by rw [hc];rfl
 have HB:=Lib.hid hb;clear hc hb;intro base S0 w0 w b h0;go_enter Tryz.func187,Tryz.ntmps187;go_wp2_with fail;refine (next_c h0 ok).mono ?_;rintro e w1 ⟨rfl,h1⟩;go_wp2_with fail;refine (isNLb_c _ (chr_lt ok) _).mono ?_;rintro e w' ⟨rfl,rfl⟩;go_wp2_with fail;refine (back_c h1 ok.nxt (nxt_width _)).mono ?_;rintro e w2 ⟨rfl,h2⟩;rw [nxt_back] at h2;go_wp2_with fail;refine (hasEsc_c h2 (by simpa [pk_parts] using rdy.parts)).mono ?_;rintro e w3 ⟨rfl,h3⟩;go_wp2_with fail;refine (isBool_t h3 ok.pk ⟨(by simpa [pk_parts] using rdy.parts),(by have:=rdy.start;simp only [pk_start,pk_pos];omega),(by simpa [pk_q] using rdy.q)⟩ HB.out).mono ?_;rintro e w4 ⟨rfl,h4⟩;go_wp2_with fail;refine (emit_c 6 h4 ok.pk (by simpa [nxt_parts,pk_parts] using rdy.parts) (by have:=rdy.start;simp only [pk_start,pk_pos];omega) (by simpa [nxt_q,pk_q] using rdy.q)).mono ?_;rintro e w5 ⟨rfl,h5⟩;go_wp2_with fail;refine (pop_c st n h5 (by show L.pk.stack=_;rw [pk_stack];exact hst) hl).mono ?_;rintro e w6 ⟨rfl,h6⟩;go_wp2_with fail;go_ret;exact ⟨_,rfl,h6.plain _⟩
theorem bool_comma (ok:L.Ok) (rdy:L.Rdy) (st:List Nat) (n:Nat) (hst:L.stack=st ++ [n]) (hl:st.length≤1000000) (hb:boolWord L.pk.txt=true) (hc:L.chr=44):Goes1 187 L ((L.pk.emit 6 L.pk.txt).stk st) (plainT n):=by
 have e_92_831:(((L.chr:Nat):Int) == 92)=false:=bqf (by omega);have e_0_831:(((L.chr:Nat):Int) == 0)=false:=bqf (by omega);have e_59_831:(((L.chr:Nat):Int) == 59)=false:=bqf (by omega);have e_44_831:(((L.chr:Nat):Int) == 44)=true:=beq_iff_eq.2 (by omega);have e_nl:isNLb L.chr=false:=by rw [hc];rfl
 have HB:=Lib.hid hb;clear hc hb;intro base S0 w0 w b h0;go_enter Tryz.func187,Tryz.ntmps187;go_wp2_with fail;refine (next_c h0 ok).mono ?_;rintro e w1 ⟨rfl,h1⟩;go_wp2_with fail;refine (isNLb_c _ (chr_lt ok) _).mono ?_;rintro e w' ⟨rfl,rfl⟩;go_wp2_with fail;refine (back_c h1 ok.nxt (nxt_width _)).mono ?_;rintro e w2 ⟨rfl,h2⟩;rw [nxt_back] at h2;go_wp2_with fail;refine (hasEsc_c h2 (by simpa [pk_parts] using rdy.parts)).mono ?_;rintro e w3 ⟨rfl,h3⟩;go_wp2_with fail;refine (isBool_t h3 ok.pk ⟨(by simpa [pk_parts] using rdy.parts),(by have:=rdy.start;simp only [pk_start,pk_pos];omega),(by simpa [pk_q] using rdy.q)⟩ HB.out).mono ?_;rintro e w4 ⟨rfl,h4⟩;go_wp2_with fail;refine (emit_c 6 h4 ok.pk (by simpa [nxt_parts,pk_parts] using rdy.parts) (by have:=rdy.start;simp only [pk_start,pk_pos];omega) (by simpa [nxt_q,pk_q] using rdy.q)).mono ?_;rintro e w5 ⟨rfl,h5⟩;go_wp2_with fail;refine (pop_c st n h5 (by show L.pk.stack=_;rw [pk_stack];exact hst) hl).mono ?_;rintro e w6 ⟨rfl,h6⟩;go_wp2_with fail;go_ret;exact ⟨_,rfl,h6.plain _⟩
theorem bool_brace (ok:L.Ok) (rdy:L.Rdy) (st:List Nat) (n:Nat) (hst:L.stack=st ++ [n]) (hl:st.length≤1000000) (hb:boolWord L.pk.txt=true) (hc:L.chr=125):Goes1 187 L ((L.pk.emit 6 L.pk.txt).stk st) (plainT n):=by
 have e_92_831:(((L.chr:Nat):Int) == 92)=false:=bqf (by omega);have e_0_831:(((L.chr:Nat):Int) == 0)=false:=bqf (by omega);have e_59_831:(((L.chr:Nat):Int) == 59)=false:=bqf (by omega);have e_44_831:(((L.chr:Nat):Int) == 44)=false:=bqf (by omega);have e_93_831:(((L.chr:Nat):Int) == 93)=false:=bqf (by omega);have e_125_831:(((L.chr:Nat):Int) == 125)=true:=beq_iff_eq.2 (by omega);have e_nl:isNLb L.chr=false:=by rw [hc];rfl
 have HB:=Lib.hid hb;clear hc hb;intro base S0 w0 w b h0;go_enter Tryz.func187,Tryz.ntmps187;go_wp2_with fail;refine (next_c h0 ok).mono ?_;rintro e w1 ⟨rfl,h1⟩;go_wp2_with fail;refine (isNLb_c _ (chr_lt ok) _).mono ?_;rintro e w' ⟨rfl,rfl⟩;go_wp2_with fail;refine (back_c h1 ok.nxt (nxt_width _)).mono ?_;rintro e w2 ⟨rfl,h2⟩;rw [nxt_back] at h2;go_wp2_with fail;refine (hasEsc_c h2 (by simpa [pk_parts] using rdy.parts)).mono ?_;rintro e w3 ⟨rfl,h3⟩;go_wp2_with fail;refine (isBool_t h3 ok.pk ⟨(by simpa [pk_parts] using rdy.parts),(by have:=rdy.start;simp only [pk_start,pk_pos];omega),(by simpa [pk_q] using rdy.q)⟩ HB.out).mono ?_;rintro e w4 ⟨rfl,h4⟩;go_wp2_with fail;refine (emit_c 6 h4 ok.pk (by simpa [nxt_parts,pk_parts] using rdy.parts) (by have:=rdy.start;simp only [pk_start,pk_pos];omega) (by simpa [nxt_q,pk_q] using rdy.q)).mono ?_;rintro e w5 ⟨rfl,h5⟩;go_wp2_with fail;refine (pop_c st n h5 (by show L.pk.stack=_;rw [pk_stack];exact hst) hl).mono ?_;rintro e w6 ⟨rfl,h6⟩;go_wp2_with fail;go_ret;exact ⟨_,rfl,h6.plain _⟩
end
section
variable {s:ByteArray} {p st:Nat} {stk:List Nat} {L:LX}
theorem ld_tve_comma (hp:p < s.size) (e:byteAt s p=44):Leads s p st stk (plainT 94) (p + 1) (p + 1) stk (plainT 60):=by
 rintro L ⟨h,hs⟩;have hc:=h.chr hp;exact ⟨1,_,run1 hs enters94 h.q (tve_comma h.ok (by rw [hc];exact e)),((h.nxt hp).ign).goes _⟩
theorem ld_top_brace (hp:p < s.size) (hl:stk.length≤1000000) (e:byteAt s p=123):Leads s p st stk (plainT 60) (p + 1) st (stk ++ [60]) (skipT 89):=by
 rintro L ⟨h,hs⟩;have hc:=h.chr hp;exact ⟨1,_,run1 hs enters60 h.q (top_brace h.ok (by rw [h.stack];exact hl) (by rw [hc,e];rfl) (by rw [hc];exact e)),((h.nxt hp).psh 60).goes _⟩
theorem enters89:Enters 89:=fun args w=>by kernel_rfl
theorem ld_bs_sp (hp:p < s.size) (e1:isSp (byteAt s p)=true):Leads s p st stk (plainT 89) (p + 1) st stk (skipT 89):=by
 rintro L ⟨h,hs⟩;have hc:=h.chr hp;exact ⟨1,_,run1 hs enters89 h.q (bs_sp h.ok (by rw [hc];exact e1)),(h.nxt hp).goes _⟩
theorem ld_bs_end (hp:p < s.size) (e:byteAt s p=125) (sk:List Nat) (n:Nat) (hk:stk=sk ++ [n]) (hl:sk.length≤1000000):Leads s p st stk (plainT 89) (p + 1) (p + 1) sk (plainT n):=by
 rintro L ⟨h,hs⟩;have hc:=h.chr hp;have hst':=h.stack.trans hk;exact ⟨1,_,run1 hs enters89 h.q (bs_end h.ok sk n hst' hl (by rw [hc];exact e)),(((h.nxt hp).ign).stkd sk).goes _⟩
theorem ld_bs_hash (hp:p < s.size) (hl:stk.length≤1000000) (e:byteAt s p=35):Leads s p st stk (plainT 89) (p + 1) st (stk ++ [89]) (plainT 90):=by
 rintro L ⟨h,hs⟩;have hc:=h.chr hp;exact ⟨1,_,run1 hs enters89 h.q (bs_hash h.ok (by rw [h.stack];exact hl) (by rw [hc];exact e)),((h.nxt hp).psh 89).goes _⟩
theorem ld_bs_slash (hp:p + 1 < s.size) (hl:stk.length≤1000000) (e:byteAt s p=47) (e2:byteAt s (p + 1)=47):Leads s p st stk (plainT 89) (p + 1 + 1) st (stk ++ [89]) (plainT 90):=by
 rintro L ⟨h,hs⟩;have hc:=h.chr (show p < s.size by omega);have hn:=h.nxt (show p < s.size by omega);have hc2:L.nxt.chr=byteAt s (p + 1):=hn.chr hp;exact ⟨1,_,run1 hs enters89 h.q (bs_slash h.ok (by rw [h.stack];exact hl) (by rw [hc];exact e) (by rw [hc2];exact e2)),((hn.nxt hp).psh 89).goes _⟩
theorem ld_bs_key (hp:p < s.size) (hl:stk.length≤1000000) (e1:isSp (byteAt s p)=false) (h1:byteAt s p ≠ 123) (h2:byteAt s p ≠ 35) (h3:byteAt s p ≠ 47) (h4:byteAt s p ≠ 0) (h5:byteAt s p ≠ 125):Leads s p st stk (plainT 89) p st (stk ++ [129]) (plainT 95):=by
 rintro L ⟨h,hs⟩;have hc:=h.chr hp;exact ⟨1,_,run1 hs enters89 h.q (bs_key h.ok (by rw [h.stack];exact hl) (by rw [hc];exact e1) (by rw [hc];exact h1) (by rw [hc];exact h2) (by rw [hc];exact h3) (by rw [hc];exact h4) (by rw [hc];exact h5)),((h.pk).psh 129).goes _⟩
theorem enters129:Enters 129:=fun args w=>by kernel_rfl
theorem ld_bve_hash (hp:p < s.size) (hl:stk.length≤1000000) (e:byteAt s p=35):Leads s p st stk (plainT 129) (p + 1) st (stk ++ [129]) (plainT 90):=by
 rintro L ⟨h,hs⟩;have hc:=h.chr hp;exact ⟨1,_,run1 hs enters129 h.q (bve_hash h.ok (by rw [h.stack];exact hl) (by rw [hc];exact e)),((h.nxt hp).psh 129).goes _⟩
theorem ld_bve_slash (hp:p + 1 < s.size) (hl:stk.length≤1000000) (e:byteAt s p=47) (e2:byteAt s (p + 1)=47):Leads s p st stk (plainT 129) (p + 1 + 1) st (stk ++ [129]) (plainT 90):=by
 rintro L ⟨h,hs⟩;have hc:=h.chr (show p < s.size by omega);have hn:=h.nxt (show p < s.size by omega);have hc2:L.nxt.chr=byteAt s (p + 1):=hn.chr hp;exact ⟨1,_,run1 hs enters129 h.q (bve_slash h.ok (by rw [h.stack];exact hl) (by rw [hc];exact e) (by rw [hc2];exact e2)),((hn.nxt hp).psh 129).goes _⟩
theorem ld_bve_ws (hp:p < s.size) (e1:isWS (byteAt s p)=true) (h1:byteAt s p ≠ 35) (h2:byteAt s p ≠ 47):Leads s p st stk (plainT 129) (p + 1) st stk (plainT 129):=by
 rintro L ⟨h,hs⟩;have hc:=h.chr hp;exact ⟨1,_,run1 hs enters129 h.q (bve_ws h.ok (by rw [hc];exact h1) (by rw [hc];exact h2) (by rw [hc];exact e1)),(h.nxt hp).goes _⟩
theorem ld_bve_nl (hp:p < s.size) (e:byteAt s p=10):Leads s p st stk (plainT 129) (p + 1) (p + 1) stk (plainT 89):=by
 rintro L ⟨h,hs⟩;have hc:=h.chr hp;exact ⟨1,_,run1 hs enters129 h.q (bve_nl h.ok (by rw [hc];exact e)),((h.nxt hp).ign).goes _⟩
theorem ld_bve_semi (hp:p < s.size) (e:byteAt s p=59):Leads s p st stk (plainT 129) (p + 1) (p + 1) stk (plainT 89):=by
 rintro L ⟨h,hs⟩;have hc:=h.chr hp;exact ⟨1,_,run1 hs enters129 h.q (bve_semi h.ok (by rw [hc];exact e)),((h.nxt hp).ign).goes _⟩
theorem ld_bve_comma (hp:p < s.size) (e:byteAt s p=44):Leads s p st stk (plainT 129) (p + 1) (p + 1) stk (plainT 89):=by
 rintro L ⟨h,hs⟩;have hc:=h.chr hp;exact ⟨1,_,run1 hs enters129 h.q (bve_comma h.ok (by rw [hc];exact e)),((h.nxt hp).ign).goes _⟩
theorem ld_mks_hash (hp:p < s.size) (hl:stk.length≤1000000) (e:byteAt s p=35):Leads s p st stk (plainT 181) (p + 1) st (stk ++ [181]) (plainT 90):=by
 rintro L ⟨h,hs⟩;have hc:=h.chr hp;exact ⟨1,_,run1 hs enters181 h.q (mks_hash h.ok (by rw [h.stack];exact hl) (by rw [hc];exact e)),((h.pk.nxt hp).psh 181).goes _⟩
theorem ld_mks_slash (hp:p + 1 < s.size) (hl:stk.length≤1000000) (e:byteAt s p=47) (e2:byteAt s (p + 1)=47):Leads s p st stk (plainT 181) (p + 1 + 1) st (stk ++ [181]) (plainT 90):=by
 rintro L ⟨h,hs⟩;have hc:=h.chr (show p < s.size by omega);have hn:=h.pk.nxt (show p < s.size by omega);have hc2:L.pk.nxt.chr=byteAt s (p + 1):=hn.chr hp;exact ⟨1,_,run1 hs enters181 h.q (mks_slash h.ok (by rw [h.stack];exact hl) (by rw [hc];exact e) (by rw [hc2];exact e2)),((hn.nxt hp).psh 181).goes _⟩
theorem ld_mks_sq (hp:p < s.size) (e:byteAt s p=39):Leads s p st stk (plainT 181) (p + 1) st stk (skipT 192):=by
 rintro L ⟨h,hs⟩;have hc:=h.chr hp;exact ⟨1,_,run1 hs enters181 h.q (mks_sq h.ok (by rw [hc];exact e)),((h.pk).nxt hp).goes _⟩
theorem enters192:Enters 192:=fun args w=>by kernel_rfl
theorem ld_msqk_ch (hp:p < s.size) (h1:byteAt s p ≠ 39) (h2:byteAt s p ≠ 0):Leads s p st stk (plainT 192) (p + 1) st stk (plainT 192):=by
 rintro L ⟨h,hs⟩;have hc:=h.chr hp;exact ⟨1,_,run1 hs enters192 h.q (msqk_ch h.ok (by rw [hc];exact h1) (by rw [hc];exact h2)),((h.pk).nxt hp).goes _⟩
theorem ld_msqk_end (hp:p < s.size) (hst:st≤p) (e:byteAt s p=39):Emits s p st stk (plainT 192) 3 (s.extract st p) (1 + (nlc s p:Nat)) (p + 1) p stk (skipT 206):=by
 rintro L ⟨h,hs⟩;have hc:=h.chr hp;obtain ⟨h1,h2⟩:=(h.pk).gaveN hp 3 (skipT 206);exact ⟨1,_,_,run1 hs enters192 h.q (msqk_end h.ok (h.rdy hst) (by rw [hc];exact e)),h2,rfl,rfl,rfl,h1⟩
theorem ld_mks_dq (hp:p < s.size) (e:byteAt s p=34):Leads s p st stk (plainT 181) (p + 1) st stk (skipT 193):=by
 rintro L ⟨h,hs⟩;have hc:=h.chr hp;exact ⟨1,_,run1 hs enters181 h.q (mks_dq h.ok (by rw [hc];exact e)),((h.pk).nxt hp).goes _⟩
theorem enters193:Enters 193:=fun args w=>by kernel_rfl
theorem ld_mdqk_ch (hp:p < s.size) (h1:byteAt s p ≠ 34) (h2:byteAt s p ≠ 0):Leads s p st stk (plainT 193) (p + 1) st stk (plainT 193):=by
 rintro L ⟨h,hs⟩;have hc:=h.chr hp;exact ⟨1,_,run1 hs enters193 h.q (mdqk_ch h.ok (by rw [hc];exact h1) (by rw [hc];exact h2)),((h.pk).nxt hp).goes _⟩
theorem ld_mdqk_end (hp:p < s.size) (hst:st≤p) (e:byteAt s p=34):Emits s p st stk (plainT 193) 3 (s.extract st p) (1 + (nlc s p:Nat)) (p + 1) p stk (skipT 206):=by
 rintro L ⟨h,hs⟩;have hc:=h.chr hp;obtain ⟨h1,h2⟩:=(h.pk).gaveN hp 3 (skipT 206);exact ⟨1,_,_,run1 hs enters193 h.q (mdqk_end h.ok (h.rdy hst) (by rw [hc];exact e)),h2,rfl,rfl,rfl,h1⟩
theorem ld_mve_hash (hp:p < s.size) (hl:stk.length≤1000000) (e:byteAt s p=35):Leads s p st stk (plainT 207) (p + 1) st (stk ++ [207]) (plainT 90):=by
 rintro L ⟨h,hs⟩;have hc:=h.chr hp;exact ⟨1,_,run1 hs enters207 h.q (mve_hash h.ok (by rw [h.stack];exact hl) (by rw [hc];exact e)),((h.nxt hp).psh 207).goes _⟩
theorem ld_mve_slash (hp:p + 1 < s.size) (hl:stk.length≤1000000) (e:byteAt s p=47) (e2:byteAt s (p + 1)=47):Leads s p st stk (plainT 207) (p + 1 + 1) st (stk ++ [207]) (plainT 90):=by
 rintro L ⟨h,hs⟩;have hc:=h.chr (show p < s.size by omega);have hn:=h.nxt (show p < s.size by omega);have hc2:L.nxt.chr=byteAt s (p + 1):=hn.chr hp;exact ⟨1,_,run1 hs enters207 h.q (mve_slash h.ok (by rw [h.stack];exact hl) (by rw [hc];exact e) (by rw [hc2];exact e2)),((hn.nxt hp).psh 207).goes _⟩
theorem ld_num_dot (hp:p < s.size) (e:byteAt s p=46):Leads s p st stk (plainT 199) (p + 1) st stk (plainT 210):=by
 rintro L ⟨h,hs⟩;have hc:=h.chr hp;exact ⟨1,_,run1 hs enters199 h.q (num_dot h.ok (by rw [hc];exact e)),(h.nxt hp).goes _⟩
theorem ld_neg_dot (hp:p < s.size) (e:byteAt s p=46):Leads s p st stk (plainT 198) (p + 1) st stk (plainT 210):=by
 rintro L ⟨h,hs⟩;have hc:=h.chr hp;exact ⟨1,_,run1 hs enters198 h.q (neg_dot h.ok (by rw [hc];exact e)),(h.nxt hp).goes _⟩
theorem enters210:Enters 210:=fun args w=>by kernel_rfl
theorem ld_fls_dig (hp:p < s.size) (e2:isDig (byteAt s p)=true):Leads s p st stk (plainT 210) (p + 1) st stk (plainT 216):=by
 rintro L ⟨h,hs⟩;have hc:=h.chr hp;exact ⟨1,_,run1 hs enters210 h.q (fls_dig h.ok (by rw [hc];exact e2)),(h.nxt hp).goes _⟩
theorem enters216:Enters 216:=fun args w=>by kernel_rfl
theorem ld_fl_dig (hp:p < s.size) (e2:isDig (byteAt s p)=true):Leads s p st stk (plainT 216) (p + 1) st stk (plainT 216):=by
 rintro L ⟨h,hs⟩;have hc:=h.chr hp;exact ⟨1,_,run1 hs enters216 h.q (fl_dig h.ok (by rw [hc];exact e2)),(h.nxt hp).goes _⟩
theorem ld_fl_end (hp:p < s.size) (hst:st≤p) (e2:isDig (byteAt s p)=false) (h46:byteAt s p ≠ 46) (sk:List Nat) (n:Nat) (hk:stk=sk ++ [n]) (hl:sk.length≤1000000):Emits s p st stk (plainT 216) 8 (s.extract st p) (1 + (nlc s p:Nat)) p p sk (plainT n):=by
 rintro L ⟨h,hs⟩;have hc:=h.chr hp;have hst':=h.stack.trans hk;obtain ⟨h1,h2⟩:=(h.pk).emitted 8 sk (plainT n);exact ⟨1,_,_,run1 hs enters216 h.q (fl_end h.ok (h.rdy hst) sk n hst' hl (by rw [hc];exact e2) (by rw [hc];exact h46)),h2,rfl,rfl,rfl,h1⟩
theorem ld_bool_nl (hp:p < s.size) (hst:st≤p) (hb:boolWord (s.extract st p)=true) (e:byteAt s p=10) (sk:List Nat) (n:Nat) (hk:stk=sk ++ [n]) (hl:sk.length≤1000000):Emits s p st stk (plainT 187) 6 (s.extract st p) (1 + (nlc s p:Nat)) p p sk (plainT n):=by
 rintro L ⟨h,hs⟩;have hc:=h.chr hp;have hst':=h.stack.trans hk;obtain ⟨h1,h2⟩:=(h.pk).emitted 6 sk (plainT n);exact ⟨1,_,_,run1 hs enters187 h.q (bool_nl h.ok (h.rdy hst) sk n hst' hl (by rw [h.pk.txt];exact hb) (by rw [hc];exact e)),h2,rfl,rfl,rfl,h1⟩
theorem ld_bool_ws (hp:p < s.size) (hst:st≤p) (hb:boolWord (s.extract st p)=true) (e:byteAt s p=32) (sk:List Nat) (n:Nat) (hk:stk=sk ++ [n]) (hl:sk.length≤1000000):Emits s p st stk (plainT 187) 6 (s.extract st p) (1 + (nlc s p:Nat)) p p sk (plainT n):=by
 rintro L ⟨h,hs⟩;have hc:=h.chr hp;have hst':=h.stack.trans hk;obtain ⟨h1,h2⟩:=(h.pk).emitted 6 sk (plainT n);exact ⟨1,_,_,run1 hs enters187 h.q (bool_ws h.ok (h.rdy hst) sk n hst' hl (by rw [h.pk.txt];exact hb) (by rw [hc];exact e)),h2,rfl,rfl,rfl,h1⟩
theorem ld_bool_semi (hp:p < s.size) (hst:st≤p) (hb:boolWord (s.extract st p)=true) (e:byteAt s p=59) (sk:List Nat) (n:Nat) (hk:stk=sk ++ [n]) (hl:sk.length≤1000000):Emits s p st stk (plainT 187) 6 (s.extract st p) (1 + (nlc s p:Nat)) p p sk (plainT n):=by
 rintro L ⟨h,hs⟩;have hc:=h.chr hp;have hst':=h.stack.trans hk;obtain ⟨h1,h2⟩:=(h.pk).emitted 6 sk (plainT n);exact ⟨1,_,_,run1 hs enters187 h.q (bool_semi h.ok (h.rdy hst) sk n hst' hl (by rw [h.pk.txt];exact hb) (by rw [hc];exact e)),h2,rfl,rfl,rfl,h1⟩
theorem ld_bool_comma (hp:p < s.size) (hst:st≤p) (hb:boolWord (s.extract st p)=true) (e:byteAt s p=44) (sk:List Nat) (n:Nat) (hk:stk=sk ++ [n]) (hl:sk.length≤1000000):Emits s p st stk (plainT 187) 6 (s.extract st p) (1 + (nlc s p:Nat)) p p sk (plainT n):=by
 rintro L ⟨h,hs⟩;have hc:=h.chr hp;have hst':=h.stack.trans hk;obtain ⟨h1,h2⟩:=(h.pk).emitted 6 sk (plainT n);exact ⟨1,_,_,run1 hs enters187 h.q (bool_comma h.ok (h.rdy hst) sk n hst' hl (by rw [h.pk.txt];exact hb) (by rw [hc];exact e)),h2,rfl,rfl,rfl,h1⟩
theorem ld_bool_brace (hp:p < s.size) (hst:st≤p) (hb:boolWord (s.extract st p)=true) (e:byteAt s p=125) (sk:List Nat) (n:Nat) (hk:stk=sk ++ [n]) (hl:sk.length≤1000000):Emits s p st stk (plainT 187) 6 (s.extract st p) (1 + (nlc s p:Nat)) p p sk (plainT n):=by
 rintro L ⟨h,hs⟩;have hc:=h.chr hp;have hst':=h.stack.trans hk;obtain ⟨h1,h2⟩:=(h.pk).emitted 6 sk (plainT n);exact ⟨1,_,_,run1 hs enters187 h.q (bool_brace h.ok (h.rdy hst) sk n hst' hl (by rw [h.pk.txt];exact hb) (by rw [hc];exact e)),h2,rfl,rfl,rfl,h1⟩
theorem ld_bool_tm (hp:p < s.size) (hst:st≤p) (hb:boolWord (s.extract st p)=true) (e:tmB (byteAt s p)) (sk:List Nat) (n:Nat) (hk:stk=sk ++ [n]) (hl:sk.length≤1000000):Emits s p st stk (plainT 187) 6 (s.extract st p) (1 + (nlc s p:Nat)) p p sk (plainT n):=by
 rcases e with e | e | e | e | e
 ·exact ld_bool_nl hp hst hb e sk n hk hl
 ·exact ld_bool_ws hp hst hb e sk n hk hl
 ·exact ld_bool_semi hp hst hb e sk n hk hl
 ·exact ld_bool_comma hp hst hb e sk n hk hl
 ·exact ld_bool_brace hp hst hb e sk n hk hl
end
section
variable {K:PK} {s:ByteArray} {p st:Nat} {stk sk:List Nat} {cx cx1 fin:List CJ} {ks ks1:List ByteArray} {pt n:Nat} {j:JV}
def endR (e:Nat):ByteArray:=match e with
 | 5=>⟨#[59]⟩
 | 6=>⟨#[44]⟩
 | e=>endT e
theorem isSp_not (h:isSp (byteAt s p)=true):isSep (byteAt s p)=false∧byteAt s p ≠ 93:=by
 simp only [isSp,Bool.or_eq_true,beq_iff_eq] at h;constructor
 ·simp [isSep];omega
 ·omega
theorem ld_sepM (j:Nat) (hj:j < 6) (h:Has s p (sepT j)) (hlt:p + (sepT j).size < s.size) (hv:vsB (byteAt s (p + (sepT j).size))) (hv2:byteAt s (p + (sepT j).size) ≠ 44∧byteAt s (p + (sepT j).size) ≠ 125) (hl:stk.length≤1000000):Leads s p p stk (plainT 206) (p + (sepT j).size) (p + (sepT j).size) (stk ++ [207]) (plainT 174):=by
 obtain ⟨v1,v2,v3⟩:=hv;have go:Leads s (p + (sepT j).size) (p + (sepT j).size) stk (plainT 214) (p + (sepT j).size) (p + (sepT j).size) (stk ++ [207]) (plainT 174):=ld_mv_other hlt hl v1 hv2.1 hv2.2
 match j,hj with
 | 0,_ =>
  have hle:p + 3 < s.size:=hlt;have b0:byteAt s p=32:=h.at 0 (by decide);have b1:byteAt s (p + 1)=61:=h.at 1 (by decide);have b2:byteAt s (p + 2)=32:=h.at 2 (by decide);exact ((((ld_mke_sp (by omega) (by rw [b0];rfl)).trans (ld_skip 206)).trans ((ld_mke_sep (by omega) (by rw [b1];rfl) (by rw [b1];rfl)).trans (ld_skip 214))).trans ((ld_mv_sp (by omega) (by rw [show p + 1 + 1=p + 2 from rfl,b2];rfl)).trans (ld_skip 214))).trans go
 | 1,_ =>
  have hle:p + 1 < s.size:=hlt;have b0:byteAt s p=61:=h.at 0 (by decide);exact ((ld_mke_sep (by omega) (by rw [b0];rfl) (by rw [b0];rfl)).trans (ld_skip 214)).trans go
 | 2,_ =>
  have hle:p + 2 < s.size:=hlt;have b0:byteAt s p=58:=h.at 0 (by decide);have b1:byteAt s (p + 1)=32:=h.at 1 (by decide);exact (((ld_mke_sep (by omega) (by rw [b0];rfl) (by rw [b0];rfl)).trans (ld_skip 214)).trans ((ld_mv_sp (by omega) (by rw [b1];rfl)).trans (ld_skip 214))).trans go
 | 3,_ =>
  have hle:p + 1 < s.size:=hlt;have b0:byteAt s p=58:=h.at 0 (by decide);exact ((ld_mke_sep (by omega) (by rw [b0];rfl) (by rw [b0];rfl)).trans (ld_skip 214)).trans go
 | 4,_ =>
  have hle:p + 1 < s.size:=hlt;have b0:byteAt s p=32:=h.at 0 (by decide);exact (((ld_mke_sp (by omega) (by rw [b0];rfl)).trans (ld_skip 206)).trans (ld_mke_other hle v1 v2)).trans go
 | 5,_ =>
  have hle:p + 3 < s.size:=hlt;have b0:byteAt s p=32:=h.at 0 (by decide);have b1:byteAt s (p + 1)=32:=h.at 1 (by decide);have b2:byteAt s (p + 2)=32:=h.at 2 (by decide);exact ((((ld_mke_sp (by omega) (by rw [b0];rfl)).trans (ld_skip 206)).trans ((ld_mke_sp (by omega) (by rw [b1];rfl)).trans (ld_skip 206))).trans (((ld_mke_sp (by omega) (by rw [show p + 1 + 1=p + 2 from rfl,b2];rfl)).trans (ld_skip 206)).trans (ld_mke_other hle v1 v2))).trans go
end
section
variable {K:PK} {S E:Nat} {s:ByteArray} {p st:Nat} {sk:List Nat} {cx fin:List CJ} {ks:List ByteArray} {pt:Nat}
end
def trT:Bool→Nat→ByteArray
 | true,0=>⟨#[116,114,117,101]⟩
 | true,1=>⟨#[121,101,115]⟩
 | true,2=>⟨#[111,110]⟩
 | true,3=>⟨#[84,82,85,69]⟩
 | true,4=>⟨#[89,101,115]⟩
 | true,_=>⟨#[111,78]⟩
 | false,0=>⟨#[102,97,108,115,101]⟩
 | false,1=>⟨#[110,111]⟩
 | false,2=>⟨#[111,102,102]⟩
 | false,3=>⟨#[70,65,76,83,69]⟩
 | false,4=>⟨#[78,111]⟩
 | false,_=>⟨#[111,70,102]⟩
theorem trT_ok (b:Bool) (i:Nat) (hi:i < 6):0 < (trT b i).size∧(trT b i).size≤5∧boolWord (trT b i)=true∧(∀ k,k < (trT b i).size→strB (byteAt (trT b i) k)∧letB (byteAt (trT b i) k)∧byteAt (trT b i) k < 128) ∧
  ((b=true∧trueW (Lib.toLowerA (trT b i).data.toList)) ∨ (b=false∧falseW (Lib.toLowerA (trT b i).data.toList))):=by
 unfold trueW falseW strB letB
 match b,i,hi with
 | true,0,_ | true,1,_ | true,2,_ | true,3,_ | true,4,_ | true,5,_ | false,0,_ | false,1,_ | false,2,_ | false,3,_ | false,4,_ | false,5,_=>decide
section
variable {K:PK} {s:ByteArray} {p st:Nat} {stk sk:List Nat} {cx cx1 fin:List CJ} {ks ks1:List ByteArray} {pt n:Nat} {j:JV}
theorem rd_bool (b:Bool) (i:Nat) (hi:i < 6) (h:Has s p (trT b i)) (hlt:p + (trT b i).size < s.size) (he:tmB (byteAt s (p + (trT b i).size))) (hk:stk=sk ++ [n]) (hl:sk.length≤1000000) :
  ∃ line,Emits s p p stk (plainT 174) 6 (trT b i) line (p + (trT b i).size) (p + (trT b i).size) sk (plainT n):=by
 obtain ⟨hpos,h2,h3,h4,h5⟩:=trT_ok b i hi;generalize trT b i=t at *;have e0:byteAt s p=byteAt t 0:=h.at 0 hpos;obtain ⟨hs0,hl0,_⟩:=h4 0 hpos;have hnd:isDig (byteAt t 0)=false:=by unfold letB at hl0;simp [isDig];omega
 have hc0:byteAt t 0 ≠ 91∧byteAt t 0 ≠ 123∧byteAt t 0 ≠ 34∧byteAt t 0 ≠ 45∧byteAt t 0 ≠ 40∧byteAt t 0 ≠ 46∧byteAt t 0 ≠ 36:=by unfold letB at hl0;omega
 have l0:Leads s p p stk (plainT 174) p p stk (plainT 187):=ld_val_str (by omega) (by rw [e0];exact hs0.2.1) (by rw [e0];exact hnd) (by rw [e0];exact hs0.1) (by rw [e0];exact hc0.1) (by rw [e0];exact hc0.2.1) (by rw [e0];exact hs0.2.2.2.2.2.2.2.2) (by rw [e0];exact hc0.2.2.1) (by rw [e0];exact hc0.2.2.2.1) (by rw [e0];exact hc0.2.2.2.2.1) (by rw [e0];exact hc0.2.2.2.2.2.1);have l1:=leads_run (s:=s) (p:=p) (st:=p) (stk:=stk) (f:=187) (Q:=strB) (fun p hp hq=>ld_str_chB hp hq) t.size (by omega) (fun i hi=>by rw [h.at i hi];exact (h4 i hi).1);have E:=ld_bool_tm (s:=s) (p:=p + t.size) (st:=p) (stk:=stk) hlt (by omega) (by rw [h.ext];exact h3) he sk n hk hl;rw [h.ext] at E;exact ⟨_,(l0.trans l1).emits E⟩
def fltT (sg:ByteArray) (m:Nat) (F:ByteArray):ByteArray:=sg ++ decB m ++ ⟨#[46]⟩ ++ F
theorem rd_flt (sg:ByteArray) (m:Nat) (F:ByteArray) (hsg:sg=⟨#[]⟩ ∨ sg=⟨#[45]⟩) (hm:m≤1000000000) (hF:F.size=3) (hFd:∀ i,i < F.size→48≤byteAt F i∧byteAt F i≤57) (h:Has s p (fltT sg m F)) (hlt:p + (fltT sg m F).size < s.size) (he:tmB (byteAt s (p + (fltT sg m F).size))) (hk:stk=sk ++ [n]) (hl:sk.length≤1000000) :
  ∃ line,Emits s p p stk (plainT 174) 8 (fltT sg m F) line (p + (fltT sg m F).size) (p + (fltT sg m F).size) sk (plainT n):=by
 have hz:=decB_small m (by omega);have hd:=decB_dig m;have hall:=h.ext;have h1:=h.left.left.left;have h2:=h.left.left.right;have h3:=h.left.right;have h4:=h.right;have z1:(sg ++ decB m).size=sg.size + (decB m).size:=bsa;have z2:(sg ++ decB m ++ ⟨#[46]⟩).size=sg.size + (decB m).size + 1:=by rw [bsa,z1];rfl
 have hsz:(fltT sg m F).size=sg.size + (decB m).size + 1 + 3:=by unfold fltT;rw [bsa,z2,hF]
 rw [z1,← Nat.add_assoc] at h3;rw [z2] at h4;rw [hsz] at hlt he hall ⊢;rw [show p + (sg.size + (decB m).size + 1)=p + sg.size + (decB m).size + 1 from by omega] at h4;rw [show p + (sg.size + (decB m).size + 1 + 3)=p + sg.size + (decB m).size + 1 + 1 + 2 from by omega] at hlt he hall ⊢;have e46:byteAt s (p + sg.size + (decB m).size)=46:=h3.at 0 (by decide);have f0:=h4.at 0 (by omega);have f1:=h4.at 1 (by omega);have f2:=h4.at 2 (by omega);rw [Nat.add_zero] at f0;have g0:=hFd 0 (by omega);have g1:=hFd 1 (by omega);have g2:=hFd 2 (by omega);rw [← f0] at g0;rw [← f1] at g1;rw [← f2] at g2;have hnd:isDig (byteAt s (p + sg.size + (decB m).size + 1 + 1 + 2))=false∧byteAt s (p + sg.size + (decB m).size + 1 + 1 + 2) ≠ 46:=by
  rcases he with e | e | e | e | e <;> rw [e] <;> exact ⟨rfl,by decide⟩
 have hd0:=h2.at 0 hz.1;rw [Nat.add_zero] at hd0;have hdd0:=hd 0 hz.1;rw [← hd0] at hdd0;have tail:∀ st,st≤p + sg.size + (decB m).size→Emits s (p + sg.size + (decB m).size + 1) st stk (plainT 210) 8 (s.extract st (p + sg.size + (decB m).size + 1 + 1 + 2)) (1 + (nlc s (p + sg.size + (decB m).size + 1 + 1 + 2):Nat)) (p + sg.size + (decB m).size + 1 + 1 + 2) (p + sg.size + (decB m).size + 1 + 1 + 2) sk (plainT n):=fun st hst=>by
  have a0:Leads s (p + sg.size + (decB m).size + 1) st stk (plainT 210) (p + sg.size + (decB m).size + 1 + 1) st stk (plainT 216):=ld_fls_dig (by omega) (dig_true g0)
  have a1:=leads_run (s:=s) (p:=p + sg.size + (decB m).size + 1 + 1) (st:=st) (stk:=stk) (f:=216) (Q:=fun c=>isDig c=true) (fun p hp hq=>ld_fl_dig hp hq) 2 (by omega) (fun i hi=>by
   match i,hi with
   | 0,_=>exact dig_true g1
   | 1,_=>exact dig_true g2)
  exact (a0.trans a1).emits (ld_fl_end (by omega) (by omega) hnd.1 hnd.2 sk n hk hl)
 rcases hsg with rfl | rfl
 ·have hs0:(⟨#[]⟩:ByteArray).size=0:=rfl;simp only [hs0,Nat.add_zero] at h2 h3 hlt he hall hdd0 e46 tail ⊢;have l0:Leads s p p stk (plainT 174) p p stk (plainT 186):=ld_val_dig (by omega) (by simp [isWS];omega) (dig_true hdd0) hdd0;have l1:Leads s p p stk (plainT 186) (p + 1) p stk (plainT 199):=ld_num_start (by omega) (dig_true hdd0)
  have l2:=leads_digits (s:=s) (p:=p + 1) (st:=p) (stk:=stk) ((decB m).size - 1) (by omega) (fun i hi=>by
   rw [show p + 1 + i=p + (i + 1) from by omega,h2.at (i + 1) (by omega)]
   exact hd (i + 1) (by omega))
  rw [show p + 1 + ((decB m).size - 1)=p + (decB m).size from by omega] at l2;have l3:Leads s (p + (decB m).size) p stk (plainT 199) (p + (decB m).size + 1) p stk (plainT 210):=ld_num_dot (by omega) e46;have E:=tail p (by omega);rw [hall] at E;exact ⟨_,(l0.trans (l1.trans (l2.trans l3))).emits E⟩
 ·have hs1:(⟨#[45]⟩:ByteArray).size=1:=rfl;have e45:byteAt s p=45:=h1.at 0 (by decide);rw [hs1] at h2 h3 hlt he hall hdd0 e46 tail ⊢;have l0:Leads s p p stk (plainT 174) (p + 1) p stk (plainT 184):=ld_val_neg (by omega) e45;have l1:Leads s (p + 1) p stk (plainT 184) (p + 1 + 1) p stk (plainT 198):=ld_neg_start (by omega) (dig_true hdd0)
  have l2:=leads_run (s:=s) (p:=p + 1 + 1) (st:=p) (stk:=stk) (f:=198) (Q:=fun c=>isDig c=true) (fun p hp hq=>ld_neg_dig hp hq) ((decB m).size - 1) (by omega) (fun i hi=>by
   rw [show p + 1 + 1 + i=p + 1 + (i + 1) from by omega,h2.at (i + 1) (by omega)]
   exact dig_true (hd (i + 1) (by omega)))
  rw [show p + 1 + 1 + ((decB m).size - 1)=p + 1 + (decB m).size from by omega] at l2;have l3:Leads s (p + 1 + (decB m).size) p stk (plainT 198) (p + 1 + (decB m).size + 1) p stk (plainT 210):=ld_neg_dot (by omega) e46;have E:=tail p (by omega);rw [hall] at E;exact ⟨_,(l0.trans (l1.trans (l2.trans l3))).emits E⟩
end
inductive TxtS (t:ByteArray) (li:Bool):Bool→ByteArray→Prop
 | blk (h:Blk t) (hl:li=false):TxtS t li true (⟨#[40]⟩ ++ t ++ ⟨#[41]⟩)
 | sq (h:Plain t q5):TxtS t li false (⟨#[39]⟩ ++ t ++ ⟨#[39]⟩)
 | bare (h:Bare t) (hl:li=false):TxtS t li false t
 | dq (h:∀ i,i < t.size→escOk (byteAt t i)):TxtS t li false (⟨#[34]⟩ ++ escT t ++ ⟨#[34]⟩)
def FltGives (f:Nat) (T:ByteArray):Prop:=∀ w,Calls Tryz.prog 71 #[.string T,.int .i64 64] w fun e w'=>e=.returned (.tuple #[.float .f64 f,.nilIface])∧Below w.heap.size w w'
def FltSp (f:Nat) (T:ByteArray):Prop:=∃ (sg:ByteArray) (m:Nat) (F:ByteArray),(sg=⟨#[]⟩ ∨ sg=⟨#[45]⟩)∧m≤1000000000∧F.size=3∧(∀ i,i < F.size→48≤byteAt F i∧byteAt F i≤57)∧T=fltT sg m F∧FltGives f T
def VarSp (env:List (ByteArray × JV)) (j:JV) (T:ByteArray):Prop:=∃ k,(k,j) ∈ env∧Bare k∧T=⟨#[36]⟩ ++ k
def sp3:Nat→ByteArray
 | 0=>⟨#[]⟩
 | 1=>⟨#[32]⟩
 | _=>⟨#[10]⟩
def mkT:Nat→ByteArray
 | 0=>⟨#[44]⟩
 | 1=>⟨#[44,32]⟩
 | 2=>⟨#[10]⟩
 | _=>⟨#[32,44,10,32,32]⟩
def tlT:Nat→ByteArray
 | 0=>⟨#[44]⟩
 | 1=>⟨#[32]⟩
 | _=>⟨#[10]⟩
mutual
def SpV (env:List (ByteArray × JV)) (li:Bool):JV→Bool→ByteArray→Prop
 | .int v,nl,T=>nl=false∧(IntSp v T ∨ VarSp env (.int v) T)
 | .num f,nl,T=>nl=false∧FltSp f T
 | .tr b,nl,T=>nl=false∧∃ i,i < 6∧T=trT b i
 | .txt t,nl,T=>TxtS t li nl T ∨ (nl=false∧VarSp env (.txt t) T)
 | .arr l,nl,T=>nl=false∧∃ a mk b Es R,SpL env mk true l Es∧((l=[]∧R=⟨#[]⟩) ∨ (l ≠ []∧∃ tl,R=tlT tl))∧T=⟨#[91]⟩ ++ (sp3 a ++ (Es ++ (R ++ (sp3 b ++ ⟨#[93]⟩))))
 | .map ks l,nl,T=>nl=false∧∃ a Es,SpE env ks l Es∧ks.Pairwise (fun x y=>bytesBefore y.data.toList x.data.toList=false∧x ≠ y)∧(∀ k ∈ ks,∀ x ∈ env,x.1 ≠ k)∧T=⟨#[123]⟩ ++ (sp3 a ++ (Es ++ ⟨#[125]⟩))
def SpL (env:List (ByteArray × JV)) (mk:Nat):Bool→List JV→ByteArray→Prop
 | _,[],T=>T=⟨#[]⟩
 | first,j :: r,T=>∃ V R,SpV env true j false V∧SpL env mk false r R∧T=(if first then ⟨#[]⟩ else mkT mk) ++ (V ++ R)
def SpE (env:List (ByteArray × JV)):List ByteArray→List JV→ByteArray→Prop
 | ks,[],T=>ks=[]∧T=⟨#[]⟩
 | ks,j :: r,T=>∃ k ks' kb Kt q nl V e R,ks=k :: ks'∧KeySp k Kt∧noKw k∧k.size≤1000000∧q < 6∧SpV env false j nl V∧e < 7∧(nl=true→e=3)∧SpE env ks' r R∧T=blankT kb ++ ((Kt ++ sepT q) ++ (V ++ (endR e ++ R)))
end
theorem bytes_ne {a b:ByteArray} (h:a ≠ b):(a.data.toList == b.data.toList)=false:=by
 rw [beq_eq_false_iff_ne];intro e;apply h;obtain ⟨⟨x⟩⟩:=a;obtain ⟨⟨y⟩⟩:=b;simpa using e
def v0B (c:Nat):Prop:=(48≤c∧c≤57) ∨ c=45 ∨ c=40 ∨ c=39 ∨ c=34 ∨ letB c ∨ c=36 ∨ c=91 ∨ c=123
theorem v0B.vs {c:Nat} (hc:v0B c):vsB c∧c ≠ 44∧c ≠ 125∧c ≠ 35∧c ≠ 47∧c ≠ 93:=by
 unfold v0B letB at hc;refine ⟨⟨?_,?_,by omega⟩,by omega,by omega,by omega,by omega,by omega⟩
 ·simp [isSp];omega
 ·simp [isSep];omega
theorem first_app {a b:ByteArray} {Q:Nat→Prop} (h:0 < a.size∧Q (byteAt a 0)):0 < (a ++ b).size∧Q (byteAt (a ++ b) 0):=by
 rw [bsa,byteAt_app_left _ _ _ h.1];exact ⟨by omega,h.2⟩
theorem one_first (c:UInt8) {Q:Nat→Prop} (h:Q c.toNat):0 < (⟨#[c]⟩:ByteArray).size∧Q (byteAt ⟨#[c]⟩ 0):=⟨Nat.one_pos,h⟩
theorem int_first {v:Int} {T:ByteArray} (h:IntSp v T):0 < T.size∧v0B (byteAt T 0):=by
 obtain ⟨sg,m,sf,u,rfl,hsf,hn,hb⟩:=h;have hu:=mulB_pos hsf;have hmu:(m:Int)≤m * u:=by
  have:=Int.mul_le_mul_of_nonneg_left hu (Int.natCast_nonneg m);omega
 have hz:=decB_small m (by omega);have hsg:sg=⟨#[]⟩ ∨ sg=⟨#[45]⟩:=by rcases hn with ⟨h,_⟩ | ⟨h,_⟩;exact .inl h;exact .inr h
 refine first_app ⟨by rw [bsa];omega,?_⟩;rcases sgdig sg m hsg 0 (by rw [bsa];omega) with h | h
 ·exact .inl h
 ·exact .inr (.inl h)
theorem var_first {env:List (ByteArray × JV)} {j:JV} {T:ByteArray} (h:VarSp env j T):0 < T.size∧v0B (byteAt T 0):=by
 obtain ⟨k,_,_,rfl⟩:=h;exact first_app (one_first 36 (.inr (.inr (.inr (.inr (.inr (.inr (.inl rfl))))))))
theorem flt_first {f:Nat} {T:ByteArray} (h:FltSp f T):0 < T.size∧v0B (byteAt T 0):=by
 obtain ⟨sg,m,F,hsg,hm,hF,hd,rfl,_⟩:=h;have hz:=decB_small m (by omega);refine first_app (first_app ⟨by rw [bsa];omega,?_⟩);rcases sgdig sg m hsg 0 (by rw [bsa];omega) with h | h
 ·exact .inl h
 ·exact .inr (.inl h)
theorem txt_first {t T:ByteArray} {li nl:Bool} (h:TxtS t li nl T):0 < T.size∧v0B (byteAt T 0):=by
 cases h with
 | blk _ _=>exact first_app (first_app (one_first 40 (.inr (.inr (.inl rfl)))))
 | sq _=>exact first_app (first_app (one_first 39 (.inr (.inr (.inr (.inl rfl))))))
 | bare hB _ =>
  refine ⟨hB.pos,?_⟩;rcases hB.bytes 0 hB.pos with h | h
  ·exact .inr (.inr (.inr (.inr (.inr (.inl h)))))
  ·exact absurd rfl h.1
 | dq _=>exact first_app (first_app (one_first 34 (.inr (.inr (.inr (.inr (.inl rfl)))))))
theorem spv_first {env:List (ByteArray × JV)} {li nl:Bool} {T:ByteArray}:∀ {j:JV},SpV env li j nl T→0 < T.size∧v0B (byteAt T 0)
 | .int _,h=>by
  simp only [SpV] at h;rcases h.2 with h | h
  ·exact int_first h
  ·exact var_first h
 | .num _,h=>by
  simp only [SpV] at h;exact flt_first h.2
 | .tr b,h=>by
  simp only [SpV] at h;obtain ⟨_,i,hi,rfl⟩:=h;obtain ⟨h1,_,_,h4,_⟩:=trT_ok b i hi;exact ⟨h1,.inr (.inr (.inr (.inr (.inr (.inl (h4 0 h1).2.1)))))⟩
 | .txt _,h=>by
  simp only [SpV] at h;rcases h with h | h
  ·exact txt_first h
  ·exact var_first h.2
 | .arr _,h=>by
  simp only [SpV] at h;obtain ⟨_,a,mk,b,Es,R,_,_,rfl⟩:=h;exact first_app (one_first 91 (.inr (.inr (.inr (.inr (.inr (.inr (.inr (.inl rfl)))))))))
 | .map _ _,h=>by
  simp only [SpV] at h;obtain ⟨_,a,Es,_,_,_,rfl⟩:=h;exact first_app (one_first 123 (.inr (.inr (.inr (.inr (.inr (.inr (.inr (.inr rfl)))))))))
section
variable {K:PK} {s:ByteArray} {p:Nat} {sk:List Nat} {cx cx1 fin:List CJ} {ks ks1:List ByteArray} {pt n:Nat} {j:JV} {env:List (ByteArray × JV)} {T:ByteArray}
theorem bare_pre {k:ByteArray} (hB:Bare k):Lib.hasPrefix k.data.toList [50,97,36]=false:=by
 have hp:=hB.pos;have h0:=hB.bytes 0 hp;obtain ⟨⟨l⟩⟩:=k
 cases l with
 | nil=>exact absurd hp (by decide)
 | cons c r =>
  have hc:letB c.toNat:=by
   rcases h0 with h | h
   ·exact h
   ·exact absurd rfl h.1
  unfold letB at hc;have:c ≠ 50:=by
   rintro rfl
   revert hc
   decide
  have h2:(50 == c)=false:=by rw [beq_eq_false_iff_ne];exact fun e=>this e.symm
  simp [Lib.hasPrefix,List.isPrefixOf,h2]
end
attribute [local go_sem ↓] mk75z mk61
section
variable {B:Nat} {lab lab1:Lab} {w w1:World} {K:PK} {X X':PX} {M:Nat→Prop}
end
section
variable {K:PK} {s:ByteArray} {p:Nat} {sk:List Nat} {cx cx1 fin:List CJ} {ks ks1:List ByteArray} {pt n:Nat} {T:ByteArray}
end
end Go.Cf
namespace Go.Cf
open Go.RowKit Go.Conc Go.Proofs
theorem endR_tm (e:Nat) (he:e < 7):0 < (endR e).size∧tmB (byteAt (endR e) 0):=by
 unfold tmB
 match e,he with
 | 0,_ | 1,_ | 2,_ | 3,_ | 4,_ | 5,_ | 6,_=>decide
theorem mkT_tm:∀ mk:Nat,0 < (mkT mk).size∧tmB (byteAt (mkT mk) 0)
 | 0 | 1 | 2=>by unfold tmB;decide
 | _ + 3=>by unfold tmB;exact ⟨show 0 < 5 by decide,.inr (.inl rfl)⟩
theorem tlT_tm:∀ t:Nat,0 < (tlT t).size∧tmB (byteAt (tlT t) 0)
 | 0 | 1=>by unfold tmB;decide
 | _ + 2=>by unfold tmB;exact ⟨show 0 < 1 by decide,.inl rfl⟩
theorem Has.tm {s:ByteArray} {p:Nat} {A:ByteArray} (h:Has s p A) (ha:0 < A.size∧tmB (byteAt A 0)):p < s.size∧tmB (byteAt s p):=by
 have h1:=h.lt 0 ha.1;have h2:=h.at 0 ha.1;rw [Nat.add_zero] at h1 h2;exact ⟨h1,by rw [h2];exact ha.2⟩
section
variable {K:PK} {s:ByteArray} {p:Nat} {sk stk:List Nat} {cx cx1 fin:List CJ} {ks ks1:List ByteArray} {pt n:Nat} {j:JV} {env:List (ByteArray × JV)} {T:ByteArray}
end
end Go.Cf
