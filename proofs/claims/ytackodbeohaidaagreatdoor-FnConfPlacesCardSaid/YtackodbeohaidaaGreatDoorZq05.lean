/-
  Texts joined: V V2 AB AC Vw Ld V3 Fd Wk Ln Dc Cn Bd Bi Bp Bt Bv Bw Br Er We St Ws Le.
-/
import Derived.Test.YtackodbeohaidaaGreatDoorZq02
import Derived.Test.YtackodbeohaidaaGreatDoorZq03
import Derived.Test.YtackodbeohaidaaGreatDoorZq04
import Derived.Laws.RangeString
import Derived.Deep.RegionLaw
namespace Go.Cf
open Go.RowKit Go.Conc Go.Proofs
section
variable {B:Nat} {lab lab1:Lab} {w w1:World} {K:PK} {X X':PX} {M:Nat→Prop}
theorem iter_mv (w:World) (lab:Lab) (s:ByteArray) (k:Nat):Mv (fun _=>False) w lab (w.iter s k) (lab.ext w.heap.size 7):=Mv.alloc w lab _ 7
def Tb (lab:Lab) (w:World):Prop:=Lib.TabIs Tryz.prog w "strings.asciiSpace" .u8 Lib.asciiSpaceTab∧∀ g,Tryz.prog.globalNamed "strings.asciiSpace"=some g→lab g=0
theorem Tb.mv (h:Tb lab w) (m:Mv M w lab w1 lab1) (hM:¬ M 0):Tb lab1 w1:=by
 obtain ⟨h1,h2⟩:=h;unfold Lib.TabIs World.var? at h1
 cases hg:Tryz.prog.globalNamed "strings.asciiSpace" with
 | none=>rw [hg] at h1;simp at h1
 | some g =>
  have hl:=h2 g hg;have hlt:g < w.heap.size:=by
   rw [hg] at h1;simp only [Option.bind_some] at h1
   cases hb:w.heap[g]? with
   | none=>rw [hb] at h1;simp at h1
   | some o=>exact lt_of_block hb
  refine ⟨?_,fun g' hg'=>?_⟩
  ·unfold Lib.TabIs World.var?;rw [hg] at h1 ⊢;simp only [Option.bind_some] at h1 ⊢;rw [m.block g hlt (by rw [hl];exact hM)];exact h1
  ·rw [hg] at hg'
   cases hg'
   exact (m.lab g hlt (by rw [hl];exact hM)).trans hl
end
section
variable {B:Nat} {lab lab1:Lab} {w w1:World} {K:PK} {X X':PX} {M:Nat→Prop}
end
def Works (K:PK) (X:PX) (x:It) (X':PX):Prop :=
 ∀ (B:Nat) (lab:Lab) (w:World),B≤w.heap.size→PAt B lab w K X→Tb lab w →
  Calls Tryz.prog 57 #[.pointer (some ⟨K.p,0,none⟩),x.v,.string { data:=#[] }] w fun e w'=>e=.returned .nilIface∧∃ lab',PAt B lab' w' K X'∧Mv PM w lab w' lab'
inductive Feeds (K:PK):PX→It→PX→Prop
 | eof {n:Nat} {X:PX} {L':LX} {x prev:It} {q:List It} (R:Run n X.L L') (hx:L'.q=x :: q) (ht:x.typ=2) (hp:prev.typ ≠ 3):Feeds K X prev { X with L:=L'.took q }
 | step {n:Nat} {X X2 X':PX} {L':LX} {x prev:It} {q:List It} (R:Run n X.L L') (hx:L'.q=x :: q) (ht:x.typ ≠ 2) (hw:Works K { X with L:=L'.took q } x X2) (h:Feeds K X2 x X'):Feeds K X prev X'
section
variable {B:Nat} {lab lab1:Lab} {w w1:World} {K:PK} {X X':PX}
def PI (B:Nat) (lab0:Lab) (w0:World) (K:PK) (r:Nat) (X:PX) (prev:It) (a:Act) (w:World):Prop :=
 (∃ t2 t3 t6 t7 t8 t9 t10 t11 t12 t13 t14 t15 t16 t17 t18 t19 t20 t21 t22 t23 t24 t25 t26 t27 t28 t29 t30 t31 t32 t33 t34 t35 t36:Value,a={ tmps:=#[.pointer (some ⟨K.p,0,none⟩),.string { data:=#[] },t2,t3,.nilIface,.pointer (some ⟨r,0,none⟩),t6,t7,t8,t9,t10,t11,t12,t13,t14,t15,t16,t17,t18,t19,t20,t21,t22,t23,t24,t25,t26,t27,t28,t29,t30,t31,t32,t33,t34,t35,t36],defers:=[] }) ∧
 ∃ lab,PAt B lab w K X∧B≤w.heap.size∧Tb lab w∧Cl 7 lab w r #[i64 prev.typ,.string prev.val,i64 prev.line,i64 prev.pos] 98∧Mv PM w0 lab0 w lab
theorem wpL_feeds {P:Program} {Q:Exit→Act→World→Prop} {c:Code} {I:PX→It→Act→World→Prop} {prev:It} {a:Act} (F:Feeds K X prev X') (hI:I X prev a w)
  (heof:∀ (n:Nat) (X:PX) (L':LX) (x prev:It) (q:List It) (a:Act) (w:World),Run n X.L L'→L'.q=x :: q→x.typ=2→prev.typ ≠ 3→X'={ X with L:=L'.took q }→I X prev a w→wpN P c (Exit.then (fun _ _=>False) Q) a w)
  (hstep:∀ (n:Nat) (X X2:PX) (L':LX) (x prev:It) (q:List It) (a:Act) (w:World),Run n X.L L'→L'.q=x :: q→x.typ ≠ 2→Works K { X with L:=L'.took q } x X2→I X prev a w→wpN P c (Exit.then (I X2 x) Q) a w):wpL P c Q a w:=by
 induction F generalizing a w with
 | eof R hx ht hp=>exact wpL_round (wpN_mono (heof _ _ _ _ _ _ _ _ R hx ht hp rfl hI) (fun e a w q=>by cases e <;> first | exact q | exact q.elim))
 | step R hx ht hw _ ih=>exact wpL_round (wpN_mono (hstep _ _ _ _ _ _ _ _ _ R hx ht hw hI) (fun e a w q=>by cases e <;> first | exact q | exact ih q heof))
theorem PAt.c0 (h:PAt B lab w K X):w.cell? ⟨K.p,0,none⟩=some (.map (some K.mp)):=by
 obtain ⟨top,cv,kv,vs,h⟩:=h;exact h.cl.cell 0
set_option maxRecDepth 100000 in
set_option maxHeartbeats 4000000 in
theorem parse48_c {s:ByteArray} {c:Nat} (h:NewP B lab w K s c) (hB:B≤w.heap.size) (htb:Tb lab w) (F:Feeds K ⟨LX.new s c,[.map []],[]⟩ ⟨0,{ data:=#[] },0,0⟩ X') :
  Calls Tryz.prog 48 #[.pointer (some ⟨K.p,0,none⟩),.string { data:=#[] }] w fun e w'=>e=.returned .nilIface∧∃ lab',PAt B lab' w' K X'∧Mv PM w lab w' lab':=by
 have c0:=h.1.c0;refine calls_of_wpN Tryz.func48 rfl ?_;simp only [Tryz.ntmps48,List.size_toArray,List.length_cons,List.length_nil,Nat.reduceAdd,Nat.reduceSub,Array.replicate_succ,Array.replicate_zero,List.push_toArray,List.append_toArray,List.nil_append,List.cons_append];refine wpN_seq_k (fun K0 hK0=>?_);go_wp2;refine wpN_seq_k (fun K1 hK1=>?_);go_wp2_with fail;refine (pushContext_c h.1 hB (by simp) (.map []) 61 (.map (some K.mp)) ⟨K.mp,[],rfl,h.2.1,rfl,trivial⟩ (fun _=>rfl)).mono ?_;rintro e w1 ⟨rfl,lab1,hp1,m1⟩;go_wp2;refine wpN_seq_k (fun K2 hK2=>?_);go_wp2;have hz:Cl 7 (lab1.ext w1.heap.size 7) (w1.alloc Zero98) w1.heap.size #[i64 0,.string { data:=#[] },i64 0,i64 0] 98:=Cl.alloc _ _ _ _ _;have mz:Mv (fun _=>False) w1 lab1 (w1.alloc Zero98) (lab1.ext w1.heap.size 7):=Mv.alloc _ _ _ _;have hpz:=hp1.alloc7 Zero98;have mmz:=m1.trans mz (fun _ h=>h.elim);have htz:=htb.mv mmz (by simp [PM]);have hBz:B≤(w1.alloc Zero98).heap.size:=Nat.le_trans hB mmz.size;obtain ⟨W,hW⟩:∃ W,W=w1.alloc Zero98:=⟨_,rfl⟩;have hW2:w1.alloc (Obj.cells #[Value.int IntKind.i64 0,Value.string { data:=#[] },Value.int IntKind.i64 0,Value.int IntKind.i64 0] 98)=W:=hW.symm;rw [← hW] at hz hpz mmz htz hBz;rw [hW2];obtain ⟨r,hr⟩:∃ r,r=w1.heap.size:=⟨_,rfl⟩;rw [← hr] at hz hpz mmz htz ⊢;have hwr:w.heap.size≤r:=by rw [hr];exact m1.size
 clear hr hW hW2;refine wpN_seq (wpN_block (wpL.loop ?_));refine wpL_feeds (I:=PI B lab w K r) F ⟨⟨_,_,_,_,_,_,_,_,_,_,_,_,_,_,_,_,_,_,_,_,_,_,_,_,_,_,_,_,_,_,_,_,_,rfl⟩,_,hpz,hBz,htz,hz,mmz⟩ ?_ ?_
 ·rintro n X L' ⟨xt,xv,xl,xp⟩ prev q a w2 R hx ht hp hX ⟨⟨t2,t3,t6,t7,t8,t9,t10,t11,t12,t13,t14,t15,t16,t17,t18,t19,t20,t21,t22,t23,t24,t25,t26,t27,t28,t29,t30,t31,t32,t33,t34,t35,t36,rfl⟩,lab2,hp2,hB2,ht2,hz2,mm2⟩;obtain ⟨pt,pv,pl,pp⟩:=prev;obtain rfl:xt=2:=ht;refine wpN_of_wp ?_;go_wp2_with fail;refine (next_item_c hp2 R hx).mono ?_;rintro e w3 ⟨rfl,lab3,hp3,m3⟩;have hz3:=hz2.mv m3 (by simp [PM]);have d0:w3.cell? ⟨r,0,none⟩=some (i64 pt):=hz3.cell 0;have e0:∀ o,(w3.alloc o).cell? ⟨r,0,none⟩=some (i64 pt):=fun o=>(World.cell?_alloc_lt w3 o _ (World.block_lt_of_cell? w3 _ d0)).trans d0
  have e1:(((pt:Nat):Int) == 3)=false:=bqf (by have h3:pt ≠ 3:=hp;omega);have hp4:=hp3.alloc7 (.cells #[i64 (2:Nat),.string xv,i64 xl,i64 xp] 98);have m4:=(mm2.trans m3 (fun _ h=>h)).trans (Mv.alloc (M:=fun _=>False) w3 lab3 (.cells #[i64 (2:Nat),.string xv,i64 xl,i64 xp] 98) 7) (fun _ h=>h.elim);have HX:=Lib.hid hX;have HP:=Lib.hid hp
  try simp only [It.v]
  clear d0 hX hp hx;go_wp2;refine wpN_of_wp ?_;go_wp2;go_ret;exact ⟨rfl,_,by rw [HX.out];exact hp4,m4⟩
 ·rintro n X X2 L' ⟨xt,xv,xl,xp⟩ prev q a w2 R hx ht hw ⟨⟨t2,t3,t6,t7,t8,t9,t10,t11,t12,t13,t14,t15,t16,t17,t18,t19,t20,t21,t22,t23,t24,t25,t26,t27,t28,t29,t30,t31,t32,t33,t34,t35,t36,rfl⟩,lab2,hp2,hB2,ht2,hz2,mm2⟩;obtain ⟨pt,pv,pl,pp⟩:=prev;have e1:(((xt:Nat):Int) == 2)=false:=bqf (by have h3:xt ≠ 2:=ht;omega);refine wpN_of_wp ?_;go_wp2_with fail;refine (next_item_c hp2 R hx).mono ?_;rintro e w3 ⟨rfl,lab3,hp3,m3⟩;have hz3:=hz2.mv m3 (by simp [PM]);have d0:w3.cell? ⟨r,0,none⟩=some (i64 pt):=hz3.cell 0;have d1:w3.cell? ⟨r,1,none⟩=some (.string pv):=hz3.cell 1;have d2:w3.cell? ⟨r,2,none⟩=some (i64 pl):=hz3.cell 2;have d3:w3.cell? ⟨r,3,none⟩=some (i64 pp):=hz3.cell 3;have f0:=hz3.free 0;have f1:=hz3.free 1;have f2:=hz3.free 2;have f3:=hz3.free 3;have hlt3:=lt_of_block hz3.1;have hne:r ≠ w3.heap.size:=by omega
  have HT:=Lib.hid ht;have HX:=Lib.hid hx
  try simp only [It.v]
  clear ht hx;go_wp2_with fail;have m7:Mv (·=7) w3 lab3 ((((w3.setCell ⟨r,0,none⟩ (i64 xt)).setCell ⟨r,1,none⟩ (.string xv)).setCell ⟨r,2,none⟩ (i64 xl)).setCell ⟨r,3,none⟩ (i64 xp)) lab3 :=
   (((Mv.setCell _ _ _ _ hz3.2).trans (Mv.setCell _ _ _ _ hz3.2) (fun _ h=>h)).trans (Mv.setCell _ _ _ _ hz3.2) (fun _ h=>h)).trans (Mv.setCell _ _ _ _ hz3.2) (fun _ h=>h)
  have hp4:=hp3.mv m7 (fun x hx e=>hx e);have mm3:=mm2.trans m3 (fun _ h=>h);have HM:Mv PM w lab ((((w3.setCell ⟨r,0,none⟩ (i64 xt)).setCell ⟨r,1,none⟩ (.string xv)).setCell ⟨r,2,none⟩ (i64 xl)).setCell ⟨r,3,none⟩ (i64 xp)) lab3:=by
   refine ⟨mm3.os,mm3.tape,mm3.output,Nat.le_trans mm3.size m7.size,fun k hk hn=>?_,mm3.lab⟩;refine Eq.trans ?_ (mm3.block k hk hn);have hne:k ≠ r:=by omega
   rw [Below.heap_setCell _ _ _ _ hne,Below.heap_setCell _ _ _ _ hne,Below.heap_setCell _ _ _ _ hne,Below.heap_setCell _ _ _ _ hne]
  have hz4:Cl 7 lab3 ((((w3.setCell ⟨r,0,none⟩ (i64 xt)).setCell ⟨r,1,none⟩ (.string xv)).setCell ⟨r,2,none⟩ (i64 xl)).setCell ⟨r,3,none⟩ (i64 xp)) r #[i64 xt,.string xv,i64 xl,i64 xp] 98:=(((hz3.set 0 (i64 xt)).set 1 (.string xv)).set 2 (i64 xl)).set 3 (i64 xp);have ht4:=(ht2.mv m3 (by simp [PM])).mv m7 (by decide);obtain ⟨W4,hW4⟩:∃ W4,W4=((((w3.setCell ⟨r,0,none⟩ (i64 xt)).setCell ⟨r,1,none⟩ (.string xv)).setCell ⟨r,2,none⟩ (i64 xl)).setCell ⟨r,3,none⟩ (i64 xp)):=⟨_,rfl⟩;rw [← hW4] at hp4 HM hz4 ht4 ⊢;clear hW4 m7 d0 d1 d2 d3 f0 f1 f2 f3 hz3 hp3;have m5:=Mv.alloc (M:=fun _=>False) W4 lab3 (Obj.cells #[i64 xt,.string xv,i64 xl,i64 xp] 98) 7;have M5:=HM.trans m5 (fun _ h=>h.elim);refine (hw B _ _ (Nat.le_trans hB M5.size) (hp4.mv m5 (fun _ _ h=>h)) (ht4.mv m5 (fun h=>h))).mono ?_;rintro e w6 ⟨rfl,lab6,hp6,m6⟩;have M6:=M5.trans m6 (fun _ h=>h);have hz6:=(hz4.mv m5 (fun h=>h)).mv m6 (by simp [PM]);have ht6:=(ht4.mv m5 (fun h=>h)).mv m6 (by simp [PM]);have hB6:=Nat.le_trans hB M6.size;clear hz4 ht4 hp4 HM m5 M5 m6 hw;go_wp2;exact ⟨⟨_,_,_,_,_,_,_,_,_,_,_,_,_,_,_,_,_,_,_,_,_,_,_,_,_,_,_,_,_,_,_,_,_,rfl⟩,_,hp6,hB6,ht6,hz6,M6⟩
end
section
variable {B:Nat} {lab lab1:Lab} {w w1:World} {X X':PX}
def ReadAs (s:ByteArray) (m:List (ByteArray × JV)):Prop :=
 ∀ (K:PK) (c:Nat),K.ped=false→∃ X',Feeds K ⟨LX.new s c,[.map []],[]⟩ ⟨0,{ data:=#[] },0,0⟩ X'∧X'.cx=[.map m]
set_option maxRecDepth 100000 in
set_option maxHeartbeats 1000000 in
theorem parse39_c (s:ByteArray) (m:List (ByteArray × JV)) (hB:B≤w.heap.size) (htb:Tb lab w) (hr:ReadAs s m) :
  Calls Tryz.prog 39 #[.string s,.string { data:=#[] },.bool false] w fun e w'=>∃ p mp lab',e=.returned (.tuple #[.pointer (some ⟨p,0,none⟩),.nilIface]) ∧
   w'.cell? ⟨p,0,none⟩=some (.map (some mp))∧CAt B 10 lab' w' (.map m) (.iface 61 (.map (some mp)))∧Mv PM w lab w' lab':=by
 go_enter Tryz.func39,Tryz.ntmps39;go_wp2_with fail;refine (newParser_c (lab:=lab) s false hB).mono ?_;rintro e w1 ⟨K,c,lab1,hped,rfl,hn,m1⟩;obtain ⟨X',hF,hcx⟩:=hr K c hped;go_wp2_with fail;refine (parse48_c hn (Nat.le_trans hB m1.size) (htb.mv m1 (fun h=>h)) hF).mono ?_;rintro e w2 ⟨rfl,lab2,h2,m2⟩;obtain ⟨top,cv,kv,vs,hx⟩:=id h2;obtain ⟨v,vs',rfl,hc,hcs⟩:=CsAt.form (hcx ▸ hx.cs);have hvs:vs'=[]:=by
  cases vs' with
  | nil=>rfl
  | cons x xs=>exact hcs.elim
 subst hvs;have hv:=hx.root v (by simp);subst hv;have c0:=h2.c0;have M2:=(m1.mono (M':=PM) (fun _ h=>h.elim)).trans m2 (fun _ h=>h);clear hx hcs h2 hn hF hcx m1 m2 hped;go_wp2;go_ret2;exact ⟨K.p,K.mp,lab2,rfl,c0,hc,M2⟩
set_option maxRecDepth 100000 in
set_option maxHeartbeats 1000000 in
theorem Parse_c (s:ByteArray) (m:List (ByteArray × JV)) (hB:B≤w.heap.size) (htb:Tb lab w) (hr:ReadAs s m) :
  Calls Tryz.prog 30 #[.string s] w fun e w'=>∃ mp lab',e=.returned (.tuple #[.map (some mp),.nilIface])∧CAt B 10 lab' w' (.map m) (.iface 61 (.map (some mp)))∧Mv PM w lab w' lab':=by
 go_enter Tryz.func30,Tryz.ntmps30;go_wp2_with fail;refine (parse39_c s m hB htb hr).mono ?_;rintro e w1 ⟨p,mp,lab1,rfl,c0,hc,m1⟩;go_wp2;go_ret2;exact ⟨mp,lab1,rfl,hc,m1⟩
end
structure LX.Is0 (L:LX) (s:ByteArray) (p st:Nat) (stk:List Nat):Prop where
 ok:L.Ok
 inp:L.inp=s
 pos:L.pos=p
 start:L.start=st
 stack:L.stack=stk
 parts:L.parts=[]
 q:L.q=[]
def LX.Is (L:LX) (s:ByteArray) (p st:Nat) (stk:List Nat) (t:Tag):Prop:=L.Is0 s p st stk∧L.state=t
def Leads (s:ByteArray) (p st:Nat) (stk:List Nat) (t:Tag) (p' st':Nat) (stk':List Nat) (t':Tag):Prop :=
 ∀ L:LX,L.Is s p st stk t→∃ n L',Run n L L'∧L'.Is s p' st' stk' t'
def Emits (s:ByteArray) (p st:Nat) (stk:List Nat) (t:Tag) (ty:Nat) (val:ByteArray) (line:Int) (p' st':Nat) (stk':List Nat) (t':Tag):Prop :=
 ∀ L:LX,L.Is s p st stk t→∃ n L' x,Run n L L'∧L'.q=[x]∧x.typ=ty∧x.val=val∧x.line=line∧(L'.took []).Is s p' st' stk' t'
section
variable {s:ByteArray} {p st p1 st1 p2 st2:Nat} {stk stk1 stk2:List Nat} {t t1 t2:Tag} {L L1:LX}
theorem Leads.trans (h:Leads s p st stk t p1 st1 stk1 t1) (k:Leads s p1 st1 stk1 t1 p2 st2 stk2 t2):Leads s p st stk t p2 st2 stk2 t2:=by
 intro L hL;obtain ⟨n,L1,r1,h1⟩:=h L hL;obtain ⟨m,L2,r2,h2⟩:=k L1 h1;exact ⟨_,L2,r1.trans r2,h2⟩
theorem Leads.refl:Leads s p st stk t p st stk t:=fun L hL=>⟨0,L,.refl L,hL⟩
theorem Leads.emits {ty:Nat} {val:ByteArray} {line:Int} (h:Leads s p st stk t p1 st1 stk1 t1) (k:Emits s p1 st1 stk1 t1 ty val line p2 st2 stk2 t2):Emits s p st stk t ty val line p2 st2 stk2 t2:=by
 intro L hL;obtain ⟨n,L1,r1,h1⟩:=h L hL;obtain ⟨m,L2,x,r2,h2⟩:=k L1 h1;exact ⟨_,L2,x,r1.trans r2,h2⟩
theorem run1 {f:Nat} (hs:L.state=some (false,f)) (he:Enters f) (hq:L.q=[]) (g:Goes1 f L L1 t):Run 1 L (L1.goes t):=.step hq (.plain hs he g) (.refl _)
theorem run_skip {f:Nat} (hs:L.state=some (true,f)) (hq:L.q=[]):Run 1 L (L.ign.goes (some (false,f))):=.step hq (.skip hs) (.refl _)
theorem LX.Is0.goes (h:L.Is0 s p st stk) (t:Tag):(L.goes t).Is s p st stk t:=⟨⟨h.ok.goes t,h.inp,h.pos,h.start,h.stack,h.parts,h.q⟩,rfl⟩
theorem LX.Is0.nxt (h:L.Is0 s p st stk) (hp:p < s.size):L.nxt.Is0 s (p + 1) st stk:=by
 obtain ⟨h1,h2,h3,h4,h5,h6,h7,h8⟩:=nxt_same L;refine ⟨h.ok.nxt,by rw [h5];exact h.inp,?_,by rw [h4];exact h.start,by rw [h1];exact h.stack,by rw [h2];exact h.parts,by rw [h3];exact h.q⟩;rw [nxt_pos,h.inp,h.pos,if_neg (by omega)]
theorem LX.Is0.nxtEnd (h:L.Is0 s p st stk) (hp:s.size≤p):L.nxt.Is0 s p st stk:=by
 obtain ⟨h1,h2,h3,h4,h5,h6,h7,h8⟩:=nxt_same L;refine ⟨h.ok.nxt,by rw [h5];exact h.inp,?_,by rw [h4];exact h.start,by rw [h1];exact h.stack,by rw [h2];exact h.parts,by rw [h3];exact h.q⟩;rw [nxt_pos,h.inp,h.pos,if_pos hp]
theorem LX.Is0.pk (h:L.Is0 s p st stk):L.pk.Is0 s p st stk:=by
 obtain ⟨h1,h2,h3,h4,h5,h6,h7,h8,h9,h10⟩:=pk_same L;exact ⟨h.ok.pk,by rw [h5];exact h.inp,by rw [h9];exact h.pos,by rw [h4];exact h.start,by rw [h1];exact h.stack,by rw [h2];exact h.parts,by rw [h3];exact h.q⟩
theorem LX.Is0.ign (h:L.Is0 s p st stk):L.ign.Is0 s p p stk:=⟨h.ok.ign,h.inp,h.pos,h.pos,h.stack,h.parts,h.q⟩
theorem LX.Is0.psh (h:L.Is0 s p st stk) (n:Nat):(L.psh n).Is0 s p st (stk ++ [n]):=⟨h.ok.psh n,h.inp,h.pos,h.start,by show L.stack ++ [n]=_;rw [h.stack],h.parts,h.q⟩
theorem LX.Is0.chr (h:L.Is0 s p st stk) (hp:p < s.size):L.chr=byteAt s p:=by unfold LX.chr;rw [h.inp,h.pos,if_neg (by omega)]
theorem LX.Is0.chrEnd (h:L.Is0 s p st stk) (hp:s.size≤p):L.chr=0:=by unfold LX.chr;rw [h.inp,h.pos,if_pos hp]
theorem LX.Is0.rdy (h:L.Is0 s p st stk) (hst:st≤p):L.Rdy:=⟨h.parts,by rw [h.start,h.pos];exact hst,by rw [h.q];simp⟩
theorem LX.Is0.txt (h:L.Is0 s p st stk):L.txt=s.extract st p:=by unfold LX.txt;rw [h.inp,h.start,h.pos]
theorem LX.Is0.emitted (h:L.Is0 s p st stk) (ty:Nat) (st':List Nat) (t:Tag):((((L.emit ty L.txt).stk st').goes t).took []).Is s p p st' t∧(((L.emit ty L.txt).stk st').goes t).q=[⟨ty,s.extract st p,1 + (nlc s p:Nat),(L.pos:Int) - L.ilstart - L.txt.size⟩]:=by
 refine ⟨⟨⟨?_,h.inp,h.pos,h.pos,rfl,h.parts,rfl⟩,rfl⟩,?_⟩
 ·have:=h.ok.emit ty L.txt;exact ⟨this.small,this.pos,this.start,this.width,this.lstart,this.ilstart,this.line,this.asc⟩
 ·show L.q ++ [_]=_
  rw [h.q,h.txt];have:=h.ok.line;rw [h.inp,h.pos] at this;simp [this]
end
section
variable {s:ByteArray} {p st:Nat} {stk:List Nat} {L:LX}
theorem LX.Is0.emitted0 (h:L.Is0 s p st stk) (ty:Nat) (t:Tag):((((L.emit ty L.txt)).goes t).took []).Is s p p stk t∧(((L.emit ty L.txt)).goes t).q=[⟨ty,s.extract st p,1 + (nlc s p:Nat),(L.pos:Int) - L.ilstart - L.txt.size⟩]:=by
 have:=h.emitted ty L.stack t;rw [h.stack] at this;have k:=h.ok.emit ty L.txt;refine ⟨⟨⟨⟨k.small,k.pos,k.start,k.width,k.lstart,k.ilstart,k.line,k.asc⟩,h.inp,h.pos,h.pos,h.stack,h.parts,rfl⟩,rfl⟩,this.2⟩
theorem ld_skip (f:Nat):Leads s p st stk (skipT f) p p stk (plainT f):=by
 rintro L ⟨h,hs⟩;exact ⟨1,_,run_skip hs h.q,h.ign.goes _⟩
theorem enters60:Enters 60:=fun args w=>by kernel_rfl
theorem ld_top_sp (hp:p < s.size) (e:isSp (byteAt s p)=true):Leads s p st stk (plainT 60) (p + 1) st stk (skipT 60):=by
 rintro L ⟨h,hs⟩;have hc:=h.chr hp;exact ⟨1,_,run1 hs enters60 h.q (top_sp h.ok (by rw [hc];exact e)),(h.nxt hp).goes _⟩
theorem ld_top_key (hp:p < s.size) (hl:stk.length≤1000000) (e:isSp (byteAt s p)=false) (e1:byteAt s p ≠ 123) (e2:byteAt s p ≠ 35) (e3:byteAt s p ≠ 47) (e4:byteAt s p ≠ 0):Leads s p st stk (plainT 60) p st (stk ++ [94]) (plainT 95):=by
 rintro L ⟨h,hs⟩;have hc:=h.chr hp;exact ⟨1,_,run1 hs enters60 h.q (top_key h.ok (by rw [h.stack];exact hl) (by rw [hc];exact e) (by rw [hc];exact e1) (by rw [hc];exact e2) (by rw [hc];exact e3) (by rw [hc];exact e4)),(h.pk.psh 94).goes _⟩
theorem ld_top_eof (hp:s.size≤p) (hst:st=p) :Emits s p st stk (plainT 60) 2 (s.extract st p) (1 + (nlc s p:Nat)) p p stk (none):=by
 rintro L ⟨h,hs⟩;have hc:=h.chrEnd hp;obtain ⟨h1,h2⟩:=(h.nxtEnd hp).emitted0 2 (none);exact ⟨1,_,_,run1 hs enters60 h.q (top_eof h.ok (h.rdy (Nat.le_of_eq hst)) hc (by rw [(h.nxtEnd hp).start,(h.nxtEnd hp).pos];omega)),h2,rfl,rfl,rfl,h1⟩
theorem enters94:Enters 94:=fun args w=>by kernel_rfl
theorem ld_tve_nl (hp:p < s.size) (e:byteAt s p=10):Leads s p st stk (plainT 94) (p + 1) (p + 1) stk (plainT 60):=by
 rintro L ⟨h,hs⟩;have hc:=h.chr hp;exact ⟨1,_,run1 hs enters94 h.q (tve_nl h.ok (by rw [hc];exact e)),((h.nxt hp).ign).goes _⟩
theorem ld_tve_ws (hp:p < s.size) (e:isWS (byteAt s p)=true) (e1:byteAt s p ≠ 35) (e2:byteAt s p ≠ 47):Leads s p st stk (plainT 94) (p + 1) st stk (plainT 94):=by
 rintro L ⟨h,hs⟩;have hc:=h.chr hp;exact ⟨1,_,run1 hs enters94 h.q (tve_ws h.ok (by rw [hc];exact e1) (by rw [hc];exact e2) (by rw [hc];exact e)),(h.nxt hp).goes _⟩
theorem enters95:Enters 95:=fun args w=>by kernel_rfl
theorem ld_ks_key (hp:p < s.size) (e1:isSep (byteAt s p)=false) (e2:isSp (byteAt s p)=false) (e3:byteAt s p ≠ 34) (e4:byteAt s p ≠ 39):Leads s p st stk (plainT 95) (p + 1) p stk (plainT 139):=by
 rintro L ⟨h,hs⟩;have hc:=h.chr hp;exact ⟨1,_,run1 hs enters95 h.q (ks_key h.ok (by rw [hc];exact e1) (by rw [hc];exact e2) (by rw [hc];exact e3) (by rw [hc];exact e4)),((h.pk.ign).nxt hp).goes _⟩
theorem enters139:Enters 139:=fun args w=>by kernel_rfl
theorem ld_key_more (hp:p < s.size) (e1:isSp (byteAt s p)=false) (e2:isSep (byteAt s p)=false) (e3:byteAt s p ≠ 0):Leads s p st stk (plainT 139) (p + 1) st stk (plainT 139):=by
 rintro L ⟨h,hs⟩;have hc:=h.chr hp;exact ⟨1,_,run1 hs enters139 h.q (key_more h.ok (by rw [hc];exact e1) (by rw [hc];exact e2) (by rw [hc];exact e3)),((h.pk).nxt hp).goes _⟩
theorem ld_key_sp (hp:p < s.size) (hst:st≤p) (e1:isSp (byteAt s p)=true) (hk:noKw (s.extract st p)):Emits s p st stk (plainT 139) 3 (s.extract st p) (1 + (nlc s p:Nat)) p p stk (plainT 163):=by
 rintro L ⟨h,hs⟩;have hc:=h.chr hp;obtain ⟨h1,h2⟩:=(h.pk).emitted0 3 (plainT 163);exact ⟨1,_,_,run1 hs enters139 h.q (key_sp h.ok (h.rdy hst) (by rw [hc];exact e1) (by rw [h.pk.txt];exact hk)),h2,rfl,rfl,rfl,h1⟩
theorem ld_key_sep (hp:p < s.size) (hst:st≤p) (e1:isSp (byteAt s p)=false) (e2:isSep (byteAt s p)=true):Emits s p st stk (plainT 139) 3 (s.extract st p) (1 + (nlc s p:Nat)) p p stk (plainT 163):=by
 rintro L ⟨h,hs⟩;have hc:=h.chr hp;obtain ⟨h1,h2⟩:=(h.pk).emitted0 3 (plainT 163);exact ⟨1,_,_,run1 hs enters139 h.q (key_sep h.ok (h.rdy hst) (by rw [hc];exact e1) (by rw [hc];exact e2)),h2,rfl,rfl,rfl,h1⟩
theorem enters163:Enters 163:=fun args w=>by kernel_rfl
theorem ld_ke_sp (hp:p < s.size) (e1:isSp (byteAt s p)=true):Leads s p st stk (plainT 163) (p + 1) st stk (skipT 163):=by
 rintro L ⟨h,hs⟩;have hc:=h.chr hp;exact ⟨1,_,run1 hs enters163 h.q (ke_sp h.ok (by rw [hc];exact e1)),(h.nxt hp).goes _⟩
theorem ld_ke_sep (hp:p < s.size) (e1:isSp (byteAt s p)=false) (e2:isSep (byteAt s p)=true):Leads s p st stk (plainT 163) (p + 1) st stk (skipT 174):=by
 rintro L ⟨h,hs⟩;have hc:=h.chr hp;exact ⟨1,_,run1 hs enters163 h.q (ke_sep h.ok (by rw [hc];exact e1) (by rw [hc];exact e2)),(h.nxt hp).goes _⟩
theorem ld_ke_other (hp:p < s.size) (e1:isSp (byteAt s p)=false) (e2:isSep (byteAt s p)=false) (e3:byteAt s p ≠ 0):Leads s p st stk (plainT 163) p st stk (plainT 174):=by
 rintro L ⟨h,hs⟩;have hc:=h.chr hp;exact ⟨1,_,run1 hs enters163 h.q (ke_other h.ok (by rw [hc];exact e1) (by rw [hc];exact e2) (by rw [hc];exact e3)),(h.pk).goes _⟩
theorem enters174:Enters 174:=fun args w=>by kernel_rfl
theorem ld_val_ws (hp:p < s.size) (e1:isWS (byteAt s p)=true):Leads s p st stk (plainT 174) (p + 1) st stk (skipT 174):=by
 rintro L ⟨h,hs⟩;have hc:=h.chr hp;exact ⟨1,_,run1 hs enters174 h.q (val_ws h.ok (by rw [hc];exact e1)),(h.nxt hp).goes _⟩
theorem ld_val_dig (hp:p < s.size) (e1:isWS (byteAt s p)=false) (e2:isDig (byteAt s p)=true) (e3:48≤byteAt s p∧byteAt s p≤57):Leads s p st stk (plainT 174) p st stk (plainT 186):=by
 rintro L ⟨h,hs⟩;have hc:=h.chr hp;exact ⟨1,_,run1 hs enters174 h.q (val_dig h.ok (by rw [hc];exact e1) (by rw [hc];exact e2) (by rw [hc];exact e3)),(h.pk).goes _⟩
theorem enters186:Enters 186:=fun args w=>by kernel_rfl
theorem ld_num_start (hp:p < s.size) (e2:isDig (byteAt s p)=true):Leads s p st stk (plainT 186) (p + 1) st stk (plainT 199):=by
 rintro L ⟨h,hs⟩;have hc:=h.chr hp;exact ⟨1,_,run1 hs enters186 h.q (num_start h.ok (by rw [hc];exact e2)),(h.nxt hp).goes _⟩
theorem enters199:Enters 199:=fun args w=>by kernel_rfl
theorem ld_num_dig (hp:p < s.size) (e2:isDig (byteAt s p)=true) (e3:byteAt s p ≠ 45):Leads s p st stk (plainT 199) (p + 1) st stk (plainT 199):=by
 rintro L ⟨h,hs⟩;have hc:=h.chr hp;exact ⟨1,_,run1 hs enters199 h.q (num_dig h.ok (by rw [hc];exact e2) (by rw [hc];exact e3)),(h.nxt hp).goes _⟩
theorem ld_num_suf (hp:p < s.size) (e2:isDig (byteAt s p)=false) (e3:isSuf (byteAt s p)=true) (e4:byteAt s p ≠ 45) (e5:byteAt s p ≠ 46):Leads s p st stk (plainT 199) (p + 1) st stk (plainT 212):=by
 rintro L ⟨h,hs⟩;have hc:=h.chr hp;exact ⟨1,_,run1 hs enters199 h.q (num_suf h.ok (by rw [hc];exact e2) (by rw [hc];exact e3) (by rw [hc];exact e4) (by rw [hc];exact e5)),(h.nxt hp).goes _⟩
theorem ld_num_nl (hp:p < s.size) (hsp:st≤p) (e:byteAt s p=10) (sk:List Nat) (n:Nat) (hk:stk=sk ++ [n]) (hl:sk.length≤1000000):Emits s p st stk (plainT 199) 7 (s.extract st p) (1 + (nlc s p:Nat)) p p sk (plainT n):=by
 rintro L ⟨h,hs⟩;have hc:=h.chr hp;have hst:=h.stack.trans hk;obtain ⟨h1,h2⟩:=(h.pk).emitted 7 sk (plainT n);exact ⟨1,_,_,run1 hs enters199 h.q (num_nl h.ok (h.rdy hsp) sk n hst hl (by rw [hc];exact e)),h2,rfl,rfl,rfl,h1⟩
theorem enters212:Enters 212:=fun args w=>by kernel_rfl
theorem ld_suf_b (hp:p < s.size) (e:byteAt s p=98):Leads s p st stk (plainT 212) (p + 1) st stk (plainT 212):=by
 rintro L ⟨h,hs⟩;have hc:=h.chr hp;exact ⟨1,_,run1 hs enters212 h.q (suf_b h.ok (by rw [hc];exact e)),(h.nxt hp).goes _⟩
theorem ld_suf_B (hp:p < s.size) (e:byteAt s p=66):Leads s p st stk (plainT 212) (p + 1) st stk (plainT 212):=by
 rintro L ⟨h,hs⟩;have hc:=h.chr hp;exact ⟨1,_,run1 hs enters212 h.q (suf_B h.ok (by rw [hc];exact e)),(h.nxt hp).goes _⟩
theorem ld_suf_i (hp:p < s.size) (e:byteAt s p=105):Leads s p st stk (plainT 212) (p + 1) st stk (plainT 212):=by
 rintro L ⟨h,hs⟩;have hc:=h.chr hp;exact ⟨1,_,run1 hs enters212 h.q (suf_i h.ok (by rw [hc];exact e)),(h.nxt hp).goes _⟩
theorem ld_suf_nl (hp:p < s.size) (hsp:st≤p) (e:byteAt s p=10) (sk:List Nat) (n:Nat) (hk:stk=sk ++ [n]) (hl:sk.length≤1000000):Emits s p st stk (plainT 212) 7 (s.extract st p) (1 + (nlc s p:Nat)) p p sk (plainT n):=by
 rintro L ⟨h,hs⟩;have hc:=h.chr hp;have hst:=h.stack.trans hk;obtain ⟨h1,h2⟩:=(h.pk).emitted 7 sk (plainT n);exact ⟨1,_,_,run1 hs enters212 h.q (suf_nl h.ok (h.rdy hsp) sk n hst hl (by rw [hc];exact e)),h2,rfl,rfl,rfl,h1⟩
end
section
variable {B:Nat} {lab lab1:Lab} {w w1:World} {K:PK} {X X':PX} {M:Nat→Prop}
set_option maxRecDepth 100000 in
set_option maxHeartbeats 4000000 in
theorem item_int_plain (h:PAt B lab w K X) (hB:B≤w.heap.size) (hped:K.ped=false) (xv:ByteArray) (xl xp:Int) (hsz:xv.size≤1000000) (hdig:∀ i,i < xv.size→isDig (byteAt xv i)=true) (hasc:∀ i,i < xv.size→byteAt xv i < 128)
  (n:Int) (hpi:∀ w,Calls Tryz.prog 68 #[.string xv,i64 10,i64 64] w fun e w'=>e=.returned (.tuple #[.int .i64 n,.nilIface])∧Below w.heap.size w w')
  (htb:Tb lab w) (hs:X.Sets (.int n) X') :
  Calls Tryz.prog 57 #[.pointer (some ⟨K.p,0,none⟩),.agg #[i64 7,.string xv,i64 xl,i64 xp],.string { data:=#[] }] w fun e w'=>e=.returned .nilIface∧∃ lab',PAt B lab' w' K X'∧Mv PM w lab w' lab':=by
 obtain ⟨lab1,hb,m1⟩:=h.boxed hB 7 xv xl xp;have HD:=Lib.hid hdig;have HA:=Lib.hid hasc;have HP:=Lib.hid hped;clear hdig hasc hped;go_enter Tryz.func57,Tryz.ntmps57;go_wp2_with fail;have hWs:(Boxed w K 7 xv xl xp).heap.size=w.heap.size + 1 + 1 + 1:=by unfold Boxed;simp [World.size_alloc]
 have HW:=Lib.hid hWs;clear hWs;go_loopw [9] (fun i wr=>∃ k:Nat,k≤xv.size∧i=.int .i64 k∧wr=(Boxed w K 7 xv xl xp).iter xv k) (fun i _=>xv.size - (RowKit.intOf i).toNat)
 case atStart=>exact ⟨0,Nat.zero_le _,rfl,rfl⟩
 case round =>
  obtain ⟨k,hk,rfl,rfl⟩:=hrel;by_cases hlt:k < xv.size
  ·have hk2:=hlt;have hnx:∀ ty,(Instr.next (.pointer (some ⟨w.heap.size + 1 + 1 + 1,0,none⟩)) true ty).run Tryz.prog ((Boxed w K 7 xv xl xp).iter xv k)=.ok (.tuple #[.bool true,.int .i64 k,.int .i32 (byteAt xv k:Nat)]) ((Boxed w K 7 xv xl xp).iter xv (k + 1)):=fun ty=>by
    have:=run_next_ascii (P:=Tryz.prog) (Boxed w K 7 xv xl xp) xv k ty hk2 (by rw [byteAt_get];exact HA.out k hk2);rwa [HW.out,byteAt_get] at this
   have hc:=HA.out k hk2;have e1:=HD.out k hlt;go_wp2_with fail;refine (isDig_c _ hc _).mono ?_;rintro e w' ⟨rfl,rfl⟩;go_wp2;go_roundw
   case rel=>exact ⟨k + 1,by omega,by go_num,rfl⟩
   case measure=>simp [RowKit.intOf];omega
  ·have hks:k=xv.size:=by omega
   have hnx:∀ ty,(Instr.next (.pointer (some ⟨w.heap.size + 1 + 1 + 1,0,none⟩)) true ty).run Tryz.prog ((Boxed w K 7 xv xl xp).iter xv k)=.ok (.tuple #[.bool false]) ((Boxed w K 7 xv xl xp).iter xv k):=fun ty=>by
    have:=run_next_end (P:=Tryz.prog) (Boxed w K 7 xv xl xp) xv k ty hlt;rwa [HW.out] at this
   have hfull:xv.extract 0 k=xv:=by rw [hks];exact ByteArray.extract_zero_size
   have hemp:xv.extract k xv.size=⟨#[]⟩:=by rw [hks];exact ByteArray.extract_eq_empty_iff.2 (by omega)
   have HKS:=Lib.hid hks;have HFU:=Lib.hid hfull;have HEM:=Lib.hid hemp;clear hks hfull hemp;have m2:=(iter_mv (Boxed w K 7 xv xl xp) lab1 xv k);have hb2:=hb.mv (hb.pat.mv m2 (fun _ _ h=>h)) (m2.mono (fun _ h=>h.elim));have m2':=m1.trans m2 (fun _ h=>h.elim);obtain ⟨W,hW⟩:∃ W,W=(Boxed w K 7 xv xl xp).iter xv k:=⟨_,rfl⟩;rw [← hW] at hb2 m2 m2' hnx ⊢;have d1:=hb2.b1.cell 1;clear hW hb;have hfl:xv.extract 0 k=xv:=HFU.out;go_wp2_with fail;clear hfl;refine (hpi W).mono ?_;rintro e w3 ⟨rfl,hbl⟩;have m3:=Mv.below (M:=fun _=>False) hbl (lab1.ext (Boxed w K 7 xv xl xp).heap.size 7) 7;have hb3:=hb2.mv (hb2.pat.mv m3 (fun _ _ h=>h)) (m3.mono (fun _ h=>h.elim));have m3':=m2'.trans m3 (fun _ h=>h.elim);have htb3:=htb.mv m3' (by simp [PM]);have d1:=hb3.b1.cell 1;have hsl:xv.extract k xv.size=⟨#[]⟩:=HEM.out;clear hbl m3 hb2 hpi;go_wp2_with fail;refine (Tryz.strings_TrimSpace ⟨#[]⟩ w3 (by decide) (fun j b h=>by simp at h) htb3.1).mono ?_;rintro e w4 ⟨rfl,hw4⟩;have hbl4:Below w3.heap.size w3 w4:=by rw [hw4];exact ⟨rfl,rfl,rfl,by rw [Go.Lib.bytesWorld_size];omega,fun k hk=>Go.Lib.bytesWorld_at_old w3 5 ⟨#[]⟩ k hk⟩
   have m4:=Mv.below (M:=fun _=>False) hbl4 ((lab1.ext (Boxed w K 7 xv xl xp).heap.size 7).ext W.heap.size 7) 7;have hb4:=hb3.mv (hb3.pat.mv m4 (fun _ _ h=>h)) (m4.mono (fun _ h=>h.elim));have m4':=m3'.trans m4 (fun _ h=>h.elim);rw [show (⟨(Lib.trimSpace (⟨#[]⟩:ByteArray).data.toList).toArray⟩:ByteArray)=⟨#[]⟩ from rfl];clear hw4 hbl4 m4 hb3 hsl;go_wp2_with fail;refine (Tryz.strings_ToLower_ascii ⟨#[]⟩ w4 (by decide) (fun j b h=>by simp at h)).mono ?_;rintro e w5 ⟨rfl,hbl5⟩;have m5:=Mv.below (M:=fun _=>False) hbl5 (((lab1.ext (Boxed w K 7 xv xl xp).heap.size 7).ext W.heap.size 7).ext w3.heap.size 7) 7;have hb5:=hb4.mv (hb4.pat.mv m5 (fun _ _ h=>h)) (m5.mono (fun _ h=>h.elim));have m5':=m4'.trans m5 (fun _ h=>h.elim);have e0:(⟨(Lib.toLowerA (⟨#[]⟩:ByteArray).data.toList).toArray⟩:ByteArray)=⟨#[]⟩:=rfl;have d0:=hb5.b0.cell 0;have d1:=hb5.b1.cell 0;have d2:=hb5.b1.cell 1;have d3:=hb5.b1.cell 2;have d4:=hb5.b1.cell 3;simp at d0 d1 d2 d3 d4;simp only [e0];clear hbl5 m5 hb4 e0;go_wp2_with fail;refine (lay_c hb5.pat hb5.hB HP.out hs 2 _ rfl _ _ hb5.b0 7 xv xl xp).mono ?_;rintro e w6 ⟨rfl,lab6,h6,m6⟩;go_wp2;go_ret;exact ⟨rfl,lab6,h6,m5'.trans m6 (fun _ h=>h)⟩
end
def Fd (K:PK) (s:ByteArray) (p st:Nat) (stk:List Nat) (t:Tag) (cx:List CJ) (ks:List ByteArray) (pt:Nat) (fin:List CJ):Prop :=
 ∀ (L:LX) (prev:It),L.Is s p st stk t→prev.typ=pt→∃ X',Feeds K ⟨L,cx,ks⟩ prev X'∧X'.cx=fin
section
variable {K:PK} {s:ByteArray} {p st p1 st1:Nat} {stk stk1:List Nat} {t t1:Tag} {cx cx1 fin:List CJ} {ks ks1:List ByteArray} {pt ty:Nat} {val:ByteArray} {line:Int}
theorem Fd.step (E:Emits s p st stk t ty val line p1 st1 stk1 t1) (hty:ty ≠ 2) (hw:∀ (L:LX) (x:It),x.typ=ty→x.val=val→x.line=line→Works K ⟨L,cx,ks⟩ x ⟨L,cx1,ks1⟩)
  (hn:Fd K s p1 st1 stk1 t1 cx1 ks1 ty fin):Fd K s p st stk t cx ks pt fin:=by
 intro L prev hL hp;obtain ⟨n,L',x,R,hq,h1,h2,h3,h4⟩:=E L hL;obtain ⟨X',hF,hc⟩:=hn _ x h4 h1;exact ⟨X',.step R hq (by rw [h1];exact hty) (hw _ x h1 h2 h3) hF,hc⟩
theorem Fd.eof (E:Emits s p st stk t 2 val line p1 st1 stk1 t1) (hpt:pt ≠ 3):Fd K s p st stk t cx ks pt cx:=by
 intro L prev hL hp;obtain ⟨n,L',x,R,hq,h1,h2,h3,h4⟩:=E L hL;exact ⟨_,.eof R hq h1 (by rw [hp];exact hpt),rfl⟩
theorem new_is (s:ByteArray) (c:Nat) (hs:s.size≤1000000) (ha:∀ i,i < s.size→byteAt s i < 128):(LX.new s c).Is s 0 0 [] (plainT 60) :=
 ⟨⟨fresh_ok s c hs ha,rfl,rfl,rfl,rfl,rfl,rfl⟩,rfl⟩
theorem readAs_of {m:List (ByteArray × JV)} (hs:s.size≤1000000) (ha:∀ i,i < s.size→byteAt s i < 128) (h:∀ K:PK,K.ped=false→Fd K s 0 0 [] (plainT 60) [.map []] [] 0 [.map m]):ReadAs s m:=by
 intro K c hK;exact h K hK _ ⟨0,{ data:=#[] },0,0⟩ (new_is s c hs ha) rfl
theorem works_key (hK:K.ped=false) (L:LX) (x:It) (hx:x.typ=3) (hl:ks.length≤1000000):Works K ⟨L,cx,ks⟩ x ⟨L,cx,ks ++ [x.val]⟩:=by
 intro B lab w hB hp _;obtain ⟨xt,xv,xl,xp⟩:=x;obtain rfl:xt=3:=hx;exact item_key hp hB hK hl xv xl xp
end
section
variable {K:PK} {cx cx1:List CJ} {ks ks1:List ByteArray}
theorem app_list (a b:ByteArray):(a ++ b).data.toList=a.data.toList ++ b.data.toList:=by
 rw [ByteArray.data_append,Array.toList_append]
theorem byteAt_app_left (a b:ByteArray) (i:Nat) (h:i < a.size):byteAt (a ++ b) i=byteAt a i:=by
 unfold byteAt;rw [app_list,List.getD_eq_getElem?_getD,List.getD_eq_getElem?_getD,List.getElem?_append_left (by rw [data_length];exact h)]
theorem byteAt_app_right (a b:ByteArray) (i:Nat):byteAt (a ++ b) (a.size + i)=byteAt b i:=by
 unfold byteAt;rw [app_list,List.getD_eq_getElem?_getD,List.getD_eq_getElem?_getD,List.getElem?_append_right (by rw [data_length];omega),data_length,Nat.add_sub_cancel_left]
theorem asc_list (s:ByteArray) (h:∀ j,j < s.size→byteAt s j < 128) (j:Nat) (b:UInt8) (hj:s.data.toList[j]?=some b):b.toNat < 128:=by
 have h1:byteAt s j=b.toNat:=by unfold byteAt;rw [List.getD_eq_getElem?_getD,hj];rfl
 have hlt:=(List.getElem?_eq_some_iff.1 hj).1;rw [data_length] at hlt;rw [← h1];exact h j hlt
theorem dig_true {c:Nat} (h:48≤c∧c≤57):isDig c=true:=by simp [isDig,h.1,h.2]
theorem works_int (hK:K.ped=false) (L:LX) (x:It) (hx:x.typ=7) (hd0:0 < x.val.size) (hdig:isDigits x.val) (hn:numOf x.val.data.toList < 9223372036854775808) (hsz:x.val.size≤900000)
  (hs:(⟨L,cx,ks⟩:PX).Sets (.int (numOf x.val.data.toList:Nat)) ⟨L,cx1,ks1⟩):Works K ⟨L,cx,ks⟩ x ⟨L,cx1,ks1⟩:=by
 intro B lab w hB hp htb;obtain ⟨xt,xv,xl,xp⟩:=x;obtain rfl:xt=7:=hx;exact item_int_plain hp hB hK xv xl xp (by simp only at hsz;omega) (fun i hi=>dig_true (hdig i hi)) (fun i hi=>by have h:=hdig i hi;simp only at h;omega) _ (fun w=>ParseInt_pos xv hd0 hdig hn (by simp only at hsz;omega) w) htb hs
end
section
variable {s:ByteArray} {p st:Nat} {stk:List Nat}
theorem leads_digits (n:Nat) (hn:p + n≤s.size) (hd:∀ i,i < n→48≤byteAt s (p + i)∧byteAt s (p + i)≤57):Leads s p st stk (plainT 199) (p + n) st stk (plainT 199):=by
 induction n with
 | zero=>exact Leads.refl
 | succ n ih =>
  have h:=hd n (by omega);have h1:=ih (by omega) (fun i hi=>hd i (by omega));exact h1.trans (by have h2:=ld_num_dig (s:=s) (p:=p + n) (st:=st) (stk:=stk) (by omega) (dig_true h) (by omega);exact h2)
theorem Feeds.pre {K:PK} {n:Nat} {L L1:LX} {cx:List CJ} {ks:List ByteArray} {prev:It} {X':PX} (r:Run n L L1) (h:Feeds K ⟨L1,cx,ks⟩ prev X'):Feeds K ⟨L,cx,ks⟩ prev X':=by
 cases h with
 | eof R hx ht hp=>exact .eof (X:=⟨L,cx,ks⟩) (r.trans R) hx ht hp
 | step R hx ht hw h=>exact .step (X:=⟨L,cx,ks⟩) (r.trans R) hx ht hw h
theorem Fd.lead {K:PK} {p1 st1:Nat} {stk1:List Nat} {t t1:Tag} {cx fin:List CJ} {ks:List ByteArray} {pt:Nat} (h:Leads s p st stk t p1 st1 stk1 t1) (k:Fd K s p1 st1 stk1 t1 cx ks pt fin):Fd K s p st stk t cx ks pt fin:=by
 intro L prev hL hp;obtain ⟨n,L1,r,h1⟩:=h L hL;obtain ⟨X',hF,hc⟩:=k L1 prev h1 hp;exact ⟨X',hF.pre r,hc⟩
theorem fd_a {K:PK} {cx fin:List CJ} {ks:List ByteArray} {pt:Nat} (hK:K.ped=false) (hl:ks.length≤1000000) (hs:4 < s.size) (b0:byteAt s 0=97) (b1:byteAt s 1=32) (b2:byteAt s 2=61) (b3:byteAt s 3=32) (b4:48≤byteAt s 4∧byteAt s 4≤57) (hk:s.extract 0 1=⟨#[97]⟩)
  (rest:Fd K s 5 4 [94] (plainT 199) cx (ks ++ [⟨#[97]⟩]) 3 fin):Fd K s 0 0 [] (plainT 60) cx ks pt fin:=by
 have l1:Leads s 0 0 [] (plainT 60) 0 0 [94] (plainT 95):=ld_top_key (by omega) (by simp) (by rw [b0];rfl) (by omega) (by omega) (by omega) (by omega);have l2:Leads s 0 0 [94] (plainT 95) 1 0 [94] (plainT 139):=ld_ks_key (by omega) (by rw [b0];rfl) (by rw [b0];rfl) (by omega) (by omega);have e1:Emits s 1 0 [94] (plainT 139) 3 (s.extract 0 1) (1 + (nlc s 1:Nat)) 1 1 [94] (plainT 163):=ld_key_sp (by omega) (by omega) (by rw [b1];rfl) (by rw [hk];rfl);have l3:Leads s 1 1 [94] (plainT 163) 2 1 [94] (skipT 163):=ld_ke_sp (by omega) (by rw [b1];rfl);have l4:Leads s 2 2 [94] (plainT 163) 3 2 [94] (skipT 174):=ld_ke_sep (by omega) (by rw [b2];rfl) (by rw [b2];rfl);have l5:Leads s 3 3 [94] (plainT 174) 4 3 [94] (skipT 174):=ld_val_ws (by omega) (by rw [b3];rfl);have l6:Leads s 4 4 [94] (plainT 174) 4 4 [94] (plainT 186):=ld_val_dig hs (by simp [isWS];omega) (dig_true b4) b4;have l7:Leads s 4 4 [94] (plainT 186) 5 4 [94] (plainT 199):=ld_num_start hs (dig_true b4);refine Fd.lead (l1.trans l2) (Fd.step (cx1:=cx) (ks1:=ks ++ [⟨#[97]⟩]) e1 (by decide) (fun L x h1 h2 _=>?_) (Fd.lead ((((((l3.trans (ld_skip 163)).trans l4).trans (ld_skip 174)).trans l5).trans (ld_skip 174)).trans (l6.trans l7)) rest));have:=works_key (cx:=cx) (ks:=ks) hK L x h1 hl;rwa [h2,hk] at this
theorem fd_end {K:PK} {cx:List CJ} {ks:List ByteArray} {pt:Nat} (hs:p + 1=s.size) (b:byteAt s p=10) (hpt:pt ≠ 3):Fd K s p p [] (plainT 94) cx ks pt cx :=
 Fd.lead (ld_tve_nl (by omega) b) (Fd.eof (ld_top_eof (by omega) rfl) hpt)
theorem fd_plain {K:PK} {cx cx1:List CJ} {ks ks1:List ByteArray} (hK:K.ped=false) (d:Nat) (hd0:0 < d) (hs:4 + d + 1=s.size) (hdig:∀ i,i < d→48≤byteAt s (4 + i)∧byteAt s (4 + i)≤57) (bl:byteAt s (4 + d)=10)
  (dg:ByteArray) (hdg:s.extract 4 (4 + d)=dg) (hdd:isDigits dg) (hn:numOf dg.data.toList < 9223372036854775808) (hsz:dg.size≤900000) (hd1:0 < dg.size)
  (hw:∀ L,(⟨L,cx,ks⟩:PX).Sets (.int (numOf dg.data.toList:Nat)) ⟨L,cx1,ks1⟩):Fd K s 5 4 [94] (plainT 199) cx ks 3 cx1:=by
 have l1:Leads s 5 4 [94] (plainT 199) (4 + d) 4 [94] (plainT 199):=by
  have:=leads_digits (s:=s) (p:=5) (st:=4) (stk:=[94]) (d - 1) (by omega) (fun i hi=>by have h:=hdig (i + 1) (by omega);rw [show 4 + (i + 1)=5 + i from by omega] at h;exact h);rwa [show 5 + (d - 1)=4 + d from by omega] at this
 have e1:=ld_num_nl (s:=s) (p:=4 + d) (st:=4) (stk:=[94]) (by omega) (by omega) bl [] 94 rfl (by simp);refine Fd.lead l1 (Fd.step (cx1:=cx1) (ks1:=ks1) e1 (by decide) (fun L x h1 h2 _=>?_) (fd_end (by omega) bl (by decide)));rw [hdg] at h2;subst h2;exact works_int hK L x h1 hd1 hdd hn hsz (hw L)
end
theorem ext_mid (P M S:ByteArray):(P ++ M ++ S).extract P.size (P.size + M.size)=M:=by
 rw [ByteArray.extract_append,ByteArray.extract_append_eq_right rfl rfl];have h:S.extract (P.size - (P ++ M).size) (P.size + M.size - (P ++ M).size)=ByteArray.empty:=by
  rw [ByteArray.extract_eq_empty_iff];simp
 rw [h,ByteArray.append_empty]
def szText (dg sfx:ByteArray):ByteArray:=(⟨#[97,32,61,32]⟩:ByteArray) ++ (dg ++ sfx) ++ ⟨#[10]⟩
section
variable (dg sfx:ByteArray)
theorem sz_size:(szText dg sfx).size=4 + dg.size + sfx.size + 1:=by
 simp only [szText,bsa];show 4 + (dg.size + sfx.size) + 1=_;omega
theorem sz_head (i:Nat) (h:i < 4):byteAt (szText dg sfx) i=byteAt ⟨#[97,32,61,32]⟩ i:=by
 unfold szText;rw [byteAt_app_left _ _ _ (by rw [bsa];show i < 4 + _;omega),byteAt_app_left _ _ _ h]
theorem sz_mid (i:Nat) (h:i < (dg ++ sfx).size):byteAt (szText dg sfx) (4 + i)=byteAt (dg ++ sfx) i:=by
 unfold szText;rw [byteAt_app_left _ _ _ (by rw [bsa];show 4 + i < 4 + _;omega)];exact byteAt_app_right ⟨#[97,32,61,32]⟩ _ i
theorem sz_dig (i:Nat) (h:i < dg.size):byteAt (szText dg sfx) (4 + i)=byteAt dg i:=by
 rw [sz_mid _ _ _ (by rw [bsa];omega),byteAt_app_left _ _ _ h]
theorem sz_sfx (j:Nat) (h:j < sfx.size):byteAt (szText dg sfx) (4 + dg.size + j)=byteAt sfx j:=by
 rw [Nat.add_assoc,sz_mid _ _ _ (by rw [bsa];omega),byteAt_app_right]
theorem sz_nl:byteAt (szText dg sfx) (4 + dg.size + sfx.size)=10:=by
 have h:=byteAt_app_right ((⟨#[97,32,61,32]⟩:ByteArray) ++ (dg ++ sfx)) ⟨#[10]⟩ 0;rw [Nat.add_zero,bsa,bsa,← Nat.add_assoc] at h;exact h
theorem sz_ext:(szText dg sfx).extract 4 (4 + dg.size + sfx.size)=dg ++ sfx:=by
 have h:=ext_mid ⟨#[97,32,61,32]⟩ (dg ++ sfx) ⟨#[10]⟩;rw [bsa,← Nat.add_assoc] at h;exact h
theorem sz_key:(szText dg sfx).extract 0 1=⟨#[97]⟩:=by
 have h:szText dg sfx=(⟨#[97]⟩:ByteArray) ++ (⟨#[32,61,32]⟩ ++ (dg ++ sfx) ++ ⟨#[10]⟩):=by
  have e:(⟨#[97,32,61,32]⟩:ByteArray)=⟨#[97]⟩ ++ ⟨#[32,61,32]⟩:=by decide
  simp only [szText,e,ByteArray.append_assoc]
 rw [h];exact ByteArray.extract_append_eq_left rfl
theorem sz_asc (hd:isDigits dg) (hx:∀ j,j < sfx.size→byteAt sfx j < 128) (i:Nat) (h:i < (szText dg sfx).size):byteAt (szText dg sfx) i < 128:=by
 rw [sz_size] at h;rcases Nat.lt_or_ge i 4 with h4 | h4
 ·rw [sz_head _ _ _ h4]
  match i,h4 with
  | 0,_=>decide
  | 1,_=>decide
  | 2,_=>decide
  | 3,_=>decide
 ·rcases Nat.lt_or_ge i (4 + dg.size) with h5 | h5
  ·obtain ⟨j,rfl⟩:=Nat.exists_eq_add_of_le h4;rw [sz_dig _ _ _ (by omega)];have:=hd j (by omega);omega
  ·rcases Nat.lt_or_ge i (4 + dg.size + sfx.size) with h6 | h6
   ·obtain ⟨j,rfl⟩:=Nat.exists_eq_add_of_le h5;rw [sz_sfx _ _ _ (by omega)];exact hx j (by omega)
   ·rw [show i=4 + dg.size + sfx.size from by omega,sz_nl]
    decide
end
theorem sets_a (L:LX) (j:JV):(⟨L,[.map []],[] ++ [⟨#[97]⟩]⟩:PX).Sets j ⟨L,[.map [(⟨#[97]⟩,j)]],[]⟩ :=
 .map [] [] [] ⟨#[97]⟩ rfl rfl (by simp) (by simp) (by decide)
theorem ra_plain (dg:ByteArray) (hdd:isDigits dg) (hd1:0 < dg.size) (hsz:dg.size≤1000) (hn:((numOf dg.data.toList:Nat):Int)≤4611686018427387904):ReadAs (szText dg ⟨#[]⟩) [(⟨#[97]⟩,.int (((numOf dg.data.toList:Nat):Int)))]:=by
 have hs:=sz_size dg ⟨#[]⟩;have hk:(⟨#[]⟩:ByteArray).size=0:=rfl;rw [hk] at hs;have hx:=sz_ext dg ⟨#[]⟩;have hl:=sz_nl dg ⟨#[]⟩;rw [hk] at hx hl;refine readAs_of (by omega) (sz_asc _ _ hdd (fun j hj=>?_)) fun K hK=>?_
 ·rw [hk] at hj;omega
 refine fd_a hK (by simp) (by omega) (sz_head _ _ 0 (by omega)) (sz_head _ _ 1 (by omega)) (sz_head _ _ 2 (by omega)) (sz_head _ _ 3 (by omega)) (by have h:=sz_dig dg ⟨#[]⟩ 0 hd1;rw [Nat.add_zero] at h;rw [h];exact hdd 0 hd1) (sz_key _ _) ?_;exact fd_plain hK dg.size hd1 (by omega) (fun i hi=>by rw [sz_dig _ _ _ hi];exact hdd i hi) hl dg (hx.trans ByteArray.append_empty) hdd (by omega) (by omega) hd1 (fun L=>sets_a L _)
attribute [local go_sem] run_store_flt
section
variable {B:Nat} {lab lab1:Lab} {w w1:World}
theorem CAt.root {m:List (ByteArray × JV)} {v:Value} (h:CAt B 10 lab w (.map m) v):∃ b,v=.iface 61 (.map (some b))∧lab b=10∧isJ B (fun k=>if k=b then 6 else lab k) w (.map (m.map (·.1)) (m.map (·.2))) v ∧
  Mv (fun x=>x=10) w lab w (fun k=>if k=b then 6 else lab k):=by
 obtain ⟨b,t,rfl,hm,rfl,hj⟩:=h;have mv:Mv (fun x=>x=10) w lab w (fun k=>if k=b then 6 else lab k) :=
  ⟨rfl,rfl,rfl,Nat.le_refl _,fun _ _ _=>rfl,fun k _ hn=>if_neg (fun e=>hn (by rw [e];exact hm.2))⟩
 refine ⟨b,rfl,hm.2,?_,mv⟩;simp only [isJ];refine ⟨b,t,rfl,⟨hm.1,if_pos rfl⟩,by simp [List.map_map],by simp [List.map_map],?_⟩;have e:List.map (fun x=>x.snd) (List.map (fun x=>(x.fst,x.snd.fst)) t)=t.map (·.2.1):=by rw [List.map_map];rfl
 rw [e];exact isJs.mv mv (by decide) _ _ hj
theorem results_cell2 {P:Program} {fn:Func} {t u:Tmp} {ty e:TypeId} {tmps:Array Value} {W:World} {g:Nat} {cs:Array Value} {fr:Nat × Nat} {d:TypeDesc} (h:fn.results=#[.cell t ty,.tmp u]) (hp:tmps.getD t undef=.pointer (some ⟨g,0,none⟩)) (hg:W.heap[g]?=some (.cells cs e fr))
  (hu:P.underlying ty=some d) (hd:(match d with | .struct _ | .array _ _=>true | _=>false)=true) (hi:(P.info? ty).map (·.size)=some cs.size):(results fn tmps).run P W=.ok (.tuple #[.agg cs,tmps.getD u undef]) W:=by
 have:=run_loadVar_row W g e ty cs fr d hg hu hd hi;rw [results_cell_tmp h,hp];simp [asAddr,this,Result.andThen]
theorem Mv.grown_new {M:Nat→Prop} {w2:World} {r:Nat} (h:Mv M w lab w1 lab1) (hg:w1.grownBy w2 (some r)) (hr:w.heap.size≤r) (ℓ:Nat):Mv M w lab w2 (lab1.ext w1.heap.size ℓ) :=
 ⟨hg.os.trans h.os,hg.tape.trans h.tape,hg.output.trans h.output,Nat.le_trans h.size hg.size,
  fun x hx hn=>(hg.block x (Nat.lt_of_lt_of_le hx h.size) (fun e=>by cases e;omega)).trans (h.block x hx hn),
  fun x hx hn=>by rw [Lab.ext_lt (Nat.lt_of_lt_of_le hx h.size)];exact h.lab x hx hn⟩
def isC (B:Nat) (lab:Lab) (w:World) (m:List (ByteArray × JV)) (c:Array Value):Prop:=isN B lab w (.map (m.map (·.1)) (m.map (·.2))) c
set_option maxRecDepth 100000 in
set_option maxHeartbeats 1000000 in
theorem Conf_c (s:ByteArray) (m:List (ByteArray × JV)) (hB:B≤w.heap.size) (htb:Tb lab w) (hr:ReadAs s m) (hf:(JV.map (m.map (·.1)) (m.map (·.2))).fits) :
  Calls Tryz.prog 15 #[.string s] w fun e w'=>∃ c lab',e=.returned (.tuple #[.agg c,.int .i64 0])∧isC B lab' w' m c∧Mv PM w lab w' lab':=by
 have bl:w.heap.size < (w.alloc z26).heap.size:=by rw [World.size_alloc];omega
 have hr1:(w.alloc z26).heap[w.heap.size]?=some z26:=heap_alloc_new w _;have hB1:B≤(w.alloc z26).heap.size:=Nat.le_trans hB (Nat.le_of_lt bl);have hres:Cl 7 ((lab.ext w.heap.size 7)) (w.alloc z26) w.heap.size (ndC 0 0 0 false { data:=#[] } nilS nilS) 26:=⟨hr1,Lab.ext_ge (Nat.le_refl _)⟩;have hal7:Mv (fun _=>False) w lab (w.alloc z26) (lab.ext w.heap.size 7):=Mv.alloc w lab _ 7;have htb1:=htb.mv hal7 (fun h=>h);have HA:=Lib.hid hal7;have HR:=Lib.hid hres;have HT:=Lib.hid htb1;clear hr1 hres hal7 htb1;go_enter Tryz.func15,Tryz.ntmps15;go_wp2_with fail;refine (Parse_c s m hB1 HT.out hr).mono ?_;rintro e w1 ⟨mp,lab1,rfl,hc,m1⟩;obtain ⟨b,hb1,hb2,hj,m2⟩:=hc.root;cases hb1;have hB2:=Nat.le_trans hB1 m1.size;have hres1:=HR.out.mv m1 (by decide);have hres2:=hres1.mv m2 (by decide);have M12:=(HA.out.mono (M':=PM) (fun _ h=>h.elim)).trans (m1.trans m2 (fun x h=>by subst h;decide)) (fun _ h=>h);clear hc hb2 hres1 m1 m2;go_wp2_with fail;refine (node_c _ B w1 _ _ hB2 hf hj).mono ?_;rintro e w2 ⟨c,lab2,rfl,hn,m3⟩;have hres:=hres2.mv m3 (fun h=>h);have M123:=M12.trans m3 (fun _ h=>h.elim);clear hres2 M12 m3 hj;have hn':=hn;simp only [isN] at hn';obtain ⟨kv,lv,cs,rfl,hk,hl,_⟩:=hn';obtain ⟨ka,kcap,rfl⟩:=own_slice hk.1;obtain ⟨la,lcap,rfl⟩:=own_slice hl.1;have z0:=blk_cell hres.1 0;have z1:=blk_cell hres.1 1;have z2:=blk_cell hres.1 2;have z3:=blk_cell hres.1 3;have z4:=blk_cell hres.1 4;have z5:=blk_cell hres.1 5;have z6:=blk_cell hres.1 6;have f0:=blk_free hres.1 0;have f1:=blk_free hres.1 1;have f2:=blk_free hres.1 2;have f3:=blk_free hres.1 3;have f4:=blk_free hres.1 4;have f5:=blk_free hres.1 5;have f6:=blk_free hres.1 6;have S7:=Lib.hid (set7 (.int .i64 6) (.int .i64 0) (.float .f64 0) (.bool false) (.string { data:=#[] }) (.slice ka m.length kcap) (.slice la m.length lcap) hres.1);have HN:=Lib.hid hn;have HM:=Lib.hid M123;have h7:=Lib.hid hres.2;clear hn hres M123 hk hl;go_wp2;refine bodyPost_ret (results_cell2 rfl rfl S7.out.1 Tryz.underlying26 rfl info26) rfl ?_;have mm:Mv (·=7) w2 lab2 _ (lab2.ext w2.heap.size 7):=Mv.grown S7.out.2 lab2 7 (fun x hx=>by cases hx;exact h7.out);refine ⟨_,_,rfl,?_,HM.out.grown_new S7.out.2 (Nat.le_refl _) 7⟩;have:=isN.mv mm (by decide) _ _ HN.out;simp only [List.length_map] at this;exact this
end
end Go.Cf
namespace Go.Cf
open Go.RowKit Go.Conc Go.Proofs
attribute [local go_sem] run_store_flt
abbrev LW:=Lab→World→Prop
section
variable {lab lab1 lab00:Lab} {w w1 w00:World} {p r:Nat}
end
end Go.Cf
namespace Go.Cf
open Go.RowKit Go.Conc Go.Proofs
section
variable {K:PK} {X:PX} {L L':LX} {lab lab1:Lab} {w w1:World} {n:Nat} {its:List Value}
end
theorem info98z:(Tryz.prog.info? 98).map (fun i=>(i.zero,i.size,i.bytes))=some (some (.agg #[.int .i64 0,.string { data:=#[] },.int .i64 0,.int .i64 0]),4,40):=by kernel_rfl
section
variable {K:PK} {X:PX} {L L':LX} {lab lab1:Lab} {w w1:World} {n:Nat} {top cv kv:Value}
end
theorem ta_113_113 (u:Value) (w:World):(Instr.typeAssert (.iface 113 u) 20 113 true).run Tryz.prog w=.ok (.tuple #[u,.bool true]) w:=by kernel_rfl
attribute [local go_sem ↓] ta_61_75 ta_75_75 ta_61_61 ta_75_61 ta_113_113
section
variable {K:PK} {X:PX} {L L':LX} {lab lab1:Lab} {w w1:World} {n:Nat} {top cv kv:Value} {vs:List Value}
end
end Go.Cf
namespace Go.Cf
open Go.RowKit Go.Conc Go.Proofs
section
variable {K:PK} {X X':PX} {L L':LX} {lab lab1:Lab} {w w1:World} {n:Nat} {top cv kv:Value} {vs:List Value}
end
theorem mk75z (w:World):(Instr.makeSlice 75 (.int .i64 0) (.int .i64 0)).run Tryz.prog w=.ok (.slice (some ⟨w.heap.size,0,none⟩) 0 0) (w.alloc (.cells #[] 20)):=by kernel_rfl
attribute [local go_sem ↓] mk75z
section
variable {K:PK} {X X':PX} {L L':LX} {lab lab1:Lab} {w w1:World} {n:Nat} {top cv kv:Value} {vs:List Value}
end
end Go.Cf
namespace Go.Cf
open Go.RowKit Go.Conc Go.Proofs
section
variable {K:PK} {X X':PX} {L L':LX} {lab lab1:Lab} {w w1:World} {n p q st q1 st1 ty:Nat} {top cv kv:Value} {vs its:List Value} {S:LX→LW} {s val:ByteArray} {stk stk1:List Nat} {t t1:Tag} {line:Int}
end
section
variable {base:Nat} {S0:Nat→Prop} {w0 w w1:World} {b:Nat} {L L':LX}
end
section
variable {L:LX}
theorem val_neg (ok:L.Ok) (hc:L.chr=45):Goes1 174 L L.nxt (plainT 184):=by
 have e_91_86:(((L.chr:Nat):Int) == 91)=false:=bqf (by omega);have e_123_86:(((L.chr:Nat):Int) == 123)=false:=bqf (by omega);have e_39_86:(((L.chr:Nat):Int) == 39)=false:=bqf (by omega);have e_34_86:(((L.chr:Nat):Int) == 34)=false:=bqf (by omega);have e_45_86:(((L.chr:Nat):Int) == 45)=true:=beq_iff_eq.2 (by omega);have e1:isWS L.chr=false:=by rw [hc];rfl
 clear hc;intro base S0 w0 w b h0;go_enter Tryz.func174,Tryz.ntmps174;go_wp2_with fail;refine (next_c h0 ok).mono ?_;rintro e w1 ⟨rfl,h1⟩;go_wp2_with fail;refine (isWS_c _ (chr_lt ok) _).mono ?_;rintro e w' ⟨rfl,rfl⟩;go_wp2_with fail;go_ret;exact ⟨_,rfl,h1.plain _⟩
theorem val_blk (ok:L.Ok) (hc:L.chr=40):Goes1 174 L L.nxt.ign (plainT 185):=by
 have e_91_86:(((L.chr:Nat):Int) == 91)=false:=bqf (by omega);have e_123_86:(((L.chr:Nat):Int) == 123)=false:=bqf (by omega);have e_39_86:(((L.chr:Nat):Int) == 39)=false:=bqf (by omega);have e_34_86:(((L.chr:Nat):Int) == 34)=false:=bqf (by omega);have e_45_86:(((L.chr:Nat):Int) == 45)=false:=bqf (by omega);have e_40_86:(((L.chr:Nat):Int) == 40)=true:=beq_iff_eq.2 (by omega);have e1:isWS L.chr=false:=by rw [hc];rfl
 clear hc;intro base S0 w0 w b h0;go_enter Tryz.func174,Tryz.ntmps174;go_wp2_with fail;refine (next_c h0 ok).mono ?_;rintro e w1 ⟨rfl,h1⟩;go_wp2_with fail;refine (isWS_c _ (chr_lt ok) _).mono ?_;rintro e w' ⟨rfl,rfl⟩;go_wp2_with fail;refine (ign_c h1).mono ?_;rintro e w2 ⟨rfl,h2⟩;go_wp2_with fail;go_ret;exact ⟨_,rfl,h2.plain _⟩
theorem val_arr (ok:L.Ok) (rdy:L.Rdy) (hc:L.chr=91):Goes1 174 L (L.nxt.ign.emit 10 L.nxt.ign.txt) (plainT 180):=by
 have e_91_86:(((L.chr:Nat):Int) == 91)=true:=beq_iff_eq.2 (by omega);have e1:isWS L.chr=false:=by rw [hc];rfl
 clear hc;intro base S0 w0 w b h0;go_enter Tryz.func174,Tryz.ntmps174;go_wp2_with fail;refine (next_c h0 ok).mono ?_;rintro e w1 ⟨rfl,h1⟩;go_wp2_with fail;refine (isWS_c _ (chr_lt ok) _).mono ?_;rintro e w' ⟨rfl,rfl⟩;go_wp2_with fail;refine (ign_c h1).mono ?_;rintro e w2 ⟨rfl,h2⟩;go_wp2_with fail;refine (emit_c 10 h2 ok.nxt.ign (by show L.nxt.parts=[];simpa [nxt_parts] using rdy.parts) (Nat.le_refl _) (by show L.nxt.q.length < 10;simpa [nxt_q] using rdy.q)).mono ?_;rintro e w3 ⟨rfl,h3⟩;go_wp2_with fail;go_ret;exact ⟨_,rfl,h3.plain _⟩
theorem blk_ch (ok:L.Ok) (h1:L.chr ≠ 41) (h2:L.chr ≠ 0):Goes1 185 L L.nxt (plainT 185):=by
 have e_41_86:(((L.chr:Nat):Int) == 41)=false:=bqf (by omega);have e_0_86:(((L.chr:Nat):Int) == 0)=false:=bqf (by omega);clear h1 h2;intro base S0 w0 w b h0;go_enter Tryz.func185,Tryz.ntmps185;go_wp2_with fail;refine (next_c h0 ok).mono ?_;rintro e w1 ⟨rfl,h1⟩;go_wp2_with fail;go_ret;exact ⟨_,rfl,h1.plain _⟩
theorem num_ws (ok:L.Ok) (rdy:L.Rdy) (st:List Nat) (n:Nat) (hst:L.stack=st ++ [n]) (hl:st.length≤1000000) (hc:L.chr=32):Goes1 199 L ((L.pk.emit 7 L.pk.txt).stk st) (plainT n):=by
 have e_45_86:(((L.chr:Nat):Int) == 45)=false:=bqf (by omega);have e_46_86:(((L.chr:Nat):Int) == 46)=false:=bqf (by omega);have e_0_86:(((L.chr:Nat):Int) == 0)=false:=bqf (by omega);have e_125_86:(((L.chr:Nat):Int) == 125)=false:=bqf (by omega);have e_59_86:(((L.chr:Nat):Int) == 59)=false:=bqf (by omega);have e_44_86:(((L.chr:Nat):Int) == 44)=false:=bqf (by omega);have e1:isDig L.chr=false:=by rw [hc];rfl
 have e2:isSuf L.chr=false:=by rw [hc];rfl
 have e3:isNLb L.chr=false:=by rw [hc];rfl
 have e4:isWS L.chr=true:=by rw [hc];rfl
 clear hc;intro base S0 w0 w b h0;go_enter Tryz.func199,Tryz.ntmps199;go_wp2_with fail;refine (next_c h0 ok).mono ?_;rintro e w1 ⟨rfl,h1⟩;go_wp2_with fail;refine (isDig_c _ (chr_lt ok) _).mono ?_;rintro e w' ⟨rfl,rfl⟩;go_wp2_with fail;refine (isSuf_c _ (chr_lt ok) _).mono ?_;rintro e w' ⟨rfl,rfl⟩;go_wp2_with fail;refine (isNLb_c _ (chr_lt ok) _).mono ?_;rintro e w' ⟨rfl,rfl⟩;go_wp2_with fail;refine (isWS_c _ (chr_lt ok) _).mono ?_;rintro e w' ⟨rfl,rfl⟩;go_wp2_with fail;refine (back_c h1 ok.nxt (nxt_width _)).mono ?_;rintro e w2 ⟨rfl,h2⟩;rw [nxt_back] at h2;go_wp2_with fail;refine (emit_c 7 h2 ok.pk (by simpa [nxt_parts,pk_parts] using rdy.parts) (by have:=rdy.start;simp only [pk_start,pk_pos];omega) (by simpa [nxt_q,pk_q] using rdy.q)).mono ?_;rintro e w3 ⟨rfl,h3⟩;go_wp2_with fail;refine (pop_c st n h3 (by show L.pk.stack=_;rw [pk_stack];exact hst) hl).mono ?_;rintro e w4 ⟨rfl,h4⟩;go_wp2_with fail;go_ret;exact ⟨_,rfl,h4.plain _⟩
theorem arr_other (ok:L.Ok) (hst:L.stack.length≤1000000) (e1:isSp L.chr=false) (h1:L.chr ≠ 35) (h2:L.chr ≠ 47) (h3:L.chr ≠ 44) (h4:L.chr ≠ 93):Goes1 180 L (L.pk.psh 190) (plainT 174):=by
 have e_35_86:(((L.chr:Nat):Int) == 35)=false:=bqf (by omega);have e_47_86:(((L.chr:Nat):Int) == 47)=false:=bqf (by omega);have e_44_86:(((L.chr:Nat):Int) == 44)=false:=bqf (by omega);have e_93_86:(((L.chr:Nat):Int) == 93)=false:=bqf (by omega);clear h1 h2 h3 h4;intro base S0 w0 w b h0;go_enter Tryz.func180,Tryz.ntmps180;go_wp2_with fail;refine (next_c h0 ok).mono ?_;rintro e w1 ⟨rfl,h1⟩;go_wp2_with fail;refine (isSp_c _ (chr_lt ok) _).mono ?_;rintro e w' ⟨rfl,rfl⟩;go_wp2_with fail;refine (back_c h1 ok.nxt (nxt_width _)).mono ?_;rintro e w2 ⟨rfl,h2⟩;rw [nxt_back] at h2;go_wp2_with fail;refine (push_c h2 190 (by rw [pk_stack];exact hst)).mono ?_;rintro e w3 ⟨rfl,h3⟩;go_wp2_with fail;go_ret;exact ⟨_,rfl,h3.plain _⟩
theorem arrend_ws (ok:L.Ok) (e1:isWS L.chr=true):Goes1 190 L L.nxt (skipT 190):=by
 intro base S0 w0 w b h0;go_enter Tryz.func190,Tryz.ntmps190;go_wp2_with fail;refine (next_c h0 ok).mono ?_;rintro e w1 ⟨rfl,h1⟩;go_wp2_with fail;refine (isWS_c _ (chr_lt ok) _).mono ?_;rintro e w' ⟨rfl,rfl⟩;go_wp2_with fail;refine (skipV_c h1 190).mono ?_;rintro e w2 ⟨rfl,hv⟩;go_wp2_with fail;go_ret;exact ⟨_,rfl,hv⟩
end
def boolWord (s:ByteArray):Bool :=
 (Lib.toLowerA s.data.toList == [116,114,117,101]) || (Lib.toLowerA s.data.toList == [102,97,108,115,101]) || (Lib.toLowerA s.data.toList == [111,110]) || (Lib.toLowerA s.data.toList == [111,102,102]) ||
  (Lib.toLowerA s.data.toList == [121,101,115]) || (Lib.toLowerA s.data.toList == [110,111])
section
variable {base:Nat} {S0:Nat→Prop} {w0 w w1:World} {b:Nat} {L L':LX}
set_option maxRecDepth 100000 in
theorem hasEsc_c (h:At base S0 w0 w b L) (hp:L.parts=[]):Calls Tryz.prog 200 #[.pointer (some ⟨b,0,none⟩)] w fun e w'=>e=.returned (.bool false)∧At base S0 w0 w' b L:=by
 obtain ⟨A8,c8n,c8⟩:=h.pv hp;go_enter Tryz.func200,Tryz.ntmps200;go_wp2;go_ret;exact ⟨rfl,h⟩
set_option maxRecDepth 100000 in
theorem isBool_c (h:At base S0 w0 w b L) (ok:L.Ok) (rdy:L.Rdy) (hk:boolWord L.txt=false) :
  Calls Tryz.prog 201 #[.pointer (some ⟨b,0,none⟩)] w fun e w'=>e=.returned (.bool false)∧At base S0 w0 w' b L:=by
 have c0:=h.c0;have c1:=h.c1;have c2:=h.c2;have hsm:=ok.small;have hpp:=ok.pos;have hst:=rdy.start;have ha:=toList_txt L ok;simp only [boolWord,Bool.or_eq_false_iff] at hk;obtain ⟨⟨⟨⟨⟨k1,k2⟩,k3⟩,k4⟩,k5⟩,k6⟩:=hk;have hsz:L.txt.size≤140737488355328:=by unfold LX.txt;simp;omega
 obtain ⟨t,ht⟩:∃ t,t=L.txt:=⟨_,rfl⟩;have ht2:L.inp.extract L.start L.pos=t:=ht.symm;rw [← ht] at ha k1 k2 k3 k4 k5 k6 hsz;have HA:=Lib.hid ha;clear ha ht;go_enter Tryz.func201,Tryz.ntmps201;go_wp2;refine wp_still_tail 13 mixed (by kernel_rfl) ?_;simp only [List.take_succ_cons,List.take_zero,List.drop_succ_cons,List.drop_zero]
 repeat still_step
 refine wpStill_nil ?_;go_wp2_with fail;refine (Tryz.strings_ToLower_ascii t _ hsz HA.out).mono ?_;rintro e w1 ⟨rfl,hb⟩;have h1:=At.below (h.drewN 1) hb;clear c0 c1 c2 hb;go_wp2;go_ret;exact ⟨rfl,h1⟩
set_option maxRecDepth 100000 in
theorem isVar_no (h:At base S0 w0 w b L) (ok:L.Ok) (hk:L.start < L.inp.size→byteAt L.inp L.start ≠ 36) :
  Calls Tryz.prog 202 #[.pointer (some ⟨b,0,none⟩)] w fun e w'=>e=.returned (.bool false)∧At base S0 w0 w' b L:=by
 have c0:=h.c0;have c1:=h.c1;have hsm:=ok.small;by_cases hs:L.start < L.inp.size
 ·have h1:(L.start:Int) < (L.inp.size:Int):=by omega
  have hne:=hk hs;rw [← byteAt_get _ _ hs] at hne;have e1:(((L.inp[L.start]'hs).toNat:Int) == 36)=false:=bqf (by omega);have e2:decide ((L.inp.size:Int)≤(L.start:Int))=false:=decide_eq_false (by omega);go_enter Tryz.func202,Tryz.ntmps202;go_wp2_with fail;go_quiet (fail);go_wp2_with fail;go_quiet (fail);go_wp2;go_ret;exact ⟨rfl,(h.drewN _).drewN _⟩
 ·have e2:decide ((L.inp.size:Int)≤(L.start:Int))=true:=decide_eq_true (by omega);go_enter Tryz.func202,Tryz.ntmps202;go_wp2_with fail;go_quiet (fail);go_wp2;go_ret;exact ⟨rfl,h.drewN _⟩
set_option maxRecDepth 100000 in
set_option maxHeartbeats 800000 in
theorem emitString_c (h:At base S0 w0 w b L) (ok:L.Ok) (hp:L.parts=[]) (hs:L.start≤L.pos) (hq:L.q.length < 10) :
  Calls Tryz.prog 197 #[.pointer (some ⟨b,0,none⟩)] w fun e w'=>e=.returned (.tuple #[])∧At base S0 w0 w' b (L.emit 5 L.txt):=by
 obtain ⟨A8,c8n,c8⟩:=h.pv hp;have c0:=h.c0;have c1:=h.c1;have c2:=h.c2;have c4:=h.c4;have c6:=h.c6;have c10:=h.c10;have c11:=h.c11;have f1:=h.free 1;have f11:=h.free 11;have hsm:=ok.small;have hpp:=ok.pos;have hil:=ok.ilstart;have hl0:=ok.line0;have hl1:=ok.line1;have hxs:(L.inp.extract L.start L.pos).size≤1000000:=by simp;omega
 have HQ:=Lib.hid hq;have HP:=Lib.hid hp;clear hq hp;refine calls_of_wpN Tryz.func197 rfl ?_;simp only [Tryz.ntmps197,List.size_toArray,List.length_cons,List.length_nil,Nat.reduceAdd,Nat.reduceSub,Array.replicate_succ,Array.replicate_zero,List.push_toArray,List.append_toArray,List.nil_append,List.cons_append];refine wpN_seq_k (fun K hK=>?_);go_wp2;refine wpN_seq_k (fun K hK=>?_);go_wp2;go_quiet (fail);go_wp2;refine wpN_seq_k (fun K hK=>?_);go_quiet (fail);go_wp2;refine wpN_seq (wpN_send 11 mixed (by kernel_rfl) ?_);simp only [unsent,List.modify_succ_cons,List.modify_zero_cons]
 repeat still_step
 refine wpStill_nil ?_;refine Lst.send (c:=L.ch) (cap:=10) (buf:=(L.q.map It.v).toArray) (s:=L.cs) (r:=L.cr) (tm:=false) (z:=.tuple #[]) (v:=.agg #[i64 5,.string (L.inp.extract L.start L.pos),i64 L.line,i64 ((L.pos:Int) - L.ilstart - ((L.pos - L.start:Nat):Int))]) rfl rfl rfl h.heapCh (by simpa using HQ.out) ?_;refine Lst.nil ?_;have hsz:(L.txt.size:Int)=((L.pos - L.start:Nat):Int):=by unfold LX.txt;simp;omega
 have hv:It.v ⟨5,L.txt,L.line,(L.pos:Int) - L.ilstart - L.txt.size⟩=.agg #[i64 5,.string (L.inp.extract L.start L.pos),i64 L.line,i64 ((L.pos:Int) - L.ilstart - ((L.pos - L.start:Nat):Int))]:=by rw [hsz];rfl
 have hC:=h.chan (L.q ++ [⟨5,L.txt,L.line,(L.pos:Int) - L.ilstart - L.txt.size⟩]) (L.cs + 1) L.cr;rw [List.map_append,List.map_singleton,hv,← List.push_toArray] at hC;simp only [Exit.then];refine wpN_of_wp (via (At.any hC rfl rfl rfl rfl) (fun W h2=>?_));clear c0 c1 c2 c4 c6 c8 c10 c11 f1 f11 hC hv hsz hxs;have c1:=h2.c1;have c2:=h2.c2;have c10:=h2.c10;have c11:=h2.c11;have f1:=h2.free 1;have f11:=h2.free 11;go_wp2;go_end0;exact ⟨rfl,At.any ((h2.set (L':={ L with q:=L.q ++ [⟨5,L.txt,L.line,(L.pos:Int) - L.ilstart - L.txt.size⟩],cs:=L.cs + 1,start:=L.pos }) 1 (i64 L.pos) (fun _ _ _=>rfl) rfl rfl rfl rfl rfl rfl rfl).set (L':=L.emit 5 L.txt) 11 (i64 L.lstart) (fun _ _ _=>rfl) rfl rfl rfl rfl rfl rfl rfl) rfl rfl rfl rfl⟩
end
def LX.ssfd (L:LX) (n:Nat):LX:={ L with ssf:=some n }
theorem At.ssfd {base:Nat} {S0:Nat→Prop} {w0 w:World} {b:Nat} {L:LX} (h:At base S0 w0 w b L) (n:Nat):At base S0 w0 (w.setCell ⟨b,9,none⟩ (fnV n)) b (L.ssfd n) :=
 h.set (L':=L.ssfd n) 9 (fnV n) (fun _ _ _=>rfl) rfl rfl rfl rfl rfl rfl rfl
theorem LX.Ok.ssfd {L:LX} (ok:L.Ok) (n:Nat):(L.ssfd n).Ok:=⟨ok.small,ok.pos,ok.start,ok.width,ok.lstart,ok.ilstart,ok.line,ok.asc⟩
attribute [local go_sem] run_store_fn
section
variable {L:LX}
theorem val_str (ok:L.Ok) (e1:isWS L.chr=false) (e2:isDig L.chr=false) (e3:isNLb L.chr=false) (h1:L.chr ≠ 91) (h2:L.chr ≠ 123) (h3:L.chr ≠ 39) (h4:L.chr ≠ 34) (h5:L.chr ≠ 45) (h6:L.chr ≠ 40) (h7:L.chr ≠ 46):Goes1 174 L (L.pk.ssfd 187) (plainT 187):=by
 have e_91_693:(((L.chr:Nat):Int) == 91)=false:=bqf (by omega);have e_123_693:(((L.chr:Nat):Int) == 123)=false:=bqf (by omega);have e_39_693:(((L.chr:Nat):Int) == 39)=false:=bqf (by omega);have e_34_693:(((L.chr:Nat):Int) == 34)=false:=bqf (by omega);have e_45_693:(((L.chr:Nat):Int) == 45)=false:=bqf (by omega);have e_40_693:(((L.chr:Nat):Int) == 40)=false:=bqf (by omega);have e_46_693:(((L.chr:Nat):Int) == 46)=false:=bqf (by omega);clear h1 h2 h3 h4 h5 h6 h7;intro base S0 w0 w b h0;go_enter Tryz.func174,Tryz.ntmps174;go_wp2_with fail;refine (next_c h0 ok).mono ?_;rintro e w1 ⟨rfl,h1⟩;go_wp2_with fail;refine (isWS_c _ (chr_lt ok) _).mono ?_;rintro e w' ⟨rfl,rfl⟩;go_wp2_with fail;refine (isDig_c _ (chr_lt ok) _).mono ?_;rintro e w' ⟨rfl,rfl⟩;go_wp2_with fail;refine (isNLb_c _ (chr_lt ok) _).mono ?_;rintro e w' ⟨rfl,rfl⟩;go_wp2_with fail;refine (back_c h1 ok.nxt (nxt_width _)).mono ?_;rintro e w2 ⟨rfl,h2⟩;rw [nxt_back] at h2;have c9:=h2.c9;have f9:=h2.free 9;go_wp2;go_ret;exact ⟨_,rfl,(h2.ssfd 187).plain _⟩
theorem val_dq (ok:L.Ok) (hc:L.chr=34):Goes1 174 L (L.nxt.ign.ssfd 183) (plainT 183):=by
 have e_91_693:(((L.chr:Nat):Int) == 91)=false:=bqf (by omega);have e_123_693:(((L.chr:Nat):Int) == 123)=false:=bqf (by omega);have e_39_693:(((L.chr:Nat):Int) == 39)=false:=bqf (by omega);have e_34_693:(((L.chr:Nat):Int) == 34)=true:=beq_iff_eq.2 (by omega);have e1:isWS L.chr=false:=by rw [hc];rfl
 clear hc;intro base S0 w0 w b h0;go_enter Tryz.func174,Tryz.ntmps174;go_wp2_with fail;refine (next_c h0 ok).mono ?_;rintro e w1 ⟨rfl,h1⟩;go_wp2_with fail;refine (isWS_c _ (chr_lt ok) _).mono ?_;rintro e w' ⟨rfl,rfl⟩;go_wp2_with fail;refine (ign_c h1).mono ?_;rintro e w2 ⟨rfl,h2⟩;have c9:=h2.c9;have f9:=h2.free 9;go_wp2;go_ret;exact ⟨_,rfl,(h2.ssfd 183).plain _⟩
theorem str_ch (ok:L.Ok) (e1:isNLb L.chr=false) (e2:isWS L.chr=false) (h1:L.chr ≠ 92) (h2:L.chr ≠ 0) (h3:L.chr ≠ 59) (h4:L.chr ≠ 44) (h5:L.chr ≠ 93) (h6:L.chr ≠ 125) (h7:L.chr ≠ 39):Goes1 187 L L.nxt (plainT 187):=by
 have e_92_693:(((L.chr:Nat):Int) == 92)=false:=bqf (by omega);have e_0_693:(((L.chr:Nat):Int) == 0)=false:=bqf (by omega);have e_59_693:(((L.chr:Nat):Int) == 59)=false:=bqf (by omega);have e_44_693:(((L.chr:Nat):Int) == 44)=false:=bqf (by omega);have e_93_693:(((L.chr:Nat):Int) == 93)=false:=bqf (by omega);have e_125_693:(((L.chr:Nat):Int) == 125)=false:=bqf (by omega);have e_39_693:(((L.chr:Nat):Int) == 39)=false:=bqf (by omega);clear h1 h2 h3 h4 h5 h6 h7;intro base S0 w0 w b h0;go_enter Tryz.func187,Tryz.ntmps187;go_wp2_with fail;refine (next_c h0 ok).mono ?_;rintro e w1 ⟨rfl,h1⟩;go_wp2_with fail;refine (isNLb_c _ (chr_lt ok) _).mono ?_;rintro e w' ⟨rfl,rfl⟩;go_wp2_with fail;refine (isWS_c _ (chr_lt ok) _).mono ?_;rintro e w' ⟨rfl,rfl⟩;go_wp2_with fail;go_ret;exact ⟨_,rfl,h1.plain _⟩
theorem str_ws (ok:L.Ok) (rdy:L.Rdy) (st:List Nat) (n:Nat) (hst:L.stack=st ++ [n]) (hl:st.length≤1000000) (hb:boolWord L.pk.txt=false) (hv:L.pk.start < L.pk.inp.size→byteAt L.pk.inp L.pk.start ≠ 36) (hc:L.chr=32):Goes1 187 L ((L.pk.emit 5 L.pk.txt).stk st) (plainT n):=by
 have e_92_693:(((L.chr:Nat):Int) == 92)=false:=bqf (by omega);have e_0_693:(((L.chr:Nat):Int) == 0)=false:=bqf (by omega);have e_59_693:(((L.chr:Nat):Int) == 59)=false:=bqf (by omega);have e_44_693:(((L.chr:Nat):Int) == 44)=false:=bqf (by omega);have e_93_693:(((L.chr:Nat):Int) == 93)=false:=bqf (by omega);have e_125_693:(((L.chr:Nat):Int) == 125)=false:=bqf (by omega);have e1:isNLb L.chr=false:=by rw [hc];rfl
 have e2:isWS L.chr=true:=by rw [hc];rfl
 have HB:=Lib.hid hb;have HV:=Lib.hid hv;clear hc hb hv;intro base S0 w0 w b h0;go_enter Tryz.func187,Tryz.ntmps187;go_wp2_with fail;refine (next_c h0 ok).mono ?_;rintro e w1 ⟨rfl,h1⟩;go_wp2_with fail;refine (isNLb_c _ (chr_lt ok) _).mono ?_;rintro e w' ⟨rfl,rfl⟩;go_wp2_with fail;refine (isWS_c _ (chr_lt ok) _).mono ?_;rintro e w' ⟨rfl,rfl⟩;go_wp2_with fail;refine (back_c h1 ok.nxt (nxt_width _)).mono ?_;rintro e w2 ⟨rfl,h2⟩;rw [nxt_back] at h2;go_wp2_with fail;refine (hasEsc_c h2 (by simpa [pk_parts] using rdy.parts)).mono ?_;rintro e w3 ⟨rfl,h3⟩;go_wp2_with fail;refine (isBool_c h3 ok.pk ⟨(by simpa [pk_parts] using rdy.parts),(by have:=rdy.start;simp only [pk_start,pk_pos];omega),(by simpa [pk_q] using rdy.q)⟩ HB.out).mono ?_;rintro e w4 ⟨rfl,h4⟩;go_wp2_with fail;refine (isVar_no h4 ok.pk HV.out).mono ?_;rintro e w5 ⟨rfl,h5⟩;go_wp2_with fail;refine (emitString_c h5 ok.pk (by simpa [pk_parts] using rdy.parts) (by have:=rdy.start;simp only [pk_start,pk_pos];omega) (by simpa [pk_q] using rdy.q)).mono ?_;rintro e w6 ⟨rfl,h6⟩;go_wp2_with fail;refine (pop_c st n h6 (by show L.pk.stack=_;rw [pk_stack];exact hst) hl).mono ?_;rintro e w7 ⟨rfl,h7⟩;go_wp2_with fail;go_ret;exact ⟨_,rfl,h7.plain _⟩
theorem dq_ch (ok:L.Ok) (h1:L.chr ≠ 92) (h2:L.chr ≠ 34) (h3:L.chr ≠ 0):Goes1 183 L L.nxt (plainT 183):=by
 have e_92_693:(((L.chr:Nat):Int) == 92)=false:=bqf (by omega);have e_34_693:(((L.chr:Nat):Int) == 34)=false:=bqf (by omega);have e_0_693:(((L.chr:Nat):Int) == 0)=false:=bqf (by omega);clear h1 h2 h3;intro base S0 w0 w b h0;go_enter Tryz.func183,Tryz.ntmps183;go_wp2_with fail;refine (next_c h0 ok).mono ?_;rintro e w1 ⟨rfl,h1⟩;go_wp2_with fail;go_ret;exact ⟨_,rfl,h1.plain _⟩
end
end Go.Cf
namespace Go.Cf
open Go.RowKit Go.Conc Go.Proofs
section
variable {s:ByteArray} {p st:Nat} {stk:List Nat} {L:LX}
theorem LX.Is0.ssfd (h:L.Is0 s p st stk) (n:Nat):(L.ssfd n).Is0 s p st stk:=⟨h.ok.ssfd n,h.inp,h.pos,h.start,h.stack,h.parts,h.q⟩
theorem enters184:Enters 184:=fun args w=>by kernel_rfl
theorem enters185:Enters 185:=fun args w=>by kernel_rfl
theorem enters190:Enters 190:=fun args w=>by kernel_rfl
theorem enters183:Enters 183:=fun args w=>by kernel_rfl
theorem ld_val_neg (hp:p < s.size) (e:byteAt s p=45):Leads s p st stk (plainT 174) (p + 1) st stk (plainT 184):=by
 rintro L ⟨h,hs⟩;have hc:=h.chr hp;exact ⟨1,_,run1 hs enters174 h.q (val_neg h.ok (by rw [hc];exact e)),(h.nxt hp).goes _⟩
theorem ld_val_blk (hp:p < s.size) (e:byteAt s p=40):Leads s p st stk (plainT 174) (p + 1) (p + 1) stk (plainT 185):=by
 rintro L ⟨h,hs⟩;have hc:=h.chr hp;exact ⟨1,_,run1 hs enters174 h.q (val_blk h.ok (by rw [hc];exact e)),((h.nxt hp).ign).goes _⟩
theorem ld_blk_ch (hp:p < s.size) (h1:byteAt s p ≠ 41) (h2:byteAt s p ≠ 0):Leads s p st stk (plainT 185) (p + 1) st stk (plainT 185):=by
 rintro L ⟨h,hs⟩;have hc:=h.chr hp;exact ⟨1,_,run1 hs enters185 h.q (blk_ch h.ok (by rw [hc];exact h1) (by rw [hc];exact h2)),(h.nxt hp).goes _⟩
theorem ld_val_str (hp:p < s.size) (e1:isWS (byteAt s p)=false) (e2:isDig (byteAt s p)=false) (e3:isNLb (byteAt s p)=false) (h1:byteAt s p ≠ 91) (h2:byteAt s p ≠ 123) (h3:byteAt s p ≠ 39) (h4:byteAt s p ≠ 34) (h5:byteAt s p ≠ 45) (h6:byteAt s p ≠ 40) (h7:byteAt s p ≠ 46):Leads s p st stk (plainT 174) p st stk (plainT 187):=by
 rintro L ⟨h,hs⟩;have hc:=h.chr hp;exact ⟨1,_,run1 hs enters174 h.q (val_str h.ok (by rw [hc];exact e1) (by rw [hc];exact e2) (by rw [hc];exact e3) (by rw [hc];exact h1) (by rw [hc];exact h2) (by rw [hc];exact h3) (by rw [hc];exact h4) (by rw [hc];exact h5) (by rw [hc];exact h6) (by rw [hc];exact h7)),(h.pk.ssfd 187).goes _⟩
theorem enters187:Enters 187:=fun args w=>by kernel_rfl
theorem ld_str_ch (hp:p < s.size) (e1:isNLb (byteAt s p)=false) (e2:isWS (byteAt s p)=false) (h1:byteAt s p ≠ 92) (h2:byteAt s p ≠ 0) (h3:byteAt s p ≠ 59) (h4:byteAt s p ≠ 44) (h5:byteAt s p ≠ 93) (h6:byteAt s p ≠ 125) (h7:byteAt s p ≠ 39):Leads s p st stk (plainT 187) (p + 1) st stk (plainT 187):=by
 rintro L ⟨h,hs⟩;have hc:=h.chr hp;exact ⟨1,_,run1 hs enters187 h.q (str_ch h.ok (by rw [hc];exact e1) (by rw [hc];exact e2) (by rw [hc];exact h1) (by rw [hc];exact h2) (by rw [hc];exact h3) (by rw [hc];exact h4) (by rw [hc];exact h5) (by rw [hc];exact h6) (by rw [hc];exact h7)),(h.nxt hp).goes _⟩
theorem enters180:Enters 180:=fun args w=>by kernel_rfl
theorem ld_arr_other (hp:p < s.size) (hl:stk.length≤1000000) (e1:isSp (byteAt s p)=false) (h1:byteAt s p ≠ 35) (h2:byteAt s p ≠ 47) (h3:byteAt s p ≠ 44) (h4:byteAt s p ≠ 93):Leads s p st stk (plainT 180) p st (stk ++ [190]) (plainT 174):=by
 rintro L ⟨h,hs⟩;have hc:=h.chr hp;exact ⟨1,_,run1 hs enters180 h.q (arr_other h.ok (by rw [h.stack];exact hl) (by rw [hc];exact e1) (by rw [hc];exact h1) (by rw [hc];exact h2) (by rw [hc];exact h3) (by rw [hc];exact h4)),(h.pk.psh 190).goes _⟩
theorem ld_arrend_ws (hp:p < s.size) (e1:isWS (byteAt s p)=true):Leads s p st stk (plainT 190) (p + 1) st stk (skipT 190):=by
 rintro L ⟨h,hs⟩;have hc:=h.chr hp;exact ⟨1,_,run1 hs enters190 h.q (arrend_ws h.ok (by rw [hc];exact e1)),(h.nxt hp).goes _⟩
theorem ld_num_ws (hp:p < s.size) (hst:st≤p) (e:byteAt s p=32) (sk:List Nat) (n:Nat) (hk:stk=sk ++ [n]) (hl:sk.length≤1000000):Emits s p st stk (plainT 199) 7 (s.extract st p) (1 + (nlc s p:Nat)) p p sk (plainT n):=by
 rintro L ⟨h,hs⟩;have hc:=h.chr hp;have hst':=h.stack.trans hk;obtain ⟨h1,h2⟩:=(h.pk).emitted 7 sk (plainT n);exact ⟨1,_,_,run1 hs enters199 h.q (num_ws h.ok (h.rdy hst) sk n hst' hl (by rw [hc];exact e)),h2,rfl,rfl,rfl,h1⟩
theorem ld_str_ws (hp:p < s.size) (hst:st≤p) (e:byteAt s p=32) (hb:boolWord (s.extract st p)=false) (hv:st < s.size→byteAt s st ≠ 36) (sk:List Nat) (n:Nat) (hk:stk=sk ++ [n]) (hl:sk.length≤1000000):Emits s p st stk (plainT 187) 5 (s.extract st p) (1 + (nlc s p:Nat)) p p sk (plainT n):=by
 rintro L ⟨h,hs⟩;have hc:=h.chr hp;have hst':=h.stack.trans hk;obtain ⟨h1,h2⟩:=(h.pk).emitted 5 sk (plainT n);exact ⟨1,_,_,run1 hs enters187 h.q (str_ws h.ok (h.rdy hst) sk n hst' hl (by rw [h.pk.txt];exact hb) (by rw [h.pk.inp,h.pk.start];exact hv) (by rw [hc];exact e)),h2,rfl,rfl,rfl,h1⟩
theorem ld_val_arr (hp:p < s.size) (hst:st≤p) (e:byteAt s p=91):Emits s p st stk (plainT 174) 10 (s.extract (p + 1) (p + 1)) (1 + (nlc s (p + 1):Nat)) (p + 1) (p + 1) stk (plainT 180):=by
 rintro L ⟨h,hs⟩;have hc:=h.chr hp;obtain ⟨h1,h2⟩:=((h.nxt hp).ign).emitted0 10 (plainT 180);exact ⟨1,_,_,run1 hs enters174 h.q (val_arr h.ok (h.rdy hst) (by rw [hc];exact e)),h2,rfl,rfl,rfl,h1⟩
end
end Go.Cf
