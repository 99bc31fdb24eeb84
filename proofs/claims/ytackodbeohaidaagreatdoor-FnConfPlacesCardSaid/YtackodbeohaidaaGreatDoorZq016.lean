/-
  Texts joined: Vx Vy Es7 Cx Cz Pa Pb Pc.
-/
import Derived.Test.YtackodbeohaidaaGreatDoorZq03
import Derived.Test.YtackodbeohaidaaGreatDoorZq05
import Derived.Test.YtackodbeohaidaaGreatDoorZq010
import Derived.Test.YtackodbeohaidaaGreatDoorZq011
import Derived.Test.YtackodbeohaidaaGreatDoorZq014
import Derived.Test.YtackodbeohaidaaGreatDoorZq015
namespace Go.Cf
open Go.RowKit Go.Conc Go.Proofs
attribute [local go_sem ↓] appX_eq
attribute [local go_sem] run_store_flt
def trRow (bb:Bool):Array Value:=if bb then #[.string ⟨#[116,114,117,101]⟩,.string ⟨#[121,101,115]⟩,.string ⟨#[111,110]⟩,.string ⟨#[84,82,85,69]⟩,.string ⟨#[89,101,115]⟩,.string ⟨#[111,78]⟩] else
 #[.string ⟨#[102,97,108,115,101]⟩,.string ⟨#[110,111]⟩,.string ⟨#[111,102,102]⟩,.string ⟨#[70,65,76,83,69]⟩,.string ⟨#[78,111]⟩,.string ⟨#[111,70,102]⟩]
theorem tr_get (bb:Bool) (r:Nat) (h:r < 6):(trRow bb)[r]?=some (.string (trT bb r)):=by
 cases bb <;> (match r,h with
  | 0,_ | 1,_ | 2,_ | 3,_ | 4,_ | 5,_=>rfl)
theorem tr_size (bb:Bool) (r:Nat) (h:r < 6):(trT bb r).size≤5:=by
 cases bb <;> (match r,h with
  | 0,_ | 1,_ | 2,_ | 3,_ | 4,_ | 5,_=>decide)
theorem TxtSp.toS {t T:ByteArray} {li:Bool} (h:TxtSp t li T):∃ nl V,T=V ++ nlS nl∧TxtS t li nl V:=by
 cases h with
 | blk h hl=>exact ⟨true,_,by rw [show (⟨#[41,10]⟩:ByteArray)=⟨#[41]⟩ ++ ⟨#[10]⟩ from rfl];unfold nlS;rw [if_pos rfl];simp only [ByteArray.append_assoc],.blk h hl⟩
 | sq h=>exact ⟨false,_,(app_nil' _).symm,.sq h⟩
 | bare h hl=>exact ⟨false,_,(app_nil' _).symm,.bare h hl⟩
 | dq h=>exact ⟨false,_,(app_nil' _).symm,.dq h⟩
section
variable {lab lab1:Lab} {w w1:World} {b:Nat} {W W1 W2:CW} {T T2:ByteArray}
theorem valP_of {lab3:Lab} {w3:World} {kj:List JV} {j:JV} {li:Bool} {W3:CW} {V:ByteArray} {U:List ByteArray} {x:Bool} (h3:WAt lab3 w3 b W3) (h0:Wrote W (W.flag x) ⟨#[]⟩) (h1:WroteU (W.flag x) W2 ⟨#[]⟩ []) (h2:WroteU W2 W3 V U) (hs:V.size≤200 * wt j) (hu:U.length≤wt j)
  (hb:W3.bad=false→ValS (envW W.known kj W.inner) li j V U) (m:Mv VM w lab w3 lab3):ValP lab w b W kj j li (.returned (.tuple #[])) w3:=by
 have:=(h0.toU.trans h1).trans h2;simp only [empty_app,List.nil_append] at this;exact ⟨rfl,W3,V,U,lab3,h3,this,hs,hu,hb,m⟩
theorem NdV.tells {ℓ:Nat} {lab:Lab} {w:World} {j:JV} {k n:Int} {f:Nat} {is:Bool} {t:ByteArray} {a1 a2:Option Addr} {m1 c1 m2 c2:Nat} (h:NdV ℓ lab w j (ndC k n f is t (.slice a1 m1 c1) (.slice a2 m2 c2))) :
  (∀ v,j=.int v→k=1∧n=v)∧(∀ g,j=.num g→k=2∧f=g)∧(∀ b,j=.tr b→k=3∧is=b)∧(∀ s,j=.txt s→k=4∧t=s)∧(∀ l,j=.arr l→k=5∧m2=l.length∧NdVs ℓ lab w a2 0 l)∧(∀ ks l,j=.map ks l→k=6):=by
 refine ⟨fun v e=>?_,fun v e=>?_,fun v e=>?_,fun v e=>?_,fun v e=>?_,fun ks l e=>?_⟩ <;> subst e <;> simp only [NdV] at h
 ·obtain ⟨f,a1,c1,a2,c2,hf,he⟩:=h;simp [ndC] at he;exact ⟨he.1,he.2.1⟩
 ·obtain ⟨a1,c1,a2,c2,he⟩:=h;simp [ndC] at he;exact ⟨he.1,he.2.2.1⟩
 ·obtain ⟨f,a1,c1,a2,c2,hf,he⟩:=h;simp [ndC] at he;exact ⟨he.1,he.2.2.2.1⟩
 ·obtain ⟨f,a1,c1,a2,c2,hf,he⟩:=h;simp [ndC] at he;exact ⟨he.1,he.2.2.2.2.1⟩
 ·obtain ⟨f,a1,c1,a2,c2,hf,he,hl⟩:=h;simp [ndC] at he;obtain ⟨e1,-,-,-,-,-,e2,e3,-⟩:=he;subst e2;exact ⟨e1,e3,hl⟩
 ·obtain ⟨f,a1,c1,a2,c2,hf,he,hl⟩:=h;simp [ndC] at he;exact he.1
set_option maxRecDepth 100000 in
set_option maxHeartbeats 16000000 in
theorem value_at (j:JV) (hl:∀ l,j=.arr l→∀ x ∈ l,ValC x) (hm:∀ ks l,j=.map ks l→EntC j):ValC j:=by
 intro lab w b W kj c li deep h hw hv hjs hin hd0 hd1;have hcl:=fun w2=>clean_c hv w2
 have HVar:=fun (lab1:Lab) (w1:World) (W1:CW) (h1:WAt lab1 w1 b W1) (e1:W1.known=W.known) (e2:W1.nv=W.nv) (e3:W1.vals=W.vals) (e4:W1.inner=W.inner) (e5:W1.used=W.used) (e6:W1.text=W.text) (e7:W1.line=W.line) =>
  variable_c h1 (hw.var.same e1 e2 e3) hv (by rw [e4];exact hw.inner) (by rw [e1];exact hw.known) (by rw [e5];have:=hw.used;omega) (by rw [e6];have:=hw.text;omega) (by rw [e7];have:=hw.line;omega)
 obtain ⟨n,f,is,t,a1,c1,a2,c2,rfl,hks,hvs⟩:=hv.view;obtain ⟨kx,hkx⟩:∃ kx,j.kind=kx:=⟨_,rfl⟩;obtain ⟨p1,hm1⟩:∃ m,j.keys.length=m:=⟨_,rfl⟩;obtain ⟨p2,hm2⟩:∃ m,j.kids.length=m:=⟨_,rfl⟩;rw [hkx,hm1,hm2] at hcl HVar hv ⊢;have HCL:=Lib.hid hcl;have HVA:=Lib.hid HVar;have HV:=Lib.hid hv;have HT:=Lib.hid hv.tells;have HJ:=Lib.hid (aI hkx (aI hm1 hm2));have HIN:=Lib.hid (aI hl (aI hm (aI hjs (aI hin (aI hks hvs)))));have hmv:∀ o,Mv (fun _=>False) w lab (w.alloc o) (lab.ext w.heap.size 45):=fun o=>Mv.alloc _ _ _ _
 have HMV:=Lib.hid hmv;have HK:=Lib.hid h;have HW:=Lib.hid hw;have htx:=hw.text;have hlx:=hw.line;have h3:∀ o,(w.alloc o).cell? ⟨b,3,none⟩=some (.bool W.bad):=fun o=>(h.mv (hmv o) (fun _ _ h=>h)).c3
 have f3:∀ o,(w.alloc o).frozen? ⟨b,3,none⟩=false:=fun o=>(h.mv (hmv o) (fun _ _ h=>h)).f3
 clear hmv h hw hv hl hm hjs hin hks hvs hcl HVar hkx hm1 hm2;have hndc:∀ kv lv,ndC kx n f is t kv lv=#[.int .i64 kx,.int .i64 n,.float .f64 f,.bool is,.string t,kv,lv]:=fun _ _=>rfl
 rw [hndc];clear hndc;go_enter Tryz.func37,Tryz.ntmps37;go_upto_region 1 with fail
 obtain ⟨bx,hbx⟩:∃ bx:Array Value,bx=#[.int .i64 kx,.int .i64 n,.float .f64 f,.bool is,.string t,.slice a1 p1 c1,.slice a2 p2 c2]:=⟨_,rfl⟩;go_cut [5] from 8 to 24 (fun s5 wx=>s5=.pointer (some ⟨w.heap.size,0,none⟩)∧∃ x lab0,(x=false→W.bad=false)∧WAt lab0 wx b (W.flag x)∧Cl 45 lab0 wx w.heap.size bx 26∧Mv (·=40) w lab wx lab0)
 case first =>
  have key:∀ x:Bool,WAt (lab.ext w.heap.size 45) ((w.alloc (.cells bx 26)).setCell ⟨b,3,none⟩ (.bool x)) b (W.flag x)∧Cl 45 (lab.ext w.heap.size 45) ((w.alloc (.cells bx 26)).setCell ⟨b,3,none⟩ (.bool x)) w.heap.size bx 26∧Mv (·=40) w lab ((w.alloc (.cells bx 26)).setCell ⟨b,3,none⟩ (.bool x)) (lab.ext w.heap.size 45):=fun x=>by
   have h1:=(HK.out.mv (HMV.out (.cells bx 26)) (fun _ _ h=>h)).flag x;exact ⟨h1.1,(Cl.alloc w lab bx 26 45).mv h1.2 (by decide),((HMV.out (.cells bx 26)).mono (fun _ h=>h.elim)).trans h1.2 (fun _ h=>h)⟩
  have KEY:=Lib.hid key;clear key
  cases hb:W.bad with
  | true =>
   rw [hb] at h3;go_wp2_with fail;go_meet
   case rel=>exact ⟨rfl,true,_,(fun e=>by cases e),by have:=KEY.out true;subst hbx;exact this⟩
  | false =>
   have HB:=Lib.hid hb;rw [hb] at h3;by_cases hd8:(8:Int) < deep
   ·have d8:decide ((8:Int) < deep)=true:=decide_eq_true hd8;go_wp2_with fail;go_meet
    case rel=>exact ⟨rfl,true,_,(fun e=>by cases e),by have:=KEY.out true;subst hbx;exact this⟩
   ·have d8:decide ((8:Int) < deep)=false:=decide_eq_false hd8;go_wp2_with fail;refine (HCL.out _).mono ?_;rintro e w1 ⟨rfl,hb1⟩;have m01:Mv (fun _=>False) w lab w1 ((lab.ext w.heap.size 45).ext (w.alloc (.cells bx 26)).heap.size 45):=(HMV.out (.cells bx 26)).trans (Mv.below (M:=fun _=>False) (by subst hbx;exact hb1) (lab.ext w.heap.size 45) 45) (fun _ h=>h);have hbx1:Cl 45 ((lab.ext w.heap.size 45).ext (w.alloc (.cells bx 26)).heap.size 45) w1 w.heap.size bx 26:=(Cl.alloc w lab bx 26 45).mv (Mv.below (M:=fun _=>False) (by subst hbx;exact hb1) (lab.ext w.heap.size 45) 45) (fun h=>h);have h1:=HK.out.mv m01 (fun _ _ h=>h);have c3:=h1.c3;have fr3:=h1.f3;rw [hb] at c3;have h1f:=h1.flag false;have HX:=Lib.hid (aI h1f.1 (aI (hbx1.mv h1f.2 (by decide)) ((m01.mono (M':=(·=40)) (fun _ h=>h.elim)).trans h1f.2 (fun _ h=>h))));clear h1 h1f m01 hbx1 hb1;go_wp2_with fail;go_meet
    case rel=>exact ⟨rfl,false,_,(fun _=>HB.out),HX.out⟩
 case rest =>
  obtain ⟨rfl,xb,lab0,hxb,h1,hb1,m1⟩:=hcut;have hw0:=Wrote.flag W xb hxb;have c3:=h1.c3;have H1:=Lib.hid (aI h1 (aI hb1 (aI m1 (aI hw0 hxb))));have HVC:=Lib.hid (HVA.out lab0 wc (W.flag xb) h1 rfl rfl rfl rfl rfl rfl rfl);obtain ⟨q0,q1,q2,q3,q4,q5,q6⟩:wc.cell? ⟨w.heap.size,0,none⟩=some (.int .i64 kx)∧wc.cell? ⟨w.heap.size,1,none⟩=some (.int .i64 n)∧wc.cell? ⟨w.heap.size,2,none⟩=some (.float .f64 f)∧wc.cell? ⟨w.heap.size,3,none⟩=some (.bool is)∧wc.cell? ⟨w.heap.size,4,none⟩=some (.string t)∧wc.cell? ⟨w.heap.size,5,none⟩=some (.slice a1 p1 c1)∧wc.cell? ⟨w.heap.size,6,none⟩=some (.slice a2 p2 c2):=by
   subst hbx;exact ⟨hb1.cell 0,hb1.cell 1,hb1.cell 2,hb1.cell 3,hb1.cell 4,hb1.cell 5,hb1.cell 6⟩
  clear h1 hb1 m1 hw0 hxb h3 f3
  cases xb with
  | true =>
   go_wp2;refine bodyPost_ret (results_none rfl _ _ _) rfl ?_;exact ⟨rfl,_,_,_,_,H1.out.1,H1.out.2.2.2.1.toU,Nat.zero_le _,by simp,(fun h=>by cases h),H1.out.2.2.1.mono (fun _ h=>.inl h)⟩
  | false =>
   go_wp2_with fail
   refine HVC.out.mono ?_;rintro e w2 ⟨ok,W2,T,U,lab2,rfl,h2,hw2,hT,hof,hot,m2⟩;have m02:Mv VM w lab w2 lab2:=(H1.out.2.2.1.mono (M':=VM) (fun _ h=>.inl h)).trans m2 (fun _ h=>h);have hb2:=H1.out.2.1.mv m2 (by decide);have HM2:=Lib.hid m02;have hinv:1≤wt j:=by rw [wt_eq];omega
   cases ok with
   | true =>
    obtain ⟨k,rfl,hvk,hjk⟩:=hot rfl;have hw02:=H1.out.2.2.2.1.toU.trans hw2;simp only [empty_app,List.nil_append] at hw02;have hfin:ValP lab w b W kj j li (.returned (.tuple #[])) w2:=by
     refine ⟨rfl,W2,T,[k],lab2,h2,hw02,by omega,by simpa using hinv,fun _=>?_,m02⟩;rcases hjk with ⟨v,rfl⟩ | ⟨v,rfl⟩
     ·exact ⟨false,T,[],by simp only [GV];exact ⟨trivial,trivial,.inr ⟨k,rfl,hvk⟩⟩,(app_nil' T).symm⟩
     ·exact ⟨false,T,[],by simp only [GV];exact ⟨trivial,.inr ⟨trivial,k,rfl,hvk⟩⟩,(app_nil' T).symm⟩
    have HF:=Lib.hid hfin;clear hfin h2 hw2 m2 hb2 hof hot hw02 hvk hjk m02;go_wp2;refine bodyPost_ret (results_none rfl _ _ _) rfl ?_;exact HF.out
   | false =>
    obtain ⟨rfl,rfl⟩:=hof rfl;have hsz2:W2.text.size=W.text.size:=by have:=hw2.size;exact this
    have hln2:W2.line=W.line:=by have:=hw2.line;exact this
    have H2:=Lib.hid (aI h2 (aI hw2 (aI m02 hb2)));obtain ⟨r0,r1,r2,r3,r4,r5,r6⟩:w2.cell? ⟨w.heap.size,0,none⟩=some (.int .i64 kx)∧w2.cell? ⟨w.heap.size,1,none⟩=some (.int .i64 n)∧w2.cell? ⟨w.heap.size,2,none⟩=some (.float .f64 f)∧w2.cell? ⟨w.heap.size,3,none⟩=some (.bool is)∧w2.cell? ⟨w.heap.size,4,none⟩=some (.string t)∧w2.cell? ⟨w.heap.size,5,none⟩=some (.slice a1 p1 c1)∧w2.cell? ⟨w.heap.size,6,none⟩=some (.slice a2 p2 c2):=by
     subst hbx;exact ⟨hb2.cell 0,hb2.cell 1,hb2.cell 2,hb2.cell 3,hb2.cell 4,hb2.cell 5,hb2.cell 6⟩
    clear h2 hw2 m02 hb2 m2 hof hot hT q0 q1 q2 q3 q4 q5 q6 c3 HVC
    cases j with
    | int v =>
     obtain ⟨hk1,hn1⟩:=HT.out.1 v rfl;subst hk1 hn1;have hb:-9223372036854775808≤n∧n≤9223372036854775807:=by
      obtain ⟨d,hd⟩:=HIN.out.2.2.1
      cases d with
      | zero=>simp only [JT] at hd
      | succ d=>simpa only [JT] using hd
     have hI:=Lib.hid (integer_c H2.out.1 n hb.1 hb.2 (by omega) (by omega));go_wp2_with fail;refine hI.out.mono ?_;rintro e w3 ⟨rfl,W3,V,lab3,h3,hw3,hV,hbd,m3⟩;have hF:ValP lab w b W kj (.int n) li (.returned (.tuple #[])) w3:=valP_of h3 H1.out.2.2.2.1 H2.out.2.1 hw3.toU (by simp only [wt];omega) (by simp) (fun e=>⟨false,V,[],by simp only [GV];exact ⟨trivial,trivial,.inl ⟨trivial,hbd e⟩⟩,(app_nil' V).symm⟩) (H2.out.2.2.1.trans m3 (fun _ h=>.inl h));have HF:=Lib.hid hF;clear hF h3 hw3 hbd m3 hI;go_wp2;go_end0;exact HF.out
    | num v =>
     obtain ⟨hk1,hn1⟩:=HT.out.2.1 v rfl;subst hk1 hn1;have hb:FloatKind.f64.format.order f f=some .eq:=by
      obtain ⟨d,hd⟩:=HIN.out.2.2.1
      cases d with
      | zero=>simp only [JT] at hd
      | succ d=>simpa only [JT] using hd
     have hI:=Lib.hid (number_c H2.out.1 f hb (by omega) (by omega));go_wp2_with fail;refine hI.out.mono ?_;rintro e w3 ⟨rfl,W3,V,lab3,h3,hw3,hV,hbd,m3⟩;have hF:ValP lab w b W kj (.num f) li (.returned (.tuple #[])) w3:=valP_of h3 H1.out.2.2.2.1 H2.out.2.1 hw3.toU (by simp only [wt];omega) (by simp) (fun e=>⟨false,V,[],by simp only [GV];exact ⟨trivial,trivial,trivial,hbd e⟩,(app_nil' V).symm⟩) (H2.out.2.2.1.trans m3 (fun _ h=>.inl h));have HF:=Lib.hid hF;clear hF h3 hw3 hbd m3 hI;go_wp2;go_end0;exact HF.out
    | tr v =>
     obtain ⟨hk1,hn1⟩:=HT.out.2.2.1 v rfl;subst hk1 hn1;have mB:Mv (fun _=>False) w2 lab2 (w2.alloc (.cells (trRow is) 9)) (lab2.ext w2.heap.size 45):=Mv.alloc0 _ _ _ _;have HB:=Lib.hid (aI (H2.out.1.mv mB (fun _ _ h=>h)) mB);have hpk:=Wrote.pick W2 6;have hplt:=pick_lt W2 6 (by decide);have hbn:∀ o,(w2.alloc o).heap.size=w2.heap.size + 1:=fun o=>World.size_alloc _ _
     have hrl:(lab2.ext w2.heap.size 45) w2.heap.size=45:=Lab.ext_ge (Nat.le_refl _);have hz0:(⟨#[]⟩:ByteArray).size=0:=rfl;clear mB
     cases is with
     | false =>
      go_wp2_with fail
      refine (pick_c HB.out.1 6 (by decide) (by decide)).mono ?_;rintro e wa ⟨rfl,ha,ma⟩;obtain ⟨a,Wa,hja⟩:∃ u W3,W2.pick 6=(u,W3):=⟨_,_,rfl⟩;rw [hja] at ha hpk hplt ⊢;simp only at ha hpk hplt ⊢;have hrow:wa.heap[w2.heap.size]?=some (.cells (trRow false) 9 (0,0)):=by
       rw [ma.block w2.heap.size (by rw [hbn];omega) (by rw [hrl];decide)];exact heap_alloc_new w2 _
      have qa:wa.cell? ⟨w2.heap.size,a,none⟩=some (.string (trT false a)):=(blk_cell hrow a).trans (tr_get false a hplt);have ha6:(a:Int) < 6:=by omega
      have hsa:=tr_size false a hplt;have hsza:=hpk.size;have hlna:=hpk.line_le;have HA:=Lib.hid (aI ha (aI ((HB.out.2.mono (M':=VM) (fun _ h=>h.elim)).trans ma (fun _ h=>.inl h)) hpk));clear ha ma hrow hpk hrl hbn;go_wp2_with fail;refine (put_c HA.out.1 (trT false a) (by omega) (by omega) (by omega)).mono ?_;rintro e wb ⟨rfl,hb',mb⟩;have hwb:=HA.out.2.2.trans (Wrote.put Wa (trT false a));rw [empty_app] at hwb;have hF:ValP lab w b W kj (.tr false) li (.returned (.tuple #[])) wb:=valP_of hb' H1.out.2.2.2.1 H2.out.2.1 hwb.toU (by simp only [wt];omega) (by simp) (fun e=>⟨false,_,[],by simp only [GV];exact ⟨trivial,trivial,trivial,a,hplt,rfl⟩,(app_nil' _).symm⟩) ((H2.out.2.2.1.trans HA.out.2.1 (fun _ h=>h)).trans mb (fun _ h=>.inl h));have HF:=Lib.hid hF;clear hF hb' mb hwb;go_wp2;go_end0;exact HF.out
     | true =>
      go_wp2_with fail
      refine (pick_c HB.out.1 6 (by decide) (by decide)).mono ?_;rintro e wa ⟨rfl,ha,ma⟩;obtain ⟨a,Wa,hja⟩:∃ u W3,W2.pick 6=(u,W3):=⟨_,_,rfl⟩;rw [hja] at ha hpk hplt ⊢;simp only at ha hpk hplt ⊢;have hrow:wa.heap[w2.heap.size]?=some (.cells (trRow true) 9 (0,0)):=by
       rw [ma.block w2.heap.size (by rw [hbn];omega) (by rw [hrl];decide)];exact heap_alloc_new w2 _
      have qa:wa.cell? ⟨w2.heap.size,a,none⟩=some (.string (trT true a)):=(blk_cell hrow a).trans (tr_get true a hplt);have ha6:(a:Int) < 6:=by omega
      have hsa:=tr_size true a hplt;have hsza:=hpk.size;have hlna:=hpk.line_le;have HA:=Lib.hid (aI ha (aI ((HB.out.2.mono (M':=VM) (fun _ h=>h.elim)).trans ma (fun _ h=>.inl h)) hpk));clear ha ma hrow hpk hrl hbn;go_wp2_with fail;refine (put_c HA.out.1 (trT true a) (by omega) (by omega) (by omega)).mono ?_;rintro e wb ⟨rfl,hb',mb⟩;have hwb:=HA.out.2.2.trans (Wrote.put Wa (trT true a));rw [empty_app] at hwb;have hF:ValP lab w b W kj (.tr true) li (.returned (.tuple #[])) wb:=valP_of hb' H1.out.2.2.2.1 H2.out.2.1 hwb.toU (by simp only [wt];omega) (by simp) (fun e=>⟨false,_,[],by simp only [GV];exact ⟨trivial,trivial,trivial,a,hplt,rfl⟩,(app_nil' _).symm⟩) ((H2.out.2.2.1.trans HA.out.2.1 (fun _ h=>h)).trans mb (fun _ h=>.inl h));have HF:=Lib.hid hF;clear hF hb' mb hwb;go_wp2;go_end0;exact HF.out
    | txt v =>
     obtain ⟨hk1,hn1⟩:=HT.out.2.2.2.1 v rfl;subst hk1 hn1;have hb:t.size≤60:=by
      obtain ⟨d,hd⟩:=HIN.out.2.2.1
      cases d with
      | zero=>simp only [JT] at hd
      | succ d=>simpa only [JT] using hd
     have hI:=Lib.hid (words_c H2.out.1 t li (by omega) (by omega) (by omega));go_wp2_with fail;refine hI.out.mono ?_
     rintro e w3 ⟨rfl,W3,V,lab3,h3,hw3,hV,hbd,m3⟩;have hF:ValP lab w b W kj (.txt t) li (.returned (.tuple #[])) w3:=valP_of h3 H1.out.2.2.2.1 H2.out.2.1 hw3.toU (by simp only [wt];omega) (by simp) (fun e=>by
      obtain ⟨nl,V',e1,e2⟩:=(hbd e).toS
      exact ⟨nl,V',[],by simp only [GV];exact ⟨trivial,.inl ⟨trivial,e2⟩⟩,e1⟩) (H2.out.2.2.1.trans m3 (fun _ h=>.inl h))
     have HF:=Lib.hid hF;clear hF h3 hw3 hbd m3 hI;go_wp2;go_end0;exact HF.out
    | arr l =>
     have hw0:WroteU W W2 ⟨#[]⟩ []:=by
      have:=H1.out.2.2.2.1.toU.trans H2.out.2.1;simpa only [empty_app,List.nil_append] using this
     have hok:WOk W2 kj (1 + wts l):=HW.out.next hw0 (by simp only [wt];exact Nat.le_of_eq (by rw [show (⟨#[]⟩:ByteArray).size=0 from rfl];omega)) (by simp only [wt,List.length_nil];omega);obtain ⟨hk1,hm1,hvs⟩:=(NdV.mv H2.out.2.2.1 (by decide) (.arr l) HV.out).tells.2.2.2.2.1 l rfl;subst hk1 hm1;have hjk:=HIN.out.2.2.1.kids;have hI:=Lib.hid (list_at (n:=n) (f:=f) (is:=is) (t:=t) (a1:=a1) (m1:=p1) (c1:=c1) (c2:=c2) l (HIN.out.1 l rfl) hjk.2.2.2 hjk.1 li deep H2.out.1 hok hvs (fun k hk=>by rw [hw0.inner];exact HIN.out.2.2.2.1 k (by simpa only [innK] using hk)) hd0 (by have:=hd1;simp only [wt] at this;omega));clear hw0 hok hvs hjk;go_wp2_with fail;refine hI.out.mono ?_
     rintro e w3 ⟨rfl,W3,V,U3,lab3,h3,hw3,hV,hU,hbd,m3⟩;have hF:ValP lab w b W kj (.arr l) li (.returned (.tuple #[])) w3:=valP_of h3 H1.out.2.2.2.1 H2.out.2.1 hw3 (by simp only [wt];omega) (by simp only [wt];omega) (fun e=>by
      obtain ⟨a,mk,bb,Es,R,e1,e2,e3⟩:=hbd e;have ek:W2.known=W.known:=H2.out.2.1.known;have ei:W2.inner=W.inner:=H2.out.2.1.inner
      rw [ek,ei] at e1;exact ⟨false,V,[],by simp only [GV];exact ⟨trivial,trivial,a,mk,bb,Es,R,e1,e2,e3⟩,(app_nil' _).symm⟩) (H2.out.2.2.1.trans m3 (fun _ h=>h))
     have HF:=Lib.hid hF;clear hF h3 hw3 hbd m3 hI;go_wp2;go_end0;exact HF.out
    | map ks l =>
     have hk6:=HT.out.2.2.2.2.2 ks l rfl;subst hk6;have hw0:WroteU W W2 ⟨#[]⟩ []:=by
      have:=H1.out.2.2.2.1.toU.trans H2.out.2.1;simpa only [empty_app,List.nil_append] using this
     have hwtx:wt (.map ks l)=1 + wts l:=by simp only [wt]
     have mB:Mv (fun _=>False) w2 lab2 (w2.alloc (.cells spRow 9)) (lab2.ext w2.heap.size 45):=Mv.alloc0 _ _ _ _;have HB:=Lib.hid (aI (H2.out.1.mv mB (fun _ _ h=>h)) mB);have hpk:=Wrote.pick W2 3;have hplt:=pick_lt W2 3 (by decide);have hbn:∀ o,(w2.alloc o).heap.size=w2.heap.size + 1:=fun o=>World.size_alloc _ _
     have hrl:(lab2.ext w2.heap.size 45) w2.heap.size=45:=Lab.ext_ge (Nat.le_refl _);have HU:=Lib.hid hw0;have hz0:(⟨#[]⟩:ByteArray).size=0:=rfl;clear mB hw0;go_wp2_with fail;refine (pick_c HB.out.1 3 (by decide) (by decide)).mono ?_;rintro e wa ⟨rfl,ha,ma⟩;obtain ⟨a,Wa,hja⟩:∃ u W3,W2.pick 3=(u,W3):=⟨_,_,rfl⟩;rw [hja] at ha hpk hplt ⊢;simp only at ha hpk hplt ⊢;have hrow:wa.heap[w2.heap.size]?=some (.cells spRow 9 (0,0)):=by
      rw [ma.block w2.heap.size (by rw [hbn];omega) (by rw [hrl];decide)];exact heap_alloc_new w2 _
     have qa:wa.cell? ⟨w2.heap.size,a,none⟩=some (.string (sp3 a)):=(blk_cell hrow a).trans (sp_get a hplt);have ha3:(a:Int) < 3:=by omega
     have hsa:=sp_size a;have hsza:=hpk.size;have hlna:=hpk.line_le;have HA:=Lib.hid (aI ha (aI ((HB.out.2.mono (M':=VM) (fun _ h=>h.elim)).trans ma (fun _ h=>.inl h)) hpk));have hnb:¬ 9223372036854775807 < 1 + (sp3 a).size:=by omega
     have hs1:(({ data:=#[123] }:ByteArray) ++ sp3 a).size=1 + (sp3 a).size:=by rw [bsa];rfl
     clear ha ma hrow hpk hrl hbn;go_wp2_with fail;refine (put_c HA.out.1 (({ data:=#[123] }:ByteArray) ++ sp3 a) (by omega) (by omega) (by omega)).mono ?_;rintro e wb ⟨rfl,hb',mb⟩;have hwb:=HA.out.2.2.trans (Wrote.put Wa (({ data:=#[123] }:ByteArray) ++ sp3 a));rw [empty_app] at hwb;obtain ⟨Wb,hWb⟩:∃ x,x=Wa.put (({ data:=#[123] }:ByteArray) ++ sp3 a):=⟨_,rfl⟩;rw [← hWb] at hb' hwb;clear hWb;have mv2:=HA.out.2.1.trans mb (fun _ h=>.inl h);have mvb:=H2.out.2.2.1.trans mv2 (fun _ h=>h);have hbxb:=H2.out.2.2.2.mv mv2 (by decide);have hxb:=NdV.mv mvb (by decide) (.map ks l) HV.out;obtain ⟨t0,t1,t2,t3,t4,t5,t6⟩:wb.cell? ⟨w.heap.size,0,none⟩=some (.int .i64 6)∧wb.cell? ⟨w.heap.size,1,none⟩=some (.int .i64 n)∧wb.cell? ⟨w.heap.size,2,none⟩=some (.float .f64 f)∧wb.cell? ⟨w.heap.size,3,none⟩=some (.bool is)∧wb.cell? ⟨w.heap.size,4,none⟩=some (.string t)∧wb.cell? ⟨w.heap.size,5,none⟩=some (.slice a1 p1 c1)∧wb.cell? ⟨w.heap.size,6,none⟩=some (.slice a2 p2 c2):=by
      subst hbx;exact ⟨hbxb.cell 0,hbxb.cell 1,hbxb.cell 2,hbxb.cell 3,hbxb.cell 4,hbxb.cell 5,hbxb.cell 6⟩
     have hszb:=hwb.size;have hlnb:=hwb.line_le;have hUb:=HU.out.trans hwb.toU;have hwokb:WOk Wb kj (wts l):=HW.out.next hUb (by rw [bsa,hs1,hz0];omega) (by simp only [List.append_nil,List.length_nil];omega);obtain ⟨lnb,hlb⟩:∃ m,Wb.line=m + 1:=⟨Wb.line - 1,by have:=hwokb.pos;omega⟩;have hinn:∀ k ∈ ks ++ innKs l,k ∈ W.inner:=fun k hk=>HIN.out.2.2.2.1 k (by simpa only [innK] using hk)
     have hEC:=HIN.out.2.1 ks l rfl ks l rfl _ wb b Wb kj _ ({ data:=#[] }:ByteArray) lnb none [] (deep + 1) hb' hwokb hxb HIN.out.2.2.1 (fun k hk=>by rw [hUb.inner];exact hinn k (List.mem_append_right _ hk)) (fun _ k hk=>by rw [hUb.inner];exact hinn k (List.mem_append_left _ hk)) (fun e=>by omega) (by omega) (by omega) hlb (fun pc e=>by cases e) (by simp only [List.length_nil];omega) (by rw [hz0];omega);have hp0:plV none=.pointer none:=rfl;rw [hp0] at hEC;have HEC:=Lib.hid hEC;have HWB:=Lib.hid (aI hwb mvb);have hdw:deep + 1≤9223372036854775807:=by omega
     clear hb' hwb mb mvb mv2 hbxb hxb hwokb hEC hUb hinn hp0;go_wp2_with fail;refine HEC.out.mono ?_;rintro e wd ⟨rfl,Wd,kd,Td,Ud,Pd,Pd',labd,hd,hwd,hvd,htd,hTd,hUd,hbdd,hpld,hpnd,md⟩;have hnt:(deep + 1 == 0)=false:=bqf (by omega);rw [hnt] at htd hbdd md;obtain ⟨hwdu,hkd⟩:=htd rfl;subst hkd;have hszd:=hwdu.size;have hlnd:=hwdu.line_le;have HD:=Lib.hid (aI hd (aI hwdu (aI hbdd md)));clear hd hwd hvd hwdu hbdd hpld md htd;go_wp2_with fail;refine (put_c HD.out.1 ⟨#[125]⟩ (by decide) (by omega) (by omega)).mono ?_;rintro e we ⟨rfl,he,me⟩;have hfin:ValP lab w b W kd (.map ks l) li (.returned (.tuple #[])) we:=by
      have hwall:=(HWB.out.1.toU.trans HD.out.2.1).trans (Wrote.put Wd ⟨#[125]⟩).toU
      refine valP_of he H1.out.2.2.2.1 H2.out.2.1 hwall ?_ ?_ (fun e=>?_) ((HWB.out.2.trans HD.out.2.2.2 (fun y h=>by
       rcases h with h | h | ⟨h,-⟩ | ⟨h,-⟩
       ·exact .inl h
       ·exact .inr h
       ·cases h
       ·cases h)).trans me (fun _ h=>.inl h))
      ·rw [bsa,bsa,hs1];show 1 + (sp3 a).size + Td.size + 1≤_;omega
      ·simp only [List.append_nil,List.nil_append];omega
      ·have ed:=(Wrote.put Wd ⟨#[125]⟩).bad e;obtain ⟨g1,g2,-,-⟩:=HD.out.2.2.1 ed;have e1:Wb.known=W.known:=(HU.out.trans HWB.out.1.toU).known;have e2:Wb.inner=W.inner:=(HU.out.trans HWB.out.1.toU).inner;have e3:Wd.known=W.known:=HD.out.2.1.known.trans e1;have e4:Wd.inner=W.inner:=HD.out.2.1.inner.trans e2;rw [e1,e2,e3,e4] at g1;obtain ⟨P9,g9⟩:=GE.move (⟨#[]⟩:ByteArray) (0 + nlT (sp3 a)) l g1;refine ⟨false,_,P9,?_,(app_nil' _).symm⟩;simp only [GV,List.append_nil,List.nil_append];exact ⟨trivial,a,Td,g9,asc_of g2,by simp only [ByteArray.append_assoc]⟩
     have HF:=Lib.hid hfin;clear hfin he me;go_wp2;go_end0;exact HF.out
end
end Go.Cf
namespace Go.Cf
open Go.RowKit Go.Conc Go.Proofs
theorem val_ent (j:JV):ValC j∧EntC j:=by
 induction j using JV.induct with
 | h j ih =>
  have hE:EntC j:=by
   cases j with
   | map ks l=>exact entries_at ks l ih
   | int n=>intro ks l e;cases e
   | num n=>intro ks l e;cases e
   | tr n=>intro ks l e;cases e
   | txt n=>intro ks l e;cases e
   | arr n=>intro ks l e;cases e
  exact ⟨value_at j (fun l e x hx=>(ih x (by rw [e];exact hx)).1) (fun _ _ _=>hE),hE⟩
def v7s (b:Nat) (inn:Value) (cx:Array Value):Nat→Option Value
 | 3=>some (.pointer (some ⟨b,7,none⟩))
 | 9=>some (.pointer (some ⟨b,7,none⟩))
 | 4=>some inn
 | 5=>some (.agg cx)
 | 6=>none
 | 7=>none
 | 10=>none
 | _=>some (.pointer (some ⟨b,0,none⟩))
abbrev IM (x:Nat):Prop:=x=40 ∨ x=44
structure R7 (lab0:Lab) (w0:World) (b:Nat) (W:CW) (sv kn va us inn:Value) (cx:Array Value) (news:List ByteArray) (t0:Array Value) (L:Array Bool) (a:Act) (lab:Lab) (w:World):Prop where
 defers:a.defers=[]
 size:a.tmps.size=t0.size
 keep:∀ j,¬ (33≤j∧j < 33 + 10)→a.tmps.getD j undef=t0.getD j undef
 mv:Mv IM w0 lab0 w lab
 got:∀ i v,i < 10→L.getD i false=true→v7s b inn cx i=some v→a.tmps.getD (33 + i) undef=v
 g6:L.getD 6 false=true→∃ A C,a.tmps.getD 39 undef=.slice A news.length C∧Rw 0 48 lab w 9 1 (.slice A news.length C) news.length (news.map .string)
 cl:Cl 40 lab w b (W.cells sv kn va us (if L.getD 10 false=true then a.tmps.getD 40 undef else inn)) 53
 r:if L.getD 7 false=true then Rw 0 44 lab w 9 1 (a.tmps.getD 40 undef) (W.inner ++ news).length ((W.inner ++ news).map Value.string) else Rw 0 44 lab w 9 1 inn W.inner.length (W.inner.map Value.string)
 ord:(L.getD 10 false=true→L.getD 7 false=true)∧(L.getD 7 false=true→L.getD 4 false=true)
section
variable {lab0 lab lab2:Lab} {w0 w w2:World} {b:Nat} {W:CW} {sv kn va us inn:Value} {cx:Array Value} {news:List ByteArray} {t0:Array Value} {L:Array Bool} {a:Act}
theorem R7.plain (h:R7 lab0 w0 b W sv kn va us inn cx news t0 L a lab w) (hL:L.size=11) (ht:43≤t0.size) (i:Nat) (hi:i < 10) (v:Value) (hv:v7s b inn cx i=some v) (h4:i=4→L.getD 7 false=false) :
  R7 lab0 w0 b W sv kn va us inn cx news t0 (L.setIfInBounds i true) (a.put (some (33 + i)) v) lab w:=by
 have hs:33 + i < a.tmps.size:=by rw [h.size];omega
 have hn:i ≠ 6∧i ≠ 7∧i ≠ 10:=by
  refine ⟨?_,?_,?_⟩ <;> (rintro rfl;cases hv)
 have hg:∀ j,(L.setIfInBounds i true).getD j false=if j=i then true else L.getD j false:=fun j=>getD_set L i j (by omega)
 have hp:∀ k,(a.put (some (33 + i)) v).tmps.getD k undef=if k=33 + i then v else a.tmps.getD k undef:=fun k=>put_getD hs
 have hpn:∀ k,k ≠ 33 + i→(a.put (some (33 + i)) v).tmps.getD k undef=a.tmps.getD k undef:=fun k hk=>by rw [hp,if_neg hk]
 have hne:∀ j,j ≠ i→(L.setIfInBounds i true).getD j false=L.getD j false:=fun j hj=>by rw [hg,if_neg hj]
 refine ⟨h.defers,by simpa [Act.put] using h.size,fun j hj=>?_,h.mv,fun j u hj hlj hu=>?_,?_,?_,?_,?_⟩
 ·rw [hpn j (by omega)];exact h.keep j hj
 ·by_cases hji:j=i
  ·subst hji;rw [hp,if_pos rfl];exact Option.some.inj (hv.symm.trans hu)
  ·rw [hne j hji] at hlj;rw [hpn _ (by omega)];exact h.got j u hj hlj hu
 ·rw [hne 6 (by omega),hpn 39 (by omega)];exact h.g6
 ·rw [hne 10 (by omega),hpn 40 (by omega)];exact h.cl
 ·rw [hne 7 (by omega),hpn 40 (by omega)];exact h.r
 ·rw [hne 10 (by omega),hne 7 (by omega),hg];refine ⟨h.ord.1,fun e=>?_⟩;by_cases e4:4=i
  ·rw [if_pos e4]
  ·rw [if_neg e4];exact h.ord.2 e
theorem R7.call (h:R7 lab0 w0 b W sv kn va us inn cx news t0 L a lab w) (hL:L.size=11) (ht:43≤t0.size) (m:Mv (fun _=>False) w lab w2 lab2) (v:Value) (hv:∃ A C,v=.slice A news.length C∧Rw 0 48 lab2 w2 9 1 (.slice A news.length C) news.length (news.map .string)) :
  R7 lab0 w0 b W sv kn va us inn cx news t0 (L.setIfInBounds 6 true) (a.put (some 39) v) lab2 w2:=by
 have hs:39 < a.tmps.size:=by rw [h.size];omega
 have hg:∀ j,(L.setIfInBounds 6 true).getD j false=if j=6 then true else L.getD j false:=fun j=>getD_set L 6 j (by omega)
 have hp:∀ k,(a.put (some 39) v).tmps.getD k undef=if k=39 then v else a.tmps.getD k undef:=fun k=>put_getD hs
 have hpn:∀ k,k ≠ 39→(a.put (some 39) v).tmps.getD k undef=a.tmps.getD k undef:=fun k hk=>by rw [hp,if_neg hk]
 have hne:∀ j,j ≠ 6→(L.setIfInBounds 6 true).getD j false=L.getD j false:=fun j hj=>by rw [hg,if_neg hj]
 refine ⟨h.defers,by simpa [Act.put] using h.size,fun j hj=>?_,h.mv.trans m (fun _ h=>h.elim),fun j u hj hlj hu=>?_,?_,?_,?_,?_⟩
 ·rw [hpn j (by omega)];exact h.keep j hj
 ·have hji:j ≠ 6:=by rintro rfl;cases hu
  rw [hne j hji] at hlj;rw [hpn _ (by omega)];exact h.got j u hj hlj hu
 ·rw [hp,if_pos rfl];exact fun _=>hv
 ·rw [hne 10 (by omega),hpn 40 (by omega)];exact h.cl.mv m (fun h=>h)
 ·rw [hne 7 (by omega),hpn 40 (by omega)];have:=h.r
  split
  ·next hc=>rw [if_pos hc] at this;exact this.mv m (fun h=>h)
  ·next hc=>rw [if_neg hc] at this;exact this.mv m (fun h=>h)
 ·rw [hne 10 (by omega),hne 7 (by omega),hne 4 (by omega)];exact h.ord
theorem R7.app (h:R7 lab0 w0 b W sv kn va us inn cx news t0 L a lab w) (hL:L.size=11) (ht:43≤t0.size) (m:Mv (·=44) w lab w2 lab2) (hd:L.getD 4 false=true) (hst:L.getD 10 false=false) (v:Value)
  (hrw:Rw 0 44 lab2 w2 9 1 v (W.inner ++ news).length ((W.inner ++ news).map Value.string)):R7 lab0 w0 b W sv kn va us inn cx news t0 (L.setIfInBounds 7 true) (a.put (some 40) v) lab2 w2:=by
 have hs:40 < a.tmps.size:=by rw [h.size];omega
 have hg:∀ j,(L.setIfInBounds 7 true).getD j false=if j=7 then true else L.getD j false:=fun j=>getD_set L 7 j (by omega)
 have hp:∀ k,(a.put (some 40) v).tmps.getD k undef=if k=40 then v else a.tmps.getD k undef:=fun k=>put_getD hs
 have hpn:∀ k,k ≠ 40→(a.put (some 40) v).tmps.getD k undef=a.tmps.getD k undef:=fun k hk=>by rw [hp,if_neg hk]
 have hne:∀ j,j ≠ 7→(L.setIfInBounds 7 true).getD j false=L.getD j false:=fun j hj=>by rw [hg,if_neg hj]
 refine ⟨h.defers,by simpa [Act.put] using h.size,fun j hj=>?_,h.mv.trans m (fun _ h=>.inr h),fun j u hj hlj hu=>?_,?_,?_,?_,?_⟩
 ·rw [hpn j (by omega)];exact h.keep j hj
 ·have hji:j ≠ 7:=by rintro rfl;cases hu
  rw [hne j hji] at hlj;rw [hpn _ (by omega)];exact h.got j u hj hlj hu
 ·rw [hne 6 (by omega),hpn 39 (by omega)];intro e;obtain ⟨A,C,h1,h2⟩:=h.g6 e;exact ⟨A,C,h1,h2.mv m (by decide)⟩
 ·have hcl:=h.cl.mv m (by decide);rw [hne 10 (by omega)];rw [if_neg (show ¬ L.getD 10 false=true by rw [hst];decide)] at hcl ⊢;exact hcl
 ·rw [hg,if_pos rfl,if_pos rfl,hp,if_pos rfl];exact hrw
 ·rw [hne 10 (by omega),hne 4 (by omega),hg];exact ⟨fun _=>rfl,fun _=>hd⟩
theorem R7.store (h:R7 lab0 w0 b W sv kn va us inn cx news t0 L a lab w) (hL:L.size=11) (h7:L.getD 7 false=true) (v:Value) :
  R7 lab0 w0 b W sv kn va us inn cx news t0 (L.setIfInBounds 10 true) (a.put none v) lab (w.setCell ⟨b,7,none⟩ (a.tmps.getD 40 undef)):=by
 have hg:∀ j,(L.setIfInBounds 10 true).getD j false=if j=10 then true else L.getD j false:=fun j=>getD_set L 10 j (by omega)
 have hne:∀ j,j ≠ 10→(L.setIfInBounds 10 true).getD j false=L.getD j false:=fun j hj=>by rw [hg,if_neg hj]
 have m:Mv (·=40) w lab (w.setCell ⟨b,7,none⟩ (a.tmps.getD 40 undef)) lab:=Mv.setCell _ _ _ _ h.cl.2;refine ⟨h.defers,h.size,h.keep,h.mv.trans m (fun _ h=>.inl h),fun j u hj hlj hu=>?_,?_,?_,?_,?_⟩
 ·rw [hne j (by omega)] at hlj;exact h.got j u hj hlj hu
 ·rw [hne 6 (by omega)];intro e;obtain ⟨A,C,h1,h2⟩:=h.g6 e;exact ⟨A,C,h1,h2.mv m (by decide)⟩
 ·rw [hg,if_pos rfl,if_pos rfl];exact h.cl.set 7 _
 ·rw [hne 7 (by omega)];have:=h.r;rw [if_pos h7] at this ⊢;exact this.mv m (by decide)
 ·rw [hne 7 (by omega),hne 4 (by omega)];exact ⟨fun _=>h7,h.ord.2⟩
theorem inner_region {P:Program} {Q:Exit→Act→World→Prop} {id:Nat} {l:List Oper} (hx:WAtX lab w b W sv kn va us inn) (cx:Array Value) (news:List ByteArray) (hm:P.follows .mixedOrders=true)
  (hdep:(List.range l.length).all (fun i=>((l[i]?).map fun o=>o.after.all fun e=>!Region.binds .any e || decide (e.on < i)).getD true)=true)
  (hl:l.length=11) (hd:a.defers=[]) (ht:43≤a.tmps.size)
  (hstep:∀ L a' lab' w' i o,L.size=11→l[i]?=some o→L.getD i false=false→(∀ e ∈ o.after,Region.binds .any e=true→L.getD e.on false=true)→R7 lab w b W sv kn va us inn cx news a.tmps L a' lab' w' →
   wpOp P l.toArray Q i (fun a2 w2=>∃ lab2,R7 lab w b W sv kn va us inn cx news a.tmps (L.setIfInBounds i true) a2 lab2 w2) a' w')
  (hend:∀ (u:List Value) lab' w',u.length=10→WAt lab' w' b { W with inner:=W.inner ++ news }→Mv IM w lab w' lab'→Q .normal ⟨(a.tmps.toList.take 33 ++ (u ++ a.tmps.toList.drop 43)).toArray,[]⟩ w') :
  (Code.region id l.toArray true).wp P Q a w:=by
 have hrep:∀ i,(Array.replicate l.length false).getD i false=false:=fun i=>by
  rw [gdg,Array.getElem?_replicate]
  split <;> rfl
 refine wp_region_inv (fun L a' w'=>L.size=11∧∃ lab',R7 lab w b W sv kn va us inn cx news a.tmps L a' lab' w') hm hdep ?_ ?_ ?_
 ·refine ⟨by rw [Array.size_replicate,hl],lab,hd,rfl,fun _ _=>rfl,⟨rfl,rfl,rfl,Nat.le_refl _,fun _ _ _=>rfl,fun _ _ _=>rfl⟩,fun i v _ h=>?_,fun h=>?_,?_,?_,?_⟩
  ·rw [hrep] at h;cases h
  ·rw [hrep] at h;cases h
  ·rw [if_neg (by rw [hrep];decide)];exact hx.cl
  ·rw [if_neg (by rw [hrep];decide)];exact hx.inn
  ·refine ⟨fun h=>?_,fun h=>?_⟩ <;> (rw [hrep] at h;cases h)
 ·rintro L a' w' i o hL ho hf hall ⟨_,lab',hr⟩;rw [hl] at hL;have hf2:L.getD i false=false:=by
   rw [gdg] at hf ⊢
   cases hc:L[i]? with
   | none=>rfl
   | some x=>rw [hc] at hf;exact hf
  have:=hstep L a' lab' w' i o hL ho hf2 hall hr;exact wpOp_mono (fun a2 w2 h=>⟨by simpa using hL,h⟩) this
 ·rintro L a' w' hL hall ⟨_,lab',hr⟩;rw [hl] at hall;obtain ⟨u,hu,htt⟩:=frame_range a'.tmps a.tmps 33 10 hr.size (by omega) (fun j hj=>hr.keep j (by omega));have hW:WAt lab' w' b { W with inner:=W.inner ++ news }:=by
   have hcl:=hr.cl;have h1:=hr.r;rw [if_pos (hall 10 (by omega))] at hcl;rw [if_pos (hall 7 (by omega))] at h1;exact ⟨sv,kn,va,us,_,hcl,hx.sty.mv hr.mv (by decide),hx.kn.mv hr.mv (by decide),hx.va.mv hr.mv (by decide),hx.us.mv hr.mv (by decide),h1⟩
  have:=hend u lab' w' hu hW hr.mv;have hdf:=hr.defers;obtain ⟨t,d⟩:=a';simp only at hdf htt this;subst hdf;rw [htt];exact this
end
attribute [local go_sem ↓] appX_eq
attribute [local go_sem] run_store_flt
theorem wpOp_enter {P:Program} {Q:Exit→Act→World→Prop} {l:List Oper} {i:Nat} {o:Oper} {a:Act} {w:World} {R:Act→World→Prop} {f:FuncId} {args:Array Value} (ho:l[i]?=some o) (hg:o.guard=none) (hrun:(execOp a.eval o).run P w=.ok (.enter f args) w)
  (hc:Calls P f args w fun e w2=>∃ v,e=.returned v∧R (a.put o.dst v) w2):wpOp P l.toArray Q i R a w:=by
 have hw:Region.wanted o (yielded l.toArray a.tmps)=true:=by simp [Region.wanted,hg]
 unfold wpOp;simp only [List.getElem?_toArray,ho,hw,if_true]
 left
 unfold Oper.wp;rw [hrun,Oper.upon_enter];refine hc.mono ?_;rintro e w2 ⟨v,rfl,hR⟩;exact hR
section
variable {lab lab1:Lab} {w w1:World} {b:Nat} {W W1 W2:CW}
structure BegG (lab:Lab) (w:World) (s:Nat) (bx:Array Value) (W:CW):Prop where
 box:Cl 45 lab w s bx 26
 pl:Cl 47 lab w (s + 1) #[.slice none 0 0] 31
 wr:WAt lab w (s + 2) W
theorem BegG.mv {M:Nat→Prop} {s:Nat} {bx:Array Value} (h:BegG lab w s bx W) (m:Mv M w lab w1 lab1) (hM:∀ x,x=0 ∨ (40≤x∧x≤47)→¬ M x):BegG lab1 w1 s bx W :=
 ⟨h.box.mv m (hM _ (by omega)),h.pl.mv m (hM _ (by omega)),h.wr.mv m (fun x hx=>hM x (by omega))⟩
def labG (lab:Lab) (s:Nat):Lab:=Lab.ext (Lab.ext (Lab.ext lab s 45) (s + 1) 47) (s + 2) 40
theorem begG {sv:Value} {style:List UInt8} {bx:Array Value} (hs:Sty lab w sv style) :
  BegG (labG lab w.heap.size) (((w.alloc (.cells bx 26)).alloc (.cells #[.slice none 0 0] 31)).alloc (.cells (wr0 sv) 53)) w.heap.size bx (W0 style) ∧
  Mv (fun _=>False) w lab (((w.alloc (.cells bx 26)).alloc (.cells #[.slice none 0 0] 31)).alloc (.cells (wr0 sv) 53)) (labG lab w.heap.size):=by
 have m1:=Mv.alloc0 w lab (.cells bx 26) 45;have b1:=Cl.alloc w lab bx 26 45;have sa:(w.alloc (.cells bx 26)).heap.size=w.heap.size + 1:=World.size_alloc _ _;have m2:=Mv.alloc0 (w.alloc (.cells bx 26)) (lab.ext w.heap.size 45) (.cells #[.slice none 0 0] 31) 47;have b2:=Cl.alloc (w.alloc (.cells bx 26)) (lab.ext w.heap.size 45) #[.slice none 0 0] 31 47;have sb:((w.alloc (.cells bx 26)).alloc (.cells #[.slice none 0 0] 31)).heap.size=w.heap.size + 2:=by rw [World.size_alloc,sa]
 rw [sa] at m2 b2;have m3:=Mv.alloc0 ((w.alloc (.cells bx 26)).alloc (.cells #[.slice none 0 0] 31)) ((lab.ext w.heap.size 45).ext (w.heap.size + 1) 47) (.cells (wr0 sv) 53) 40;have b3:=Cl.alloc ((w.alloc (.cells bx 26)).alloc (.cells #[.slice none 0 0] 31)) ((lab.ext w.heap.size 45).ext (w.heap.size + 1) 47) (wr0 sv) 53 40;rw [sb] at m3 b3;have m13:=(m1.trans m2 (fun _ h=>h)).trans m3 (fun _ h=>h);exact ⟨⟨(b1.mv m2 (fun h=>h)).mv m3 (fun h=>h),b2.mv m3 (fun h=>h),⟨sv,_,_,_,_,b3,hs.mv m13 (fun h=>h),Rw.none _ _ _ _ _,Rw.none _ _ _ _ _,Rw.none _ _ _ _ _,Rw.none _ _ _ _ _⟩⟩,m13⟩
def WI (style:List UInt8) (l:List JV) (q:Nat):CW:={ W0 style with inner:=innKs (l.take q) }
theorem WI0 (style:List UInt8) (l:List JV):WI style l 0=W0 style:=by unfold WI;simp only [List.take_zero,innKs];rfl
theorem WI_next {style:List UInt8} {l:List JV} {q:Nat} {x:JV} (h:l[q]?=some x):{ WI style l q with inner:=(WI style l q).inner ++ innK x }=WI style l (q + 1):=by
 unfold WI;rw [innKs_take h]
end
end Go.Cf
namespace Go.Cf
open Go.RowKit Go.Conc Go.Proofs
section
variable {lab lab1:Lab} {w w1:World} {B ℓ:Nat}
theorem rw_setAt {e size n g cap i:Nat} {xs:List Value} {y:Value} (h:Rw B ℓ lab w e size (.slice (some ⟨g,0,none⟩) n cap) n xs):Rw B ℓ lab (w.setCell ⟨g,i,none⟩ y) e size (.slice (some ⟨g,0,none⟩) n cap) n (xs.set i y):=by
 obtain ⟨⟨hx,⟨h0,_⟩ | ⟨g',cap',cur,hv,hb,hblk,h1,h2,h3,h4⟩⟩,hl⟩:=h
 ·cases h0
 ·simp only [Value.slice.injEq,Option.some.injEq,Addr.mk.injEq] at hv;obtain ⟨⟨rfl,_,_⟩,_,rfl⟩:=hv;refine ⟨⟨by simpa using hx,.inr ⟨g,cap,_,rfl,hb,blk_setCell hblk _ _,h1,h2,by simpa using h3,?_⟩⟩,hl⟩;rw [Array.toList_setIfInBounds,List.take_set,h4]
theorem rw_at {e size n cap i:Nat} {A:Option Addr} {xs:List Value} {y:Value} (h:Rw B ℓ lab w e size (.slice A n cap) n xs) (hi:xs[i]?=some y):∃ g,A=some ⟨g,0,none⟩∧lab g=ℓ∧w.cell? ⟨g,i,none⟩=some y∧w.frozen? ⟨g,i,none⟩=false:=by
 have hl:=h.2;obtain ⟨⟨hx,⟨h0,hn⟩ | ⟨g,cap',cur,hv,hb,hblk,h1,h2,h3,h4⟩⟩,_⟩:=h
 ·have:xs=[]:=List.eq_nil_of_length_eq_zero (by rw [hx,hn,Nat.zero_mul]);rw [this] at hi;cases hi
 ·simp only [Value.slice.injEq] at hv;obtain ⟨rfl,_,rfl⟩:=hv;have hc:w.cell? ⟨g,i,none⟩=some y:=by
   rw [blk_cell hblk,← Array.getElem?_toList];rw [← h4,List.getElem?_take] at hi
   split at hi
   ·exact hi
   ·cases hi
  refine ⟨g,rfl,hl g rfl,hc,?_⟩;have hcl:Cl (lab g) lab w g cur e:=⟨hblk,rfl⟩;exact hcl.free i
def flatU:Pls→List Bool→List Value
 | x :: P,u :: us=>.string x.1 :: .int .i64 (x.2:Int) :: .int .i64 0 :: .bool u :: flatU P us
 | _,_=>[]
theorem flatU_get:∀ {P:Pls} {us:List Bool} {q:Nat} {x:ByteArray × Nat} {u:Bool},P[q]?=some x→us[q]?=some u →
  (flatU P us)[q * 4]?=some (.string x.1)∧(flatU P us)[q * 4 + 1]?=some (.int .i64 (x.2:Int))∧(flatU P us)[q * 4 + 2]?=some (.int .i64 0)∧(flatU P us)[q * 4 + 3]?=some (.bool u)
 | [],_,_,_,_,h,_=>by simp at h
 | _ :: _,[],_,_,_,_,h=>by simp at h
 | y :: P,v :: us,0,x,u,h1,h2=>by
  simp only [List.getElem?_cons_zero,Option.some.injEq] at h1 h2;subst h1 h2;exact ⟨rfl,rfl,rfl,rfl⟩
 | y :: P,v :: us,q + 1,x,u,h1,h2=>by
  simp only [List.getElem?_cons_succ] at h1 h2;have ih:=flatU_get h1 h2;have e:∀ j,(flatU (y :: P) (v :: us))[(q + 1) * 4 + j]?=(flatU P us)[q * 4 + j]?:=fun j=>by
   rw [show (q + 1) * 4 + j=q * 4 + j + 1 + 1 + 1 + 1 from by omega];rfl
  have e0:=e 0;rw [Nat.add_zero,Nat.add_zero] at e0;rw [e0,e 1,e 2,e 3];exact ih
theorem flatU_set:∀ {P:Pls} {us:List Bool} (q:Nat) (b:Bool),(flatU P us).set (q * 4 + 3) (.bool b)=flatU P (us.set q b)
 | [],_,_,_=>by simp [flatU]
 | _ :: _,[],_,_=>by simp [flatU]
 | y :: P,v :: us,0,b=>rfl
 | y :: P,v :: us,q + 1,b=>by
  have ih:=flatU_set (P:=P) (us:=us) q b;rw [show (q + 1) * 4 + 3=q * 4 + 3 + 1 + 1 + 1 + 1 from by omega];show _ :: _ :: _ :: _ :: _=_;rw [ih];rfl
theorem flatU_of:∀ P:Pls,flatP P=flatU P (List.replicate P.length false)
 | []=>rfl
 | x :: P=>by
  have ih:=flatU_of P;rw [List.length_cons,List.replicate_succ];show _=_ :: _ :: _ :: _ :: flatU P _;rw [← ih];rfl
end
inductive TV where
 | leaf
 | map (ks:List ByteArray) (fs:List (Int × Bool)) (l:List TV)
abbrev TI:=(Int × Bool) × TV
def tkC (c0 c1:Value) (c3:Int) (u:Value) (f:Int × Bool):Array Value:=#[c0,c1,i64 f.1,i64 c3,u,.bool f.2,.string { data:=#[] }]
def LeafV (v:Value):Prop:=∃ t u,v=.iface t u∧(t=2 ∨ t=22 ∨ t=4 ∨ t=9 ∨ t=75)
def MpV (ℓ:Nat) (lab:Lab) (w:World) (b:Nat) (t:List (ByteArray × Value)):Prop:=Mp ℓ lab w b (t.map fun x=>(x.1,.tr true,x.2))
mutual
def isV (lab:Lab) (w:World):TV→Value→Prop
 | .leaf,v=>LeafV v
 | .map ks fs l,v=>∃ b t,v=.iface 61 (.map (some b))∧MpV 6 lab w b t∧t.map (·.1)=ks∧isTs lab w fs l (t.map (·.2))
def isTs (lab:Lab) (w:World):List (Int × Bool)→List TV→List Value→Prop
 | f :: fs,j :: js,x :: xs=>(∃ b c0 c1 c3 u,x=.iface 113 (.pointer (some ⟨b,0,none⟩))∧Cl 6 lab w b (tkC c0 c1 c3 u f) 115∧isV lab w j u)∧isTs lab w fs js xs
 | [],[],[]=>True
 | _,_,_=>False
end
def Tok (τ:Nat) (lab:Lab) (w:World) (i:TI) (x:Value):Prop:=∃ b c0 c1 c3 u,x=.iface 113 (.pointer (some ⟨b,0,none⟩))∧Cl τ lab w b (tkC c0 c1 c3 u i.1) 115∧isV lab w i.2 u
inductive CQ where
 | map (m:List (ByteArray × TI))
 | arr (n:Nat)
def CAtQ (B ℓ τ:Nat) (lab:Lab) (w:World):CQ→Value→Prop
 | .map m,v=>∃ b,∃ z:List (ByteArray × TI × Value),v=.iface 61 (.map (some b))∧MpV ℓ lab w b (z.map fun x=>(x.1,x.2.2))∧z.map (fun x=>(x.1,x.2.1))=m∧(∀ x ∈ z,Tok τ lab w x.2.1 x.2.2)∧(z.map fun x=>x.2.2).Nodup
 | .arr n,v=>∃ s xs,v=.iface 75 s∧Rw B ℓ lab w 20 1 s n xs
def tauP (n:Nat):Nat:=if n=0 then 9 else 6
def CsAtQ (B:Nat) (lab:Lab) (w:World):List CQ→List Value→Prop
 | [],[]=>True
 | c :: cs,v :: vs=>CAtQ B (20 + cs.length) (tauP cs.length) lab w c v∧CsAtQ B lab w cs vs
 | _,_=>False
structure PQ where
 L:LX
 cx:List CQ
 ks:List ByteArray
 ls:List Int
def itC (x:It):List Value:=[i64 x.typ,.string x.val,i64 x.line,i64 x.pos]
def flatI:List It→List Value
 | []=>[]
 | x :: r=>itC x ++ flatI r
def ItsAt (B:Nat) (lab:Lab) (w:World) (iv:Value) (ls:List Int):Prop:=∃ its:List It,its.map (·.line)=ls∧Rw B 5 lab w 98 4 iv its.length (flatI its)
structure QAtX (B:Nat) (lab:Lab) (w:World) (K:PK) (X:PQ) (top cv kv iv:Value) (vs:List Value):Prop where
 ped:K.ped=true
 cl:Cl 2 lab w K.p ({ K with iv:=iv }.cells top cv kv) 79
 lx:Lx B lab w K.b X.L
 cv:Rw B 3 lab w 20 1 cv vs.length vs.reverse
 kv:Rw B 4 lab w 9 1 kv X.ks.length (X.ks.map Value.string)
 iv:ItsAt B lab w iv X.ls
 cs:CsAtQ B lab w X.cx vs
 top:vs.head?=some top ∨ vs=[]
 root:∀ v,vs.getLast?=some v→v=.iface 61 (.map (some K.mp))
def QAt (B:Nat) (lab:Lab) (w:World) (K:PK) (X:PQ):Prop:=∃ top cv kv iv vs,QAtX B lab w K X top cv kv iv vs
section
variable {B ℓ τ:Nat} {lab lab1:Lab} {w w1:World} {K:PK} {X:PQ} {M:Nat→Prop} {b:Nat}
theorem MpV.mv {t:List (ByteArray × Value)} (h:MpV ℓ lab w b t) (m:Mv M w lab w1 lab1) (hM:¬ M ℓ):MpV ℓ lab1 w1 b t:=Mp.mv h m hM
mutual
theorem isV.mv (m:Mv M w lab w1 lab1) (hM:¬ M 6):∀ (j:TV) (v:Value),isV lab w j v→isV lab1 w1 j v
 | .leaf,v,h=>by simp only [isV] at h ⊢;exact h
 | .map ks fs l,v,h=>by
  simp only [isV] at h ⊢;obtain ⟨b,t,hv,hr,h1,hj⟩:=h;exact ⟨b,t,hv,hr.mv m hM,h1,isTs.mv m hM fs l _ hj⟩
theorem isTs.mv (m:Mv M w lab w1 lab1) (hM:¬ M 6):∀ (fs:List (Int × Bool)) (l:List TV) (xs:List Value),isTs lab w fs l xs→isTs lab1 w1 fs l xs
 | [],[],[],h=>by simp only [isTs]
 | f :: fs,j :: js,x :: xs,h=>by
  simp only [isTs] at h ⊢;obtain ⟨⟨b,c0,c1,c3,u,hx,hc,hu⟩,hr⟩:=h;exact ⟨⟨b,c0,c1,c3,u,hx,hc.mv m hM,isV.mv m hM j u hu⟩,isTs.mv m hM fs js xs hr⟩
 | [],[],_ :: _,h=>by simp [isTs] at h
 | [],_ :: _,_,h=>by simp [isTs] at h
 | _ :: _,[],_,h=>by simp [isTs] at h
 | _ :: _,_ :: _,[],h=>by simp [isTs] at h
end
theorem Tok.mv {i:TI} {x:Value} (h:Tok τ lab w i x) (m:Mv M w lab w1 lab1) (hτ:¬ M τ) (h6:¬ M 6):Tok τ lab1 w1 i x:=by
 obtain ⟨b,c0,c1,c3,u,hx,hc,hu⟩:=h;exact ⟨b,c0,c1,c3,u,hx,hc.mv m hτ,isV.mv m h6 _ _ hu⟩
theorem CAtQ.mv (m:Mv M w lab w1 lab1) (hℓ:¬ M ℓ) (hτ:¬ M τ) (h6:¬ M 6) {c:CQ} {v:Value} (h:CAtQ B ℓ τ lab w c v):CAtQ B ℓ τ lab1 w1 c v:=by
 cases c with
 | map l=>obtain ⟨b,z,h1,h2,h3,h4,h5⟩:=h;exact ⟨b,z,h1,h2.mv m hℓ,h3,fun x hx=>(h4 x hx).mv m hτ h6,h5⟩
 | arr l=>obtain ⟨s,xs,h1,h2⟩:=h;exact ⟨s,xs,h1,h2.mv m hℓ⟩
theorem tauP_ok (n:Nat):tauP n=9 ∨ tauP n=6:=by unfold tauP;split <;> simp
theorem CsAtQ.mv (m:Mv M w lab w1 lab1) (h6:¬ M 6) (h9:¬ M 9):∀ {cs:List CQ} {vs:List Value},(∀ i,i < cs.length→¬ M (20 + i))→CsAtQ B lab w cs vs→CsAtQ B lab1 w1 cs vs
 | [],[],_,h=>h
 | c :: cs,v :: vs,hl,h=>⟨h.1.mv m (hl _ (by simp)) (by rcases tauP_ok cs.length with e | e <;> rw [e] <;> assumption) h6,h.2.mv m h6 h9 (fun i hi=>hl i (by simp;omega))⟩
 | [],_ :: _,_,h=>h.elim
 | _ :: _,[],_,h=>h.elim
theorem ItsAt.mv {iv:Value} {ls:List Int} (h:ItsAt B lab w iv ls) (m:Mv M w lab w1 lab1) (hM:¬ M 5):ItsAt B lab1 w1 iv ls:=by
 obtain ⟨its,h1,h2⟩:=h;exact ⟨its,h1,h2.mv m hM⟩
theorem QAtX.mv {top cv kv iv:Value} {vs:List Value} (h:QAtX B lab w K X top cv kv iv vs) (m:Mv M w lab w1 lab1) (hM:∀ x,x ≠ 7→¬ M x):QAtX B lab1 w1 K X top cv kv iv vs :=
 ⟨h.ped,h.cl.mv m (hM _ (by decide)),h.lx.mv m (hM _ (by decide)),h.cv.mv m (hM _ (by decide)),h.kv.mv m (hM _ (by decide)),h.iv.mv m (hM _ (by decide)),h.cs.mv m (hM _ (by decide)) (hM _ (by decide)) (fun i _=>hM _ (by omega)),h.top,h.root⟩
theorem QAt.mv (h:QAt B lab w K X) (m:Mv M w lab w1 lab1) (hM:∀ x,x ≠ 7→¬ M x):QAt B lab1 w1 K X:=by
 obtain ⟨top,cv,kv,iv,vs,h⟩:=h;exact ⟨top,cv,kv,iv,vs,h.mv m hM⟩
theorem QAt.alloc7 (h:QAt B lab w K X) (o:Obj):QAt B (lab.ext w.heap.size 7) (w.alloc o) K X:=h.mv (Mv.alloc (M:=fun _=>False) w lab o 7) (fun _ _ h=>h)
theorem QAt.ped (h:QAt B lab w K X):w.cell? ⟨K.p,7,none⟩=some (.bool true):=by
 obtain ⟨top,cv,kv,iv,vs,h⟩:=h;rw [← h.ped];exact h.cl.cell 7
theorem CAtQ.form {c:CQ} {v:Value} (h:CAtQ B ℓ τ lab w c v):∃ t u,v=.iface t u:=by
 cases c with
 | map l=>obtain ⟨b,z,h1,_⟩:=h;exact ⟨_,_,h1⟩
 | arr l=>obtain ⟨s,xs,h1,_⟩:=h;exact ⟨_,_,h1⟩
theorem CsAtQ.length:∀ {cs:List CQ} {vs:List Value},CsAtQ B lab w cs vs→vs.length=cs.length
 | [],[],_=>rfl
 | _ :: _,_ :: _,h=>by simp [h.2.length]
 | [],_ :: _,h=>h.elim
 | _ :: _,[],h=>h.elim
theorem CsAtQ.form:∀ {cs:List CQ} {c:CQ} {vs:List Value},CsAtQ B lab w (c :: cs) vs→∃ v vs',vs=v :: vs'∧CAtQ B (20 + cs.length) (tauP cs.length) lab w c v∧CsAtQ B lab w cs vs'
 | _,_,_ :: _,h=>⟨_,_,rfl,h.1,h.2⟩
theorem flatI_len:∀ its:List It,(flatI its).length=its.length * 4
 | []=>rfl
 | x :: r=>by simp only [flatI,List.length_append,flatI_len r,itC,List.length_cons,List.length_nil];omega
theorem flatI_app:∀ (a b:List It),flatI (a ++ b)=flatI a ++ flatI b
 | [],_=>rfl
 | x :: r,b=>by simp only [List.cons_append,flatI,flatI_app r b,List.append_assoc]
set_option maxHeartbeats 400000 in
theorem pushKeyQ (h:QAt B lab w K X) (hB:B≤w.heap.size) (hlen:X.ks.length≤1000000) (s:ByteArray) :
  Calls Tryz.prog 64 #[.pointer (some ⟨K.p,0,none⟩),.string s] w fun e w'=>e=.returned (.tuple #[])∧∃ lab',QAt B lab' w' K { X with ks:=X.ks ++ [s] }∧Mv PM w lab w' lab':=by
 obtain ⟨top,cv,kv,iv,vs,h⟩:=h;have c4:w.cell? ⟨K.p,4,none⟩=some kv:=h.cl.cell 4;have hown:=h.kv.1;go_enter Tryz.func64,Tryz.ntmps64;go_wp2_with (at_builtin;refine app_one B rfl _ _ 23 9 (.string { data:=#[] }) 1 16 rfl Tryz.underlying23 info9 rfl (by decide) (by decide) kv X.ks.length (X.ks.map Value.string) [.string s] rfl rfl rfl (by simp;rfl) hown hB (by omega) ?_);intro v1 w1 hown1 hg1 hat1;have m1:Mv (·=4) w lab w1 (lab.ext w.heap.size 4):=Mv.grown hg1 lab 4 (fun k hk=>h.kv.2 k hk);have hcl:=h.cl.mv m1 (by decide);have c4':w1.cell? ⟨K.p,4,none⟩=some kv:=hcl.cell 4;have f4':w1.frozen? ⟨K.p,4,none⟩=false:=hcl.free 4;have m2:Mv (·=2) w1 (lab.ext w.heap.size 4) (w1.setCell ⟨K.p,4,none⟩ v1) (lab.ext w.heap.size 4):=Mv.setCell _ _ _ _ hcl.2;have key:QAt B (lab.ext w.heap.size 4) (w1.setCell ⟨K.p,4,none⟩ v1) K { X with ks:=X.ks ++ [s] }:=by
  refine ⟨top,cv,v1,iv,vs,?_⟩
  exact {
   ped:=h.ped
   cl:=hcl.set 4 v1
   lx:=(h.lx.mv m1 (by decide)).mv m2 (by decide)
   cv:=(h.cv.mv m1 (by decide)).mv m2 (by decide)
   kv:=by
    have:=(h.kv.appended hown1 hg1 hat1).mv m2 (by decide);simpa using this
   iv:=(h.iv.mv m1 (by decide)).mv m2 (by decide)
   cs:=(h.cs.mv m1 (by decide) (by decide) (fun i _=>by omega)).mv m2 (by decide) (by decide) (fun i _=>by omega)
   top:=h.top
   root:=h.root }
 have mm:Mv PM w lab (w1.setCell ⟨K.p,4,none⟩ v1) (lab.ext w.heap.size 4):=(m1.mono (M':=PM) (by rintro x rfl;decide)).trans m2 (by rintro x rfl;decide);obtain ⟨g,cap,e7,_,_⟩:=hown1.form (by omega);clear hcl m1 m2 hown hown1 hg1 hat1 h c4;subst e7;go_wp2;go_end0;exact ⟨rfl,_,key,mm⟩
end
section
variable {B:Nat} {lab lab1:Lab} {w w1:World} {K:PK} {X:PQ} {M:Nat→Prop}
set_option maxHeartbeats 400000 in
theorem popKeyQ (st:List ByteArray) (s:ByteArray) {top cv kv iv:Value} {vs:List Value} (h:QAtX B lab w K X top cv kv iv vs) (hks:X.ks=st ++ [s]) (hlen:st.length≤1000000) :
  Calls Tryz.prog 96 #[.pointer (some ⟨K.p,0,none⟩)] w fun e w'=>e=.returned (.string s)∧(∃ kv',QAtX B lab w' K { X with ks:=st } top cv kv' iv vs)∧Mv (·=2) w lab w' lab:=by
 have hown:=h.kv;rw [hks,List.length_append,List.length_singleton,List.map_append] at hown;obtain ⟨g,cap,rfl,hcap,hmx,hcell,cur,hgb⟩:=own_open hown.1 (by omega);have hcl:=hcell st.length (.string s) (by simp);have hown2:=Rw.shorter (m:=st.length) hown (by simp) (by omega);have c4:w.cell? ⟨K.p,4,none⟩=some (.slice (some ⟨g,0,none⟩) (st.length + 1) cap):=h.cl.cell 4;have f4:w.frozen? ⟨K.p,4,none⟩=false:=h.cl.free 4;have m2:Mv (·=2) w lab (w.setCell ⟨K.p,4,none⟩ (.slice (some ⟨g,0,none⟩) st.length cap)) lab:=Mv.setCell _ _ _ _ h.cl.2;have hne:g ≠ K.p:=(h.cl.ne (hown.2 g rfl) (by decide)).symm;have key:∃ kv',QAtX B lab (w.setCell ⟨K.p,4,none⟩ (.slice (some ⟨g,0,none⟩) st.length cap)) K { X with ks:=st } top cv kv' iv vs:=by
  refine ⟨.slice (some ⟨g,0,none⟩) st.length cap,?_⟩
  exact {
   ped:=h.ped
   cl:=h.cl.set 4 _
   lx:=h.lx.mv m2 (by decide)
   cv:=h.cv.mv m2 (by decide)
   kv:=hown2.mv m2 (by decide)
   iv:=h.iv.mv m2 (by decide)
   cs:=h.cs.mv m2 (by decide) (by decide) (fun i _=>by omega)
   top:=h.top
   root:=h.root }
 have mm:=m2;clear m2 hown hown2 h hcell hgb;have hpos:((st.length:Int) + 1 == 0)=false:=by simp;omega
 have hc2:st.length≤cap:=by omega
 unfold maxLen at hmx;have HK:=Lib.hid hks;clear hks;go_enter Tryz.func96,Tryz.ntmps96;go_wp2;go_ret;exact ⟨rfl,key,mm⟩
set_option maxHeartbeats 400000 in
theorem pushContextQ (h:QAt B lab w K X) (hB:B≤w.heap.size) (hlen:X.cx.length≤1000000) (c:CQ) (t:TypeId) (u:Value) (hc:CAtQ B (20 + X.cx.length) (tauP X.cx.length) lab w c (.iface t u)) (hroot:X.cx=[]→Value.iface t u=.iface 61 (.map (some K.mp))) :
  Calls Tryz.prog 54 #[.pointer (some ⟨K.p,0,none⟩),.iface t u] w fun e w'=>e=.returned (.tuple #[])∧∃ lab',QAt B lab' w' K { X with cx:=c :: X.cx }∧Mv PM w lab w' lab':=by
 obtain ⟨top,cv,kv,iv,vs,h⟩:=h;have c3:w.cell? ⟨K.p,3,none⟩=some cv:=h.cl.cell 3;have hown:=h.cv.1;have hvl:vs.length=X.cx.length:=h.cs.length;go_enter Tryz.func54,Tryz.ntmps54;go_wp2_with (at_builtin;refine app_one B rfl _ _ 75 20 .nilIface 1 16 rfl Tryz.underlying75 info20 rfl (by decide) (by decide) cv vs.length vs.reverse [.iface t u] rfl rfl rfl (by simp;rfl) hown hB (by omega) ?_);intro v1 w1 hown1 hg1 hat1;have m1:Mv (·=3) w lab w1 (lab.ext w.heap.size 3):=Mv.grown hg1 lab 3 (fun k hk=>h.cv.2 k hk);have hcl:=h.cl.mv m1 (by decide);have c3':w1.cell? ⟨K.p,3,none⟩=some cv:=hcl.cell 3;have f3':w1.frozen? ⟨K.p,3,none⟩=false:=hcl.free 3;have c2':w1.cell? ⟨K.p,2,none⟩=some top:=hcl.cell 2;have f2':w1.frozen? ⟨K.p,2,none⟩=false:=hcl.free 2;have m2:Mv (·=2) w1 (lab.ext w.heap.size 3) (w1.setCell ⟨K.p,3,none⟩ v1) (lab.ext w.heap.size 3):=Mv.setCell _ _ _ _ hcl.2;have m3:Mv (·=2) (w1.setCell ⟨K.p,3,none⟩ v1) (lab.ext w.heap.size 3) ((w1.setCell ⟨K.p,3,none⟩ v1).setCell ⟨K.p,2,none⟩ (.iface t u)) (lab.ext w.heap.size 3):=Mv.setCell _ _ _ _ hcl.2;have m23:=m2.trans m3 (fun _ h=>h);have hroot2:∀ v,(Value.iface t u :: vs).getLast?=some v→v=.iface 61 (.map (some K.mp)):=by
  intro v hv
  cases vs with
  | nil =>
   simp only [List.getLast?_singleton,Option.some.injEq] at hv;rw [← hv];exact hroot (List.length_eq_zero_iff.1 hvl.symm)
  | cons x xs=>exact h.root v (by simpa using hv)
 have key:QAt B (lab.ext w.heap.size 3) ((w1.setCell ⟨K.p,3,none⟩ v1).setCell ⟨K.p,2,none⟩ (.iface t u)) K { X with cx:=c :: X.cx }:=by
  refine ⟨.iface t u,v1,kv,iv,.iface t u :: vs,?_⟩
  exact {
   ped:=h.ped
   cl:=(hcl.set 3 v1).set 2 _
   lx:=(h.lx.mv m1 (by decide)).mv m23 (by decide)
   cv:=by
    have:=(h.cv.appended hown1 hg1 hat1).mv m23 (by decide);simpa [hvl] using this
   kv:=(h.kv.mv m1 (by decide)).mv m23 (by decide)
   iv:=(h.iv.mv m1 (by decide)).mv m23 (by decide)
   cs:=⟨(hc.mv m1 (by omega) (by unfold tauP;split <;> decide) (by decide)).mv m23 (by omega) (by unfold tauP;split <;> decide) (by decide),(h.cs.mv m1 (by decide) (by decide) (fun i _=>by omega)).mv m23 (by decide) (by decide) (fun i _=>by omega)⟩
   top:=.inl rfl
   root:=hroot2 }
 have mm:Mv PM w lab ((w1.setCell ⟨K.p,3,none⟩ v1).setCell ⟨K.p,2,none⟩ (.iface t u)) (lab.ext w.heap.size 3):=(m1.mono (M':=PM) (by rintro x rfl;decide)).trans m23 (by rintro x rfl;decide);obtain ⟨g,cap,e7,_,_⟩:=hown1.form (by omega);clear hroot2 hroot hcl m1 m2 m3 m23 hown hown1 hg1 hat1 h c3 hc;subst e7;go_wp2;go_end0;exact ⟨rfl,_,key,mm⟩
set_option maxRecDepth 100000 in
set_option maxHeartbeats 400000 in
theorem popTopQ (c c2:CQ) (cs:List CQ) {top cv kv iv:Value} {vs:List Value} (h:QAtX B lab w K X top cv kv iv vs) (hcx:X.cx=c :: c2 :: cs) (hlen:cs.length≤1000000) :
  Calls Tryz.prog 66 #[.pointer (some ⟨K.p,0,none⟩)] w fun e w'=>e=.returned top∧CAtQ B (21 + cs.length) 6 lab w' c top∧QAt B lab w' K { X with cx:=c2 :: cs }∧Mv (·=2) w lab w' lab:=by
 have hcs:=h.cs;rw [hcx] at hcs;obtain ⟨v,v2,vs',rfl⟩:∃ v v2 vs',vs=v :: v2 :: vs':=by
  match vs,hcs with
  | v :: v2 :: vs',_=>exact ⟨v,v2,vs',rfl⟩
  | [_],h=>exact h.2.elim
 have hvl:vs'.length=cs.length:=hcs.2.2.length;obtain rfl:top=v:=by
  rcases h.top with h | h
  ·exact (Option.some.inj h).symm
  ·cases h
 have hown:=h.cv;simp only [List.length_cons,List.reverse_cons,List.append_assoc,List.cons_append,List.nil_append] at hown;obtain ⟨g,cap,rfl,hcap,hmx,hcell,cur,hgb⟩:=own_open hown.1 (by omega);have hl1:=hcell (vs'.length + 1) top (by simp);have hl2:=hcell vs'.length v2 (by simp);have hown2:=Rw.shorter (m:=vs'.length + 1) (xs:=vs'.reverse ++ [v2]) (ys:=[top]) (by simpa using hown) (by simp) (by omega);have c3:w.cell? ⟨K.p,3,none⟩=some (.slice (some ⟨g,0,none⟩) (vs'.length + 1 + 1) cap):=h.cl.cell 3;have f3:w.frozen? ⟨K.p,3,none⟩=false:=h.cl.free 3;have c2':w.cell? ⟨K.p,2,none⟩=some top:=h.cl.cell 2;have f2':w.frozen? ⟨K.p,2,none⟩=false:=h.cl.free 2;have hne:g ≠ K.p:=(h.cl.ne (hown.2 g rfl) (by decide)).symm;have m23:Mv (·=2) w lab ((w.setCell ⟨K.p,3,none⟩ (.slice (some ⟨g,0,none⟩) (vs'.length + 1) cap)).setCell ⟨K.p,2,none⟩ v2) lab:=(Mv.setCell _ _ _ _ h.cl.2).trans (Mv.setCell _ _ _ _ h.cl.2) (fun _ h=>h);have key:QAt B lab ((w.setCell ⟨K.p,3,none⟩ (.slice (some ⟨g,0,none⟩) (vs'.length + 1) cap)).setCell ⟨K.p,2,none⟩ v2) K { X with cx:=c2 :: cs }:=by
  refine ⟨v2,.slice (some ⟨g,0,none⟩) (vs'.length + 1) cap,kv,iv,v2 :: vs',?_⟩
  exact {
   ped:=h.ped
   cl:=(h.cl.set 3 _).set 2 _
   lx:=h.lx.mv m23 (by decide)
   cv:=by simpa using hown2.mv m23 (by decide)
   kv:=h.kv.mv m23 (by decide)
   iv:=h.iv.mv m23 (by decide)
   cs:=hcs.2.mv m23 (by decide) (by decide) (fun i _=>by omega)
   top:=.inl rfl
   root:=fun u hu=>h.root u (by simpa using hu) }
 have kc:CAtQ B (21 + cs.length) 6 lab ((w.setCell ⟨K.p,3,none⟩ (.slice (some ⟨g,0,none⟩) (vs'.length + 1) cap)).setCell ⟨K.p,2,none⟩ v2) c top:=by
  have h1:=hcs.1;have e1:tauP (c2 :: cs).length=6:=by unfold tauP;rw [if_neg (by simp)]
  rw [e1,show 20 + (c2 :: cs).length=21 + cs.length from by simp only [List.length_cons];omega] at h1;exact h1.mv m23 (by omega) (by decide) (by decide)
 obtain ⟨t2,u2,rfl⟩:∃ t u,v2=.iface t u:=hcs.2.1.form;obtain ⟨t1,u1,rfl⟩:∃ t u,top=.iface t u:=hcs.1.form;clear hown hown2 h hcell hgb hcs;have hpos:((vs'.length:Int) + 1 + 1 == 0)=false:=by simp;omega
 have hc2:vs'.length + 1≤cap:=by omega
 unfold maxLen at hmx;have HK:=Lib.hid hcx;have HV:=Lib.hid hvl;have hsm:(vs'.length:Int) < 9223372036854775808:=by omega
 have hw:IntKind.wrap .i64 ((vs'.length:Nat):Int)=((vs'.length:Nat):Int):=by
  simp [IntKind.wrap,IntKind.bits,IntKind.signed];omega
 have i0:(0:Int)≤((vs'.length:Nat):Int):=by omega
 have i1:((vs'.length:Nat):Int) < ((vs'.length:Nat):Int) + 1:=by omega
 have i2:((vs'.length:Nat):Int) < ((vs'.length + 1:Nat):Int):=by omega
 clear hcx hvl;go_enter Tryz.func66,Tryz.ntmps66;go_wp2;refine wp_still_tail 15 mixed (by kernel_rfl) ?_;simp only [List.take_succ_cons,List.take_zero,List.drop_succ_cons,List.drop_zero]
 repeat still_step
 refine wpStill_nil ?_;go_wp2;go_ret;have md:∀ W,Mv (fun _=>False) W lab W.drew lab:=fun W=>Mv.aDraw _ W lab
 exact ⟨rfl,kc.mv (md _) (fun h=>h) (fun h=>h) (fun h=>h),key.mv (md _) (fun _ _ h=>h),m23.trans (md _) (fun _ h=>h.elim)⟩
end
section
variable {K:PK} {B:Nat} {lab lab1:Lab} {w w1:World} {n:Nat} {top cv kv:Value}
set_option maxRecDepth 100000 in
set_option maxHeartbeats 2000000 in
theorem pushItemQ (xs:List Value) (hcl:Cl 2 lab w K.p (K.cells top cv kv) 79) (hiv:Rw B 5 lab w 98 4 K.iv n xs) (hn:n≤1000000) (hB:B≤w.heap.size) (xt:Nat) (xv:ByteArray) (xl xp:Int) :
  Calls Tryz.prog 65 #[.pointer (some ⟨K.p,0,none⟩),.agg #[i64 xt,.string xv,i64 xl,i64 xp]] w fun e w'=>e=.returned (.tuple #[])∧∃ lab' v1,Cl 2 lab' w' K.p (({ K with iv:=v1 }:PK).cells top cv kv) 79 ∧
   Rw B 5 lab' w' 98 4 v1 (n + 1) (xs ++ [i64 xt,.string xv,i64 xl,i64 xp])∧Mv (fun x=>x=2 ∨ x=5) w lab w' lab':=by
 have m0:Mv (fun _=>False) w lab (w.alloc (Obj.cells #[i64 xt,.string xv,i64 xl,i64 xp] 98)) (lab.ext w.heap.size 7):=Mv.alloc w lab _ 7;have hcl1:=hcl.mv m0 (fun h=>h);have hiv1:=hiv.mv m0 (fun h=>h);obtain ⟨i0,hi0,hz0,hz1,hz2⟩:=info_parts info98z;have c5:∀ o,(w.alloc o).cell? ⟨K.p,5,none⟩=some K.iv:=fun o=>(World.cell?_alloc_lt w o _ (lt_of_block hcl.1)).trans (hcl.cell 5)
 have c5':∀ o o',((w.alloc o).alloc o').cell? ⟨K.p,5,none⟩=some K.iv:=fun o o'=>(World.cell?_alloc_lt _ o' _ (by show K.p < _;rw [World.size_alloc];have:=lt_of_block hcl.1;omega)).trans (c5 o)
 have hone:∀ u ∈ [Value.int .i64 xt,.string xv,.int .i64 xl,.int .i64 xp],u.oneCell'=true:=by
  intro u hu;simp only [List.mem_cons,List.not_mem_nil,or_false] at hu;rcases hu with rfl | rfl | rfl | rfl <;> rfl
 have HO:((w.alloc (.cells #[.int .i64 xt,.string xv,.int .i64 xl,.int .i64 xp] 98)).alloc (.cells #[.int .i64 xt,.string xv,.int .i64 xl,.int .i64 xp] 98)).drew.ownsRow B 98 4 K.iv n xs:=(hiv1.1.alloc _).drew;have HN:∀ (j:Nat) (u:Value),[Value.int .i64 xt,.string xv,.int .i64 xl,.int .i64 xp][j]?=some u→((w.alloc (.cells #[.int .i64 xt,.string xv,.int .i64 xl,.int .i64 xp] 98)).alloc (.cells #[.int .i64 xt,.string xv,.int .i64 xl,.int .i64 xp] 98)).drew.cell? ((⟨w.heap.size + 1,0,none⟩:Addr).add j)=some u:=by
  have:=World.news_of_block (cs:=#[.int .i64 xt,.string xv,.int .i64 xl,.int .i64 xp]) (t:=98) (fr:=(0,0)) (heap_alloc_new (w.alloc (.cells #[.int .i64 xt,.string xv,.int .i64 xl,.int .i64 xp] 98)) (.cells #[.int .i64 xt,.string xv,.int .i64 xl,.int .i64 xp] 98));rw [World.size_alloc] at this;exact this
 have HZ:((w.alloc (.cells #[.int .i64 xt,.string xv,.int .i64 xl,.int .i64 xp] 98)).alloc (.cells #[.int .i64 xt,.string xv,.int .i64 xl,.int .i64 xp] 98)).drew.heap.size=w.heap.size + 1 + 1:=by
  show ((w.alloc (.cells #[.int .i64 xt,.string xv,.int .i64 xl,.int .i64 xp] 98)).alloc (.cells #[.int .i64 xt,.string xv,.int .i64 xl,.int .i64 xp] 98)).heap.size=_
  rw [World.size_alloc,World.size_alloc]
 have HL1:n + 1≤maxLen:=by simp only [maxLen];omega
 have HL2:(n + 1) * 40≤140737488355328:=by omega
 go_enter Tryz.func65,Tryz.ntmps65;go_wp2_with fail
 go_region_law (first
   | (
    refine step_append_lies _ (by rfl) _ _ _ (by rfl) B 98 i0 _ 4 40 Tryz.underlying76 hi0 hz0 hz1 hz2 rfl (by omega) K.iv n xs (by rfl) HO
     ⟨w.heap.size + 1,0,none⟩ 1 1 [.int .i64 xt,.string xv,.int .i64 xl,.int .i64 xp] (by rfl) (by rfl) HN hone
     (by omega) HL1 HL2 (by rw [HZ];omega) (w.heap.size + 1 + 1) HZ ?_
    intro gg cap2 w2 hown2 hg2 hat2 hlt2;have hg3:(w.alloc (.cells #[.int .i64 xt,.string xv,.int .i64 xl,.int .i64 xp] 98)).grownBy w2 K.iv.ownBlock:=World.grownBy.trans (World.grownBy_alloc (w.alloc (.cells #[.int .i64 xt,.string xv,.int .i64 xl,.int .i64 xp] 98)) (.cells #[.int .i64 xt,.string xv,.int .i64 xl,.int .i64 xp] 98) K.iv.ownBlock) ⟨hg2.os,hg2.tape,hg2.output,hg2.size,hg2.block⟩;have m1:Mv (·=5) (w.alloc (.cells #[.int .i64 xt,.string xv,.int .i64 xl,.int .i64 xp] 98)) (lab.ext w.heap.size 7) w2 ((lab.ext w.heap.size 7).ext (w.alloc (.cells #[.int .i64 xt,.string xv,.int .i64 xl,.int .i64 xp] 98)).heap.size 5):=Mv.grown hg3 _ 5 (fun x hx=>(hiv1.own_lab x hx).1);have hcl2:=hcl1.mv m1 (by decide);have r1:w2.cell? ⟨K.p,5,none⟩=some K.iv:=hcl2.cell 5
    have r2:w2.frozen? ⟨K.p,5,none⟩=false:=hcl2.free 5))
 all_goals
  have hl3:(Value.slice (some ⟨gg,0,none⟩) (n + 1) cap2).ownBlock=some gg:=rfl;have hlab3:((lab.ext w.heap.size 7).ext (w.alloc (.cells #[.int .i64 xt,.string xv,.int .i64 xl,.int .i64 xp] 98)).heap.size 5) gg=5:=by
   rcases hat2 with e | e
   ·have:=hiv1.own_lab gg e;rw [Lab.ext_lt this.2.2];exact this.1
   ·rw [e];exact Lab.ext_ge (by rw [World.size_alloc];omega)
  have hne:(Value.slice (some ⟨gg,0,none⟩) (n + 1) cap2).ownBlock ≠ some K.p:=by
   rw [hl3];intro e;cases e;rw [hcl2.2] at hlab3;cases hlab3
  have hrow3:Rw B 5 ((lab.ext w.heap.size 7).ext (w.alloc (.cells #[.int .i64 xt,.string xv,.int .i64 xl,.int .i64 xp] 98)).heap.size 5) (w2.setCell ⟨K.p,5,none⟩ (.slice (some ⟨gg,0,none⟩) (n + 1) cap2)) 98 4 (.slice (some ⟨gg,0,none⟩) (n + 1) cap2) (n + 1) (xs ++ [i64 xt,.string xv,i64 xl,i64 xp]) :=
   ⟨ownsRow_setCell_other hown2 hne _,fun k hk=>by rw [hl3] at hk;cases hk;exact hlab3⟩
  have hcl3:=hcl2.set 5 (.slice (some ⟨gg,0,none⟩) (n + 1) cap2);have mm:=((m0.mono (M':=fun x=>x=2 ∨ x=5) (fun _ h=>h.elim)).trans m1 (fun x h=>.inr h)).trans (Mv.setCell (M:=(·=2)) w2 _ ⟨K.p,5,none⟩ (.slice (some ⟨gg,0,none⟩) (n + 1) cap2) hcl2.2) (fun x h=>.inl h);clear r1 r2 c5 c5' hown2 hg2 hg3 m1;go_wp2;go_end0;exact ⟨rfl,_,_,hcl3,hrow3,mm⟩
end
section
variable {K:PK} {B ℓ:Nat} {lab lab1:Lab} {w w1:World} {n:Nat} {top cv kv:Value}
theorem Rw.shorterN {e size n m g cap:Nat} {xs ys:List Value} (h:Rw B ℓ lab w e size (.slice (some ⟨g,0,Option.none⟩) n cap) n (xs ++ ys)) (hm:xs.length=m * size) (hmn:m≤n):Rw B ℓ lab w e size (.slice (some ⟨g,0,Option.none⟩) m cap) m xs:=by
 obtain ⟨⟨hx,⟨h0,_⟩ | ⟨g',cap',cur,hv,hb,hblk,h1,h2,h3,h4⟩⟩,hl⟩:=h
 ·cases h0
 ·simp only [Value.slice.injEq,Option.some.injEq,Addr.mk.injEq] at hv;obtain ⟨⟨rfl,_,_⟩,_,rfl⟩:=hv;refine ⟨⟨hm,.inr ⟨g,cap,cur,rfl,hb,hblk,by omega,h2,h3,?_⟩⟩,hl⟩;have:=congrArg (List.take (m * size)) h4;rw [List.take_take,Nat.min_eq_left (Nat.mul_le_mul_right _ hmn),← hm,List.take_left] at this;rw [← hm];exact this
theorem Rw.capLe {e size n g cap:Nat} {xs:List Value} (h:Rw B ℓ lab w e size (.slice (some ⟨g,0,Option.none⟩) n cap) n xs):n≤cap:=by
 obtain ⟨⟨hx,⟨h0,_⟩ | ⟨g',cap',cur,hv,hb,hblk,h1,h2,h3,h4⟩⟩,hl⟩:=h
 ·cases h0
 ·simp only [Value.slice.injEq] at hv;obtain ⟨_,_,rfl⟩:=hv;exact h1
set_option maxRecDepth 100000 in
set_option maxHeartbeats 2000000 in
theorem popItemQ (its:List It) (x:It) (hcl:Cl 2 lab w K.p (K.cells top cv kv) 79) (hiv:Rw B 5 lab w 98 4 K.iv (its.length + 1) (flatI (its ++ [x]))) (hn:its.length≤1000000) :
  Calls Tryz.prog 97 #[.pointer (some ⟨K.p,0,none⟩)] w fun e w'=>e=.returned x.v∧∃ lab' v1,Cl 2 lab' w' K.p (({ K with iv:=v1 }:PK).cells top cv kv) 79∧Rw B 5 lab' w' 98 4 v1 its.length (flatI its)∧Mv (fun x=>x=2) w lab w' lab':=by
 obtain ⟨xt,xv,xl,xp⟩:=x;obtain ⟨g,cap,hivv,_,hg⟩:=hiv.1.form (by omega);have hfl:=flatI_len its;have q:∀ (j:Nat) (u:Value),[i64 xt,Value.string xv,i64 xl,i64 xp][j]?=some u→w.cell? ⟨g,its.length * 4 + j,none⟩=some u:=by
  intro j u hj;have hlt:=(List.getElem?_eq_some_iff.1 hj).1;simp only [List.length_cons,List.length_nil] at hlt;rw [(hivv ▸ hiv.1:w.ownsRow B 98 4 (.slice (some ⟨g,0,none⟩) (its.length + 1) cap) (its.length + 1) _).cellAt (its.length * 4 + j) (by omega),flatI_app,List.getElem?_append_right (by omega),hfl,show its.length * 4 + j - its.length * 4=j from by omega];exact hj
 have q0:w.cell? ⟨g,its.length * 4,none⟩=some (i64 xt):=q 0 _ rfl;have q1:=q 1 _ rfl;have q2:=q 2 _ rfl;have q3:=q 3 _ rfl;have hsh:Rw B 5 lab w 98 4 (.slice (some ⟨g,0,none⟩) its.length cap) its.length (flatI its):=by
  have:=hiv;rw [hivv,flatI_app] at this;exact Rw.shorterN this hfl (by omega)
 have c5:w.cell? ⟨K.p,5,none⟩=some (.slice (some ⟨g,0,none⟩) (its.length + 1) cap):=by rw [← hivv];exact hcl.cell 5
 have f5:w.frozen? ⟨K.p,5,none⟩=false:=hcl.free 5;have hp:=lt_of_block hcl.1;have p0:∀ o,(w.alloc o).cell? ⟨g,its.length * 4,none⟩=some (i64 xt):=fun o=>(World.cell?_alloc_lt w o _ hg).trans q0
 have p1:∀ o,(w.alloc o).cell? ⟨g,its.length * 4 + 1,none⟩=some (.string xv):=fun o=>(World.cell?_alloc_lt w o _ hg).trans q1
 have p2:∀ o,(w.alloc o).cell? ⟨g,its.length * 4 + 2,none⟩=some (i64 xl):=fun o=>(World.cell?_alloc_lt w o _ hg).trans q2
 have p3:∀ o,(w.alloc o).cell? ⟨g,its.length * 4 + 3,none⟩=some (i64 xp):=fun o=>(World.cell?_alloc_lt w o _ hg).trans q3
 have p5:∀ o,(w.alloc o).cell? ⟨K.p,5,none⟩=some (.slice (some ⟨g,0,none⟩) (its.length + 1) cap):=fun o=>(World.cell?_alloc_lt w o _ hp).trans c5
 have r5:∀ o o',((w.alloc o).alloc o').cell? ⟨K.p,5,none⟩=some (.slice (some ⟨g,0,none⟩) (its.length + 1) cap):=fun o o'=>(World.cell?_alloc_lt _ o' _ (by show K.p < _;rw [World.size_alloc];omega)).trans (p5 o)
 have hne1:K.p ≠ w.heap.size:=by omega
 have hne2:K.p ≠ w.heap.size + 1:=by omega
 have hpos:((its.length:Int) + 1 == 0)=false:=bqf (by omega);have hc1:its.length + 1≤cap:=by have h:=hiv;rw [hivv] at h;exact h.capLe
 have hc2:its.length≤cap:=by omega
 have hs1:Cl 2 lab (w.setCell ⟨K.p,5,none⟩ (.slice (some ⟨g,0,none⟩) its.length cap)) K.p (({ K with iv:=.slice (some ⟨g,0,none⟩) its.length cap }:PK).cells top cv kv) 79:=hcl.set 5 (.slice (some ⟨g,0,none⟩) its.length cap);have m1:Mv (fun x=>x=2) w lab (w.setCell ⟨K.p,5,none⟩ (.slice (some ⟨g,0,none⟩) its.length cap)) lab:=Mv.setCell _ _ _ _ hcl.2;have hsh1:=hsh.mv m1 (by decide);have hsz:(w.setCell ⟨K.p,5,none⟩ (.slice (some ⟨g,0,none⟩) its.length cap)).heap.size=w.heap.size:=by simp [World.setCell]
 obtain ⟨W,hW⟩:∃ W,W=w.setCell ⟨K.p,5,none⟩ (.slice (some ⟨g,0,none⟩) its.length cap):=⟨_,rfl⟩;rw [← hW] at hs1 m1 hsz hsh1;have hbl:((W.alloc (Obj.cells #[i64 xt,Value.string xv,i64 xl,i64 xp] 98)).alloc (Obj.cells #[i64 xt,Value.string xv,i64 xl,i64 xp] 98)).heap[w.heap.size]?=some (Obj.cells #[i64 xt,Value.string xv,i64 xl,i64 xp] 98):=by
  rw [Below.heap_alloc _ _ _ (by rw [World.size_alloc,hsz];omega),← hsz];exact heap_alloc_new W _
 have m2:Mv (fun _=>False) W lab (W.alloc (Obj.cells #[i64 xt,Value.string xv,i64 xl,i64 xp] 98)) (lab.ext W.heap.size 7):=Mv.alloc _ _ _ _;have m3:Mv (fun _=>False) (W.alloc (Obj.cells #[i64 xt,Value.string xv,i64 xl,i64 xp] 98)) (lab.ext W.heap.size 7) ((W.alloc (Obj.cells #[i64 xt,Value.string xv,i64 xl,i64 xp] 98)).alloc (Obj.cells #[i64 xt,Value.string xv,i64 xl,i64 xp] 98)) ((lab.ext W.heap.size 7).ext (W.alloc (Obj.cells #[i64 xt,Value.string xv,i64 xl,i64 xp] 98)).heap.size 7):=Mv.alloc _ _ _ _;have hs3:=(hs1.mv m2 (fun h=>h)).mv m3 (fun h=>h);have hsh3:=(hsh1.mv m2 (fun h=>h)).mv m3 (fun h=>h);have mm:=(m1.trans m2 (fun _ h=>h.elim)).trans m3 (fun _ h=>h.elim);have H:=Lib.hid (aI hbl (aI hs3 (aI hsh3 mm)));have HW:=Lib.hid hW;have HI:=Lib.hid hivv;clear hs1 m1 m2 m3 hs3 mm hbl hsz hW hsh hsh1 hsh3 hivv hiv q;simp only [It.v];go_enter Tryz.func97,Tryz.ntmps97;go_wp2;rw [← HW.out];refine bodyPost_ret (results_cell rfl rfl H.out.1 Tryz.underlying98 rfl info98) rfl ?_;exact ⟨rfl,_,_,H.out.2.1,H.out.2.2.1,H.out.2.2.2⟩
end
end Go.Cf
